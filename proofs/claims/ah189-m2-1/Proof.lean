import JvmDerived
import JvmDerived.Pilot.@@N@@Statement
import JvmDerived.Pilot.@@N@@Code
set_option linter.unusedVariables false
set_option linter.unusedSimpArgs false
namespace Jvm.RoadKit
open Sem ClassFile Op Lib Jvm.Stand Jvm.Free Jvm.LawKit
section OwnWalk
variable {p : Program} {l : Launch} {e : Env} {R : Room} {s : State} {m : MethodId} {args : Array Value} {below : List Frame} {meth : Method} {c : Code} {T : State} {locs : List Loc} {cells slots : Nat}
/-- what a walk owes from a state on: it comes to an end as the contract says -/
def Goes (p : Program) (e : Env) (below : List Frame) (s : State) (Q : Option Value → Heap → List Loc → Prop) (cs ss : Nat) (st : State) : Prop :=
  ∃ s₂ o, Steps p.tables e below st s₂ ∧ s₂.status = .running ∧ Ended s₂ below o ∧ ∃ v L, o = .returned v ∧ Q v s₂.heap L ∧ FrameEnd s o s₂ L cs ss
theorem Goes.st {Q : Option Value → Heap → List Loc → Prop} {cs ss : Nat} {st st' : State} (h : ∀ t, Steps p.tables e below st' t → Steps p.tables e below st t) (g : Goes p e below s Q cs ss st') : Goes p e below s Q cs ss st := by
  obtain ⟨s2, o, h1, r⟩ := g
  exact ⟨s2, o, h _ h1, r⟩
theorem Goes.sts {Q : Option Value → Heap → List Loc → Prop} {cs ss : Nat} {st st' : State} (h : Steps p.tables e below st st') (g : Goes p e below s Q cs ss st') : Goes p e below s Q cs ss st := Goes.st (fun _ k => h.trans k) g
theorem Goes.fin {Q : Option Value → Heap → List Loc → Prop} {cs ss : Nat} (X : Stand p l e R s m args below meth c T locs cells slots) (hlk : meth.locks = false) {v : Option Value} (hv : meth.sig.returnType = none → v = none) {F : JFrame}
    (hst : ∀ fs, (∀ (f : JFrame) (acts : List Action), f.method = m → f.locked = none → f.entered = [] → (doReturn e (T.setTop f) acts v).1 = T.setFrames fs) → Steps p.tables e below (T.setTop F) (T.setFrames fs))
    (hq : Q v T.heap locs) (hc : cells ≤ cs) (hs : slots ≤ ss) : Goes p e below s Q cs ss (T.setTop F) := by
  obtain ⟨fs, hr, hrun, hended, hW, hsame⟩ := X.leave (v := v) hv hlk
  exact ⟨_, _, hst fs hr, hrun, hended, _, _, rfl, hq, ⟨_, rfl⟩, hW, hsame.mono hc hs⟩
theorem Goes.retN {Q : Option Value → Heap → List Loc → Prop} {cs ss : Nat} (X : Stand p l e R s m args below meth c T locs cells slots) (hx : p.tables.exec = Jvm.exec) (hlk : meth.locks = false) {t : FieldType} (hret : meth.sig.returnType = some t) (ht : t = .boolean ∨ t = .byte ∨ t = .char ∨ t = .short) {pc : Nat} {Ls : Array Slot} {z : Int32} {rest : List Value}
    (hd : decode c.code pc = .ok (.ireturn, 1)) (hn : nar t z = z) (hq : Q (some (.int z)) T.heap locs) (hc : cells ≤ cs) (hs : slots ≤ ss) : Goes p e below s Q cs ss (T.setTop (mkF m pc Ls (.int z :: rest))) :=
  Goes.fin X hlk (v := some (.int z)) (fun h => by rw [hret] at h; cases h) (fun fs hr => RoadKit.retN X hx hret ht hd (by rw [hn]; exact hr)) hq hc hs
theorem Goes.retW {Q : Option Value → Heap → List Loc → Prop} {cs ss : Nat} (X : Stand p l e R s m args below meth c T locs cells slots) (hx : p.tables.exec = Jvm.exec) (hlk : meth.locks = false) {t : FieldType} (hret : meth.sig.returnType = some t) {pc : Nat} {Ls : Array Slot} {w : Value} {i : Instr} {rest : List Value} (hn : narrow t w = w)
    (hi : (i = .ireturn ∧ (t = .int ∨ t = .boolean ∨ t = .byte ∨ t = .char ∨ t = .short) ∧ ∃ z, w = .int z) ∨ (i = .lreturn ∧ t = .long ∧ ∃ z, w = .long z) ∨ (i = .dreturn ∧ t = .double ∧ ∃ z, w = .double z) ∨ (i = .freturn ∧ t = .float ∧ ∃ z, w = .float z) ∨ (i = .areturn ∧ t.isReference = true ∧ w.isRef = true))
    (hd : decode c.code pc = .ok (i, 1)) (hq : Q (some w) T.heap locs) (hc : cells ≤ cs) (hs : slots ≤ ss) : Goes p e below s Q cs ss (T.setTop (mkF m pc Ls (w :: rest))) :=
  Goes.fin X hlk (v := some w) (fun h => by rw [hret] at h; cases h) (fun fs hr => RoadKit.retOut X hx hret hn hi hd hr) hq hc hs
theorem Goes.retI {Q : Option Value → Heap → List Loc → Prop} {cs ss : Nat} (X : Stand p l e R s m args below meth c T locs cells slots) (hx : p.tables.exec = Jvm.exec) (hlk : meth.locks = false) (hret : meth.sig.returnType = some .int) {pc : Nat} {Ls : Array Slot} {z : Int32} {rest : List Value}
    (hd : decode c.code pc = .ok (.ireturn, 1)) (hq : Q (some (.int z)) T.heap locs) (hc : cells ≤ cs) (hs : slots ≤ ss) : Goes p e below s Q cs ss (T.setTop (mkF m pc Ls (.int z :: rest))) :=
  Goes.retW X hx hlk hret rfl (Or.inl ⟨rfl, Or.inl rfl, _, rfl⟩) hd hq hc hs
theorem Goes.retL {Q : Option Value → Heap → List Loc → Prop} {cs ss : Nat} (X : Stand p l e R s m args below meth c T locs cells slots) (hx : p.tables.exec = Jvm.exec) (hlk : meth.locks = false) (hret : meth.sig.returnType = some .long) {pc : Nat} {Ls : Array Slot} {z : Int64} {rest : List Value}
    (hd : decode c.code pc = .ok (.lreturn, 1)) (hq : Q (some (.long z)) T.heap locs) (hc : cells ≤ cs) (hs : slots ≤ ss) : Goes p e below s Q cs ss (T.setTop (mkF m pc Ls (.long z :: rest))) :=
  Goes.retW X hx hlk hret rfl (Or.inr (Or.inl ⟨rfl, rfl, _, rfl⟩)) hd hq hc hs
theorem Goes.retD {Q : Option Value → Heap → List Loc → Prop} {cs ss : Nat} (X : Stand p l e R s m args below meth c T locs cells slots) (hx : p.tables.exec = Jvm.exec) (hlk : meth.locks = false) (hret : meth.sig.returnType = some .double) {pc : Nat} {Ls : Array Slot} {z : UInt64} {rest : List Value}
    (hd : decode c.code pc = .ok (.dreturn, 1)) (hq : Q (some (.double z)) T.heap locs) (hc : cells ≤ cs) (hs : slots ≤ ss) : Goes p e below s Q cs ss (T.setTop (mkF m pc Ls (.double z :: rest))) :=
  Goes.retW X hx hlk hret rfl (Or.inr (Or.inr (Or.inl ⟨rfl, rfl, _, rfl⟩))) hd hq hc hs
theorem Goes.retA {Q : Option Value → Heap → List Loc → Prop} {cs ss : Nat} (X : Stand p l e R s m args below meth c T locs cells slots) (hx : p.tables.exec = Jvm.exec) (hlk : meth.locks = false) {t : FieldType} (hret : meth.sig.returnType = some t) (ht : t.isReference = true) {pc : Nat} {Ls : Array Slot} {w : Value} {rest : List Value} (hn : narrow t w = w) (hw : w.isRef = true)
    (hd : decode c.code pc = .ok (.areturn, 1)) (hq : Q (some w) T.heap locs) (hc : cells ≤ cs) (hs : slots ≤ ss) : Goes p e below s Q cs ss (T.setTop (mkF m pc Ls (w :: rest))) :=
  Goes.retW X hx hlk hret hn (Or.inr (Or.inr (Or.inr (Or.inr ⟨rfl, ht, hw⟩)))) hd hq hc hs
theorem Goes.retV {Q : Option Value → Heap → List Loc → Prop} {cs ss : Nat} (X : Stand p l e R s m args below meth c T locs cells slots) (hx : p.tables.exec = Jvm.exec) (hlk : meth.locks = false) (hret : meth.sig.returnType = none) {pc : Nat} {Ls : Array Slot}
    (hd : decode c.code pc = .ok (.return_, 1)) (hq : Q none T.heap locs) (hc : cells ≤ cs) (hs : slots ≤ ss) : Goes p e below s Q cs ss (T.setTop (mkF m pc Ls [])) :=
  Goes.fin X hlk (v := none) (fun _ => rfl) (fun fs hr => X.returnOut hx hret hd hr) hq hc hs
end OwnWalk
end Jvm.RoadKit
namespace Jvm.Pilot.@@N@@
open Jvm Jvm.ClassFile Sem Op Lib Jvm.Free Jvm.Stand Jvm.LawKit Jvm.RoadKit Bundle Jvm.Free.Fl Jvm.Pilot.@@N@@.Jvm.D
/-- the 64 entries that the law lays -/
def entsL : List Value := [(.double FP.dconst0), (.double FP.dconst1), (.double (4611686018427387904 : UInt64)), (.double (4613937818241073152 : UInt64)), (.double (4616189618054758400 : UInt64)), (.double (4617315517961601024 : UInt64)), (.double (4618441417868443648 : UInt64)), (.double (4619567317775286272 : UInt64)), (.double (4620693217682128896 : UInt64)), (.double (4621256167635550208 : UInt64)), (.double (4621819117588971520 : UInt64)), (.double (4622382067542392832 : UInt64)), (.double (4622945017495814144 : UInt64)), (.double (4623507967449235456 : UInt64)), (.double (4624070917402656768 : UInt64)), (.double (4624633867356078080 : UInt64)), (.double (4625196817309499392 : UInt64)), (.double (4625478292286210048 : UInt64)), (.double (4625759767262920704 : UInt64)), (.double (4626041242239631360 : UInt64)), (.double (4626322717216342016 : UInt64)), (.double (4626604192193052672 : UInt64)), (.double (4626885667169763328 : UInt64)), (.double (4627167142146473984 : UInt64)), (.double (4627448617123184640 : UInt64)), (.double (4627730092099895296 : UInt64)), (.double (4628011567076605952 : UInt64)), (.double (4628293042053316608 : UInt64)), (.double (4628574517030027264 : UInt64)), (.double (4628855992006737920 : UInt64)), (.double (4629137466983448576 : UInt64)), (.double (4629418941960159232 : UInt64)), (.double (4629700416936869888 : UInt64)), (.double (4629841154425225216 : UInt64)), (.double (4629981891913580544 : UInt64)), (.double (4630122629401935872 : UInt64)), (.double (4630263366890291200 : UInt64)), (.double (4630404104378646528 : UInt64)), (.double (4630544841867001856 : UInt64)), (.double (4630685579355357184 : UInt64)), (.double (4630826316843712512 : UInt64)), (.double (4630967054332067840 : UInt64)), (.double (4631107791820423168 : UInt64)), (.double (4631248529308778496 : UInt64)), (.double (4631389266797133824 : UInt64)), (.double (4631530004285489152 : UInt64)), (.double (4631670741773844480 : UInt64)), (.double (4631811479262199808 : UInt64)), (.double (4631952216750555136 : UInt64)), (.double (4632092954238910464 : UInt64)), (.double (4632233691727265792 : UInt64)), (.double (4632374429215621120 : UInt64)), (.double (4632515166703976448 : UInt64)), (.double (4632655904192331776 : UInt64)), (.double (4632796641680687104 : UInt64)), (.double (4632937379169042432 : UInt64)), (.double (4633078116657397760 : UInt64)), (.double (4633218854145753088 : UInt64)), (.double (4633359591634108416 : UInt64)), (.double (4633500329122463744 : UInt64)), (.double (4633641066610819072 : UInt64)), (.double (4633781804099174400 : UInt64)), (.double (4633922541587529728 : UInt64)), (.double (4634063279075885056 : UInt64))]
theorem own_ents : ∀ k : Fin 64, entsL.getD k.val (.double 0) = .double (FP.i2d (Int32.ofNat k.val)) := by decide +kernel
def slF (r i b : Int32) : Int32 := if b = 0 then (r + i) &&& 3 else (r + 4 - i) &&& 3
theorem own_and3 (x : Int32) : x &&& 3 = 0 ∨ x &&& 3 = 1 ∨ x &&& 3 = 2 ∨ x &&& 3 = 3 := by
  have h := c_mask x 3 2 (by decide) (by decide)
  have h4 : (x &&& 3).toInt = 0 ∨ (x &&& 3).toInt = 1 ∨ (x &&& 3).toInt = 2 ∨ (x &&& 3).toInt = 3 := by
    rw [h]; have := Int.emod_nonneg x.toInt (b := ((2 ^ 2 : Nat) : Int)) (by decide); have := Int.emod_lt_of_pos x.toInt (b := ((2 ^ 2 : Nat) : Int)) (by decide)
    have e : ((2 ^ 2 : Nat) : Int) = 4 := by decide
    omega
  rcases h4 with q | q | q | q
  · exact Or.inl (Int32.toInt_inj.mp q)
  · exact Or.inr (Or.inl (Int32.toInt_inj.mp q))
  · exact Or.inr (Or.inr (Or.inl (Int32.toInt_inj.mp q)))
  · exact Or.inr (Or.inr (Or.inr (Int32.toInt_inj.mp q)))
def In4 (x : Int32) : Prop := x = 0 ∨ x = 1 ∨ x = 2 ∨ x = 3
def Sz4 (x : Int32) : Prop := x = 1 ∨ x = 2 ∨ x = 3 ∨ x = 4
theorem own_sz (x : Int32) : Sz4 (1 + (x &&& 3)) := by
  rcases own_and3 x with q | q | q | q <;> rw [q] <;> unfold Sz4 <;> decide
theorem own_sz0 {x : Int32} (h : Sz4 x) : x ≠ 0 := by rcases h with rfl | rfl | rfl | rfl <;> decide
theorem own_rem {x s : Int32} (hx : In4 x) (hs : Sz4 s) : In4 (x % s) := by
  rcases hx with rfl | rfl | rfl | rfl <;> rcases hs with rfl | rfl | rfl | rfl <;> unfold In4 <;> decide
theorem own_sl {r : Int32} (h : In4 r) (b : Int32) : In4 (slF r 0 b) ∧ In4 (slF r 1 b) ∧ In4 (slF r 2 b) ∧ slF r 0 b ≠ slF r 1 b ∧ slF r 0 b ≠ slF r 2 b ∧ slF r 1 b ≠ slF r 2 b := by
  by_cases hb : b = 0
  · simp only [slF, if_pos hb]; rcases h with rfl | rfl | rfl | rfl <;> unfold In4 <;> decide
  · simp only [slF, if_neg hb]; rcases h with rfl | rfl | rfl | rfl <;> unfold In4 <;> decide
theorem own_in {x : Int32} (h : In4 x) : ¬ x < 0 ∧ x < 4 := by rcases h with rfl | rfl | rfl | rfl <;> decide
theorem own_ix {x : Int32} (h : In4 x) : x.toNatClampNeg < 4 := by rcases h with rfl | rfl | rfl | rfl <;> decide
theorem own_nx {x y : Int32} (hx : In4 x) (hy : In4 y) (h : x ≠ y) : x.toNatClampNeg ≠ y.toNatClampNeg := by
  rcases hx with rfl | rfl | rfl | rfl <;> rcases hy with rfl | rfl | rfl | rfl <;> first | decide | exact absurd rfl h
def Ix (x : Int32) : Prop := ∃ k : Fin 64, x = Int32.ofNat k.val
theorem own_ix64 {x : Int32} (h : Ix x) : ¬ x < 0 ∧ x < 64 := by
  obtain ⟨k, rfl⟩ := h; revert k; decide
theorem own_ent {x : Int32} (h : Ix x) : entsL.getD x.toNatClampNeg (.double 0) = .double (FP.i2d x) := by
  obtain ⟨k, rfl⟩ := h
  have e : (Int32.ofNat k.val).toNatClampNeg = k.val := by revert k; decide
  rw [e]; exact own_ents k
theorem own_i1 {v0 : Int32} (h0 : In4 v0) : Ix v0 := by
  rcases h0 with rfl | rfl | rfl | rfl
  · exact ⟨0, rfl⟩
  · exact ⟨1, rfl⟩
  · exact ⟨2, rfl⟩
  · exact ⟨3, rfl⟩
theorem own_ixOf {x : Int32} (h0 : 0 ≤ x.toInt) (h1 : x.toInt < 64) : Ix x := ⟨⟨x.toInt.toNat, by omega⟩, by
  apply Int32.toInt_inj.mp
  have e : ((x.toInt.toNat : Nat) : Int) = x.toInt := by omega
  show x.toInt = (Int32.ofNat x.toInt.toNat).toInt
  rw [Int32.toInt_ofNat', e, show Int32.size = 4294967296 from rfl]
  exact (Int.bmod_eq_of_le (by omega) (by omega)).symm⟩
theorem own_ma {x s v : Int32} {A B : Int} (x0 : 0 ≤ x.toInt) (x1 : x.toInt ≤ A) (hs : Sz4 s) (hv : In4 v) (hA : A ≤ 15) (hB : B = 4 * A + 3) : 0 ≤ (x * s + v).toInt ∧ (x * s + v).toInt ≤ B := by
  have k1 : (x * s).toInt = x.toInt * s.toInt := by
    rw [Int32.toInt_mul]
    rcases hs with rfl | rfl | rfl | rfl <;> (simp only [show (1 : Int32).toInt = 1 by decide, show (2 : Int32).toInt = 2 by decide, show (3 : Int32).toInt = 3 by decide, show (4 : Int32).toInt = 4 by decide]; exact Int.bmod_eq_of_le (by omega) (by omega))
  have b1 : 0 ≤ (x * s).toInt ∧ (x * s).toInt ≤ 4 * A := by
    rw [k1]; rcases hs with rfl | rfl | rfl | rfl <;> (simp only [show (1 : Int32).toInt = 1 by decide, show (2 : Int32).toInt = 2 by decide, show (3 : Int32).toInt = 3 by decide, show (4 : Int32).toInt = 4 by decide]; omega)
  have b2 : 0 ≤ v.toInt ∧ v.toInt ≤ 3 := by rcases hv with rfl | rfl | rfl | rfl <;> decide
  have k2 : (x * s + v).toInt = (x * s).toInt + v.toInt := by
    rw [Int32.toInt_add]; exact Int.bmod_eq_of_le (by omega) (by omega)
  omega
theorem own_b {x : Int32} (h : In4 x) : 0 ≤ x.toInt ∧ x.toInt ≤ 3 := by rcases h with rfl | rfl | rfl | rfl <;> decide
theorem own_i2 {v0 s1 v1 : Int32} (h0 : In4 v0) (hs : Sz4 s1) (h1 : In4 v1) : Ix (v0 * s1 + v1) := by
  have b := own_b h0
  have q := own_ma b.1 b.2 hs h1 (by decide) rfl
  exact own_ixOf q.1 (by omega)
theorem own_i3 {v0 s1 v1 s2 v2 : Int32} (h0 : In4 v0) (hs : Sz4 s1) (h1 : In4 v1) (ht : Sz4 s2) (h2 : In4 v2) : Ix ((v0 * s1 + v1) * s2 + v2) := by
  have b := own_b h0
  have q := own_ma b.1 b.2 hs h1 (by decide) rfl
  have q2 := own_ma q.1 q.2 ht h2 (by decide) rfl
  exact own_ixOf q2.1 (by omega)
theorem own_get {α : Type} {L : List α} {i : Nat} {v d : α} (h : i < L.length) : (L.set i v).getD i d = v := by
  simp [List.getD_eq_getElem?_getD, h]
theorem own_miss {α : Type} {L : List α} {i j : Nat} {v d : α} (h : i ≠ j) : (L.set j v).getD i d = L.getD i d := by
  simp [List.getD_eq_getElem?_getD, List.getElem?_set_ne (Ne.symm h)]
theorem d_method_3_0 : decode method_3_code 0 = .ok (.iload_n 2, 1) := by decide +kernel
theorem d_method_3_1 : decode method_3_code 1 = .ok (.ifCond .eq 13, 3) := by decide +kernel
theorem d_method_3_4 : decode method_3_code 4 = .ok (.iload_n 0, 1) := by decide +kernel
theorem d_method_3_5 : decode method_3_code 5 = .ok (.iconst 4, 1) := by decide +kernel
theorem d_method_3_6 : decode method_3_code 6 = .ok (.iadd, 1) := by decide +kernel
theorem d_method_3_7 : decode method_3_code 7 = .ok (.iload_n 1, 1) := by decide +kernel
theorem d_method_3_8 : decode method_3_code 8 = .ok (.isub, 1) := by decide +kernel
theorem d_method_3_9 : decode method_3_code 9 = .ok (.iconst 3, 1) := by decide +kernel
theorem d_method_3_10 : decode method_3_code 10 = .ok (.iand, 1) := by decide +kernel
theorem d_method_3_11 : decode method_3_code 11 = .ok (.goto 8, 3) := by decide +kernel
theorem d_method_3_14 : decode method_3_code 14 = .ok (.iload_n 0, 1) := by decide +kernel
theorem d_method_3_15 : decode method_3_code 15 = .ok (.iload_n 1, 1) := by decide +kernel
theorem d_method_3_16 : decode method_3_code 16 = .ok (.iadd, 1) := by decide +kernel
theorem d_method_3_17 : decode method_3_code 17 = .ok (.iconst 3, 1) := by decide +kernel
theorem d_method_3_18 : decode method_3_code 18 = .ok (.iand, 1) := by decide +kernel
theorem d_method_3_19 : decode method_3_code 19 = .ok (.ireturn, 1) := by decide +kernel
theorem pn_com_example_parley_parley_TableEntryPinLaw : plainName "com/example/parley/parley/TableEntryPinLaw" = true := by first | (simp [plainName, overriddenIn]; done) | decide +kernel
theorem ef_S (m : MethodId) (x0 : Int32) (x1 : Int32) (x2 : Int32) : entryFrame m #[(.int x0), (.int x1), (.int x2)] 3 = mkF m 0 #[.val (.int x0), .val (.int x1), .val (.int x2)] [] := by first | (simp [entryFrame, mkF, argsToLocals, Value.category]; done) | rfl
def QS (Z : State) (r i b : Int32) (h0 : Heap) (n0 : Nat) (v : Option Value) (h : Heap) (L : List Loc) : Prop := v = some (.int (slF r i b)) ∧ Fr n0 L ∧ h = h0
set_option maxRecDepth 65536 in
set_option maxHeartbeats 40000000 in
theorem rmS (l : Launch) (Z : State) (a0 : Array Value) (hw : ∀ d ∈ tables_1, d.before a0 Z = true) (ws : List Jvm.Cond) (r i b : Int32) (h0 : Heap) (n0 : Nat) (Z0 : n0 ≤ h0.size)  :
    MetFree l (⟨"com/example/parley/parley/TableEntryPinLaw", "slot", "(IIZ)I"⟩ : MethodName) (head1 (Jvm.Cond.code (⟨"com/example/parley/parley/TableEntryPinLaw", "slot", "(IIZ)I"⟩ : MethodName) method_3_code 3 (some .int) :: ws) ({ frames := 0, cells := 0, slots := 0, locals := 0 } : Room)) (fun aa U => aa = #[(.int r), (.int i), (.int b)] ∧ Z.Warmed39 U.vm ∧ U.heap = h0) (fun _ _ _ _ _ => True) (fun _ U o U' => ∃ v L, o = .returned v ∧ QS Z r i b h0 n0 v U'.heap L ∧ FrameEnd U o U' L ({ frames := 0, cells := 0, slots := 0, locals := 0 } : Room).cells ({ frames := 0, cells := 0, slots := 0, locals := 0 } : Room).slots) := by
  refine MetFree.of_bodySF (plainFor_of_name pn_com_example_parley_parley_TableEntryPinLaw) hisR ?_
  intro p e s m args below meth c s₁ Bd hml0 hP hK
  obtain ⟨rfl, hZ, hh⟩ := hP
  have hx := Bd.exec
  have hby := Bd.bytes
  have hlk := BodyLoose.notSynchronized Bd
  have hret := Bd.returns
  have hml : c.maxLocals = 3 := hml0
  have hown : s.vm.findClass "com/example/parley/parley/TableEntryPinLaw" = some m.cls := findClass_of_methodNamed Bd.named
  have hnm := (name_of_methodNamed Bd.named Bd.method).1
  have X0 : Stand p l e ({ frames := 0, cells := 0, slots := 0, locals := 0 } : Room) s m #[(.int r), (.int i), (.int b)] below meth c s₁ [] 0 0 := Stand.of_body Bd
  have e0 : s₁.heap = h0 := by rw [← hh, Bd.state]; rfl
  have N0 := Fr.nil n0
  refine Goes.st (s := s) (Q := QS Z r i b h0 n0) (cs := ({ frames := 0, cells := 0, slots := 0, locals := 0 } : Room).cells) (ss := ({ frames := 0, cells := 0, slots := 0, locals := 0 } : Room).slots) (fun t k => castTop (ef_S m r i b) k) ?_
  show Goes p e below s _ _ _ (s₁.setTop (mkF m 0 #[.val (.int r), .val (.int i), .val (.int b)] []))
  refine Goes.st (fun t k => XS.iloadN X0.here hx rfl (hb hby d_method_3_0) rfl k) ?_
  show Goes p e below s _ _ _ (s₁.setTop (mkF m 1 #[.val (.int r), .val (.int i), .val (.int b)] [(.int b)]))
  by_cases c1 : b = (0 : Int32)
  · refine Goes.st (fun t k => XS.ifYes X0.here hx rfl (pc0 := 1) (pc' := 14) rfl (hb hby d_method_3_1) rfl ((if0 _ _).trans (teq c1).1) (by decide) (by decide) k) ?_
    show Goes p e below s _ _ _ (s₁.setTop (mkF m 14 #[.val (.int r), .val (.int i), .val (.int b)] []))
    refine Goes.st (fun t k => XS.iloadN X0.here hx rfl (hb hby d_method_3_14) rfl k) ?_
    show Goes p e below s _ _ _ (s₁.setTop (mkF m 15 #[.val (.int r), .val (.int i), .val (.int b)] [(.int r)]))
    refine Goes.st (fun t k => XS.iloadN X0.here hx rfl (hb hby d_method_3_15) rfl k) ?_
    show Goes p e below s _ _ _ (s₁.setTop (mkF m 16 #[.val (.int r), .val (.int i), .val (.int b)] [(.int i), (.int r)]))
    refine Goes.st (fun t k => XS.iadd X0.here hx rfl (hb hby d_method_3_16) rfl k) ?_
    show Goes p e below s _ _ _ (s₁.setTop (mkF m 17 #[.val (.int r), .val (.int i), .val (.int b)] [(.int (r + i))]))
    refine Goes.st (fun t k => XS.iconst X0.here hx rfl (hb hby d_method_3_17) k) ?_
    show Goes p e below s _ _ _ (s₁.setTop (mkF m 18 #[.val (.int r), .val (.int i), .val (.int b)] [(.int (3 : Int32)), (.int (r + i))]))
    refine Goes.st (fun t k => XS.iand X0.here hx rfl (hb hby d_method_3_18) rfl k) ?_
    show Goes p e below s _ _ _ (s₁.setTop (mkF m 19 #[.val (.int r), .val (.int i), .val (.int b)] [(.int ((r + i) &&& (3 : Int32)))]))
    refine Goes.retI X0 hx hlk hret (hb hby d_method_3_19) ?_ (by decide) (by decide)
    rw [e0]
    exact ⟨by simp [slF, c1], N0, rfl⟩
  · refine Goes.st (fun t k => XS.ifNo X0.here hx rfl (hb hby d_method_3_1) rfl ((if0 _ _).trans (feq c1).1) k) ?_
    show Goes p e below s _ _ _ (s₁.setTop (mkF m 4 #[.val (.int r), .val (.int i), .val (.int b)] []))
    refine Goes.st (fun t k => XS.iloadN X0.here hx rfl (hb hby d_method_3_4) rfl k) ?_
    show Goes p e below s _ _ _ (s₁.setTop (mkF m 5 #[.val (.int r), .val (.int i), .val (.int b)] [(.int r)]))
    refine Goes.st (fun t k => XS.iconst X0.here hx rfl (hb hby d_method_3_5) k) ?_
    show Goes p e below s _ _ _ (s₁.setTop (mkF m 6 #[.val (.int r), .val (.int i), .val (.int b)] [(.int (4 : Int32)), (.int r)]))
    refine Goes.st (fun t k => XS.iadd X0.here hx rfl (hb hby d_method_3_6) rfl k) ?_
    show Goes p e below s _ _ _ (s₁.setTop (mkF m 7 #[.val (.int r), .val (.int i), .val (.int b)] [(.int (r + (4 : Int32)))]))
    refine Goes.st (fun t k => XS.iloadN X0.here hx rfl (hb hby d_method_3_7) rfl k) ?_
    show Goes p e below s _ _ _ (s₁.setTop (mkF m 8 #[.val (.int r), .val (.int i), .val (.int b)] [(.int i), (.int (r + (4 : Int32)))]))
    refine Goes.st (fun t k => XS.isub X0.here hx rfl (hb hby d_method_3_8) rfl k) ?_
    show Goes p e below s _ _ _ (s₁.setTop (mkF m 9 #[.val (.int r), .val (.int i), .val (.int b)] [(.int ((r + (4 : Int32)) - i))]))
    refine Goes.st (fun t k => XS.iconst X0.here hx rfl (hb hby d_method_3_9) k) ?_
    show Goes p e below s _ _ _ (s₁.setTop (mkF m 10 #[.val (.int r), .val (.int i), .val (.int b)] [(.int (3 : Int32)), (.int ((r + (4 : Int32)) - i))]))
    refine Goes.st (fun t k => XS.iand X0.here hx rfl (hb hby d_method_3_10) rfl k) ?_
    show Goes p e below s _ _ _ (s₁.setTop (mkF m 11 #[.val (.int r), .val (.int i), .val (.int b)] [(.int (((r + (4 : Int32)) - i) &&& (3 : Int32)))]))
    refine Goes.st (fun t k => XS.goto X0.here hx rfl (pc0 := 11) (pc' := 19) rfl (hb hby d_method_3_11) (by decide) (by decide) k) ?_
    show Goes p e below s _ _ _ (s₁.setTop (mkF m 19 #[.val (.int r), .val (.int i), .val (.int b)] [(.int (((r + (4 : Int32)) - i) &&& (3 : Int32)))]))
    refine Goes.retI X0 hx hlk hret (hb hby d_method_3_19) ?_ (by decide) (by decide)
    rw [e0]
    exact ⟨by simp [slF, c1], N0, rfl⟩
theorem d_method_4_0 : decode method_4_code 0 = .ok (.iload_n 0, 1) := by decide +kernel
theorem d_method_4_1 : decode method_4_code 1 = .ok (.ifCond .ne 7, 3) := by decide +kernel
theorem d_method_4_4 : decode method_4_code 4 = .ok (.iconst 0, 1) := by decide +kernel
theorem d_method_4_5 : decode method_4_code 5 = .ok (.newarray .int, 2) := by decide +kernel
theorem d_method_4_7 : decode method_4_code 7 = .ok (.areturn, 1) := by decide +kernel
theorem d_method_4_8 : decode method_4_code 8 = .ok (.iload_n 0, 1) := by decide +kernel
theorem d_method_4_9 : decode method_4_code 9 = .ok (.iconst 1, 1) := by decide +kernel
theorem d_method_4_10 : decode method_4_code 10 = .ok (.if_icmp .ne 11, 3) := by decide +kernel
theorem d_method_4_13 : decode method_4_code 13 = .ok (.iconst 1, 1) := by decide +kernel
theorem d_method_4_14 : decode method_4_code 14 = .ok (.newarray .int, 2) := by decide +kernel
theorem d_method_4_16 : decode method_4_code 16 = .ok (.dup, 1) := by decide +kernel
theorem d_method_4_17 : decode method_4_code 17 = .ok (.iconst 0, 1) := by decide +kernel
theorem d_method_4_18 : decode method_4_code 18 = .ok (.iload_n 1, 1) := by decide +kernel
theorem d_method_4_19 : decode method_4_code 19 = .ok (.iastore, 1) := by decide +kernel
theorem d_method_4_20 : decode method_4_code 20 = .ok (.areturn, 1) := by decide +kernel
theorem d_method_4_21 : decode method_4_code 21 = .ok (.iload_n 0, 1) := by decide +kernel
theorem d_method_4_22 : decode method_4_code 22 = .ok (.iconst 2, 1) := by decide +kernel
theorem d_method_4_23 : decode method_4_code 23 = .ok (.if_icmp .ne 15, 3) := by decide +kernel
theorem d_method_4_26 : decode method_4_code 26 = .ok (.iconst 2, 1) := by decide +kernel
theorem d_method_4_27 : decode method_4_code 27 = .ok (.newarray .int, 2) := by decide +kernel
theorem d_method_4_29 : decode method_4_code 29 = .ok (.dup, 1) := by decide +kernel
theorem d_method_4_30 : decode method_4_code 30 = .ok (.iconst 0, 1) := by decide +kernel
theorem d_method_4_31 : decode method_4_code 31 = .ok (.iload_n 1, 1) := by decide +kernel
theorem d_method_4_32 : decode method_4_code 32 = .ok (.iastore, 1) := by decide +kernel
theorem d_method_4_33 : decode method_4_code 33 = .ok (.dup, 1) := by decide +kernel
theorem d_method_4_34 : decode method_4_code 34 = .ok (.iconst 1, 1) := by decide +kernel
theorem d_method_4_35 : decode method_4_code 35 = .ok (.iload_n 2, 1) := by decide +kernel
theorem d_method_4_36 : decode method_4_code 36 = .ok (.iastore, 1) := by decide +kernel
theorem d_method_4_37 : decode method_4_code 37 = .ok (.areturn, 1) := by decide +kernel
theorem d_method_4_38 : decode method_4_code 38 = .ok (.iconst 3, 1) := by decide +kernel
theorem d_method_4_39 : decode method_4_code 39 = .ok (.newarray .int, 2) := by decide +kernel
theorem d_method_4_41 : decode method_4_code 41 = .ok (.dup, 1) := by decide +kernel
theorem d_method_4_42 : decode method_4_code 42 = .ok (.iconst 0, 1) := by decide +kernel
theorem d_method_4_43 : decode method_4_code 43 = .ok (.iload_n 1, 1) := by decide +kernel
theorem d_method_4_44 : decode method_4_code 44 = .ok (.iastore, 1) := by decide +kernel
theorem d_method_4_45 : decode method_4_code 45 = .ok (.dup, 1) := by decide +kernel
theorem d_method_4_46 : decode method_4_code 46 = .ok (.iconst 1, 1) := by decide +kernel
theorem d_method_4_47 : decode method_4_code 47 = .ok (.iload_n 2, 1) := by decide +kernel
theorem d_method_4_48 : decode method_4_code 48 = .ok (.iastore, 1) := by decide +kernel
theorem d_method_4_49 : decode method_4_code 49 = .ok (.dup, 1) := by decide +kernel
theorem d_method_4_50 : decode method_4_code 50 = .ok (.iconst 2, 1) := by decide +kernel
theorem d_method_4_51 : decode method_4_code 51 = .ok (.iload_n 3, 1) := by decide +kernel
theorem d_method_4_52 : decode method_4_code 52 = .ok (.iastore, 1) := by decide +kernel
theorem d_method_4_53 : decode method_4_code 53 = .ok (.areturn, 1) := by decide +kernel
theorem ef_T0 (m : MethodId) (x0 : Int32) (x1 : Int32) (x2 : Int32) (x3 : Int32) : entryFrame m #[(.int x0), (.int x1), (.int x2), (.int x3)] 4 = mkF m 0 #[.val (.int x0), .val (.int x1), .val (.int x2), .val (.int x3)] [] := by first | (simp [entryFrame, mkF, argsToLocals, Value.category]; done) | rfl
def QT0 (Z : State) (x0 x1 x2 : Int32) (h0 : Heap) (n0 : Nat) (v : Option Value) (h : Heap) (L : List Loc) : Prop := ∃ (b : Addr) (kA : ClassId), v = some (.ref b) ∧ Fr n0 L ∧ Keep h0 h [] ∧ h0.size ≤ b ∧ n0 ≤ b ∧ Arv Z h b kA .int (0 : Int32) [] (.int (0 : Int32))
set_option maxRecDepth 65536 in
set_option maxHeartbeats 40000000 in
theorem rmT0 (l : Launch) (Z : State) (a0 : Array Value) (hw : ∀ d ∈ tables_1, d.before a0 Z = true) (ws : List Jvm.Cond) (x0 x1 x2 : Int32) (h0 : Heap) (n0 : Nat) (Z0 : n0 ≤ h0.size)  :
    MetFree l (⟨"com/example/parley/parley/TableEntryPinLaw", "take", "(IIII)[I"⟩ : MethodName) (head1 (Jvm.Cond.code (⟨"com/example/parley/parley/TableEntryPinLaw", "take", "(IIII)[I"⟩ : MethodName) method_4_code 4 (some (.array .int)) :: ws) ({ frames := 0, cells := 1, slots := 0, locals := 0 } : Room)) (fun aa U => aa = #[(.int (0 : Int32)), (.int x0), (.int x1), (.int x2)] ∧ Z.Warmed39 U.vm ∧ U.heap = h0) (fun _ _ _ _ _ => True) (fun _ U o U' => ∃ v L, o = .returned v ∧ QT0 Z x0 x1 x2 h0 n0 v U'.heap L ∧ FrameEnd U o U' L ({ frames := 0, cells := 1, slots := 0, locals := 0 } : Room).cells ({ frames := 0, cells := 1, slots := 0, locals := 0 } : Room).slots) := by
  refine MetFree.of_bodySF (plainFor_of_name pn_com_example_parley_parley_TableEntryPinLaw) hisR ?_
  intro p e s m args below meth c s₁ Bd hml0 hP hK
  obtain ⟨rfl, hZ, hh⟩ := hP
  have hx := Bd.exec
  have hby := Bd.bytes
  have hlk := BodyLoose.notSynchronized Bd
  have hret := Bd.returns
  have hml : c.maxLocals = 4 := hml0
  have hown : s.vm.findClass "com/example/parley/parley/TableEntryPinLaw" = some m.cls := findClass_of_methodNamed Bd.named
  have hnm := (name_of_methodNamed Bd.named Bd.method).1
  have X0 : Stand p l e ({ frames := 0, cells := 1, slots := 0, locals := 0 } : Room) s m #[(.int (0 : Int32)), (.int x0), (.int x1), (.int x2)] below meth c s₁ [] 0 0 := Stand.of_body Bd
  have e0 : s₁.heap = h0 := by rw [← hh, Bd.state]; rfl
  have N0 := Fr.nil n0
  refine Goes.st (s := s) (Q := QT0 Z x0 x1 x2 h0 n0) (cs := ({ frames := 0, cells := 1, slots := 0, locals := 0 } : Room).cells) (ss := ({ frames := 0, cells := 1, slots := 0, locals := 0 } : Room).slots) (fun t k => castTop (ef_T0 m (0 : Int32) x0 x1 x2) k) ?_
  have K0 : Keep h0 h0 [] := Keep.refl _ _
  show Goes p e below s _ _ _ (s₁.setTop (mkF m 0 #[.val (.int (0 : Int32)), .val (.int x0), .val (.int x1), .val (.int x2)] []))
  refine Goes.st (fun t k => XS.iloadN X0.here hx rfl (hb hby d_method_4_0) rfl k) ?_
  show Goes p e below s _ _ _ (s₁.setTop (mkF m 1 #[.val (.int (0 : Int32)), .val (.int x0), .val (.int x1), .val (.int x2)] [(.int (0 : Int32))]))
  refine Goes.st (fun t k => XS.ifNo X0.here hx rfl (hb hby d_method_4_1) rfl (by decide) k) ?_
  show Goes p e below s _ _ _ (s₁.setTop (mkF m 4 #[.val (.int (0 : Int32)), .val (.int x0), .val (.int x1), .val (.int x2)] []))
  refine Goes.st (fun t k => XS.iconst X0.here hx rfl (hb hby d_method_4_4) k) ?_
  show Goes p e below s _ _ _ (s₁.setTop (mkF m 5 #[.val (.int (0 : Int32)), .val (.int x0), .val (.int x1), .val (.int x2)] [(.int (0 : Int32))]))
  obtain ⟨T1, h1, cA1, X1, e1, E1, A1, st1⟩ := newP X0 hx hZ (hw _ (List.mem_of_getElem? (i := 4) rfl)) e0 (g := (mkF m 5 #[.val (.int (0 : Int32)), .val (.int x0), .val (.int x1), .val (.int x2)] [(.int (0 : Int32))])) rfl (hb hby d_method_4_5) rfl (by decide) (cap := 0) (by decide) (by decide) (by decide) (by decide)
  obtain ⟨b1, g1⟩ : ∃ z, z = h0.size := ⟨_, rfl⟩
  rw [← g1] at A1 st1
  have lo_b1 : n0 ≤ b1 := by have := Z0; omega
  have sz_b1 : h0.size ≤ b1 := by have := K0.1; omega
  have KK2 := K0.ext E1
  have V1 : Arv Z h1 b1 cA1 .int (0 : Int32) [] (.int (0 : Int32)) := (Arv.new A1 (by decide)).pad (pad_rep [] _ 0)
  refine Goes.st st1 ?_
  have Z1 : n0 ≤ h1.size := Nat.le_trans Z0 E1.1
  show Goes p e below s _ _ _ (T1.setTop (mkF m 7 #[.val (.int (0 : Int32)), .val (.int x0), .val (.int x1), .val (.int x2)] [(.ref b1)]))
  refine Goes.retA X1 hx hlk hret rfl rfl rfl (hb hby d_method_4_7) ?_ (by decide) (by decide)
  rw [e1]
  exact ⟨b1, cA1, rfl, N0, KK2, sz_b1, lo_b1, V1⟩
theorem ef_T1 (m : MethodId) (x0 : Int32) (x1 : Int32) (x2 : Int32) (x3 : Int32) : entryFrame m #[(.int x0), (.int x1), (.int x2), (.int x3)] 4 = mkF m 0 #[.val (.int x0), .val (.int x1), .val (.int x2), .val (.int x3)] [] := by first | (simp [entryFrame, mkF, argsToLocals, Value.category]; done) | rfl
def QT1 (Z : State) (x0 x1 x2 : Int32) (h0 : Heap) (n0 : Nat) (v : Option Value) (h : Heap) (L : List Loc) : Prop := ∃ (b : Addr) (kA : ClassId), v = some (.ref b) ∧ Fr n0 L ∧ Keep h0 h [] ∧ h0.size ≤ b ∧ n0 ≤ b ∧ Arv Z h b kA .int (1 : Int32) [(.int x0)] (.int (0 : Int32))
set_option maxRecDepth 65536 in
set_option maxHeartbeats 40000000 in
theorem rmT1 (l : Launch) (Z : State) (a0 : Array Value) (hw : ∀ d ∈ tables_1, d.before a0 Z = true) (ws : List Jvm.Cond) (x0 x1 x2 : Int32) (h0 : Heap) (n0 : Nat) (Z0 : n0 ≤ h0.size)  :
    MetFree l (⟨"com/example/parley/parley/TableEntryPinLaw", "take", "(IIII)[I"⟩ : MethodName) (head1 (Jvm.Cond.code (⟨"com/example/parley/parley/TableEntryPinLaw", "take", "(IIII)[I"⟩ : MethodName) method_4_code 4 (some (.array .int)) :: ws) ({ frames := 0, cells := 1, slots := 1, locals := 0 } : Room)) (fun aa U => aa = #[(.int (1 : Int32)), (.int x0), (.int x1), (.int x2)] ∧ Z.Warmed39 U.vm ∧ U.heap = h0) (fun _ _ _ _ _ => True) (fun _ U o U' => ∃ v L, o = .returned v ∧ QT1 Z x0 x1 x2 h0 n0 v U'.heap L ∧ FrameEnd U o U' L ({ frames := 0, cells := 1, slots := 1, locals := 0 } : Room).cells ({ frames := 0, cells := 1, slots := 1, locals := 0 } : Room).slots) := by
  refine MetFree.of_bodySF (plainFor_of_name pn_com_example_parley_parley_TableEntryPinLaw) hisR ?_
  intro p e s m args below meth c s₁ Bd hml0 hP hK
  obtain ⟨rfl, hZ, hh⟩ := hP
  have hx := Bd.exec
  have hby := Bd.bytes
  have hlk := BodyLoose.notSynchronized Bd
  have hret := Bd.returns
  have hml : c.maxLocals = 4 := hml0
  have hown : s.vm.findClass "com/example/parley/parley/TableEntryPinLaw" = some m.cls := findClass_of_methodNamed Bd.named
  have hnm := (name_of_methodNamed Bd.named Bd.method).1
  have X0 : Stand p l e ({ frames := 0, cells := 1, slots := 1, locals := 0 } : Room) s m #[(.int (1 : Int32)), (.int x0), (.int x1), (.int x2)] below meth c s₁ [] 0 0 := Stand.of_body Bd
  have e0 : s₁.heap = h0 := by rw [← hh, Bd.state]; rfl
  have N0 := Fr.nil n0
  refine Goes.st (s := s) (Q := QT1 Z x0 x1 x2 h0 n0) (cs := ({ frames := 0, cells := 1, slots := 1, locals := 0 } : Room).cells) (ss := ({ frames := 0, cells := 1, slots := 1, locals := 0 } : Room).slots) (fun t k => castTop (ef_T1 m (1 : Int32) x0 x1 x2) k) ?_
  have K0 : Keep h0 h0 [] := Keep.refl _ _
  show Goes p e below s _ _ _ (s₁.setTop (mkF m 0 #[.val (.int (1 : Int32)), .val (.int x0), .val (.int x1), .val (.int x2)] []))
  refine Goes.st (fun t k => XS.iloadN X0.here hx rfl (hb hby d_method_4_0) rfl k) ?_
  show Goes p e below s _ _ _ (s₁.setTop (mkF m 1 #[.val (.int (1 : Int32)), .val (.int x0), .val (.int x1), .val (.int x2)] [(.int (1 : Int32))]))
  refine Goes.st (fun t k => XS.ifYes X0.here hx rfl (pc0 := 1) (pc' := 8) rfl (hb hby d_method_4_1) rfl (by decide) (by decide) (by decide) k) ?_
  show Goes p e below s _ _ _ (s₁.setTop (mkF m 8 #[.val (.int (1 : Int32)), .val (.int x0), .val (.int x1), .val (.int x2)] []))
  refine Goes.st (fun t k => XS.iloadN X0.here hx rfl (hb hby d_method_4_8) rfl k) ?_
  show Goes p e below s _ _ _ (s₁.setTop (mkF m 9 #[.val (.int (1 : Int32)), .val (.int x0), .val (.int x1), .val (.int x2)] [(.int (1 : Int32))]))
  refine Goes.st (fun t k => XS.iconst X0.here hx rfl (hb hby d_method_4_9) k) ?_
  show Goes p e below s _ _ _ (s₁.setTop (mkF m 10 #[.val (.int (1 : Int32)), .val (.int x0), .val (.int x1), .val (.int x2)] [(.int (1 : Int32)), (.int (1 : Int32))]))
  refine Goes.st (fun t k => XS.icmpNo X0.here hx rfl (hb hby d_method_4_10) rfl (by decide) k) ?_
  show Goes p e below s _ _ _ (s₁.setTop (mkF m 13 #[.val (.int (1 : Int32)), .val (.int x0), .val (.int x1), .val (.int x2)] []))
  refine Goes.st (fun t k => XS.iconst X0.here hx rfl (hb hby d_method_4_13) k) ?_
  show Goes p e below s _ _ _ (s₁.setTop (mkF m 14 #[.val (.int (1 : Int32)), .val (.int x0), .val (.int x1), .val (.int x2)] [(.int (1 : Int32))]))
  obtain ⟨T1, h1, cA1, X1, e1, E1, A1, st1⟩ := newP X0 hx hZ (hw _ (List.mem_of_getElem? (i := 4) rfl)) e0 (g := (mkF m 14 #[.val (.int (1 : Int32)), .val (.int x0), .val (.int x1), .val (.int x2)] [(.int (1 : Int32))])) rfl (hb hby d_method_4_14) rfl (by decide) (cap := 1) (by decide) (by decide) (by decide) (by decide)
  obtain ⟨b1, g1⟩ : ∃ z, z = h0.size := ⟨_, rfl⟩
  rw [← g1] at A1 st1
  have lo_b1 : n0 ≤ b1 := by have := Z0; omega
  have sz_b1 : h0.size ≤ b1 := by have := K0.1; omega
  have KK2 := K0.ext E1
  have V1 : Arv Z h1 b1 cA1 .int (1 : Int32) [(.int (0 : Int32))] (.int (0 : Int32)) := (Arv.new A1 (by decide)).pad (pad_rep [] _ 1)
  refine Goes.st st1 ?_
  have Z1 : n0 ≤ h1.size := Nat.le_trans Z0 E1.1
  show Goes p e below s _ _ _ (T1.setTop (mkF m 16 #[.val (.int (1 : Int32)), .val (.int x0), .val (.int x1), .val (.int x2)] [(.ref b1)]))
  refine Goes.st (fun t k => XS.dup X1.here hx rfl (hb hby d_method_4_16) rfl rfl k) ?_
  show Goes p e below s _ _ _ (T1.setTop (mkF m 17 #[.val (.int (1 : Int32)), .val (.int x0), .val (.int x1), .val (.int x2)] [(.ref b1), (.ref b1)]))
  refine Goes.st (fun t k => XS.iconst X1.here hx rfl (hb hby d_method_4_17) k) ?_
  show Goes p e below s _ _ _ (T1.setTop (mkF m 18 #[.val (.int (1 : Int32)), .val (.int x0), .val (.int x1), .val (.int x2)] [(.int (0 : Int32)), (.ref b1), (.ref b1)]))
  refine Goes.st (fun t k => XS.iloadN X1.here hx rfl (hb hby d_method_4_18) rfl k) ?_
  show Goes p e below s _ _ _ (T1.setTop (mkF m 19 #[.val (.int (1 : Int32)), .val (.int x0), .val (.int x1), .val (.int x2)] [(.int x0), (.int (0 : Int32)), (.ref b1), (.ref b1)]))
  obtain ⟨cl3, Ar3, qk3, Sz3, qz3, Ha3, Gf3⟩ := id V1
  obtain ⟨T3, h3, X3, e3, W3, st3⟩ := stI X1 hx hZ e1 Ar3 (inb_of Sz3 ⟨by decide, by decide⟩) (g := (mkF m 19 #[.val (.int (1 : Int32)), .val (.int x0), .val (.int x1), .val (.int x2)] [(.int x0), (.int (0 : Int32)), (.ref b1), (.ref b1)])) rfl rfl (hb hby d_method_4_19)
  have N3 := Fr.snoc X3 N0 lo_b1
  have V3 : Arv Z h3 b1 cA1 .int (1 : Int32) [(.int x0)] (.int (0 : Int32)) := Arv.set Ar3 qk3 Sz3 qz3 Ha3 Gf3 rfl W3 0 (by decide) (by simp)
  refine Goes.st st3 ?_
  have KK4 := KK2.wr W3 (Or.inr sz_b1)
  have Z3 : n0 ≤ h3.size := by have := W3.size; have := Z1; omega
  show Goes p e below s _ _ _ (T3.setTop (mkF m 20 #[.val (.int (1 : Int32)), .val (.int x0), .val (.int x1), .val (.int x2)] [(.ref b1)]))
  refine Goes.retA X3 hx hlk hret rfl rfl rfl (hb hby d_method_4_20) ?_ (by decide) (by decide)
  rw [e3]
  exact ⟨b1, cA1, rfl, N3, KK4, sz_b1, lo_b1, V3⟩
theorem ef_T2 (m : MethodId) (x0 : Int32) (x1 : Int32) (x2 : Int32) (x3 : Int32) : entryFrame m #[(.int x0), (.int x1), (.int x2), (.int x3)] 4 = mkF m 0 #[.val (.int x0), .val (.int x1), .val (.int x2), .val (.int x3)] [] := by first | (simp [entryFrame, mkF, argsToLocals, Value.category]; done) | rfl
def QT2 (Z : State) (x0 x1 x2 : Int32) (h0 : Heap) (n0 : Nat) (v : Option Value) (h : Heap) (L : List Loc) : Prop := ∃ (b : Addr) (kA : ClassId), v = some (.ref b) ∧ Fr n0 L ∧ Keep h0 h [] ∧ h0.size ≤ b ∧ n0 ≤ b ∧ Arv Z h b kA .int (2 : Int32) [(.int x0), (.int x1)] (.int (0 : Int32))
set_option maxRecDepth 65536 in
set_option maxHeartbeats 40000000 in
theorem rmT2 (l : Launch) (Z : State) (a0 : Array Value) (hw : ∀ d ∈ tables_1, d.before a0 Z = true) (ws : List Jvm.Cond) (x0 x1 x2 : Int32) (h0 : Heap) (n0 : Nat) (Z0 : n0 ≤ h0.size)  :
    MetFree l (⟨"com/example/parley/parley/TableEntryPinLaw", "take", "(IIII)[I"⟩ : MethodName) (head1 (Jvm.Cond.code (⟨"com/example/parley/parley/TableEntryPinLaw", "take", "(IIII)[I"⟩ : MethodName) method_4_code 4 (some (.array .int)) :: ws) ({ frames := 0, cells := 1, slots := 2, locals := 0 } : Room)) (fun aa U => aa = #[(.int (2 : Int32)), (.int x0), (.int x1), (.int x2)] ∧ Z.Warmed39 U.vm ∧ U.heap = h0) (fun _ _ _ _ _ => True) (fun _ U o U' => ∃ v L, o = .returned v ∧ QT2 Z x0 x1 x2 h0 n0 v U'.heap L ∧ FrameEnd U o U' L ({ frames := 0, cells := 1, slots := 2, locals := 0 } : Room).cells ({ frames := 0, cells := 1, slots := 2, locals := 0 } : Room).slots) := by
  refine MetFree.of_bodySF (plainFor_of_name pn_com_example_parley_parley_TableEntryPinLaw) hisR ?_
  intro p e s m args below meth c s₁ Bd hml0 hP hK
  obtain ⟨rfl, hZ, hh⟩ := hP
  have hx := Bd.exec
  have hby := Bd.bytes
  have hlk := BodyLoose.notSynchronized Bd
  have hret := Bd.returns
  have hml : c.maxLocals = 4 := hml0
  have hown : s.vm.findClass "com/example/parley/parley/TableEntryPinLaw" = some m.cls := findClass_of_methodNamed Bd.named
  have hnm := (name_of_methodNamed Bd.named Bd.method).1
  have X0 : Stand p l e ({ frames := 0, cells := 1, slots := 2, locals := 0 } : Room) s m #[(.int (2 : Int32)), (.int x0), (.int x1), (.int x2)] below meth c s₁ [] 0 0 := Stand.of_body Bd
  have e0 : s₁.heap = h0 := by rw [← hh, Bd.state]; rfl
  have N0 := Fr.nil n0
  refine Goes.st (s := s) (Q := QT2 Z x0 x1 x2 h0 n0) (cs := ({ frames := 0, cells := 1, slots := 2, locals := 0 } : Room).cells) (ss := ({ frames := 0, cells := 1, slots := 2, locals := 0 } : Room).slots) (fun t k => castTop (ef_T2 m (2 : Int32) x0 x1 x2) k) ?_
  have K0 : Keep h0 h0 [] := Keep.refl _ _
  show Goes p e below s _ _ _ (s₁.setTop (mkF m 0 #[.val (.int (2 : Int32)), .val (.int x0), .val (.int x1), .val (.int x2)] []))
  refine Goes.st (fun t k => XS.iloadN X0.here hx rfl (hb hby d_method_4_0) rfl k) ?_
  show Goes p e below s _ _ _ (s₁.setTop (mkF m 1 #[.val (.int (2 : Int32)), .val (.int x0), .val (.int x1), .val (.int x2)] [(.int (2 : Int32))]))
  refine Goes.st (fun t k => XS.ifYes X0.here hx rfl (pc0 := 1) (pc' := 8) rfl (hb hby d_method_4_1) rfl (by decide) (by decide) (by decide) k) ?_
  show Goes p e below s _ _ _ (s₁.setTop (mkF m 8 #[.val (.int (2 : Int32)), .val (.int x0), .val (.int x1), .val (.int x2)] []))
  refine Goes.st (fun t k => XS.iloadN X0.here hx rfl (hb hby d_method_4_8) rfl k) ?_
  show Goes p e below s _ _ _ (s₁.setTop (mkF m 9 #[.val (.int (2 : Int32)), .val (.int x0), .val (.int x1), .val (.int x2)] [(.int (2 : Int32))]))
  refine Goes.st (fun t k => XS.iconst X0.here hx rfl (hb hby d_method_4_9) k) ?_
  show Goes p e below s _ _ _ (s₁.setTop (mkF m 10 #[.val (.int (2 : Int32)), .val (.int x0), .val (.int x1), .val (.int x2)] [(.int (1 : Int32)), (.int (2 : Int32))]))
  refine Goes.st (fun t k => XS.icmpYes X0.here hx rfl (pc0 := 10) (pc' := 21) rfl (hb hby d_method_4_10) rfl (by decide) (by decide) (by decide) k) ?_
  show Goes p e below s _ _ _ (s₁.setTop (mkF m 21 #[.val (.int (2 : Int32)), .val (.int x0), .val (.int x1), .val (.int x2)] []))
  refine Goes.st (fun t k => XS.iloadN X0.here hx rfl (hb hby d_method_4_21) rfl k) ?_
  show Goes p e below s _ _ _ (s₁.setTop (mkF m 22 #[.val (.int (2 : Int32)), .val (.int x0), .val (.int x1), .val (.int x2)] [(.int (2 : Int32))]))
  refine Goes.st (fun t k => XS.iconst X0.here hx rfl (hb hby d_method_4_22) k) ?_
  show Goes p e below s _ _ _ (s₁.setTop (mkF m 23 #[.val (.int (2 : Int32)), .val (.int x0), .val (.int x1), .val (.int x2)] [(.int (2 : Int32)), (.int (2 : Int32))]))
  refine Goes.st (fun t k => XS.icmpNo X0.here hx rfl (hb hby d_method_4_23) rfl (by decide) k) ?_
  show Goes p e below s _ _ _ (s₁.setTop (mkF m 26 #[.val (.int (2 : Int32)), .val (.int x0), .val (.int x1), .val (.int x2)] []))
  refine Goes.st (fun t k => XS.iconst X0.here hx rfl (hb hby d_method_4_26) k) ?_
  show Goes p e below s _ _ _ (s₁.setTop (mkF m 27 #[.val (.int (2 : Int32)), .val (.int x0), .val (.int x1), .val (.int x2)] [(.int (2 : Int32))]))
  obtain ⟨T1, h1, cA1, X1, e1, E1, A1, st1⟩ := newP X0 hx hZ (hw _ (List.mem_of_getElem? (i := 4) rfl)) e0 (g := (mkF m 27 #[.val (.int (2 : Int32)), .val (.int x0), .val (.int x1), .val (.int x2)] [(.int (2 : Int32))])) rfl (hb hby d_method_4_27) rfl (by decide) (cap := 2) (by decide) (by decide) (by decide) (by decide)
  obtain ⟨b1, g1⟩ : ∃ z, z = h0.size := ⟨_, rfl⟩
  rw [← g1] at A1 st1
  have lo_b1 : n0 ≤ b1 := by have := Z0; omega
  have sz_b1 : h0.size ≤ b1 := by have := K0.1; omega
  have KK2 := K0.ext E1
  have V1 : Arv Z h1 b1 cA1 .int (2 : Int32) [(.int (0 : Int32)), (.int (0 : Int32))] (.int (0 : Int32)) := (Arv.new A1 (by decide)).pad (pad_rep [] _ 2)
  refine Goes.st st1 ?_
  have Z1 : n0 ≤ h1.size := Nat.le_trans Z0 E1.1
  show Goes p e below s _ _ _ (T1.setTop (mkF m 29 #[.val (.int (2 : Int32)), .val (.int x0), .val (.int x1), .val (.int x2)] [(.ref b1)]))
  refine Goes.st (fun t k => XS.dup X1.here hx rfl (hb hby d_method_4_29) rfl rfl k) ?_
  show Goes p e below s _ _ _ (T1.setTop (mkF m 30 #[.val (.int (2 : Int32)), .val (.int x0), .val (.int x1), .val (.int x2)] [(.ref b1), (.ref b1)]))
  refine Goes.st (fun t k => XS.iconst X1.here hx rfl (hb hby d_method_4_30) k) ?_
  show Goes p e below s _ _ _ (T1.setTop (mkF m 31 #[.val (.int (2 : Int32)), .val (.int x0), .val (.int x1), .val (.int x2)] [(.int (0 : Int32)), (.ref b1), (.ref b1)]))
  refine Goes.st (fun t k => XS.iloadN X1.here hx rfl (hb hby d_method_4_31) rfl k) ?_
  show Goes p e below s _ _ _ (T1.setTop (mkF m 32 #[.val (.int (2 : Int32)), .val (.int x0), .val (.int x1), .val (.int x2)] [(.int x0), (.int (0 : Int32)), (.ref b1), (.ref b1)]))
  obtain ⟨cl3, Ar3, qk3, Sz3, qz3, Ha3, Gf3⟩ := id V1
  obtain ⟨T3, h3, X3, e3, W3, st3⟩ := stI X1 hx hZ e1 Ar3 (inb_of Sz3 ⟨by decide, by decide⟩) (g := (mkF m 32 #[.val (.int (2 : Int32)), .val (.int x0), .val (.int x1), .val (.int x2)] [(.int x0), (.int (0 : Int32)), (.ref b1), (.ref b1)])) rfl rfl (hb hby d_method_4_32)
  have N3 := Fr.snoc X3 N0 lo_b1
  have V3 : Arv Z h3 b1 cA1 .int (2 : Int32) [(.int x0), (.int (0 : Int32))] (.int (0 : Int32)) := Arv.set Ar3 qk3 Sz3 qz3 Ha3 Gf3 rfl W3 0 (by decide) (by simp)
  refine Goes.st st3 ?_
  have KK4 := KK2.wr W3 (Or.inr sz_b1)
  have Z3 : n0 ≤ h3.size := by have := W3.size; have := Z1; omega
  show Goes p e below s _ _ _ (T3.setTop (mkF m 33 #[.val (.int (2 : Int32)), .val (.int x0), .val (.int x1), .val (.int x2)] [(.ref b1)]))
  refine Goes.st (fun t k => XS.dup X3.here hx rfl (hb hby d_method_4_33) rfl rfl k) ?_
  show Goes p e below s _ _ _ (T3.setTop (mkF m 34 #[.val (.int (2 : Int32)), .val (.int x0), .val (.int x1), .val (.int x2)] [(.ref b1), (.ref b1)]))
  refine Goes.st (fun t k => XS.iconst X3.here hx rfl (hb hby d_method_4_34) k) ?_
  show Goes p e below s _ _ _ (T3.setTop (mkF m 35 #[.val (.int (2 : Int32)), .val (.int x0), .val (.int x1), .val (.int x2)] [(.int (1 : Int32)), (.ref b1), (.ref b1)]))
  refine Goes.st (fun t k => XS.iloadN X3.here hx rfl (hb hby d_method_4_35) rfl k) ?_
  show Goes p e below s _ _ _ (T3.setTop (mkF m 36 #[.val (.int (2 : Int32)), .val (.int x0), .val (.int x1), .val (.int x2)] [(.int x1), (.int (1 : Int32)), (.ref b1), (.ref b1)]))
  obtain ⟨cl5, Ar5, qk5, Sz5, qz5, Ha5, Gf5⟩ := id V3
  obtain ⟨T5, h5, X5, e5, W5, st5⟩ := stI X3 hx hZ e3 Ar5 (inb_of Sz5 ⟨by decide, by decide⟩) (g := (mkF m 36 #[.val (.int (2 : Int32)), .val (.int x0), .val (.int x1), .val (.int x2)] [(.int x1), (.int (1 : Int32)), (.ref b1), (.ref b1)])) rfl rfl (hb hby d_method_4_36)
  have N5 := Fr.snoc X5 N3 lo_b1
  have V5 : Arv Z h5 b1 cA1 .int (2 : Int32) [(.int x0), (.int x1)] (.int (0 : Int32)) := Arv.set Ar5 qk5 Sz5 qz5 Ha5 Gf5 rfl W5 1 (by decide) (by simp)
  refine Goes.st st5 ?_
  have KK6 := KK4.wr W5 (Or.inr sz_b1)
  have Z5 : n0 ≤ h5.size := by have := W5.size; have := Z3; omega
  show Goes p e below s _ _ _ (T5.setTop (mkF m 37 #[.val (.int (2 : Int32)), .val (.int x0), .val (.int x1), .val (.int x2)] [(.ref b1)]))
  refine Goes.retA X5 hx hlk hret rfl rfl rfl (hb hby d_method_4_37) ?_ (by decide) (by decide)
  rw [e5]
  exact ⟨b1, cA1, rfl, N5, KK6, sz_b1, lo_b1, V5⟩
theorem ef_T3 (m : MethodId) (x0 : Int32) (x1 : Int32) (x2 : Int32) (x3 : Int32) : entryFrame m #[(.int x0), (.int x1), (.int x2), (.int x3)] 4 = mkF m 0 #[.val (.int x0), .val (.int x1), .val (.int x2), .val (.int x3)] [] := by first | (simp [entryFrame, mkF, argsToLocals, Value.category]; done) | rfl
def QT3 (Z : State) (x0 x1 x2 : Int32) (h0 : Heap) (n0 : Nat) (v : Option Value) (h : Heap) (L : List Loc) : Prop := ∃ (b : Addr) (kA : ClassId), v = some (.ref b) ∧ Fr n0 L ∧ Keep h0 h [] ∧ h0.size ≤ b ∧ n0 ≤ b ∧ Arv Z h b kA .int (3 : Int32) [(.int x0), (.int x1), (.int x2)] (.int (0 : Int32))
set_option maxRecDepth 65536 in
set_option maxHeartbeats 40000000 in
theorem rmT3 (l : Launch) (Z : State) (a0 : Array Value) (hw : ∀ d ∈ tables_1, d.before a0 Z = true) (ws : List Jvm.Cond) (x0 x1 x2 : Int32) (h0 : Heap) (n0 : Nat) (Z0 : n0 ≤ h0.size)  :
    MetFree l (⟨"com/example/parley/parley/TableEntryPinLaw", "take", "(IIII)[I"⟩ : MethodName) (head1 (Jvm.Cond.code (⟨"com/example/parley/parley/TableEntryPinLaw", "take", "(IIII)[I"⟩ : MethodName) method_4_code 4 (some (.array .int)) :: ws) ({ frames := 0, cells := 1, slots := 3, locals := 0 } : Room)) (fun aa U => aa = #[(.int (3 : Int32)), (.int x0), (.int x1), (.int x2)] ∧ Z.Warmed39 U.vm ∧ U.heap = h0) (fun _ _ _ _ _ => True) (fun _ U o U' => ∃ v L, o = .returned v ∧ QT3 Z x0 x1 x2 h0 n0 v U'.heap L ∧ FrameEnd U o U' L ({ frames := 0, cells := 1, slots := 3, locals := 0 } : Room).cells ({ frames := 0, cells := 1, slots := 3, locals := 0 } : Room).slots) := by
  refine MetFree.of_bodySF (plainFor_of_name pn_com_example_parley_parley_TableEntryPinLaw) hisR ?_
  intro p e s m args below meth c s₁ Bd hml0 hP hK
  obtain ⟨rfl, hZ, hh⟩ := hP
  have hx := Bd.exec
  have hby := Bd.bytes
  have hlk := BodyLoose.notSynchronized Bd
  have hret := Bd.returns
  have hml : c.maxLocals = 4 := hml0
  have hown : s.vm.findClass "com/example/parley/parley/TableEntryPinLaw" = some m.cls := findClass_of_methodNamed Bd.named
  have hnm := (name_of_methodNamed Bd.named Bd.method).1
  have X0 : Stand p l e ({ frames := 0, cells := 1, slots := 3, locals := 0 } : Room) s m #[(.int (3 : Int32)), (.int x0), (.int x1), (.int x2)] below meth c s₁ [] 0 0 := Stand.of_body Bd
  have e0 : s₁.heap = h0 := by rw [← hh, Bd.state]; rfl
  have N0 := Fr.nil n0
  refine Goes.st (s := s) (Q := QT3 Z x0 x1 x2 h0 n0) (cs := ({ frames := 0, cells := 1, slots := 3, locals := 0 } : Room).cells) (ss := ({ frames := 0, cells := 1, slots := 3, locals := 0 } : Room).slots) (fun t k => castTop (ef_T3 m (3 : Int32) x0 x1 x2) k) ?_
  have K0 : Keep h0 h0 [] := Keep.refl _ _
  show Goes p e below s _ _ _ (s₁.setTop (mkF m 0 #[.val (.int (3 : Int32)), .val (.int x0), .val (.int x1), .val (.int x2)] []))
  refine Goes.st (fun t k => XS.iloadN X0.here hx rfl (hb hby d_method_4_0) rfl k) ?_
  show Goes p e below s _ _ _ (s₁.setTop (mkF m 1 #[.val (.int (3 : Int32)), .val (.int x0), .val (.int x1), .val (.int x2)] [(.int (3 : Int32))]))
  refine Goes.st (fun t k => XS.ifYes X0.here hx rfl (pc0 := 1) (pc' := 8) rfl (hb hby d_method_4_1) rfl (by decide) (by decide) (by decide) k) ?_
  show Goes p e below s _ _ _ (s₁.setTop (mkF m 8 #[.val (.int (3 : Int32)), .val (.int x0), .val (.int x1), .val (.int x2)] []))
  refine Goes.st (fun t k => XS.iloadN X0.here hx rfl (hb hby d_method_4_8) rfl k) ?_
  show Goes p e below s _ _ _ (s₁.setTop (mkF m 9 #[.val (.int (3 : Int32)), .val (.int x0), .val (.int x1), .val (.int x2)] [(.int (3 : Int32))]))
  refine Goes.st (fun t k => XS.iconst X0.here hx rfl (hb hby d_method_4_9) k) ?_
  show Goes p e below s _ _ _ (s₁.setTop (mkF m 10 #[.val (.int (3 : Int32)), .val (.int x0), .val (.int x1), .val (.int x2)] [(.int (1 : Int32)), (.int (3 : Int32))]))
  refine Goes.st (fun t k => XS.icmpYes X0.here hx rfl (pc0 := 10) (pc' := 21) rfl (hb hby d_method_4_10) rfl (by decide) (by decide) (by decide) k) ?_
  show Goes p e below s _ _ _ (s₁.setTop (mkF m 21 #[.val (.int (3 : Int32)), .val (.int x0), .val (.int x1), .val (.int x2)] []))
  refine Goes.st (fun t k => XS.iloadN X0.here hx rfl (hb hby d_method_4_21) rfl k) ?_
  show Goes p e below s _ _ _ (s₁.setTop (mkF m 22 #[.val (.int (3 : Int32)), .val (.int x0), .val (.int x1), .val (.int x2)] [(.int (3 : Int32))]))
  refine Goes.st (fun t k => XS.iconst X0.here hx rfl (hb hby d_method_4_22) k) ?_
  show Goes p e below s _ _ _ (s₁.setTop (mkF m 23 #[.val (.int (3 : Int32)), .val (.int x0), .val (.int x1), .val (.int x2)] [(.int (2 : Int32)), (.int (3 : Int32))]))
  refine Goes.st (fun t k => XS.icmpYes X0.here hx rfl (pc0 := 23) (pc' := 38) rfl (hb hby d_method_4_23) rfl (by decide) (by decide) (by decide) k) ?_
  show Goes p e below s _ _ _ (s₁.setTop (mkF m 38 #[.val (.int (3 : Int32)), .val (.int x0), .val (.int x1), .val (.int x2)] []))
  refine Goes.st (fun t k => XS.iconst X0.here hx rfl (hb hby d_method_4_38) k) ?_
  show Goes p e below s _ _ _ (s₁.setTop (mkF m 39 #[.val (.int (3 : Int32)), .val (.int x0), .val (.int x1), .val (.int x2)] [(.int (3 : Int32))]))
  obtain ⟨T1, h1, cA1, X1, e1, E1, A1, st1⟩ := newP X0 hx hZ (hw _ (List.mem_of_getElem? (i := 4) rfl)) e0 (g := (mkF m 39 #[.val (.int (3 : Int32)), .val (.int x0), .val (.int x1), .val (.int x2)] [(.int (3 : Int32))])) rfl (hb hby d_method_4_39) rfl (by decide) (cap := 3) (by decide) (by decide) (by decide) (by decide)
  obtain ⟨b1, g1⟩ : ∃ z, z = h0.size := ⟨_, rfl⟩
  rw [← g1] at A1 st1
  have lo_b1 : n0 ≤ b1 := by have := Z0; omega
  have sz_b1 : h0.size ≤ b1 := by have := K0.1; omega
  have KK2 := K0.ext E1
  have V1 : Arv Z h1 b1 cA1 .int (3 : Int32) [(.int (0 : Int32)), (.int (0 : Int32)), (.int (0 : Int32))] (.int (0 : Int32)) := (Arv.new A1 (by decide)).pad (pad_rep [] _ 3)
  refine Goes.st st1 ?_
  have Z1 : n0 ≤ h1.size := Nat.le_trans Z0 E1.1
  show Goes p e below s _ _ _ (T1.setTop (mkF m 41 #[.val (.int (3 : Int32)), .val (.int x0), .val (.int x1), .val (.int x2)] [(.ref b1)]))
  refine Goes.st (fun t k => XS.dup X1.here hx rfl (hb hby d_method_4_41) rfl rfl k) ?_
  show Goes p e below s _ _ _ (T1.setTop (mkF m 42 #[.val (.int (3 : Int32)), .val (.int x0), .val (.int x1), .val (.int x2)] [(.ref b1), (.ref b1)]))
  refine Goes.st (fun t k => XS.iconst X1.here hx rfl (hb hby d_method_4_42) k) ?_
  show Goes p e below s _ _ _ (T1.setTop (mkF m 43 #[.val (.int (3 : Int32)), .val (.int x0), .val (.int x1), .val (.int x2)] [(.int (0 : Int32)), (.ref b1), (.ref b1)]))
  refine Goes.st (fun t k => XS.iloadN X1.here hx rfl (hb hby d_method_4_43) rfl k) ?_
  show Goes p e below s _ _ _ (T1.setTop (mkF m 44 #[.val (.int (3 : Int32)), .val (.int x0), .val (.int x1), .val (.int x2)] [(.int x0), (.int (0 : Int32)), (.ref b1), (.ref b1)]))
  obtain ⟨cl3, Ar3, qk3, Sz3, qz3, Ha3, Gf3⟩ := id V1
  obtain ⟨T3, h3, X3, e3, W3, st3⟩ := stI X1 hx hZ e1 Ar3 (inb_of Sz3 ⟨by decide, by decide⟩) (g := (mkF m 44 #[.val (.int (3 : Int32)), .val (.int x0), .val (.int x1), .val (.int x2)] [(.int x0), (.int (0 : Int32)), (.ref b1), (.ref b1)])) rfl rfl (hb hby d_method_4_44)
  have N3 := Fr.snoc X3 N0 lo_b1
  have V3 : Arv Z h3 b1 cA1 .int (3 : Int32) [(.int x0), (.int (0 : Int32)), (.int (0 : Int32))] (.int (0 : Int32)) := Arv.set Ar3 qk3 Sz3 qz3 Ha3 Gf3 rfl W3 0 (by decide) (by simp)
  refine Goes.st st3 ?_
  have KK4 := KK2.wr W3 (Or.inr sz_b1)
  have Z3 : n0 ≤ h3.size := by have := W3.size; have := Z1; omega
  show Goes p e below s _ _ _ (T3.setTop (mkF m 45 #[.val (.int (3 : Int32)), .val (.int x0), .val (.int x1), .val (.int x2)] [(.ref b1)]))
  refine Goes.st (fun t k => XS.dup X3.here hx rfl (hb hby d_method_4_45) rfl rfl k) ?_
  show Goes p e below s _ _ _ (T3.setTop (mkF m 46 #[.val (.int (3 : Int32)), .val (.int x0), .val (.int x1), .val (.int x2)] [(.ref b1), (.ref b1)]))
  refine Goes.st (fun t k => XS.iconst X3.here hx rfl (hb hby d_method_4_46) k) ?_
  show Goes p e below s _ _ _ (T3.setTop (mkF m 47 #[.val (.int (3 : Int32)), .val (.int x0), .val (.int x1), .val (.int x2)] [(.int (1 : Int32)), (.ref b1), (.ref b1)]))
  refine Goes.st (fun t k => XS.iloadN X3.here hx rfl (hb hby d_method_4_47) rfl k) ?_
  show Goes p e below s _ _ _ (T3.setTop (mkF m 48 #[.val (.int (3 : Int32)), .val (.int x0), .val (.int x1), .val (.int x2)] [(.int x1), (.int (1 : Int32)), (.ref b1), (.ref b1)]))
  obtain ⟨cl5, Ar5, qk5, Sz5, qz5, Ha5, Gf5⟩ := id V3
  obtain ⟨T5, h5, X5, e5, W5, st5⟩ := stI X3 hx hZ e3 Ar5 (inb_of Sz5 ⟨by decide, by decide⟩) (g := (mkF m 48 #[.val (.int (3 : Int32)), .val (.int x0), .val (.int x1), .val (.int x2)] [(.int x1), (.int (1 : Int32)), (.ref b1), (.ref b1)])) rfl rfl (hb hby d_method_4_48)
  have N5 := Fr.snoc X5 N3 lo_b1
  have V5 : Arv Z h5 b1 cA1 .int (3 : Int32) [(.int x0), (.int x1), (.int (0 : Int32))] (.int (0 : Int32)) := Arv.set Ar5 qk5 Sz5 qz5 Ha5 Gf5 rfl W5 1 (by decide) (by simp)
  refine Goes.st st5 ?_
  have KK6 := KK4.wr W5 (Or.inr sz_b1)
  have Z5 : n0 ≤ h5.size := by have := W5.size; have := Z3; omega
  show Goes p e below s _ _ _ (T5.setTop (mkF m 49 #[.val (.int (3 : Int32)), .val (.int x0), .val (.int x1), .val (.int x2)] [(.ref b1)]))
  refine Goes.st (fun t k => XS.dup X5.here hx rfl (hb hby d_method_4_49) rfl rfl k) ?_
  show Goes p e below s _ _ _ (T5.setTop (mkF m 50 #[.val (.int (3 : Int32)), .val (.int x0), .val (.int x1), .val (.int x2)] [(.ref b1), (.ref b1)]))
  refine Goes.st (fun t k => XS.iconst X5.here hx rfl (hb hby d_method_4_50) k) ?_
  show Goes p e below s _ _ _ (T5.setTop (mkF m 51 #[.val (.int (3 : Int32)), .val (.int x0), .val (.int x1), .val (.int x2)] [(.int (2 : Int32)), (.ref b1), (.ref b1)]))
  refine Goes.st (fun t k => XS.iloadN X5.here hx rfl (hb hby d_method_4_51) rfl k) ?_
  show Goes p e below s _ _ _ (T5.setTop (mkF m 52 #[.val (.int (3 : Int32)), .val (.int x0), .val (.int x1), .val (.int x2)] [(.int x2), (.int (2 : Int32)), (.ref b1), (.ref b1)]))
  obtain ⟨cl7, Ar7, qk7, Sz7, qz7, Ha7, Gf7⟩ := id V5
  obtain ⟨T7, h7, X7, e7, W7, st7⟩ := stI X5 hx hZ e5 Ar7 (inb_of Sz7 ⟨by decide, by decide⟩) (g := (mkF m 52 #[.val (.int (3 : Int32)), .val (.int x0), .val (.int x1), .val (.int x2)] [(.int x2), (.int (2 : Int32)), (.ref b1), (.ref b1)])) rfl rfl (hb hby d_method_4_52)
  have N7 := Fr.snoc X7 N5 lo_b1
  have V7 : Arv Z h7 b1 cA1 .int (3 : Int32) [(.int x0), (.int x1), (.int x2)] (.int (0 : Int32)) := Arv.set Ar7 qk7 Sz7 qz7 Ha7 Gf7 rfl W7 2 (by decide) (by simp)
  refine Goes.st st7 ?_
  have KK8 := KK6.wr W7 (Or.inr sz_b1)
  have Z7 : n0 ≤ h7.size := by have := W7.size; have := Z5; omega
  show Goes p e below s _ _ _ (T7.setTop (mkF m 53 #[.val (.int (3 : Int32)), .val (.int x0), .val (.int x1), .val (.int x2)] [(.ref b1)]))
  refine Goes.retA X7 hx hlk hret rfl rfl rfl (hb hby d_method_4_53) ?_ (by decide) (by decide)
  rw [e7]
  exact ⟨b1, cA1, rfl, N7, KK8, sz_b1, lo_b1, V7⟩
theorem d_jdk_30_method_1_0 : decode jdk_30_method_1_code 0 = .ok (.aload_n 0, 1) := by decide +kernel
theorem d_jdk_30_method_1_1 : decode jdk_30_method_1_code 1 = .ok (.invokespecial 1, 3) := by decide +kernel
theorem d_jdk_30_method_1_4 : decode jdk_30_method_1_code 4 = .ok (.return_, 1) := by decide +kernel
theorem pn_java_lang_Record : plainName "java/lang/Record" = true := by first | (simp [plainName, overriddenIn]; done) | decide +kernel
theorem ef_Rec (m : MethodId) (x0 : Addr) : entryFrame m #[(.ref x0)] 1 = mkF m 0 #[.val (.ref x0)] [] := by first | (simp [entryFrame, mkF, argsToLocals, Value.category]; done) | rfl
def QRec (Z : State) (a : Addr) (h0 : Heap) (n0 : Nat) (v : Option Value) (h : Heap) (L : List Loc) : Prop := v = none ∧ Fr n0 L ∧ h = h0
set_option maxRecDepth 65536 in
set_option maxHeartbeats 40000000 in
theorem rmRec (l : Launch) (Z : State) (a0 : Array Value) (hw : ∀ d ∈ tables_1, d.before a0 Z = true) (ws : List Jvm.Cond) (a : Addr) (h0 : Heap) (n0 : Nat) (Z0 : n0 ≤ h0.size)  :
    MetFree l (⟨"java/lang/Record", "<init>", "()V"⟩ : MethodName) (head1 (Jvm.Cond.code (⟨"java/lang/Record", "<init>", "()V"⟩ : MethodName) jdk_30_method_1_code 1 none :: ws) ({ frames := 1, cells := 0, slots := 0, locals := 12 } : Room)) (fun aa U => aa = #[(.ref a)] ∧ Z.Warmed39 U.vm ∧ U.heap = h0) (fun _ _ _ _ _ => True) (fun _ U o U' => ∃ v L, o = .returned v ∧ QRec Z a h0 n0 v U'.heap L ∧ FrameEnd U o U' L ({ frames := 1, cells := 0, slots := 0, locals := 12 } : Room).cells ({ frames := 1, cells := 0, slots := 0, locals := 12 } : Room).slots) := by
  refine MetFree.of_bodySF (plainFor_of_name pn_java_lang_Record) hisR ?_
  intro p e s m args below meth c s₁ Bd hml0 hP hK
  obtain ⟨rfl, hZ, hh⟩ := hP
  have hx := Bd.exec
  have hby := Bd.bytes
  have hlk := BodyLoose.notSynchronized Bd
  have hret := Bd.returns
  have hml : c.maxLocals = 1 := hml0
  have hown : s.vm.findClass "java/lang/Record" = some m.cls := findClass_of_methodNamed Bd.named
  have hnm := (name_of_methodNamed Bd.named Bd.method).1
  have X0 : Stand p l e ({ frames := 1, cells := 0, slots := 0, locals := 12 } : Room) s m #[(.ref a)] below meth c s₁ [] 0 0 := Stand.of_body Bd
  have e0 : s₁.heap = h0 := by rw [← hh, Bd.state]; rfl
  have N0 := Fr.nil n0
  refine Goes.st (s := s) (Q := QRec Z a h0 n0) (cs := ({ frames := 1, cells := 0, slots := 0, locals := 12 } : Room).cells) (ss := ({ frames := 1, cells := 0, slots := 0, locals := 12 } : Room).slots) (fun t k => castTop (ef_Rec m a) k) ?_
  show Goes p e below s _ _ _ (s₁.setTop (mkF m 0 #[.val (.ref a)] []))
  refine Goes.st (fun t k => XS.aloadN X0.here hx rfl (hb hby d_jdk_30_method_1_0) rfl rfl k) ?_
  show Goes p e below s _ _ _ (s₁.setTop (mkF m 1 #[.val (.ref a)] [(.ref a)]))
  obtain ⟨T1, X1, e1, st1⟩ := initO X0 hx hZ hown (hw _ (List.mem_of_getElem? (i := 82) rfl)) (hw _ (List.mem_of_getElem? (i := 83) rfl)) (hw _ (List.mem_of_getElem? (i := 84) rfl)) e0 (g := (mkF m 1 #[.val (.ref a)] [(.ref a)])) rfl (by rw [hml]; rfl) rfl (hb hby d_jdk_30_method_1_1) (by decide) (W := 0) (by show 2 * 0 + _ ≤ _; exact Nat.le_of_eq rfl) (by decide)
  refine Goes.st st1 ?_
  show Goes p e below s _ _ _ (T1.setTop (mkF m 4 #[.val (.ref a)] []))
  refine Goes.retV X1 hx hlk hret (hb hby d_jdk_30_method_1_4) ?_ (by decide) (by decide)
  rw [e1]
  exact ⟨rfl, N0, rfl⟩
theorem d_prog_53_method_1_0 : decode prog_53_method_1_code 0 = .ok (.aload_n 0, 1) := by decide +kernel
theorem d_prog_53_method_1_1 : decode prog_53_method_1_code 1 = .ok (.invokespecial 1, 3) := by decide +kernel
theorem d_prog_53_method_1_4 : decode prog_53_method_1_code 4 = .ok (.aload_n 0, 1) := by decide +kernel
theorem d_prog_53_method_1_5 : decode prog_53_method_1_code 5 = .ok (.aload_n 1, 1) := by decide +kernel
theorem d_prog_53_method_1_6 : decode prog_53_method_1_code 6 = .ok (.putfield 7, 3) := by decide +kernel
theorem d_prog_53_method_1_9 : decode prog_53_method_1_code 9 = .ok (.aload_n 0, 1) := by decide +kernel
theorem d_prog_53_method_1_10 : decode prog_53_method_1_code 10 = .ok (.aload_n 2, 1) := by decide +kernel
theorem d_prog_53_method_1_11 : decode prog_53_method_1_code 11 = .ok (.putfield 13, 3) := by decide +kernel
theorem d_prog_53_method_1_14 : decode prog_53_method_1_code 14 = .ok (.aload_n 0, 1) := by decide +kernel
theorem d_prog_53_method_1_15 : decode prog_53_method_1_code 15 = .ok (.aload_n 3, 1) := by decide +kernel
theorem d_prog_53_method_1_16 : decode prog_53_method_1_code 16 = .ok (.putfield 16, 3) := by decide +kernel
theorem d_prog_53_method_1_19 : decode prog_53_method_1_code 19 = .ok (.return_, 1) := by decide +kernel
theorem pn_com_example_parley_parley_Table : plainName "com/example/parley/parley/Table" = true := by first | (simp [plainName, overriddenIn]; done) | decide +kernel
theorem pd___V_566 : parseMethodDescriptor "()V" = some ⟨[], none⟩ := by decide +kernel
theorem ef_C (m : MethodId) (x0 : Addr) (x1 : Addr) (x2 : Addr) (x3 : Addr) : entryFrame m #[(.ref x0), (.ref x1), (.ref x2), (.ref x3)] 4 = mkF m 0 #[.val (.ref x0), .val (.ref x1), .val (.ref x2), .val (.ref x3)] [] := by first | (simp [entryFrame, mkF, argsToLocals, Value.category]; done) | rfl
def QC (Z : State) (a : Addr) (rv rs re : Addr) (u0 u1 u2 : Value) (h0 : Heap) (n0 : Nat) (v : Option Value) (h : Heap) (L : List Loc) : Prop := v = none ∧ Fr n0 L ∧ Keep h0 h [a] ∧ Fld Z h a "com/example/parley/parley/Table" "variables" "[I" (.ref rv) ∧ Fld Z h a "com/example/parley/parley/Table" "sizes" "[I" (.ref rs) ∧ Fld Z h a "com/example/parley/parley/Table" "entries" "[D" (.ref re)
set_option maxRecDepth 65536 in
set_option maxHeartbeats 40000000 in
theorem rmC (l : Launch) (Z : State) (a0 : Array Value) (hw : ∀ d ∈ tables_1, d.before a0 Z = true) (ws : List Jvm.Cond) (a : Addr) (rv rs re : Addr) (u0 u1 u2 : Value) (h0 : Heap) (n0 : Nat) (Z0 : n0 ≤ h0.size) (Ea : Exa Z h0 a "com/example/parley/parley/Table") (ga : n0 ≤ a) (Fvariables : Fld Z h0 a "com/example/parley/parley/Table" "variables" "[I" u0) (Fsizes : Fld Z h0 a "com/example/parley/parley/Table" "sizes" "[I" u1) (Fentries : Fld Z h0 a "com/example/parley/parley/Table" "entries" "[D" u2) :
    MetFree l (⟨"com/example/parley/parley/Table", "<init>", "([I[I[D)V"⟩ : MethodName) (head1 (Jvm.Cond.code (⟨"com/example/parley/parley/Table", "<init>", "([I[I[D)V"⟩ : MethodName) prog_53_method_1_code 4 none :: ws) ({ frames := 2, cells := 0, slots := 0, locals := 24 } : Room)) (fun aa U => aa = #[(.ref a), (.ref rv), (.ref rs), (.ref re)] ∧ Z.Warmed39 U.vm ∧ U.heap = h0) (fun _ _ _ _ _ => True) (fun _ U o U' => ∃ v L, o = .returned v ∧ QC Z a rv rs re u0 u1 u2 h0 n0 v U'.heap L ∧ FrameEnd U o U' L ({ frames := 2, cells := 0, slots := 0, locals := 24 } : Room).cells ({ frames := 2, cells := 0, slots := 0, locals := 24 } : Room).slots) := by
  refine MetFree.of_bodySF (plainFor_of_name pn_com_example_parley_parley_Table) hisR ?_
  intro p e s m args below meth c s₁ Bd hml0 hP hK
  obtain ⟨rfl, hZ, hh⟩ := hP
  have hx := Bd.exec
  have hby := Bd.bytes
  have hlk := BodyLoose.notSynchronized Bd
  have hret := Bd.returns
  have hml : c.maxLocals = 4 := hml0
  have hown : s.vm.findClass "com/example/parley/parley/Table" = some m.cls := findClass_of_methodNamed Bd.named
  have hnm := (name_of_methodNamed Bd.named Bd.method).1
  have X0 : Stand p l e ({ frames := 2, cells := 0, slots := 0, locals := 24 } : Room) s m #[(.ref a), (.ref rv), (.ref rs), (.ref re)] below meth c s₁ [] 0 0 := Stand.of_body Bd
  have e0 : s₁.heap = h0 := by rw [← hh, Bd.state]; rfl
  have N0 := Fr.nil n0
  refine Goes.st (s := s) (Q := QC Z a rv rs re u0 u1 u2 h0 n0) (cs := ({ frames := 2, cells := 0, slots := 0, locals := 24 } : Room).cells) (ss := ({ frames := 2, cells := 0, slots := 0, locals := 24 } : Room).slots) (fun t k => castTop (ef_C m a rv rs re) k) ?_
  have K0 : Keep h0 h0 [a] := Keep.refl _ _
  show Goes p e below s _ _ _ (s₁.setTop (mkF m 0 #[.val (.ref a), .val (.ref rv), .val (.ref rs), .val (.ref re)] []))
  refine Goes.st (fun t k => XS.aloadN X0.here hx rfl (hb hby d_prog_53_method_1_0) rfl rfl k) ?_
  show Goes p e below s _ _ _ (s₁.setTop (mkF m 1 #[.val (.ref a), .val (.ref rv), .val (.ref rs), .val (.ref re)] [(.ref a)]))
  obtain ⟨_, _, ⟨T1, L1, k1, n1⟩, -, X1, ⟨Lc1, hQ1, l1, y1, z1⟩, st1⟩ := X0.specialBack hx (y := (⟨"java/lang/Record", "<init>", "()V"⟩ : MethodName)) rfl hown (mvT hZ (hw _ (List.mem_of_getElem? (i := 77) rfl))) (mvT hZ (hw _ (List.mem_of_getElem? (i := 78) rfl))) (mvT hZ (hw _ (List.mem_of_getElem? (i := 81) rfl))) (by decide) (backOf (W := 0) (rmRec l Z a0 hw [] a h0 n0 Z0 ) hZ (hw _ (List.mem_of_getElem? (i := 81) rfl)) (hw _ (List.mem_of_getElem? (i := 80) rfl)) (by decide) (by decide)) (g := (mkF m 1 #[.val (.ref a), .val (.ref rv), .val (.ref rs), .val (.ref re)] [(.ref a)])) rfl (by rw [hml]; rfl) (Steps.refl _) (a := a) (argsL := []) (rest := []) (lenOf pd___V_566 rfl) rfl (by show 2 * 0 + _ ≤ _; exact Nat.le_of_eq rfl) (hb hby d_prog_53_method_1_1) (fun _ _ => ⟨rfl, e0, (by decide : 0 + 0 ≤ 0), (by decide : 0 + 0 ≤ 0)⟩)
  dsimp only [Pt.U, Pt.locs, Pt.cells, Pt.slots] at X1 l1 y1 z1 st1 hQ1
  subst l1 y1 z1
  obtain ⟨rfl, N1q, eh1⟩ := hQ1
  have N1 := Fr.app N0 N1q
  refine Goes.sts st1 ?_
  show Goes p e below s _ _ _ (T1.setTop (mkF m 4 #[.val (.ref a), .val (.ref rv), .val (.ref rs), .val (.ref re)] []))
  refine Goes.st (fun t k => XS.aloadN X1.here hx rfl (hb hby d_prog_53_method_1_4) rfl rfl k) ?_
  show Goes p e below s _ _ _ (T1.setTop (mkF m 5 #[.val (.ref a), .val (.ref rv), .val (.ref rs), .val (.ref re)] [(.ref a)]))
  refine Goes.st (fun t k => XS.aloadN X1.here hx rfl (hb hby d_prog_53_method_1_5) rfl rfl k) ?_
  show Goes p e below s _ _ _ (T1.setTop (mkF m 6 #[.val (.ref a), .val (.ref rv), .val (.ref rs), .val (.ref re)] [(.ref rv), (.ref a)]))
  obtain ⟨T2, h2, X2, e2, W2, st2⟩ := putF X1 hx hZ hown (host := "") (Or.inl (hw _ (List.mem_of_getElem? (i := 85) rfl))) Via.refl eh1 Fvariables Ea (Or.inr ⟨(hw _ (List.mem_of_getElem? (i := 86) rfl)), rfl, hnm⟩) (hw _ (List.mem_of_getElem? (i := 72) rfl)) (ty := (.array .int)) (by decide) rfl rfl (g := (mkF m 6 #[.val (.ref a), .val (.ref rv), .val (.ref rs), .val (.ref re)] [(.ref rv), (.ref a)])) rfl rfl (hb hby d_prog_53_method_1_6)
  have N2 := Fr.snoc X2 N1 ga
  have G2 := Fvariables.same W2
  refine Goes.st st2 ?_
  have KK3 := K0.wr W2 (Or.inl (List.mem_of_getElem? (i := 0) rfl))
  have Z2 : n0 ≤ h2.size := by have := W2.size; have := Z0; omega
  show Goes p e below s _ _ _ (T2.setTop (mkF m 9 #[.val (.ref a), .val (.ref rv), .val (.ref rs), .val (.ref re)] []))
  refine Goes.st (fun t k => XS.aloadN X2.here hx rfl (hb hby d_prog_53_method_1_9) rfl rfl k) ?_
  show Goes p e below s _ _ _ (T2.setTop (mkF m 10 #[.val (.ref a), .val (.ref rv), .val (.ref rs), .val (.ref re)] [(.ref a)]))
  refine Goes.st (fun t k => XS.aloadN X2.here hx rfl (hb hby d_prog_53_method_1_10) rfl rfl k) ?_
  show Goes p e below s _ _ _ (T2.setTop (mkF m 11 #[.val (.ref a), .val (.ref rv), .val (.ref rs), .val (.ref re)] [(.ref rs), (.ref a)]))
  have f5 := (Fsizes.other W2 (Or.inr (slot_ne (Or.inr (hw _ (List.mem_of_getElem? (i := 88) rfl))) (Or.inr (hw _ (List.mem_of_getElem? (i := 86) rfl))) (by decide) (t := (.array .int)) (t' := (.array .int)) (by decide) (by decide))))
  have f6 := (Ea.wr W2)
  obtain ⟨T4, h4, X4, e4, W4, st4⟩ := putF X2 hx hZ hown (host := "") (Or.inl (hw _ (List.mem_of_getElem? (i := 87) rfl))) Via.refl e2 f5 f6 (Or.inr ⟨(hw _ (List.mem_of_getElem? (i := 88) rfl)), rfl, hnm⟩) (hw _ (List.mem_of_getElem? (i := 72) rfl)) (ty := (.array .int)) (by decide) rfl rfl (g := (mkF m 11 #[.val (.ref a), .val (.ref rv), .val (.ref rs), .val (.ref re)] [(.ref rs), (.ref a)])) rfl rfl (hb hby d_prog_53_method_1_11)
  have N4 := Fr.snoc X4 N2 ga
  have G4 := f5.same W4
  refine Goes.st st4 ?_
  have KK7 := KK3.wr W4 (Or.inl (List.mem_of_getElem? (i := 0) rfl))
  have Z4 : n0 ≤ h4.size := by have := W4.size; have := Z2; omega
  show Goes p e below s _ _ _ (T4.setTop (mkF m 14 #[.val (.ref a), .val (.ref rv), .val (.ref rs), .val (.ref re)] []))
  refine Goes.st (fun t k => XS.aloadN X4.here hx rfl (hb hby d_prog_53_method_1_14) rfl rfl k) ?_
  show Goes p e below s _ _ _ (T4.setTop (mkF m 15 #[.val (.ref a), .val (.ref rv), .val (.ref rs), .val (.ref re)] [(.ref a)]))
  refine Goes.st (fun t k => XS.aloadN X4.here hx rfl (hb hby d_prog_53_method_1_15) rfl rfl k) ?_
  show Goes p e below s _ _ _ (T4.setTop (mkF m 16 #[.val (.ref a), .val (.ref rv), .val (.ref rs), .val (.ref re)] [(.ref re), (.ref a)]))
  have f9 := ((Fentries.other W2 (Or.inr (slot_ne (Or.inr (hw _ (List.mem_of_getElem? (i := 90) rfl))) (Or.inr (hw _ (List.mem_of_getElem? (i := 86) rfl))) (by decide) (t := (.array .double)) (t' := (.array .int)) (by decide) (by decide)))).other W4 (Or.inr (slot_ne (Or.inr (hw _ (List.mem_of_getElem? (i := 90) rfl))) (Or.inr (hw _ (List.mem_of_getElem? (i := 88) rfl))) (by decide) (t := (.array .double)) (t' := (.array .int)) (by decide) (by decide))))
  have f10 := (f6.wr W4)
  obtain ⟨T8, h8, X8, e8, W8, st8⟩ := putF X4 hx hZ hown (host := "") (Or.inl (hw _ (List.mem_of_getElem? (i := 89) rfl))) Via.refl e4 f9 f10 (Or.inr ⟨(hw _ (List.mem_of_getElem? (i := 90) rfl)), rfl, hnm⟩) (hw _ (List.mem_of_getElem? (i := 72) rfl)) (ty := (.array .double)) (by decide) rfl rfl (g := (mkF m 16 #[.val (.ref a), .val (.ref rv), .val (.ref rs), .val (.ref re)] [(.ref re), (.ref a)])) rfl rfl (hb hby d_prog_53_method_1_16)
  have N8 := Fr.snoc X8 N4 ga
  have G8 := f9.same W8
  refine Goes.st st8 ?_
  have KK11 := KK7.wr W8 (Or.inl (List.mem_of_getElem? (i := 0) rfl))
  have Z8 : n0 ≤ h8.size := by have := W8.size; have := Z4; omega
  show Goes p e below s _ _ _ (T8.setTop (mkF m 19 #[.val (.ref a), .val (.ref rv), .val (.ref rs), .val (.ref re)] []))
  have f12 := ((G2.other W4 (Or.inr (slot_ne (Or.inr (hw _ (List.mem_of_getElem? (i := 86) rfl))) (Or.inr (hw _ (List.mem_of_getElem? (i := 88) rfl))) (by decide) (t := (.array .int)) (t' := (.array .int)) (by decide) (by decide)))).other W8 (Or.inr (slot_ne (Or.inr (hw _ (List.mem_of_getElem? (i := 86) rfl))) (Or.inr (hw _ (List.mem_of_getElem? (i := 90) rfl))) (by decide) (t := (.array .int)) (t' := (.array .double)) (by decide) (by decide))))
  have f13 := (G4.other W8 (Or.inr (slot_ne (Or.inr (hw _ (List.mem_of_getElem? (i := 88) rfl))) (Or.inr (hw _ (List.mem_of_getElem? (i := 90) rfl))) (by decide) (t := (.array .int)) (t' := (.array .double)) (by decide) (by decide))))
  refine Goes.retV X8 hx hlk hret (hb hby d_prog_53_method_1_19) ?_ (by decide) (by decide)
  rw [e8]
  exact ⟨rfl, N8, KK11, f12, f13, G8⟩
theorem d_prog_53_method_3_0 : decode prog_53_method_3_code 0 = .ok (.iconst 0, 1) := by decide +kernel
theorem d_prog_53_method_3_1 : decode prog_53_method_3_code 1 = .ok (.istore_n 3, 1) := by decide +kernel
theorem d_prog_53_method_3_2 : decode prog_53_method_3_code 2 = .ok (.iconst 0, 1) := by decide +kernel
theorem d_prog_53_method_3_3 : decode prog_53_method_3_code 3 = .ok (.istore 4, 2) := by decide +kernel
theorem d_prog_53_method_3_5 : decode prog_53_method_3_code 5 = .ok (.iload 4, 2) := by decide +kernel
theorem d_prog_53_method_3_7 : decode prog_53_method_3_code 7 = .ok (.aload_n 2, 1) := by decide +kernel
theorem d_prog_53_method_3_8 : decode prog_53_method_3_code 8 = .ok (.arraylength, 1) := by decide +kernel
theorem d_prog_53_method_3_9 : decode prog_53_method_3_code 9 = .ok (.if_icmp .ge 26, 3) := by decide +kernel
theorem d_prog_53_method_3_12 : decode prog_53_method_3_code 12 = .ok (.iload_n 3, 1) := by decide +kernel
theorem d_prog_53_method_3_13 : decode prog_53_method_3_code 13 = .ok (.aload_n 0, 1) := by decide +kernel
theorem d_prog_53_method_3_14 : decode prog_53_method_3_code 14 = .ok (.getfield 13, 3) := by decide +kernel
theorem d_prog_53_method_3_17 : decode prog_53_method_3_code 17 = .ok (.iload 4, 2) := by decide +kernel
theorem d_prog_53_method_3_19 : decode prog_53_method_3_code 19 = .ok (.iaload, 1) := by decide +kernel
theorem d_prog_53_method_3_20 : decode prog_53_method_3_code 20 = .ok (.imul, 1) := by decide +kernel
theorem d_prog_53_method_3_21 : decode prog_53_method_3_code 21 = .ok (.aload_n 1, 1) := by decide +kernel
theorem d_prog_53_method_3_22 : decode prog_53_method_3_code 22 = .ok (.aload_n 2, 1) := by decide +kernel
theorem d_prog_53_method_3_23 : decode prog_53_method_3_code 23 = .ok (.iload 4, 2) := by decide +kernel
theorem d_prog_53_method_3_25 : decode prog_53_method_3_code 25 = .ok (.iaload, 1) := by decide +kernel
theorem d_prog_53_method_3_26 : decode prog_53_method_3_code 26 = .ok (.iaload, 1) := by decide +kernel
theorem d_prog_53_method_3_27 : decode prog_53_method_3_code 27 = .ok (.iadd, 1) := by decide +kernel
theorem d_prog_53_method_3_28 : decode prog_53_method_3_code 28 = .ok (.istore_n 3, 1) := by decide +kernel
theorem d_prog_53_method_3_29 : decode prog_53_method_3_code 29 = .ok (.iinc 4 1, 3) := by decide +kernel
theorem d_prog_53_method_3_32 : decode prog_53_method_3_code 32 = .ok (.goto (-27), 3) := by decide +kernel
theorem d_prog_53_method_3_35 : decode prog_53_method_3_code 35 = .ok (.aload_n 0, 1) := by decide +kernel
theorem d_prog_53_method_3_36 : decode prog_53_method_3_code 36 = .ok (.getfield 16, 3) := by decide +kernel
theorem d_prog_53_method_3_39 : decode prog_53_method_3_code 39 = .ok (.iload_n 3, 1) := by decide +kernel
theorem d_prog_53_method_3_40 : decode prog_53_method_3_code 40 = .ok (.daload, 1) := by decide +kernel
theorem d_prog_53_method_3_41 : decode prog_53_method_3_code 41 = .ok (.dreturn, 1) := by decide +kernel
theorem ef_E0 (m : MethodId) (x0 : Addr) (x1 : Addr) (x2 : Addr) : entryFrame m #[(.ref x0), (.ref x1), (.ref x2)] 5 = mkF m 0 #[.val (.ref x0), .val (.ref x1), .val (.ref x2), .unset, .unset] [] := by first | (simp [entryFrame, mkF, argsToLocals, Value.category]; done) | rfl
def QE0 (Z : State) (a aF aA aS aE : Addr) (kA kS kF kE : ClassId) (fl el : List Value) (r : UInt64) (h0 : Heap) (n0 : Nat) (v : Option Value) (h : Heap) (L : List Loc) : Prop := v = some (.double r) ∧ Fr n0 L ∧ h = h0
set_option maxRecDepth 65536 in
set_option maxHeartbeats 40000000 in
theorem rmE0 (l : Launch) (Z : State) (a0 : Array Value) (hw : ∀ d ∈ tables_1, d.before a0 Z = true) (ws : List Jvm.Cond) (a aF aA aS aE : Addr) (kA kS kF kE : ClassId) (fl el : List Value) (r : UInt64) (h0 : Heap) (n0 : Nat) (Z0 : n0 ≤ h0.size) (Fs : Fld Z h0 a "com/example/parley/parley/Table" "sizes" "[I" (.ref aS)) (Fe : Fld Z h0 a "com/example/parley/parley/Table" "entries" "[D" (.ref aE)) (VA : Arv Z h0 aA kA .int (0 : Int32) [] (.int (0 : Int32))) (VS : Arv Z h0 aS kS .int (0 : Int32) [] (.int (0 : Int32))) (VF : Arv Z h0 aF kF .int (4 : Int32) fl (.int (0 : Int32))) (VE : Arv Z h0 aE kE .double (64 : Int32) el (.double (0 : UInt64))) (hE : ¬ (0 : Int32) < 0 ∧ (0 : Int32) < 64) (he : el.getD ((0 : Int32)).toNatClampNeg (.double (0 : UInt64)) = .double r) :
    MetFree l (⟨"com/example/parley/parley/Table", "entry", "([I[I)D"⟩ : MethodName) (head1 (Jvm.Cond.code (⟨"com/example/parley/parley/Table", "entry", "([I[I)D"⟩ : MethodName) prog_53_method_3_code 5 (some .double) :: ws) ({ frames := 0, cells := 0, slots := 0, locals := 0 } : Room)) (fun aa U => aa = #[(.ref a), (.ref aF), (.ref aA)] ∧ Z.Warmed39 U.vm ∧ U.heap = h0) (fun _ _ _ _ _ => True) (fun _ U o U' => ∃ v L, o = .returned v ∧ QE0 Z a aF aA aS aE kA kS kF kE fl el r  h0 n0 v U'.heap L ∧ FrameEnd U o U' L ({ frames := 0, cells := 0, slots := 0, locals := 0 } : Room).cells ({ frames := 0, cells := 0, slots := 0, locals := 0 } : Room).slots) := by
  refine MetFree.of_bodySF (plainFor_of_name pn_com_example_parley_parley_Table) hisR ?_
  intro p e s m args below meth c s₁ Bd hml0 hP hK
  obtain ⟨rfl, hZ, hh⟩ := hP
  have hx := Bd.exec
  have hby := Bd.bytes
  have hlk := BodyLoose.notSynchronized Bd
  have hret := Bd.returns
  have hml : c.maxLocals = 5 := hml0
  have hown : s.vm.findClass "com/example/parley/parley/Table" = some m.cls := findClass_of_methodNamed Bd.named
  have hnm := (name_of_methodNamed Bd.named Bd.method).1
  have X0 : Stand p l e ({ frames := 0, cells := 0, slots := 0, locals := 0 } : Room) s m #[(.ref a), (.ref aF), (.ref aA)] below meth c s₁ [] 0 0 := Stand.of_body Bd
  have e0 : s₁.heap = h0 := by rw [← hh, Bd.state]; rfl
  have N0 := Fr.nil n0
  refine Goes.st (s := s) (Q := QE0 Z a aF aA aS aE kA kS kF kE fl el r  h0 n0) (cs := ({ frames := 0, cells := 0, slots := 0, locals := 0 } : Room).cells) (ss := ({ frames := 0, cells := 0, slots := 0, locals := 0 } : Room).slots) (fun t k => castTop (ef_E0 m a aF aA) k) ?_
  show Goes p e below s _ _ _ (s₁.setTop (mkF m 0 #[.val (.ref a), .val (.ref aF), .val (.ref aA), .unset, .unset] []))
  refine Goes.st (fun t k => XS.iconst X0.here hx rfl (hb hby d_prog_53_method_3_0) k) ?_
  show Goes p e below s _ _ _ (s₁.setTop (mkF m 1 #[.val (.ref a), .val (.ref aF), .val (.ref aA), .unset, .unset] [(.int (0 : Int32))]))
  refine Goes.st (fun t k => XS.istoreN X0.here hx rfl (hb hby d_prog_53_method_3_1) rfl (l' := #[.val (.ref a), .val (.ref aF), .val (.ref aA), .val (.int (0 : Int32)), .unset]) rfl k) ?_
  show Goes p e below s _ _ _ (s₁.setTop (mkF m 2 #[.val (.ref a), .val (.ref aF), .val (.ref aA), .val (.int (0 : Int32)), .unset] []))
  refine Goes.st (fun t k => XS.iconst X0.here hx rfl (hb hby d_prog_53_method_3_2) k) ?_
  show Goes p e below s _ _ _ (s₁.setTop (mkF m 3 #[.val (.ref a), .val (.ref aF), .val (.ref aA), .val (.int (0 : Int32)), .unset] [(.int (0 : Int32))]))
  refine Goes.st (fun t k => XS.istore X0.here hx rfl (hb hby d_prog_53_method_3_3) rfl (l' := #[.val (.ref a), .val (.ref aF), .val (.ref aA), .val (.int (0 : Int32)), .val (.int (0 : Int32))]) rfl k) ?_
  show Goes p e below s _ _ _ (s₁.setTop (mkF m 5 #[.val (.ref a), .val (.ref aF), .val (.ref aA), .val (.int (0 : Int32)), .val (.int (0 : Int32))] []))
  refine Goes.st (fun t k => XS.iload X0.here hx rfl (hb hby d_prog_53_method_3_5) rfl k) ?_
  show Goes p e below s _ _ _ (s₁.setTop (mkF m 7 #[.val (.ref a), .val (.ref aF), .val (.ref aA), .val (.int (0 : Int32)), .val (.int (0 : Int32))] [(.int (0 : Int32))]))
  refine Goes.st (fun t k => XS.aloadN X0.here hx rfl (hb hby d_prog_53_method_3_7) rfl rfl k) ?_
  show Goes p e below s _ _ _ (s₁.setTop (mkF m 8 #[.val (.ref a), .val (.ref aF), .val (.ref aA), .val (.int (0 : Int32)), .val (.int (0 : Int32))] [(.ref aA), (.int (0 : Int32))]))
  obtain ⟨cl1, Ar1, qk1, Sz1, qz1, Ha1, Gf1⟩ := id VA
  refine Goes.st (fun t k => X0.arraylength hx (cell := cl1) (by rw [e0]; exact Ar1.1) (State.isArrayOf_alike hZ.alike Ar1.2.1) (g := (mkF m 8 #[.val (.ref a), .val (.ref aF), .val (.ref aA), .val (.int (0 : Int32)), .val (.int (0 : Int32))] [(.ref aA), (.int (0 : Int32))])) rfl (rest := [(.int (0 : Int32))]) rfl (hb hby d_prog_53_method_3_8) t k) ?_
  rw [len_of Sz1 qz1]
  show Goes p e below s _ _ _ (s₁.setTop (mkF m 9 #[.val (.ref a), .val (.ref aF), .val (.ref aA), .val (.int (0 : Int32)), .val (.int (0 : Int32))] [(.int (0 : Int32)), (.int (0 : Int32))]))
  refine Goes.st (fun t k => XS.icmpYes X0.here hx rfl (pc0 := 9) (pc' := 35) rfl (hb hby d_prog_53_method_3_9) rfl (by decide) (by decide) (by decide) k) ?_
  show Goes p e below s _ _ _ (s₁.setTop (mkF m 35 #[.val (.ref a), .val (.ref aF), .val (.ref aA), .val (.int (0 : Int32)), .val (.int (0 : Int32))] []))
  refine Goes.st (fun t k => XS.aloadN X0.here hx rfl (hb hby d_prog_53_method_3_35) rfl rfl k) ?_
  show Goes p e below s _ _ _ (s₁.setTop (mkF m 36 #[.val (.ref a), .val (.ref aF), .val (.ref aA), .val (.int (0 : Int32)), .val (.int (0 : Int32))] [(.ref a)]))
  obtain ⟨T2, X2, e2, st2⟩ := getF X0 hx hZ hown (host := "") (Or.inl (hw _ (List.mem_of_getElem? (i := 89) rfl))) Via.refl e0 Fe (g := (mkF m 36 #[.val (.ref a), .val (.ref aF), .val (.ref aA), .val (.int (0 : Int32)), .val (.int (0 : Int32))] [(.ref a)])) rfl rfl (hb hby d_prog_53_method_3_36)
  refine Goes.st st2 ?_
  show Goes p e below s _ _ _ (T2.setTop (mkF m 39 #[.val (.ref a), .val (.ref aF), .val (.ref aA), .val (.int (0 : Int32)), .val (.int (0 : Int32))] [(.ref aE)]))
  refine Goes.st (fun t k => XS.iloadN X2.here hx rfl (hb hby d_prog_53_method_3_39) rfl k) ?_
  show Goes p e below s _ _ _ (T2.setTop (mkF m 40 #[.val (.ref a), .val (.ref aF), .val (.ref aA), .val (.int (0 : Int32)), .val (.int (0 : Int32))] [(.int (0 : Int32)), (.ref aE)]))
  obtain ⟨cl3, Ar3, qk3, Sz3, qz3, Ha3, Gf3⟩ := id VE
  have in3 := inb_of (j := (0 : Int32)) Sz3 ⟨by decide, by decide⟩
  refine Goes.st (fun t k => X2.daload hx (j := (0 : Int32)) (v := (.double r)) (by rw [e2]; exact Ar3.1) (State.isArrayOf_alike hZ.alike Ar3.2.1) Ar3.2.2 in3 (Ha3.at in3 he) (g := (mkF m 40 #[.val (.ref a), .val (.ref aF), .val (.ref aA), .val (.int (0 : Int32)), .val (.int (0 : Int32))] [(.int (0 : Int32)), (.ref aE)])) rfl rfl (hb hby d_prog_53_method_3_40) t k) ?_
  show Goes p e below s _ _ _ (T2.setTop (mkF m 41 #[.val (.ref a), .val (.ref aF), .val (.ref aA), .val (.int (0 : Int32)), .val (.int (0 : Int32))] [(.double r)]))
  refine Goes.retD X2 hx hlk hret (hb hby d_prog_53_method_3_41) ?_ (by decide) (by decide)
  rw [e2]
  exact ⟨rfl, N0, rfl⟩
theorem ef_E1 (m : MethodId) (x0 : Addr) (x1 : Addr) (x2 : Addr) : entryFrame m #[(.ref x0), (.ref x1), (.ref x2)] 5 = mkF m 0 #[.val (.ref x0), .val (.ref x1), .val (.ref x2), .unset, .unset] [] := by first | (simp [entryFrame, mkF, argsToLocals, Value.category]; done) | rfl
def QE1 (Z : State) (a aF aA aS aE : Addr) (kA kS kF kE : ClassId) (fl el : List Value) (r : UInt64) (p0 s0 v0 : Int32) (h0 : Heap) (n0 : Nat) (v : Option Value) (h : Heap) (L : List Loc) : Prop := v = some (.double r) ∧ Fr n0 L ∧ h = h0
set_option maxRecDepth 65536 in
set_option maxHeartbeats 40000000 in
theorem rmE1 (l : Launch) (Z : State) (a0 : Array Value) (hw : ∀ d ∈ tables_1, d.before a0 Z = true) (ws : List Jvm.Cond) (a aF aA aS aE : Addr) (kA kS kF kE : ClassId) (fl el : List Value) (r : UInt64) (p0 s0 v0 : Int32) (h0 : Heap) (n0 : Nat) (Z0 : n0 ≤ h0.size) (Fs : Fld Z h0 a "com/example/parley/parley/Table" "sizes" "[I" (.ref aS)) (Fe : Fld Z h0 a "com/example/parley/parley/Table" "entries" "[D" (.ref aE)) (VA : Arv Z h0 aA kA .int (1 : Int32) [(.int p0)] (.int (0 : Int32))) (VS : Arv Z h0 aS kS .int (1 : Int32) [(.int s0)] (.int (0 : Int32))) (VF : Arv Z h0 aF kF .int (4 : Int32) fl (.int (0 : Int32))) (VE : Arv Z h0 aE kE .double (64 : Int32) el (.double (0 : UInt64))) (hb0 : ¬ p0 < 0 ∧ p0 < 4) (hg0 : fl.getD p0.toNatClampNeg (.int (0 : Int32)) = .int v0) (hE : ¬ (((0 : Int32) * s0) + v0) < 0 ∧ (((0 : Int32) * s0) + v0) < 64) (he : el.getD ((((0 : Int32) * s0) + v0)).toNatClampNeg (.double (0 : UInt64)) = .double r) :
    MetFree l (⟨"com/example/parley/parley/Table", "entry", "([I[I)D"⟩ : MethodName) (head1 (Jvm.Cond.code (⟨"com/example/parley/parley/Table", "entry", "([I[I)D"⟩ : MethodName) prog_53_method_3_code 5 (some .double) :: ws) ({ frames := 0, cells := 0, slots := 0, locals := 0 } : Room)) (fun aa U => aa = #[(.ref a), (.ref aF), (.ref aA)] ∧ Z.Warmed39 U.vm ∧ U.heap = h0) (fun _ _ _ _ _ => True) (fun _ U o U' => ∃ v L, o = .returned v ∧ QE1 Z a aF aA aS aE kA kS kF kE fl el r p0 s0 v0 h0 n0 v U'.heap L ∧ FrameEnd U o U' L ({ frames := 0, cells := 0, slots := 0, locals := 0 } : Room).cells ({ frames := 0, cells := 0, slots := 0, locals := 0 } : Room).slots) := by
  refine MetFree.of_bodySF (plainFor_of_name pn_com_example_parley_parley_Table) hisR ?_
  intro p e s m args below meth c s₁ Bd hml0 hP hK
  obtain ⟨rfl, hZ, hh⟩ := hP
  have hx := Bd.exec
  have hby := Bd.bytes
  have hlk := BodyLoose.notSynchronized Bd
  have hret := Bd.returns
  have hml : c.maxLocals = 5 := hml0
  have hown : s.vm.findClass "com/example/parley/parley/Table" = some m.cls := findClass_of_methodNamed Bd.named
  have hnm := (name_of_methodNamed Bd.named Bd.method).1
  have X0 : Stand p l e ({ frames := 0, cells := 0, slots := 0, locals := 0 } : Room) s m #[(.ref a), (.ref aF), (.ref aA)] below meth c s₁ [] 0 0 := Stand.of_body Bd
  have e0 : s₁.heap = h0 := by rw [← hh, Bd.state]; rfl
  have N0 := Fr.nil n0
  refine Goes.st (s := s) (Q := QE1 Z a aF aA aS aE kA kS kF kE fl el r p0 s0 v0 h0 n0) (cs := ({ frames := 0, cells := 0, slots := 0, locals := 0 } : Room).cells) (ss := ({ frames := 0, cells := 0, slots := 0, locals := 0 } : Room).slots) (fun t k => castTop (ef_E1 m a aF aA) k) ?_
  show Goes p e below s _ _ _ (s₁.setTop (mkF m 0 #[.val (.ref a), .val (.ref aF), .val (.ref aA), .unset, .unset] []))
  refine Goes.st (fun t k => XS.iconst X0.here hx rfl (hb hby d_prog_53_method_3_0) k) ?_
  show Goes p e below s _ _ _ (s₁.setTop (mkF m 1 #[.val (.ref a), .val (.ref aF), .val (.ref aA), .unset, .unset] [(.int (0 : Int32))]))
  refine Goes.st (fun t k => XS.istoreN X0.here hx rfl (hb hby d_prog_53_method_3_1) rfl (l' := #[.val (.ref a), .val (.ref aF), .val (.ref aA), .val (.int (0 : Int32)), .unset]) rfl k) ?_
  show Goes p e below s _ _ _ (s₁.setTop (mkF m 2 #[.val (.ref a), .val (.ref aF), .val (.ref aA), .val (.int (0 : Int32)), .unset] []))
  refine Goes.st (fun t k => XS.iconst X0.here hx rfl (hb hby d_prog_53_method_3_2) k) ?_
  show Goes p e below s _ _ _ (s₁.setTop (mkF m 3 #[.val (.ref a), .val (.ref aF), .val (.ref aA), .val (.int (0 : Int32)), .unset] [(.int (0 : Int32))]))
  refine Goes.st (fun t k => XS.istore X0.here hx rfl (hb hby d_prog_53_method_3_3) rfl (l' := #[.val (.ref a), .val (.ref aF), .val (.ref aA), .val (.int (0 : Int32)), .val (.int (0 : Int32))]) rfl k) ?_
  show Goes p e below s _ _ _ (s₁.setTop (mkF m 5 #[.val (.ref a), .val (.ref aF), .val (.ref aA), .val (.int (0 : Int32)), .val (.int (0 : Int32))] []))
  refine Goes.st (fun t k => XS.iload X0.here hx rfl (hb hby d_prog_53_method_3_5) rfl k) ?_
  show Goes p e below s _ _ _ (s₁.setTop (mkF m 7 #[.val (.ref a), .val (.ref aF), .val (.ref aA), .val (.int (0 : Int32)), .val (.int (0 : Int32))] [(.int (0 : Int32))]))
  refine Goes.st (fun t k => XS.aloadN X0.here hx rfl (hb hby d_prog_53_method_3_7) rfl rfl k) ?_
  show Goes p e below s _ _ _ (s₁.setTop (mkF m 8 #[.val (.ref a), .val (.ref aF), .val (.ref aA), .val (.int (0 : Int32)), .val (.int (0 : Int32))] [(.ref aA), (.int (0 : Int32))]))
  obtain ⟨cl1, Ar1, qk1, Sz1, qz1, Ha1, Gf1⟩ := id VA
  refine Goes.st (fun t k => X0.arraylength hx (cell := cl1) (by rw [e0]; exact Ar1.1) (State.isArrayOf_alike hZ.alike Ar1.2.1) (g := (mkF m 8 #[.val (.ref a), .val (.ref aF), .val (.ref aA), .val (.int (0 : Int32)), .val (.int (0 : Int32))] [(.ref aA), (.int (0 : Int32))])) rfl (rest := [(.int (0 : Int32))]) rfl (hb hby d_prog_53_method_3_8) t k) ?_
  rw [len_of Sz1 qz1]
  show Goes p e below s _ _ _ (s₁.setTop (mkF m 9 #[.val (.ref a), .val (.ref aF), .val (.ref aA), .val (.int (0 : Int32)), .val (.int (0 : Int32))] [(.int (1 : Int32)), (.int (0 : Int32))]))
  refine Goes.st (fun t k => XS.icmpNo X0.here hx rfl (hb hby d_prog_53_method_3_9) rfl (by decide) k) ?_
  show Goes p e below s _ _ _ (s₁.setTop (mkF m 12 #[.val (.ref a), .val (.ref aF), .val (.ref aA), .val (.int (0 : Int32)), .val (.int (0 : Int32))] []))
  refine Goes.st (fun t k => XS.iloadN X0.here hx rfl (hb hby d_prog_53_method_3_12) rfl k) ?_
  show Goes p e below s _ _ _ (s₁.setTop (mkF m 13 #[.val (.ref a), .val (.ref aF), .val (.ref aA), .val (.int (0 : Int32)), .val (.int (0 : Int32))] [(.int (0 : Int32))]))
  refine Goes.st (fun t k => XS.aloadN X0.here hx rfl (hb hby d_prog_53_method_3_13) rfl rfl k) ?_
  show Goes p e below s _ _ _ (s₁.setTop (mkF m 14 #[.val (.ref a), .val (.ref aF), .val (.ref aA), .val (.int (0 : Int32)), .val (.int (0 : Int32))] [(.ref a), (.int (0 : Int32))]))
  obtain ⟨T2, X2, e2, st2⟩ := getF X0 hx hZ hown (host := "") (Or.inl (hw _ (List.mem_of_getElem? (i := 87) rfl))) Via.refl e0 Fs (g := (mkF m 14 #[.val (.ref a), .val (.ref aF), .val (.ref aA), .val (.int (0 : Int32)), .val (.int (0 : Int32))] [(.ref a), (.int (0 : Int32))])) rfl rfl (hb hby d_prog_53_method_3_14)
  refine Goes.st st2 ?_
  show Goes p e below s _ _ _ (T2.setTop (mkF m 17 #[.val (.ref a), .val (.ref aF), .val (.ref aA), .val (.int (0 : Int32)), .val (.int (0 : Int32))] [(.ref aS), (.int (0 : Int32))]))
  refine Goes.st (fun t k => XS.iload X2.here hx rfl (hb hby d_prog_53_method_3_17) rfl k) ?_
  show Goes p e below s _ _ _ (T2.setTop (mkF m 19 #[.val (.ref a), .val (.ref aF), .val (.ref aA), .val (.int (0 : Int32)), .val (.int (0 : Int32))] [(.int (0 : Int32)), (.ref aS), (.int (0 : Int32))]))
  obtain ⟨cl3, Ar3, qk3, Sz3, qz3, Ha3, Gf3⟩ := id VS
  have in3 := inb_of (j := (0 : Int32)) Sz3 ⟨by decide, by decide⟩
  refine Goes.st (fun t k => X2.iaload hx (j := (0 : Int32)) (v := (.int s0)) (by rw [e2]; exact Ar3.1) (State.isArrayOf_alike hZ.alike Ar3.2.1) Ar3.2.2 in3 (Ha3.at in3 rfl) (g := (mkF m 19 #[.val (.ref a), .val (.ref aF), .val (.ref aA), .val (.int (0 : Int32)), .val (.int (0 : Int32))] [(.int (0 : Int32)), (.ref aS), (.int (0 : Int32))])) rfl rfl (hb hby d_prog_53_method_3_19) t k) ?_
  show Goes p e below s _ _ _ (T2.setTop (mkF m 20 #[.val (.ref a), .val (.ref aF), .val (.ref aA), .val (.int (0 : Int32)), .val (.int (0 : Int32))] [(.int s0), (.int (0 : Int32))]))
  refine Goes.st (fun t k => XS.imul X2.here hx rfl (hb hby d_prog_53_method_3_20) rfl k) ?_
  show Goes p e below s _ _ _ (T2.setTop (mkF m 21 #[.val (.ref a), .val (.ref aF), .val (.ref aA), .val (.int (0 : Int32)), .val (.int (0 : Int32))] [(.int ((0 : Int32) * s0))]))
  refine Goes.st (fun t k => XS.aloadN X2.here hx rfl (hb hby d_prog_53_method_3_21) rfl rfl k) ?_
  show Goes p e below s _ _ _ (T2.setTop (mkF m 22 #[.val (.ref a), .val (.ref aF), .val (.ref aA), .val (.int (0 : Int32)), .val (.int (0 : Int32))] [(.ref aF), (.int ((0 : Int32) * s0))]))
  refine Goes.st (fun t k => XS.aloadN X2.here hx rfl (hb hby d_prog_53_method_3_22) rfl rfl k) ?_
  show Goes p e below s _ _ _ (T2.setTop (mkF m 23 #[.val (.ref a), .val (.ref aF), .val (.ref aA), .val (.int (0 : Int32)), .val (.int (0 : Int32))] [(.ref aA), (.ref aF), (.int ((0 : Int32) * s0))]))
  refine Goes.st (fun t k => XS.iload X2.here hx rfl (hb hby d_prog_53_method_3_23) rfl k) ?_
  show Goes p e below s _ _ _ (T2.setTop (mkF m 25 #[.val (.ref a), .val (.ref aF), .val (.ref aA), .val (.int (0 : Int32)), .val (.int (0 : Int32))] [(.int (0 : Int32)), (.ref aA), (.ref aF), (.int ((0 : Int32) * s0))]))
  obtain ⟨cl4, Ar4, qk4, Sz4, qz4, Ha4, Gf4⟩ := id VA
  have in4 := inb_of (j := (0 : Int32)) Sz4 ⟨by decide, by decide⟩
  refine Goes.st (fun t k => X2.iaload hx (j := (0 : Int32)) (v := (.int p0)) (by rw [e2]; exact Ar4.1) (State.isArrayOf_alike hZ.alike Ar4.2.1) Ar4.2.2 in4 (Ha4.at in4 rfl) (g := (mkF m 25 #[.val (.ref a), .val (.ref aF), .val (.ref aA), .val (.int (0 : Int32)), .val (.int (0 : Int32))] [(.int (0 : Int32)), (.ref aA), (.ref aF), (.int ((0 : Int32) * s0))])) rfl rfl (hb hby d_prog_53_method_3_25) t k) ?_
  show Goes p e below s _ _ _ (T2.setTop (mkF m 26 #[.val (.ref a), .val (.ref aF), .val (.ref aA), .val (.int (0 : Int32)), .val (.int (0 : Int32))] [(.int p0), (.ref aF), (.int ((0 : Int32) * s0))]))
  obtain ⟨cl5, Ar5, qk5, Sz5, qz5, Ha5, Gf5⟩ := id VF
  have in5 := inb_of (j := p0) Sz5 hb0
  refine Goes.st (fun t k => X2.iaload hx (j := p0) (v := (.int v0)) (by rw [e2]; exact Ar5.1) (State.isArrayOf_alike hZ.alike Ar5.2.1) Ar5.2.2 in5 (Ha5.at in5 hg0) (g := (mkF m 26 #[.val (.ref a), .val (.ref aF), .val (.ref aA), .val (.int (0 : Int32)), .val (.int (0 : Int32))] [(.int p0), (.ref aF), (.int ((0 : Int32) * s0))])) rfl rfl (hb hby d_prog_53_method_3_26) t k) ?_
  show Goes p e below s _ _ _ (T2.setTop (mkF m 27 #[.val (.ref a), .val (.ref aF), .val (.ref aA), .val (.int (0 : Int32)), .val (.int (0 : Int32))] [(.int v0), (.int ((0 : Int32) * s0))]))
  refine Goes.st (fun t k => XS.iadd X2.here hx rfl (hb hby d_prog_53_method_3_27) rfl k) ?_
  show Goes p e below s _ _ _ (T2.setTop (mkF m 28 #[.val (.ref a), .val (.ref aF), .val (.ref aA), .val (.int (0 : Int32)), .val (.int (0 : Int32))] [(.int (((0 : Int32) * s0) + v0))]))
  refine Goes.st (fun t k => XS.istoreN X2.here hx rfl (hb hby d_prog_53_method_3_28) rfl (l' := #[.val (.ref a), .val (.ref aF), .val (.ref aA), .val (.int (((0 : Int32) * s0) + v0)), .val (.int (0 : Int32))]) rfl k) ?_
  show Goes p e below s _ _ _ (T2.setTop (mkF m 29 #[.val (.ref a), .val (.ref aF), .val (.ref aA), .val (.int (((0 : Int32) * s0) + v0)), .val (.int (0 : Int32))] []))
  refine Goes.st (fun t k => XS.iinc X2.here hx rfl (hb hby d_prog_53_method_3_29) rfl (l' := #[.val (.ref a), .val (.ref aF), .val (.ref aA), .val (.int (((0 : Int32) * s0) + v0)), .val (.int (1 : Int32))]) rfl k) ?_
  show Goes p e below s _ _ _ (T2.setTop (mkF m 32 #[.val (.ref a), .val (.ref aF), .val (.ref aA), .val (.int (((0 : Int32) * s0) + v0)), .val (.int (1 : Int32))] []))
  refine Goes.st (fun t k => XS.goto X2.here hx rfl (pc0 := 32) (pc' := 5) rfl (hb hby d_prog_53_method_3_32) (by decide) (by decide) k) ?_
  show Goes p e below s _ _ _ (T2.setTop (mkF m 5 #[.val (.ref a), .val (.ref aF), .val (.ref aA), .val (.int (((0 : Int32) * s0) + v0)), .val (.int (1 : Int32))] []))
  refine Goes.st (fun t k => XS.iload X2.here hx rfl (hb hby d_prog_53_method_3_5) rfl k) ?_
  show Goes p e below s _ _ _ (T2.setTop (mkF m 7 #[.val (.ref a), .val (.ref aF), .val (.ref aA), .val (.int (((0 : Int32) * s0) + v0)), .val (.int (1 : Int32))] [(.int (1 : Int32))]))
  refine Goes.st (fun t k => XS.aloadN X2.here hx rfl (hb hby d_prog_53_method_3_7) rfl rfl k) ?_
  show Goes p e below s _ _ _ (T2.setTop (mkF m 8 #[.val (.ref a), .val (.ref aF), .val (.ref aA), .val (.int (((0 : Int32) * s0) + v0)), .val (.int (1 : Int32))] [(.ref aA), (.int (1 : Int32))]))
  obtain ⟨cl6, Ar6, qk6, Sz6, qz6, Ha6, Gf6⟩ := id VA
  refine Goes.st (fun t k => X2.arraylength hx (cell := cl6) (by rw [e2]; exact Ar6.1) (State.isArrayOf_alike hZ.alike Ar6.2.1) (g := (mkF m 8 #[.val (.ref a), .val (.ref aF), .val (.ref aA), .val (.int (((0 : Int32) * s0) + v0)), .val (.int (1 : Int32))] [(.ref aA), (.int (1 : Int32))])) rfl (rest := [(.int (1 : Int32))]) rfl (hb hby d_prog_53_method_3_8) t k) ?_
  rw [len_of Sz6 qz6]
  show Goes p e below s _ _ _ (T2.setTop (mkF m 9 #[.val (.ref a), .val (.ref aF), .val (.ref aA), .val (.int (((0 : Int32) * s0) + v0)), .val (.int (1 : Int32))] [(.int (1 : Int32)), (.int (1 : Int32))]))
  refine Goes.st (fun t k => XS.icmpYes X2.here hx rfl (pc0 := 9) (pc' := 35) rfl (hb hby d_prog_53_method_3_9) rfl (by decide) (by decide) (by decide) k) ?_
  show Goes p e below s _ _ _ (T2.setTop (mkF m 35 #[.val (.ref a), .val (.ref aF), .val (.ref aA), .val (.int (((0 : Int32) * s0) + v0)), .val (.int (1 : Int32))] []))
  refine Goes.st (fun t k => XS.aloadN X2.here hx rfl (hb hby d_prog_53_method_3_35) rfl rfl k) ?_
  show Goes p e below s _ _ _ (T2.setTop (mkF m 36 #[.val (.ref a), .val (.ref aF), .val (.ref aA), .val (.int (((0 : Int32) * s0) + v0)), .val (.int (1 : Int32))] [(.ref a)]))
  obtain ⟨T7, X7, e7, st7⟩ := getF X2 hx hZ hown (host := "") (Or.inl (hw _ (List.mem_of_getElem? (i := 89) rfl))) Via.refl e2 Fe (g := (mkF m 36 #[.val (.ref a), .val (.ref aF), .val (.ref aA), .val (.int (((0 : Int32) * s0) + v0)), .val (.int (1 : Int32))] [(.ref a)])) rfl rfl (hb hby d_prog_53_method_3_36)
  refine Goes.st st7 ?_
  show Goes p e below s _ _ _ (T7.setTop (mkF m 39 #[.val (.ref a), .val (.ref aF), .val (.ref aA), .val (.int (((0 : Int32) * s0) + v0)), .val (.int (1 : Int32))] [(.ref aE)]))
  refine Goes.st (fun t k => XS.iloadN X7.here hx rfl (hb hby d_prog_53_method_3_39) rfl k) ?_
  show Goes p e below s _ _ _ (T7.setTop (mkF m 40 #[.val (.ref a), .val (.ref aF), .val (.ref aA), .val (.int (((0 : Int32) * s0) + v0)), .val (.int (1 : Int32))] [(.int (((0 : Int32) * s0) + v0)), (.ref aE)]))
  obtain ⟨cl8, Ar8, qk8, Sz8, qz8, Ha8, Gf8⟩ := id VE
  have in8 := inb_of (j := (((0 : Int32) * s0) + v0)) Sz8 hE
  refine Goes.st (fun t k => X7.daload hx (j := (((0 : Int32) * s0) + v0)) (v := (.double r)) (by rw [e7]; exact Ar8.1) (State.isArrayOf_alike hZ.alike Ar8.2.1) Ar8.2.2 in8 (Ha8.at in8 he) (g := (mkF m 40 #[.val (.ref a), .val (.ref aF), .val (.ref aA), .val (.int (((0 : Int32) * s0) + v0)), .val (.int (1 : Int32))] [(.int (((0 : Int32) * s0) + v0)), (.ref aE)])) rfl rfl (hb hby d_prog_53_method_3_40) t k) ?_
  show Goes p e below s _ _ _ (T7.setTop (mkF m 41 #[.val (.ref a), .val (.ref aF), .val (.ref aA), .val (.int (((0 : Int32) * s0) + v0)), .val (.int (1 : Int32))] [(.double r)]))
  refine Goes.retD X7 hx hlk hret (hb hby d_prog_53_method_3_41) ?_ (by decide) (by decide)
  rw [e7]
  exact ⟨rfl, N0, rfl⟩
theorem ef_E2 (m : MethodId) (x0 : Addr) (x1 : Addr) (x2 : Addr) : entryFrame m #[(.ref x0), (.ref x1), (.ref x2)] 5 = mkF m 0 #[.val (.ref x0), .val (.ref x1), .val (.ref x2), .unset, .unset] [] := by first | (simp [entryFrame, mkF, argsToLocals, Value.category]; done) | rfl
def QE2 (Z : State) (a aF aA aS aE : Addr) (kA kS kF kE : ClassId) (fl el : List Value) (r : UInt64) (p0 s0 v0 p1 s1 v1 : Int32) (h0 : Heap) (n0 : Nat) (v : Option Value) (h : Heap) (L : List Loc) : Prop := v = some (.double r) ∧ Fr n0 L ∧ h = h0
set_option maxRecDepth 65536 in
set_option maxHeartbeats 40000000 in
theorem rmE2 (l : Launch) (Z : State) (a0 : Array Value) (hw : ∀ d ∈ tables_1, d.before a0 Z = true) (ws : List Jvm.Cond) (a aF aA aS aE : Addr) (kA kS kF kE : ClassId) (fl el : List Value) (r : UInt64) (p0 s0 v0 p1 s1 v1 : Int32) (h0 : Heap) (n0 : Nat) (Z0 : n0 ≤ h0.size) (Fs : Fld Z h0 a "com/example/parley/parley/Table" "sizes" "[I" (.ref aS)) (Fe : Fld Z h0 a "com/example/parley/parley/Table" "entries" "[D" (.ref aE)) (VA : Arv Z h0 aA kA .int (2 : Int32) [(.int p0), (.int p1)] (.int (0 : Int32))) (VS : Arv Z h0 aS kS .int (2 : Int32) [(.int s0), (.int s1)] (.int (0 : Int32))) (VF : Arv Z h0 aF kF .int (4 : Int32) fl (.int (0 : Int32))) (VE : Arv Z h0 aE kE .double (64 : Int32) el (.double (0 : UInt64))) (hb0 : ¬ p0 < 0 ∧ p0 < 4) (hg0 : fl.getD p0.toNatClampNeg (.int (0 : Int32)) = .int v0) (hb1 : ¬ p1 < 0 ∧ p1 < 4) (hg1 : fl.getD p1.toNatClampNeg (.int (0 : Int32)) = .int v1) (hE : ¬ (((((0 : Int32) * s0) + v0) * s1) + v1) < 0 ∧ (((((0 : Int32) * s0) + v0) * s1) + v1) < 64) (he : el.getD ((((((0 : Int32) * s0) + v0) * s1) + v1)).toNatClampNeg (.double (0 : UInt64)) = .double r) :
    MetFree l (⟨"com/example/parley/parley/Table", "entry", "([I[I)D"⟩ : MethodName) (head1 (Jvm.Cond.code (⟨"com/example/parley/parley/Table", "entry", "([I[I)D"⟩ : MethodName) prog_53_method_3_code 5 (some .double) :: ws) ({ frames := 0, cells := 0, slots := 0, locals := 0 } : Room)) (fun aa U => aa = #[(.ref a), (.ref aF), (.ref aA)] ∧ Z.Warmed39 U.vm ∧ U.heap = h0) (fun _ _ _ _ _ => True) (fun _ U o U' => ∃ v L, o = .returned v ∧ QE2 Z a aF aA aS aE kA kS kF kE fl el r p0 s0 v0 p1 s1 v1 h0 n0 v U'.heap L ∧ FrameEnd U o U' L ({ frames := 0, cells := 0, slots := 0, locals := 0 } : Room).cells ({ frames := 0, cells := 0, slots := 0, locals := 0 } : Room).slots) := by
  refine MetFree.of_bodySF (plainFor_of_name pn_com_example_parley_parley_Table) hisR ?_
  intro p e s m args below meth c s₁ Bd hml0 hP hK
  obtain ⟨rfl, hZ, hh⟩ := hP
  have hx := Bd.exec
  have hby := Bd.bytes
  have hlk := BodyLoose.notSynchronized Bd
  have hret := Bd.returns
  have hml : c.maxLocals = 5 := hml0
  have hown : s.vm.findClass "com/example/parley/parley/Table" = some m.cls := findClass_of_methodNamed Bd.named
  have hnm := (name_of_methodNamed Bd.named Bd.method).1
  have X0 : Stand p l e ({ frames := 0, cells := 0, slots := 0, locals := 0 } : Room) s m #[(.ref a), (.ref aF), (.ref aA)] below meth c s₁ [] 0 0 := Stand.of_body Bd
  have e0 : s₁.heap = h0 := by rw [← hh, Bd.state]; rfl
  have N0 := Fr.nil n0
  refine Goes.st (s := s) (Q := QE2 Z a aF aA aS aE kA kS kF kE fl el r p0 s0 v0 p1 s1 v1 h0 n0) (cs := ({ frames := 0, cells := 0, slots := 0, locals := 0 } : Room).cells) (ss := ({ frames := 0, cells := 0, slots := 0, locals := 0 } : Room).slots) (fun t k => castTop (ef_E2 m a aF aA) k) ?_
  show Goes p e below s _ _ _ (s₁.setTop (mkF m 0 #[.val (.ref a), .val (.ref aF), .val (.ref aA), .unset, .unset] []))
  refine Goes.st (fun t k => XS.iconst X0.here hx rfl (hb hby d_prog_53_method_3_0) k) ?_
  show Goes p e below s _ _ _ (s₁.setTop (mkF m 1 #[.val (.ref a), .val (.ref aF), .val (.ref aA), .unset, .unset] [(.int (0 : Int32))]))
  refine Goes.st (fun t k => XS.istoreN X0.here hx rfl (hb hby d_prog_53_method_3_1) rfl (l' := #[.val (.ref a), .val (.ref aF), .val (.ref aA), .val (.int (0 : Int32)), .unset]) rfl k) ?_
  show Goes p e below s _ _ _ (s₁.setTop (mkF m 2 #[.val (.ref a), .val (.ref aF), .val (.ref aA), .val (.int (0 : Int32)), .unset] []))
  refine Goes.st (fun t k => XS.iconst X0.here hx rfl (hb hby d_prog_53_method_3_2) k) ?_
  show Goes p e below s _ _ _ (s₁.setTop (mkF m 3 #[.val (.ref a), .val (.ref aF), .val (.ref aA), .val (.int (0 : Int32)), .unset] [(.int (0 : Int32))]))
  refine Goes.st (fun t k => XS.istore X0.here hx rfl (hb hby d_prog_53_method_3_3) rfl (l' := #[.val (.ref a), .val (.ref aF), .val (.ref aA), .val (.int (0 : Int32)), .val (.int (0 : Int32))]) rfl k) ?_
  show Goes p e below s _ _ _ (s₁.setTop (mkF m 5 #[.val (.ref a), .val (.ref aF), .val (.ref aA), .val (.int (0 : Int32)), .val (.int (0 : Int32))] []))
  refine Goes.st (fun t k => XS.iload X0.here hx rfl (hb hby d_prog_53_method_3_5) rfl k) ?_
  show Goes p e below s _ _ _ (s₁.setTop (mkF m 7 #[.val (.ref a), .val (.ref aF), .val (.ref aA), .val (.int (0 : Int32)), .val (.int (0 : Int32))] [(.int (0 : Int32))]))
  refine Goes.st (fun t k => XS.aloadN X0.here hx rfl (hb hby d_prog_53_method_3_7) rfl rfl k) ?_
  show Goes p e below s _ _ _ (s₁.setTop (mkF m 8 #[.val (.ref a), .val (.ref aF), .val (.ref aA), .val (.int (0 : Int32)), .val (.int (0 : Int32))] [(.ref aA), (.int (0 : Int32))]))
  obtain ⟨cl1, Ar1, qk1, Sz1, qz1, Ha1, Gf1⟩ := id VA
  refine Goes.st (fun t k => X0.arraylength hx (cell := cl1) (by rw [e0]; exact Ar1.1) (State.isArrayOf_alike hZ.alike Ar1.2.1) (g := (mkF m 8 #[.val (.ref a), .val (.ref aF), .val (.ref aA), .val (.int (0 : Int32)), .val (.int (0 : Int32))] [(.ref aA), (.int (0 : Int32))])) rfl (rest := [(.int (0 : Int32))]) rfl (hb hby d_prog_53_method_3_8) t k) ?_
  rw [len_of Sz1 qz1]
  show Goes p e below s _ _ _ (s₁.setTop (mkF m 9 #[.val (.ref a), .val (.ref aF), .val (.ref aA), .val (.int (0 : Int32)), .val (.int (0 : Int32))] [(.int (2 : Int32)), (.int (0 : Int32))]))
  refine Goes.st (fun t k => XS.icmpNo X0.here hx rfl (hb hby d_prog_53_method_3_9) rfl (by decide) k) ?_
  show Goes p e below s _ _ _ (s₁.setTop (mkF m 12 #[.val (.ref a), .val (.ref aF), .val (.ref aA), .val (.int (0 : Int32)), .val (.int (0 : Int32))] []))
  refine Goes.st (fun t k => XS.iloadN X0.here hx rfl (hb hby d_prog_53_method_3_12) rfl k) ?_
  show Goes p e below s _ _ _ (s₁.setTop (mkF m 13 #[.val (.ref a), .val (.ref aF), .val (.ref aA), .val (.int (0 : Int32)), .val (.int (0 : Int32))] [(.int (0 : Int32))]))
  refine Goes.st (fun t k => XS.aloadN X0.here hx rfl (hb hby d_prog_53_method_3_13) rfl rfl k) ?_
  show Goes p e below s _ _ _ (s₁.setTop (mkF m 14 #[.val (.ref a), .val (.ref aF), .val (.ref aA), .val (.int (0 : Int32)), .val (.int (0 : Int32))] [(.ref a), (.int (0 : Int32))]))
  obtain ⟨T2, X2, e2, st2⟩ := getF X0 hx hZ hown (host := "") (Or.inl (hw _ (List.mem_of_getElem? (i := 87) rfl))) Via.refl e0 Fs (g := (mkF m 14 #[.val (.ref a), .val (.ref aF), .val (.ref aA), .val (.int (0 : Int32)), .val (.int (0 : Int32))] [(.ref a), (.int (0 : Int32))])) rfl rfl (hb hby d_prog_53_method_3_14)
  refine Goes.st st2 ?_
  show Goes p e below s _ _ _ (T2.setTop (mkF m 17 #[.val (.ref a), .val (.ref aF), .val (.ref aA), .val (.int (0 : Int32)), .val (.int (0 : Int32))] [(.ref aS), (.int (0 : Int32))]))
  refine Goes.st (fun t k => XS.iload X2.here hx rfl (hb hby d_prog_53_method_3_17) rfl k) ?_
  show Goes p e below s _ _ _ (T2.setTop (mkF m 19 #[.val (.ref a), .val (.ref aF), .val (.ref aA), .val (.int (0 : Int32)), .val (.int (0 : Int32))] [(.int (0 : Int32)), (.ref aS), (.int (0 : Int32))]))
  obtain ⟨cl3, Ar3, qk3, Sz3, qz3, Ha3, Gf3⟩ := id VS
  have in3 := inb_of (j := (0 : Int32)) Sz3 ⟨by decide, by decide⟩
  refine Goes.st (fun t k => X2.iaload hx (j := (0 : Int32)) (v := (.int s0)) (by rw [e2]; exact Ar3.1) (State.isArrayOf_alike hZ.alike Ar3.2.1) Ar3.2.2 in3 (Ha3.at in3 rfl) (g := (mkF m 19 #[.val (.ref a), .val (.ref aF), .val (.ref aA), .val (.int (0 : Int32)), .val (.int (0 : Int32))] [(.int (0 : Int32)), (.ref aS), (.int (0 : Int32))])) rfl rfl (hb hby d_prog_53_method_3_19) t k) ?_
  show Goes p e below s _ _ _ (T2.setTop (mkF m 20 #[.val (.ref a), .val (.ref aF), .val (.ref aA), .val (.int (0 : Int32)), .val (.int (0 : Int32))] [(.int s0), (.int (0 : Int32))]))
  refine Goes.st (fun t k => XS.imul X2.here hx rfl (hb hby d_prog_53_method_3_20) rfl k) ?_
  show Goes p e below s _ _ _ (T2.setTop (mkF m 21 #[.val (.ref a), .val (.ref aF), .val (.ref aA), .val (.int (0 : Int32)), .val (.int (0 : Int32))] [(.int ((0 : Int32) * s0))]))
  refine Goes.st (fun t k => XS.aloadN X2.here hx rfl (hb hby d_prog_53_method_3_21) rfl rfl k) ?_
  show Goes p e below s _ _ _ (T2.setTop (mkF m 22 #[.val (.ref a), .val (.ref aF), .val (.ref aA), .val (.int (0 : Int32)), .val (.int (0 : Int32))] [(.ref aF), (.int ((0 : Int32) * s0))]))
  refine Goes.st (fun t k => XS.aloadN X2.here hx rfl (hb hby d_prog_53_method_3_22) rfl rfl k) ?_
  show Goes p e below s _ _ _ (T2.setTop (mkF m 23 #[.val (.ref a), .val (.ref aF), .val (.ref aA), .val (.int (0 : Int32)), .val (.int (0 : Int32))] [(.ref aA), (.ref aF), (.int ((0 : Int32) * s0))]))
  refine Goes.st (fun t k => XS.iload X2.here hx rfl (hb hby d_prog_53_method_3_23) rfl k) ?_
  show Goes p e below s _ _ _ (T2.setTop (mkF m 25 #[.val (.ref a), .val (.ref aF), .val (.ref aA), .val (.int (0 : Int32)), .val (.int (0 : Int32))] [(.int (0 : Int32)), (.ref aA), (.ref aF), (.int ((0 : Int32) * s0))]))
  obtain ⟨cl4, Ar4, qk4, Sz4, qz4, Ha4, Gf4⟩ := id VA
  have in4 := inb_of (j := (0 : Int32)) Sz4 ⟨by decide, by decide⟩
  refine Goes.st (fun t k => X2.iaload hx (j := (0 : Int32)) (v := (.int p0)) (by rw [e2]; exact Ar4.1) (State.isArrayOf_alike hZ.alike Ar4.2.1) Ar4.2.2 in4 (Ha4.at in4 rfl) (g := (mkF m 25 #[.val (.ref a), .val (.ref aF), .val (.ref aA), .val (.int (0 : Int32)), .val (.int (0 : Int32))] [(.int (0 : Int32)), (.ref aA), (.ref aF), (.int ((0 : Int32) * s0))])) rfl rfl (hb hby d_prog_53_method_3_25) t k) ?_
  show Goes p e below s _ _ _ (T2.setTop (mkF m 26 #[.val (.ref a), .val (.ref aF), .val (.ref aA), .val (.int (0 : Int32)), .val (.int (0 : Int32))] [(.int p0), (.ref aF), (.int ((0 : Int32) * s0))]))
  obtain ⟨cl5, Ar5, qk5, Sz5, qz5, Ha5, Gf5⟩ := id VF
  have in5 := inb_of (j := p0) Sz5 hb0
  refine Goes.st (fun t k => X2.iaload hx (j := p0) (v := (.int v0)) (by rw [e2]; exact Ar5.1) (State.isArrayOf_alike hZ.alike Ar5.2.1) Ar5.2.2 in5 (Ha5.at in5 hg0) (g := (mkF m 26 #[.val (.ref a), .val (.ref aF), .val (.ref aA), .val (.int (0 : Int32)), .val (.int (0 : Int32))] [(.int p0), (.ref aF), (.int ((0 : Int32) * s0))])) rfl rfl (hb hby d_prog_53_method_3_26) t k) ?_
  show Goes p e below s _ _ _ (T2.setTop (mkF m 27 #[.val (.ref a), .val (.ref aF), .val (.ref aA), .val (.int (0 : Int32)), .val (.int (0 : Int32))] [(.int v0), (.int ((0 : Int32) * s0))]))
  refine Goes.st (fun t k => XS.iadd X2.here hx rfl (hb hby d_prog_53_method_3_27) rfl k) ?_
  show Goes p e below s _ _ _ (T2.setTop (mkF m 28 #[.val (.ref a), .val (.ref aF), .val (.ref aA), .val (.int (0 : Int32)), .val (.int (0 : Int32))] [(.int (((0 : Int32) * s0) + v0))]))
  refine Goes.st (fun t k => XS.istoreN X2.here hx rfl (hb hby d_prog_53_method_3_28) rfl (l' := #[.val (.ref a), .val (.ref aF), .val (.ref aA), .val (.int (((0 : Int32) * s0) + v0)), .val (.int (0 : Int32))]) rfl k) ?_
  show Goes p e below s _ _ _ (T2.setTop (mkF m 29 #[.val (.ref a), .val (.ref aF), .val (.ref aA), .val (.int (((0 : Int32) * s0) + v0)), .val (.int (0 : Int32))] []))
  refine Goes.st (fun t k => XS.iinc X2.here hx rfl (hb hby d_prog_53_method_3_29) rfl (l' := #[.val (.ref a), .val (.ref aF), .val (.ref aA), .val (.int (((0 : Int32) * s0) + v0)), .val (.int (1 : Int32))]) rfl k) ?_
  show Goes p e below s _ _ _ (T2.setTop (mkF m 32 #[.val (.ref a), .val (.ref aF), .val (.ref aA), .val (.int (((0 : Int32) * s0) + v0)), .val (.int (1 : Int32))] []))
  refine Goes.st (fun t k => XS.goto X2.here hx rfl (pc0 := 32) (pc' := 5) rfl (hb hby d_prog_53_method_3_32) (by decide) (by decide) k) ?_
  show Goes p e below s _ _ _ (T2.setTop (mkF m 5 #[.val (.ref a), .val (.ref aF), .val (.ref aA), .val (.int (((0 : Int32) * s0) + v0)), .val (.int (1 : Int32))] []))
  refine Goes.st (fun t k => XS.iload X2.here hx rfl (hb hby d_prog_53_method_3_5) rfl k) ?_
  show Goes p e below s _ _ _ (T2.setTop (mkF m 7 #[.val (.ref a), .val (.ref aF), .val (.ref aA), .val (.int (((0 : Int32) * s0) + v0)), .val (.int (1 : Int32))] [(.int (1 : Int32))]))
  refine Goes.st (fun t k => XS.aloadN X2.here hx rfl (hb hby d_prog_53_method_3_7) rfl rfl k) ?_
  show Goes p e below s _ _ _ (T2.setTop (mkF m 8 #[.val (.ref a), .val (.ref aF), .val (.ref aA), .val (.int (((0 : Int32) * s0) + v0)), .val (.int (1 : Int32))] [(.ref aA), (.int (1 : Int32))]))
  obtain ⟨cl6, Ar6, qk6, Sz6, qz6, Ha6, Gf6⟩ := id VA
  refine Goes.st (fun t k => X2.arraylength hx (cell := cl6) (by rw [e2]; exact Ar6.1) (State.isArrayOf_alike hZ.alike Ar6.2.1) (g := (mkF m 8 #[.val (.ref a), .val (.ref aF), .val (.ref aA), .val (.int (((0 : Int32) * s0) + v0)), .val (.int (1 : Int32))] [(.ref aA), (.int (1 : Int32))])) rfl (rest := [(.int (1 : Int32))]) rfl (hb hby d_prog_53_method_3_8) t k) ?_
  rw [len_of Sz6 qz6]
  show Goes p e below s _ _ _ (T2.setTop (mkF m 9 #[.val (.ref a), .val (.ref aF), .val (.ref aA), .val (.int (((0 : Int32) * s0) + v0)), .val (.int (1 : Int32))] [(.int (2 : Int32)), (.int (1 : Int32))]))
  refine Goes.st (fun t k => XS.icmpNo X2.here hx rfl (hb hby d_prog_53_method_3_9) rfl (by decide) k) ?_
  show Goes p e below s _ _ _ (T2.setTop (mkF m 12 #[.val (.ref a), .val (.ref aF), .val (.ref aA), .val (.int (((0 : Int32) * s0) + v0)), .val (.int (1 : Int32))] []))
  refine Goes.st (fun t k => XS.iloadN X2.here hx rfl (hb hby d_prog_53_method_3_12) rfl k) ?_
  show Goes p e below s _ _ _ (T2.setTop (mkF m 13 #[.val (.ref a), .val (.ref aF), .val (.ref aA), .val (.int (((0 : Int32) * s0) + v0)), .val (.int (1 : Int32))] [(.int (((0 : Int32) * s0) + v0))]))
  refine Goes.st (fun t k => XS.aloadN X2.here hx rfl (hb hby d_prog_53_method_3_13) rfl rfl k) ?_
  show Goes p e below s _ _ _ (T2.setTop (mkF m 14 #[.val (.ref a), .val (.ref aF), .val (.ref aA), .val (.int (((0 : Int32) * s0) + v0)), .val (.int (1 : Int32))] [(.ref a), (.int (((0 : Int32) * s0) + v0))]))
  obtain ⟨T7, X7, e7, st7⟩ := getF X2 hx hZ hown (host := "") (Or.inl (hw _ (List.mem_of_getElem? (i := 87) rfl))) Via.refl e2 Fs (g := (mkF m 14 #[.val (.ref a), .val (.ref aF), .val (.ref aA), .val (.int (((0 : Int32) * s0) + v0)), .val (.int (1 : Int32))] [(.ref a), (.int (((0 : Int32) * s0) + v0))])) rfl rfl (hb hby d_prog_53_method_3_14)
  refine Goes.st st7 ?_
  show Goes p e below s _ _ _ (T7.setTop (mkF m 17 #[.val (.ref a), .val (.ref aF), .val (.ref aA), .val (.int (((0 : Int32) * s0) + v0)), .val (.int (1 : Int32))] [(.ref aS), (.int (((0 : Int32) * s0) + v0))]))
  refine Goes.st (fun t k => XS.iload X7.here hx rfl (hb hby d_prog_53_method_3_17) rfl k) ?_
  show Goes p e below s _ _ _ (T7.setTop (mkF m 19 #[.val (.ref a), .val (.ref aF), .val (.ref aA), .val (.int (((0 : Int32) * s0) + v0)), .val (.int (1 : Int32))] [(.int (1 : Int32)), (.ref aS), (.int (((0 : Int32) * s0) + v0))]))
  obtain ⟨cl8, Ar8, qk8, Sz8, qz8, Ha8, Gf8⟩ := id VS
  have in8 := inb_of (j := (1 : Int32)) Sz8 ⟨by decide, by decide⟩
  refine Goes.st (fun t k => X7.iaload hx (j := (1 : Int32)) (v := (.int s1)) (by rw [e7]; exact Ar8.1) (State.isArrayOf_alike hZ.alike Ar8.2.1) Ar8.2.2 in8 (Ha8.at in8 rfl) (g := (mkF m 19 #[.val (.ref a), .val (.ref aF), .val (.ref aA), .val (.int (((0 : Int32) * s0) + v0)), .val (.int (1 : Int32))] [(.int (1 : Int32)), (.ref aS), (.int (((0 : Int32) * s0) + v0))])) rfl rfl (hb hby d_prog_53_method_3_19) t k) ?_
  show Goes p e below s _ _ _ (T7.setTop (mkF m 20 #[.val (.ref a), .val (.ref aF), .val (.ref aA), .val (.int (((0 : Int32) * s0) + v0)), .val (.int (1 : Int32))] [(.int s1), (.int (((0 : Int32) * s0) + v0))]))
  refine Goes.st (fun t k => XS.imul X7.here hx rfl (hb hby d_prog_53_method_3_20) rfl k) ?_
  show Goes p e below s _ _ _ (T7.setTop (mkF m 21 #[.val (.ref a), .val (.ref aF), .val (.ref aA), .val (.int (((0 : Int32) * s0) + v0)), .val (.int (1 : Int32))] [(.int ((((0 : Int32) * s0) + v0) * s1))]))
  refine Goes.st (fun t k => XS.aloadN X7.here hx rfl (hb hby d_prog_53_method_3_21) rfl rfl k) ?_
  show Goes p e below s _ _ _ (T7.setTop (mkF m 22 #[.val (.ref a), .val (.ref aF), .val (.ref aA), .val (.int (((0 : Int32) * s0) + v0)), .val (.int (1 : Int32))] [(.ref aF), (.int ((((0 : Int32) * s0) + v0) * s1))]))
  refine Goes.st (fun t k => XS.aloadN X7.here hx rfl (hb hby d_prog_53_method_3_22) rfl rfl k) ?_
  show Goes p e below s _ _ _ (T7.setTop (mkF m 23 #[.val (.ref a), .val (.ref aF), .val (.ref aA), .val (.int (((0 : Int32) * s0) + v0)), .val (.int (1 : Int32))] [(.ref aA), (.ref aF), (.int ((((0 : Int32) * s0) + v0) * s1))]))
  refine Goes.st (fun t k => XS.iload X7.here hx rfl (hb hby d_prog_53_method_3_23) rfl k) ?_
  show Goes p e below s _ _ _ (T7.setTop (mkF m 25 #[.val (.ref a), .val (.ref aF), .val (.ref aA), .val (.int (((0 : Int32) * s0) + v0)), .val (.int (1 : Int32))] [(.int (1 : Int32)), (.ref aA), (.ref aF), (.int ((((0 : Int32) * s0) + v0) * s1))]))
  obtain ⟨cl9, Ar9, qk9, Sz9, qz9, Ha9, Gf9⟩ := id VA
  have in9 := inb_of (j := (1 : Int32)) Sz9 ⟨by decide, by decide⟩
  refine Goes.st (fun t k => X7.iaload hx (j := (1 : Int32)) (v := (.int p1)) (by rw [e7]; exact Ar9.1) (State.isArrayOf_alike hZ.alike Ar9.2.1) Ar9.2.2 in9 (Ha9.at in9 rfl) (g := (mkF m 25 #[.val (.ref a), .val (.ref aF), .val (.ref aA), .val (.int (((0 : Int32) * s0) + v0)), .val (.int (1 : Int32))] [(.int (1 : Int32)), (.ref aA), (.ref aF), (.int ((((0 : Int32) * s0) + v0) * s1))])) rfl rfl (hb hby d_prog_53_method_3_25) t k) ?_
  show Goes p e below s _ _ _ (T7.setTop (mkF m 26 #[.val (.ref a), .val (.ref aF), .val (.ref aA), .val (.int (((0 : Int32) * s0) + v0)), .val (.int (1 : Int32))] [(.int p1), (.ref aF), (.int ((((0 : Int32) * s0) + v0) * s1))]))
  obtain ⟨cl10, Ar10, qk10, Sz10, qz10, Ha10, Gf10⟩ := id VF
  have in10 := inb_of (j := p1) Sz10 hb1
  refine Goes.st (fun t k => X7.iaload hx (j := p1) (v := (.int v1)) (by rw [e7]; exact Ar10.1) (State.isArrayOf_alike hZ.alike Ar10.2.1) Ar10.2.2 in10 (Ha10.at in10 hg1) (g := (mkF m 26 #[.val (.ref a), .val (.ref aF), .val (.ref aA), .val (.int (((0 : Int32) * s0) + v0)), .val (.int (1 : Int32))] [(.int p1), (.ref aF), (.int ((((0 : Int32) * s0) + v0) * s1))])) rfl rfl (hb hby d_prog_53_method_3_26) t k) ?_
  show Goes p e below s _ _ _ (T7.setTop (mkF m 27 #[.val (.ref a), .val (.ref aF), .val (.ref aA), .val (.int (((0 : Int32) * s0) + v0)), .val (.int (1 : Int32))] [(.int v1), (.int ((((0 : Int32) * s0) + v0) * s1))]))
  refine Goes.st (fun t k => XS.iadd X7.here hx rfl (hb hby d_prog_53_method_3_27) rfl k) ?_
  show Goes p e below s _ _ _ (T7.setTop (mkF m 28 #[.val (.ref a), .val (.ref aF), .val (.ref aA), .val (.int (((0 : Int32) * s0) + v0)), .val (.int (1 : Int32))] [(.int (((((0 : Int32) * s0) + v0) * s1) + v1))]))
  refine Goes.st (fun t k => XS.istoreN X7.here hx rfl (hb hby d_prog_53_method_3_28) rfl (l' := #[.val (.ref a), .val (.ref aF), .val (.ref aA), .val (.int (((((0 : Int32) * s0) + v0) * s1) + v1)), .val (.int (1 : Int32))]) rfl k) ?_
  show Goes p e below s _ _ _ (T7.setTop (mkF m 29 #[.val (.ref a), .val (.ref aF), .val (.ref aA), .val (.int (((((0 : Int32) * s0) + v0) * s1) + v1)), .val (.int (1 : Int32))] []))
  refine Goes.st (fun t k => XS.iinc X7.here hx rfl (hb hby d_prog_53_method_3_29) rfl (l' := #[.val (.ref a), .val (.ref aF), .val (.ref aA), .val (.int (((((0 : Int32) * s0) + v0) * s1) + v1)), .val (.int (2 : Int32))]) rfl k) ?_
  show Goes p e below s _ _ _ (T7.setTop (mkF m 32 #[.val (.ref a), .val (.ref aF), .val (.ref aA), .val (.int (((((0 : Int32) * s0) + v0) * s1) + v1)), .val (.int (2 : Int32))] []))
  refine Goes.st (fun t k => XS.goto X7.here hx rfl (pc0 := 32) (pc' := 5) rfl (hb hby d_prog_53_method_3_32) (by decide) (by decide) k) ?_
  show Goes p e below s _ _ _ (T7.setTop (mkF m 5 #[.val (.ref a), .val (.ref aF), .val (.ref aA), .val (.int (((((0 : Int32) * s0) + v0) * s1) + v1)), .val (.int (2 : Int32))] []))
  refine Goes.st (fun t k => XS.iload X7.here hx rfl (hb hby d_prog_53_method_3_5) rfl k) ?_
  show Goes p e below s _ _ _ (T7.setTop (mkF m 7 #[.val (.ref a), .val (.ref aF), .val (.ref aA), .val (.int (((((0 : Int32) * s0) + v0) * s1) + v1)), .val (.int (2 : Int32))] [(.int (2 : Int32))]))
  refine Goes.st (fun t k => XS.aloadN X7.here hx rfl (hb hby d_prog_53_method_3_7) rfl rfl k) ?_
  show Goes p e below s _ _ _ (T7.setTop (mkF m 8 #[.val (.ref a), .val (.ref aF), .val (.ref aA), .val (.int (((((0 : Int32) * s0) + v0) * s1) + v1)), .val (.int (2 : Int32))] [(.ref aA), (.int (2 : Int32))]))
  obtain ⟨cl11, Ar11, qk11, Sz11, qz11, Ha11, Gf11⟩ := id VA
  refine Goes.st (fun t k => X7.arraylength hx (cell := cl11) (by rw [e7]; exact Ar11.1) (State.isArrayOf_alike hZ.alike Ar11.2.1) (g := (mkF m 8 #[.val (.ref a), .val (.ref aF), .val (.ref aA), .val (.int (((((0 : Int32) * s0) + v0) * s1) + v1)), .val (.int (2 : Int32))] [(.ref aA), (.int (2 : Int32))])) rfl (rest := [(.int (2 : Int32))]) rfl (hb hby d_prog_53_method_3_8) t k) ?_
  rw [len_of Sz11 qz11]
  show Goes p e below s _ _ _ (T7.setTop (mkF m 9 #[.val (.ref a), .val (.ref aF), .val (.ref aA), .val (.int (((((0 : Int32) * s0) + v0) * s1) + v1)), .val (.int (2 : Int32))] [(.int (2 : Int32)), (.int (2 : Int32))]))
  refine Goes.st (fun t k => XS.icmpYes X7.here hx rfl (pc0 := 9) (pc' := 35) rfl (hb hby d_prog_53_method_3_9) rfl (by decide) (by decide) (by decide) k) ?_
  show Goes p e below s _ _ _ (T7.setTop (mkF m 35 #[.val (.ref a), .val (.ref aF), .val (.ref aA), .val (.int (((((0 : Int32) * s0) + v0) * s1) + v1)), .val (.int (2 : Int32))] []))
  refine Goes.st (fun t k => XS.aloadN X7.here hx rfl (hb hby d_prog_53_method_3_35) rfl rfl k) ?_
  show Goes p e below s _ _ _ (T7.setTop (mkF m 36 #[.val (.ref a), .val (.ref aF), .val (.ref aA), .val (.int (((((0 : Int32) * s0) + v0) * s1) + v1)), .val (.int (2 : Int32))] [(.ref a)]))
  obtain ⟨T12, X12, e12, st12⟩ := getF X7 hx hZ hown (host := "") (Or.inl (hw _ (List.mem_of_getElem? (i := 89) rfl))) Via.refl e7 Fe (g := (mkF m 36 #[.val (.ref a), .val (.ref aF), .val (.ref aA), .val (.int (((((0 : Int32) * s0) + v0) * s1) + v1)), .val (.int (2 : Int32))] [(.ref a)])) rfl rfl (hb hby d_prog_53_method_3_36)
  refine Goes.st st12 ?_
  show Goes p e below s _ _ _ (T12.setTop (mkF m 39 #[.val (.ref a), .val (.ref aF), .val (.ref aA), .val (.int (((((0 : Int32) * s0) + v0) * s1) + v1)), .val (.int (2 : Int32))] [(.ref aE)]))
  refine Goes.st (fun t k => XS.iloadN X12.here hx rfl (hb hby d_prog_53_method_3_39) rfl k) ?_
  show Goes p e below s _ _ _ (T12.setTop (mkF m 40 #[.val (.ref a), .val (.ref aF), .val (.ref aA), .val (.int (((((0 : Int32) * s0) + v0) * s1) + v1)), .val (.int (2 : Int32))] [(.int (((((0 : Int32) * s0) + v0) * s1) + v1)), (.ref aE)]))
  obtain ⟨cl13, Ar13, qk13, Sz13, qz13, Ha13, Gf13⟩ := id VE
  have in13 := inb_of (j := (((((0 : Int32) * s0) + v0) * s1) + v1)) Sz13 hE
  refine Goes.st (fun t k => X12.daload hx (j := (((((0 : Int32) * s0) + v0) * s1) + v1)) (v := (.double r)) (by rw [e12]; exact Ar13.1) (State.isArrayOf_alike hZ.alike Ar13.2.1) Ar13.2.2 in13 (Ha13.at in13 he) (g := (mkF m 40 #[.val (.ref a), .val (.ref aF), .val (.ref aA), .val (.int (((((0 : Int32) * s0) + v0) * s1) + v1)), .val (.int (2 : Int32))] [(.int (((((0 : Int32) * s0) + v0) * s1) + v1)), (.ref aE)])) rfl rfl (hb hby d_prog_53_method_3_40) t k) ?_
  show Goes p e below s _ _ _ (T12.setTop (mkF m 41 #[.val (.ref a), .val (.ref aF), .val (.ref aA), .val (.int (((((0 : Int32) * s0) + v0) * s1) + v1)), .val (.int (2 : Int32))] [(.double r)]))
  refine Goes.retD X12 hx hlk hret (hb hby d_prog_53_method_3_41) ?_ (by decide) (by decide)
  rw [e12]
  exact ⟨rfl, N0, rfl⟩
theorem ef_E3 (m : MethodId) (x0 : Addr) (x1 : Addr) (x2 : Addr) : entryFrame m #[(.ref x0), (.ref x1), (.ref x2)] 5 = mkF m 0 #[.val (.ref x0), .val (.ref x1), .val (.ref x2), .unset, .unset] [] := by first | (simp [entryFrame, mkF, argsToLocals, Value.category]; done) | rfl
def QE3 (Z : State) (a aF aA aS aE : Addr) (kA kS kF kE : ClassId) (fl el : List Value) (r : UInt64) (p0 s0 v0 p1 s1 v1 p2 s2 v2 : Int32) (h0 : Heap) (n0 : Nat) (v : Option Value) (h : Heap) (L : List Loc) : Prop := v = some (.double r) ∧ Fr n0 L ∧ h = h0
set_option maxRecDepth 65536 in
set_option maxHeartbeats 40000000 in
theorem rmE3 (l : Launch) (Z : State) (a0 : Array Value) (hw : ∀ d ∈ tables_1, d.before a0 Z = true) (ws : List Jvm.Cond) (a aF aA aS aE : Addr) (kA kS kF kE : ClassId) (fl el : List Value) (r : UInt64) (p0 s0 v0 p1 s1 v1 p2 s2 v2 : Int32) (h0 : Heap) (n0 : Nat) (Z0 : n0 ≤ h0.size) (Fs : Fld Z h0 a "com/example/parley/parley/Table" "sizes" "[I" (.ref aS)) (Fe : Fld Z h0 a "com/example/parley/parley/Table" "entries" "[D" (.ref aE)) (VA : Arv Z h0 aA kA .int (3 : Int32) [(.int p0), (.int p1), (.int p2)] (.int (0 : Int32))) (VS : Arv Z h0 aS kS .int (3 : Int32) [(.int s0), (.int s1), (.int s2)] (.int (0 : Int32))) (VF : Arv Z h0 aF kF .int (4 : Int32) fl (.int (0 : Int32))) (VE : Arv Z h0 aE kE .double (64 : Int32) el (.double (0 : UInt64))) (hb0 : ¬ p0 < 0 ∧ p0 < 4) (hg0 : fl.getD p0.toNatClampNeg (.int (0 : Int32)) = .int v0) (hb1 : ¬ p1 < 0 ∧ p1 < 4) (hg1 : fl.getD p1.toNatClampNeg (.int (0 : Int32)) = .int v1) (hb2 : ¬ p2 < 0 ∧ p2 < 4) (hg2 : fl.getD p2.toNatClampNeg (.int (0 : Int32)) = .int v2) (hE : ¬ (((((((0 : Int32) * s0) + v0) * s1) + v1) * s2) + v2) < 0 ∧ (((((((0 : Int32) * s0) + v0) * s1) + v1) * s2) + v2) < 64) (he : el.getD ((((((((0 : Int32) * s0) + v0) * s1) + v1) * s2) + v2)).toNatClampNeg (.double (0 : UInt64)) = .double r) :
    MetFree l (⟨"com/example/parley/parley/Table", "entry", "([I[I)D"⟩ : MethodName) (head1 (Jvm.Cond.code (⟨"com/example/parley/parley/Table", "entry", "([I[I)D"⟩ : MethodName) prog_53_method_3_code 5 (some .double) :: ws) ({ frames := 0, cells := 0, slots := 0, locals := 0 } : Room)) (fun aa U => aa = #[(.ref a), (.ref aF), (.ref aA)] ∧ Z.Warmed39 U.vm ∧ U.heap = h0) (fun _ _ _ _ _ => True) (fun _ U o U' => ∃ v L, o = .returned v ∧ QE3 Z a aF aA aS aE kA kS kF kE fl el r p0 s0 v0 p1 s1 v1 p2 s2 v2 h0 n0 v U'.heap L ∧ FrameEnd U o U' L ({ frames := 0, cells := 0, slots := 0, locals := 0 } : Room).cells ({ frames := 0, cells := 0, slots := 0, locals := 0 } : Room).slots) := by
  refine MetFree.of_bodySF (plainFor_of_name pn_com_example_parley_parley_Table) hisR ?_
  intro p e s m args below meth c s₁ Bd hml0 hP hK
  obtain ⟨rfl, hZ, hh⟩ := hP
  have hx := Bd.exec
  have hby := Bd.bytes
  have hlk := BodyLoose.notSynchronized Bd
  have hret := Bd.returns
  have hml : c.maxLocals = 5 := hml0
  have hown : s.vm.findClass "com/example/parley/parley/Table" = some m.cls := findClass_of_methodNamed Bd.named
  have hnm := (name_of_methodNamed Bd.named Bd.method).1
  have X0 : Stand p l e ({ frames := 0, cells := 0, slots := 0, locals := 0 } : Room) s m #[(.ref a), (.ref aF), (.ref aA)] below meth c s₁ [] 0 0 := Stand.of_body Bd
  have e0 : s₁.heap = h0 := by rw [← hh, Bd.state]; rfl
  have N0 := Fr.nil n0
  refine Goes.st (s := s) (Q := QE3 Z a aF aA aS aE kA kS kF kE fl el r p0 s0 v0 p1 s1 v1 p2 s2 v2 h0 n0) (cs := ({ frames := 0, cells := 0, slots := 0, locals := 0 } : Room).cells) (ss := ({ frames := 0, cells := 0, slots := 0, locals := 0 } : Room).slots) (fun t k => castTop (ef_E3 m a aF aA) k) ?_
  show Goes p e below s _ _ _ (s₁.setTop (mkF m 0 #[.val (.ref a), .val (.ref aF), .val (.ref aA), .unset, .unset] []))
  refine Goes.st (fun t k => XS.iconst X0.here hx rfl (hb hby d_prog_53_method_3_0) k) ?_
  show Goes p e below s _ _ _ (s₁.setTop (mkF m 1 #[.val (.ref a), .val (.ref aF), .val (.ref aA), .unset, .unset] [(.int (0 : Int32))]))
  refine Goes.st (fun t k => XS.istoreN X0.here hx rfl (hb hby d_prog_53_method_3_1) rfl (l' := #[.val (.ref a), .val (.ref aF), .val (.ref aA), .val (.int (0 : Int32)), .unset]) rfl k) ?_
  show Goes p e below s _ _ _ (s₁.setTop (mkF m 2 #[.val (.ref a), .val (.ref aF), .val (.ref aA), .val (.int (0 : Int32)), .unset] []))
  refine Goes.st (fun t k => XS.iconst X0.here hx rfl (hb hby d_prog_53_method_3_2) k) ?_
  show Goes p e below s _ _ _ (s₁.setTop (mkF m 3 #[.val (.ref a), .val (.ref aF), .val (.ref aA), .val (.int (0 : Int32)), .unset] [(.int (0 : Int32))]))
  refine Goes.st (fun t k => XS.istore X0.here hx rfl (hb hby d_prog_53_method_3_3) rfl (l' := #[.val (.ref a), .val (.ref aF), .val (.ref aA), .val (.int (0 : Int32)), .val (.int (0 : Int32))]) rfl k) ?_
  show Goes p e below s _ _ _ (s₁.setTop (mkF m 5 #[.val (.ref a), .val (.ref aF), .val (.ref aA), .val (.int (0 : Int32)), .val (.int (0 : Int32))] []))
  refine Goes.st (fun t k => XS.iload X0.here hx rfl (hb hby d_prog_53_method_3_5) rfl k) ?_
  show Goes p e below s _ _ _ (s₁.setTop (mkF m 7 #[.val (.ref a), .val (.ref aF), .val (.ref aA), .val (.int (0 : Int32)), .val (.int (0 : Int32))] [(.int (0 : Int32))]))
  refine Goes.st (fun t k => XS.aloadN X0.here hx rfl (hb hby d_prog_53_method_3_7) rfl rfl k) ?_
  show Goes p e below s _ _ _ (s₁.setTop (mkF m 8 #[.val (.ref a), .val (.ref aF), .val (.ref aA), .val (.int (0 : Int32)), .val (.int (0 : Int32))] [(.ref aA), (.int (0 : Int32))]))
  obtain ⟨cl1, Ar1, qk1, Sz1, qz1, Ha1, Gf1⟩ := id VA
  refine Goes.st (fun t k => X0.arraylength hx (cell := cl1) (by rw [e0]; exact Ar1.1) (State.isArrayOf_alike hZ.alike Ar1.2.1) (g := (mkF m 8 #[.val (.ref a), .val (.ref aF), .val (.ref aA), .val (.int (0 : Int32)), .val (.int (0 : Int32))] [(.ref aA), (.int (0 : Int32))])) rfl (rest := [(.int (0 : Int32))]) rfl (hb hby d_prog_53_method_3_8) t k) ?_
  rw [len_of Sz1 qz1]
  show Goes p e below s _ _ _ (s₁.setTop (mkF m 9 #[.val (.ref a), .val (.ref aF), .val (.ref aA), .val (.int (0 : Int32)), .val (.int (0 : Int32))] [(.int (3 : Int32)), (.int (0 : Int32))]))
  refine Goes.st (fun t k => XS.icmpNo X0.here hx rfl (hb hby d_prog_53_method_3_9) rfl (by decide) k) ?_
  show Goes p e below s _ _ _ (s₁.setTop (mkF m 12 #[.val (.ref a), .val (.ref aF), .val (.ref aA), .val (.int (0 : Int32)), .val (.int (0 : Int32))] []))
  refine Goes.st (fun t k => XS.iloadN X0.here hx rfl (hb hby d_prog_53_method_3_12) rfl k) ?_
  show Goes p e below s _ _ _ (s₁.setTop (mkF m 13 #[.val (.ref a), .val (.ref aF), .val (.ref aA), .val (.int (0 : Int32)), .val (.int (0 : Int32))] [(.int (0 : Int32))]))
  refine Goes.st (fun t k => XS.aloadN X0.here hx rfl (hb hby d_prog_53_method_3_13) rfl rfl k) ?_
  show Goes p e below s _ _ _ (s₁.setTop (mkF m 14 #[.val (.ref a), .val (.ref aF), .val (.ref aA), .val (.int (0 : Int32)), .val (.int (0 : Int32))] [(.ref a), (.int (0 : Int32))]))
  obtain ⟨T2, X2, e2, st2⟩ := getF X0 hx hZ hown (host := "") (Or.inl (hw _ (List.mem_of_getElem? (i := 87) rfl))) Via.refl e0 Fs (g := (mkF m 14 #[.val (.ref a), .val (.ref aF), .val (.ref aA), .val (.int (0 : Int32)), .val (.int (0 : Int32))] [(.ref a), (.int (0 : Int32))])) rfl rfl (hb hby d_prog_53_method_3_14)
  refine Goes.st st2 ?_
  show Goes p e below s _ _ _ (T2.setTop (mkF m 17 #[.val (.ref a), .val (.ref aF), .val (.ref aA), .val (.int (0 : Int32)), .val (.int (0 : Int32))] [(.ref aS), (.int (0 : Int32))]))
  refine Goes.st (fun t k => XS.iload X2.here hx rfl (hb hby d_prog_53_method_3_17) rfl k) ?_
  show Goes p e below s _ _ _ (T2.setTop (mkF m 19 #[.val (.ref a), .val (.ref aF), .val (.ref aA), .val (.int (0 : Int32)), .val (.int (0 : Int32))] [(.int (0 : Int32)), (.ref aS), (.int (0 : Int32))]))
  obtain ⟨cl3, Ar3, qk3, Sz3, qz3, Ha3, Gf3⟩ := id VS
  have in3 := inb_of (j := (0 : Int32)) Sz3 ⟨by decide, by decide⟩
  refine Goes.st (fun t k => X2.iaload hx (j := (0 : Int32)) (v := (.int s0)) (by rw [e2]; exact Ar3.1) (State.isArrayOf_alike hZ.alike Ar3.2.1) Ar3.2.2 in3 (Ha3.at in3 rfl) (g := (mkF m 19 #[.val (.ref a), .val (.ref aF), .val (.ref aA), .val (.int (0 : Int32)), .val (.int (0 : Int32))] [(.int (0 : Int32)), (.ref aS), (.int (0 : Int32))])) rfl rfl (hb hby d_prog_53_method_3_19) t k) ?_
  show Goes p e below s _ _ _ (T2.setTop (mkF m 20 #[.val (.ref a), .val (.ref aF), .val (.ref aA), .val (.int (0 : Int32)), .val (.int (0 : Int32))] [(.int s0), (.int (0 : Int32))]))
  refine Goes.st (fun t k => XS.imul X2.here hx rfl (hb hby d_prog_53_method_3_20) rfl k) ?_
  show Goes p e below s _ _ _ (T2.setTop (mkF m 21 #[.val (.ref a), .val (.ref aF), .val (.ref aA), .val (.int (0 : Int32)), .val (.int (0 : Int32))] [(.int ((0 : Int32) * s0))]))
  refine Goes.st (fun t k => XS.aloadN X2.here hx rfl (hb hby d_prog_53_method_3_21) rfl rfl k) ?_
  show Goes p e below s _ _ _ (T2.setTop (mkF m 22 #[.val (.ref a), .val (.ref aF), .val (.ref aA), .val (.int (0 : Int32)), .val (.int (0 : Int32))] [(.ref aF), (.int ((0 : Int32) * s0))]))
  refine Goes.st (fun t k => XS.aloadN X2.here hx rfl (hb hby d_prog_53_method_3_22) rfl rfl k) ?_
  show Goes p e below s _ _ _ (T2.setTop (mkF m 23 #[.val (.ref a), .val (.ref aF), .val (.ref aA), .val (.int (0 : Int32)), .val (.int (0 : Int32))] [(.ref aA), (.ref aF), (.int ((0 : Int32) * s0))]))
  refine Goes.st (fun t k => XS.iload X2.here hx rfl (hb hby d_prog_53_method_3_23) rfl k) ?_
  show Goes p e below s _ _ _ (T2.setTop (mkF m 25 #[.val (.ref a), .val (.ref aF), .val (.ref aA), .val (.int (0 : Int32)), .val (.int (0 : Int32))] [(.int (0 : Int32)), (.ref aA), (.ref aF), (.int ((0 : Int32) * s0))]))
  obtain ⟨cl4, Ar4, qk4, Sz4, qz4, Ha4, Gf4⟩ := id VA
  have in4 := inb_of (j := (0 : Int32)) Sz4 ⟨by decide, by decide⟩
  refine Goes.st (fun t k => X2.iaload hx (j := (0 : Int32)) (v := (.int p0)) (by rw [e2]; exact Ar4.1) (State.isArrayOf_alike hZ.alike Ar4.2.1) Ar4.2.2 in4 (Ha4.at in4 rfl) (g := (mkF m 25 #[.val (.ref a), .val (.ref aF), .val (.ref aA), .val (.int (0 : Int32)), .val (.int (0 : Int32))] [(.int (0 : Int32)), (.ref aA), (.ref aF), (.int ((0 : Int32) * s0))])) rfl rfl (hb hby d_prog_53_method_3_25) t k) ?_
  show Goes p e below s _ _ _ (T2.setTop (mkF m 26 #[.val (.ref a), .val (.ref aF), .val (.ref aA), .val (.int (0 : Int32)), .val (.int (0 : Int32))] [(.int p0), (.ref aF), (.int ((0 : Int32) * s0))]))
  obtain ⟨cl5, Ar5, qk5, Sz5, qz5, Ha5, Gf5⟩ := id VF
  have in5 := inb_of (j := p0) Sz5 hb0
  refine Goes.st (fun t k => X2.iaload hx (j := p0) (v := (.int v0)) (by rw [e2]; exact Ar5.1) (State.isArrayOf_alike hZ.alike Ar5.2.1) Ar5.2.2 in5 (Ha5.at in5 hg0) (g := (mkF m 26 #[.val (.ref a), .val (.ref aF), .val (.ref aA), .val (.int (0 : Int32)), .val (.int (0 : Int32))] [(.int p0), (.ref aF), (.int ((0 : Int32) * s0))])) rfl rfl (hb hby d_prog_53_method_3_26) t k) ?_
  show Goes p e below s _ _ _ (T2.setTop (mkF m 27 #[.val (.ref a), .val (.ref aF), .val (.ref aA), .val (.int (0 : Int32)), .val (.int (0 : Int32))] [(.int v0), (.int ((0 : Int32) * s0))]))
  refine Goes.st (fun t k => XS.iadd X2.here hx rfl (hb hby d_prog_53_method_3_27) rfl k) ?_
  show Goes p e below s _ _ _ (T2.setTop (mkF m 28 #[.val (.ref a), .val (.ref aF), .val (.ref aA), .val (.int (0 : Int32)), .val (.int (0 : Int32))] [(.int (((0 : Int32) * s0) + v0))]))
  refine Goes.st (fun t k => XS.istoreN X2.here hx rfl (hb hby d_prog_53_method_3_28) rfl (l' := #[.val (.ref a), .val (.ref aF), .val (.ref aA), .val (.int (((0 : Int32) * s0) + v0)), .val (.int (0 : Int32))]) rfl k) ?_
  show Goes p e below s _ _ _ (T2.setTop (mkF m 29 #[.val (.ref a), .val (.ref aF), .val (.ref aA), .val (.int (((0 : Int32) * s0) + v0)), .val (.int (0 : Int32))] []))
  refine Goes.st (fun t k => XS.iinc X2.here hx rfl (hb hby d_prog_53_method_3_29) rfl (l' := #[.val (.ref a), .val (.ref aF), .val (.ref aA), .val (.int (((0 : Int32) * s0) + v0)), .val (.int (1 : Int32))]) rfl k) ?_
  show Goes p e below s _ _ _ (T2.setTop (mkF m 32 #[.val (.ref a), .val (.ref aF), .val (.ref aA), .val (.int (((0 : Int32) * s0) + v0)), .val (.int (1 : Int32))] []))
  refine Goes.st (fun t k => XS.goto X2.here hx rfl (pc0 := 32) (pc' := 5) rfl (hb hby d_prog_53_method_3_32) (by decide) (by decide) k) ?_
  show Goes p e below s _ _ _ (T2.setTop (mkF m 5 #[.val (.ref a), .val (.ref aF), .val (.ref aA), .val (.int (((0 : Int32) * s0) + v0)), .val (.int (1 : Int32))] []))
  refine Goes.st (fun t k => XS.iload X2.here hx rfl (hb hby d_prog_53_method_3_5) rfl k) ?_
  show Goes p e below s _ _ _ (T2.setTop (mkF m 7 #[.val (.ref a), .val (.ref aF), .val (.ref aA), .val (.int (((0 : Int32) * s0) + v0)), .val (.int (1 : Int32))] [(.int (1 : Int32))]))
  refine Goes.st (fun t k => XS.aloadN X2.here hx rfl (hb hby d_prog_53_method_3_7) rfl rfl k) ?_
  show Goes p e below s _ _ _ (T2.setTop (mkF m 8 #[.val (.ref a), .val (.ref aF), .val (.ref aA), .val (.int (((0 : Int32) * s0) + v0)), .val (.int (1 : Int32))] [(.ref aA), (.int (1 : Int32))]))
  obtain ⟨cl6, Ar6, qk6, Sz6, qz6, Ha6, Gf6⟩ := id VA
  refine Goes.st (fun t k => X2.arraylength hx (cell := cl6) (by rw [e2]; exact Ar6.1) (State.isArrayOf_alike hZ.alike Ar6.2.1) (g := (mkF m 8 #[.val (.ref a), .val (.ref aF), .val (.ref aA), .val (.int (((0 : Int32) * s0) + v0)), .val (.int (1 : Int32))] [(.ref aA), (.int (1 : Int32))])) rfl (rest := [(.int (1 : Int32))]) rfl (hb hby d_prog_53_method_3_8) t k) ?_
  rw [len_of Sz6 qz6]
  show Goes p e below s _ _ _ (T2.setTop (mkF m 9 #[.val (.ref a), .val (.ref aF), .val (.ref aA), .val (.int (((0 : Int32) * s0) + v0)), .val (.int (1 : Int32))] [(.int (3 : Int32)), (.int (1 : Int32))]))
  refine Goes.st (fun t k => XS.icmpNo X2.here hx rfl (hb hby d_prog_53_method_3_9) rfl (by decide) k) ?_
  show Goes p e below s _ _ _ (T2.setTop (mkF m 12 #[.val (.ref a), .val (.ref aF), .val (.ref aA), .val (.int (((0 : Int32) * s0) + v0)), .val (.int (1 : Int32))] []))
  refine Goes.st (fun t k => XS.iloadN X2.here hx rfl (hb hby d_prog_53_method_3_12) rfl k) ?_
  show Goes p e below s _ _ _ (T2.setTop (mkF m 13 #[.val (.ref a), .val (.ref aF), .val (.ref aA), .val (.int (((0 : Int32) * s0) + v0)), .val (.int (1 : Int32))] [(.int (((0 : Int32) * s0) + v0))]))
  refine Goes.st (fun t k => XS.aloadN X2.here hx rfl (hb hby d_prog_53_method_3_13) rfl rfl k) ?_
  show Goes p e below s _ _ _ (T2.setTop (mkF m 14 #[.val (.ref a), .val (.ref aF), .val (.ref aA), .val (.int (((0 : Int32) * s0) + v0)), .val (.int (1 : Int32))] [(.ref a), (.int (((0 : Int32) * s0) + v0))]))
  obtain ⟨T7, X7, e7, st7⟩ := getF X2 hx hZ hown (host := "") (Or.inl (hw _ (List.mem_of_getElem? (i := 87) rfl))) Via.refl e2 Fs (g := (mkF m 14 #[.val (.ref a), .val (.ref aF), .val (.ref aA), .val (.int (((0 : Int32) * s0) + v0)), .val (.int (1 : Int32))] [(.ref a), (.int (((0 : Int32) * s0) + v0))])) rfl rfl (hb hby d_prog_53_method_3_14)
  refine Goes.st st7 ?_
  show Goes p e below s _ _ _ (T7.setTop (mkF m 17 #[.val (.ref a), .val (.ref aF), .val (.ref aA), .val (.int (((0 : Int32) * s0) + v0)), .val (.int (1 : Int32))] [(.ref aS), (.int (((0 : Int32) * s0) + v0))]))
  refine Goes.st (fun t k => XS.iload X7.here hx rfl (hb hby d_prog_53_method_3_17) rfl k) ?_
  show Goes p e below s _ _ _ (T7.setTop (mkF m 19 #[.val (.ref a), .val (.ref aF), .val (.ref aA), .val (.int (((0 : Int32) * s0) + v0)), .val (.int (1 : Int32))] [(.int (1 : Int32)), (.ref aS), (.int (((0 : Int32) * s0) + v0))]))
  obtain ⟨cl8, Ar8, qk8, Sz8, qz8, Ha8, Gf8⟩ := id VS
  have in8 := inb_of (j := (1 : Int32)) Sz8 ⟨by decide, by decide⟩
  refine Goes.st (fun t k => X7.iaload hx (j := (1 : Int32)) (v := (.int s1)) (by rw [e7]; exact Ar8.1) (State.isArrayOf_alike hZ.alike Ar8.2.1) Ar8.2.2 in8 (Ha8.at in8 rfl) (g := (mkF m 19 #[.val (.ref a), .val (.ref aF), .val (.ref aA), .val (.int (((0 : Int32) * s0) + v0)), .val (.int (1 : Int32))] [(.int (1 : Int32)), (.ref aS), (.int (((0 : Int32) * s0) + v0))])) rfl rfl (hb hby d_prog_53_method_3_19) t k) ?_
  show Goes p e below s _ _ _ (T7.setTop (mkF m 20 #[.val (.ref a), .val (.ref aF), .val (.ref aA), .val (.int (((0 : Int32) * s0) + v0)), .val (.int (1 : Int32))] [(.int s1), (.int (((0 : Int32) * s0) + v0))]))
  refine Goes.st (fun t k => XS.imul X7.here hx rfl (hb hby d_prog_53_method_3_20) rfl k) ?_
  show Goes p e below s _ _ _ (T7.setTop (mkF m 21 #[.val (.ref a), .val (.ref aF), .val (.ref aA), .val (.int (((0 : Int32) * s0) + v0)), .val (.int (1 : Int32))] [(.int ((((0 : Int32) * s0) + v0) * s1))]))
  refine Goes.st (fun t k => XS.aloadN X7.here hx rfl (hb hby d_prog_53_method_3_21) rfl rfl k) ?_
  show Goes p e below s _ _ _ (T7.setTop (mkF m 22 #[.val (.ref a), .val (.ref aF), .val (.ref aA), .val (.int (((0 : Int32) * s0) + v0)), .val (.int (1 : Int32))] [(.ref aF), (.int ((((0 : Int32) * s0) + v0) * s1))]))
  refine Goes.st (fun t k => XS.aloadN X7.here hx rfl (hb hby d_prog_53_method_3_22) rfl rfl k) ?_
  show Goes p e below s _ _ _ (T7.setTop (mkF m 23 #[.val (.ref a), .val (.ref aF), .val (.ref aA), .val (.int (((0 : Int32) * s0) + v0)), .val (.int (1 : Int32))] [(.ref aA), (.ref aF), (.int ((((0 : Int32) * s0) + v0) * s1))]))
  refine Goes.st (fun t k => XS.iload X7.here hx rfl (hb hby d_prog_53_method_3_23) rfl k) ?_
  show Goes p e below s _ _ _ (T7.setTop (mkF m 25 #[.val (.ref a), .val (.ref aF), .val (.ref aA), .val (.int (((0 : Int32) * s0) + v0)), .val (.int (1 : Int32))] [(.int (1 : Int32)), (.ref aA), (.ref aF), (.int ((((0 : Int32) * s0) + v0) * s1))]))
  obtain ⟨cl9, Ar9, qk9, Sz9, qz9, Ha9, Gf9⟩ := id VA
  have in9 := inb_of (j := (1 : Int32)) Sz9 ⟨by decide, by decide⟩
  refine Goes.st (fun t k => X7.iaload hx (j := (1 : Int32)) (v := (.int p1)) (by rw [e7]; exact Ar9.1) (State.isArrayOf_alike hZ.alike Ar9.2.1) Ar9.2.2 in9 (Ha9.at in9 rfl) (g := (mkF m 25 #[.val (.ref a), .val (.ref aF), .val (.ref aA), .val (.int (((0 : Int32) * s0) + v0)), .val (.int (1 : Int32))] [(.int (1 : Int32)), (.ref aA), (.ref aF), (.int ((((0 : Int32) * s0) + v0) * s1))])) rfl rfl (hb hby d_prog_53_method_3_25) t k) ?_
  show Goes p e below s _ _ _ (T7.setTop (mkF m 26 #[.val (.ref a), .val (.ref aF), .val (.ref aA), .val (.int (((0 : Int32) * s0) + v0)), .val (.int (1 : Int32))] [(.int p1), (.ref aF), (.int ((((0 : Int32) * s0) + v0) * s1))]))
  obtain ⟨cl10, Ar10, qk10, Sz10, qz10, Ha10, Gf10⟩ := id VF
  have in10 := inb_of (j := p1) Sz10 hb1
  refine Goes.st (fun t k => X7.iaload hx (j := p1) (v := (.int v1)) (by rw [e7]; exact Ar10.1) (State.isArrayOf_alike hZ.alike Ar10.2.1) Ar10.2.2 in10 (Ha10.at in10 hg1) (g := (mkF m 26 #[.val (.ref a), .val (.ref aF), .val (.ref aA), .val (.int (((0 : Int32) * s0) + v0)), .val (.int (1 : Int32))] [(.int p1), (.ref aF), (.int ((((0 : Int32) * s0) + v0) * s1))])) rfl rfl (hb hby d_prog_53_method_3_26) t k) ?_
  show Goes p e below s _ _ _ (T7.setTop (mkF m 27 #[.val (.ref a), .val (.ref aF), .val (.ref aA), .val (.int (((0 : Int32) * s0) + v0)), .val (.int (1 : Int32))] [(.int v1), (.int ((((0 : Int32) * s0) + v0) * s1))]))
  refine Goes.st (fun t k => XS.iadd X7.here hx rfl (hb hby d_prog_53_method_3_27) rfl k) ?_
  show Goes p e below s _ _ _ (T7.setTop (mkF m 28 #[.val (.ref a), .val (.ref aF), .val (.ref aA), .val (.int (((0 : Int32) * s0) + v0)), .val (.int (1 : Int32))] [(.int (((((0 : Int32) * s0) + v0) * s1) + v1))]))
  refine Goes.st (fun t k => XS.istoreN X7.here hx rfl (hb hby d_prog_53_method_3_28) rfl (l' := #[.val (.ref a), .val (.ref aF), .val (.ref aA), .val (.int (((((0 : Int32) * s0) + v0) * s1) + v1)), .val (.int (1 : Int32))]) rfl k) ?_
  show Goes p e below s _ _ _ (T7.setTop (mkF m 29 #[.val (.ref a), .val (.ref aF), .val (.ref aA), .val (.int (((((0 : Int32) * s0) + v0) * s1) + v1)), .val (.int (1 : Int32))] []))
  refine Goes.st (fun t k => XS.iinc X7.here hx rfl (hb hby d_prog_53_method_3_29) rfl (l' := #[.val (.ref a), .val (.ref aF), .val (.ref aA), .val (.int (((((0 : Int32) * s0) + v0) * s1) + v1)), .val (.int (2 : Int32))]) rfl k) ?_
  show Goes p e below s _ _ _ (T7.setTop (mkF m 32 #[.val (.ref a), .val (.ref aF), .val (.ref aA), .val (.int (((((0 : Int32) * s0) + v0) * s1) + v1)), .val (.int (2 : Int32))] []))
  refine Goes.st (fun t k => XS.goto X7.here hx rfl (pc0 := 32) (pc' := 5) rfl (hb hby d_prog_53_method_3_32) (by decide) (by decide) k) ?_
  show Goes p e below s _ _ _ (T7.setTop (mkF m 5 #[.val (.ref a), .val (.ref aF), .val (.ref aA), .val (.int (((((0 : Int32) * s0) + v0) * s1) + v1)), .val (.int (2 : Int32))] []))
  refine Goes.st (fun t k => XS.iload X7.here hx rfl (hb hby d_prog_53_method_3_5) rfl k) ?_
  show Goes p e below s _ _ _ (T7.setTop (mkF m 7 #[.val (.ref a), .val (.ref aF), .val (.ref aA), .val (.int (((((0 : Int32) * s0) + v0) * s1) + v1)), .val (.int (2 : Int32))] [(.int (2 : Int32))]))
  refine Goes.st (fun t k => XS.aloadN X7.here hx rfl (hb hby d_prog_53_method_3_7) rfl rfl k) ?_
  show Goes p e below s _ _ _ (T7.setTop (mkF m 8 #[.val (.ref a), .val (.ref aF), .val (.ref aA), .val (.int (((((0 : Int32) * s0) + v0) * s1) + v1)), .val (.int (2 : Int32))] [(.ref aA), (.int (2 : Int32))]))
  obtain ⟨cl11, Ar11, qk11, Sz11, qz11, Ha11, Gf11⟩ := id VA
  refine Goes.st (fun t k => X7.arraylength hx (cell := cl11) (by rw [e7]; exact Ar11.1) (State.isArrayOf_alike hZ.alike Ar11.2.1) (g := (mkF m 8 #[.val (.ref a), .val (.ref aF), .val (.ref aA), .val (.int (((((0 : Int32) * s0) + v0) * s1) + v1)), .val (.int (2 : Int32))] [(.ref aA), (.int (2 : Int32))])) rfl (rest := [(.int (2 : Int32))]) rfl (hb hby d_prog_53_method_3_8) t k) ?_
  rw [len_of Sz11 qz11]
  show Goes p e below s _ _ _ (T7.setTop (mkF m 9 #[.val (.ref a), .val (.ref aF), .val (.ref aA), .val (.int (((((0 : Int32) * s0) + v0) * s1) + v1)), .val (.int (2 : Int32))] [(.int (3 : Int32)), (.int (2 : Int32))]))
  refine Goes.st (fun t k => XS.icmpNo X7.here hx rfl (hb hby d_prog_53_method_3_9) rfl (by decide) k) ?_
  show Goes p e below s _ _ _ (T7.setTop (mkF m 12 #[.val (.ref a), .val (.ref aF), .val (.ref aA), .val (.int (((((0 : Int32) * s0) + v0) * s1) + v1)), .val (.int (2 : Int32))] []))
  refine Goes.st (fun t k => XS.iloadN X7.here hx rfl (hb hby d_prog_53_method_3_12) rfl k) ?_
  show Goes p e below s _ _ _ (T7.setTop (mkF m 13 #[.val (.ref a), .val (.ref aF), .val (.ref aA), .val (.int (((((0 : Int32) * s0) + v0) * s1) + v1)), .val (.int (2 : Int32))] [(.int (((((0 : Int32) * s0) + v0) * s1) + v1))]))
  refine Goes.st (fun t k => XS.aloadN X7.here hx rfl (hb hby d_prog_53_method_3_13) rfl rfl k) ?_
  show Goes p e below s _ _ _ (T7.setTop (mkF m 14 #[.val (.ref a), .val (.ref aF), .val (.ref aA), .val (.int (((((0 : Int32) * s0) + v0) * s1) + v1)), .val (.int (2 : Int32))] [(.ref a), (.int (((((0 : Int32) * s0) + v0) * s1) + v1))]))
  obtain ⟨T12, X12, e12, st12⟩ := getF X7 hx hZ hown (host := "") (Or.inl (hw _ (List.mem_of_getElem? (i := 87) rfl))) Via.refl e7 Fs (g := (mkF m 14 #[.val (.ref a), .val (.ref aF), .val (.ref aA), .val (.int (((((0 : Int32) * s0) + v0) * s1) + v1)), .val (.int (2 : Int32))] [(.ref a), (.int (((((0 : Int32) * s0) + v0) * s1) + v1))])) rfl rfl (hb hby d_prog_53_method_3_14)
  refine Goes.st st12 ?_
  show Goes p e below s _ _ _ (T12.setTop (mkF m 17 #[.val (.ref a), .val (.ref aF), .val (.ref aA), .val (.int (((((0 : Int32) * s0) + v0) * s1) + v1)), .val (.int (2 : Int32))] [(.ref aS), (.int (((((0 : Int32) * s0) + v0) * s1) + v1))]))
  refine Goes.st (fun t k => XS.iload X12.here hx rfl (hb hby d_prog_53_method_3_17) rfl k) ?_
  show Goes p e below s _ _ _ (T12.setTop (mkF m 19 #[.val (.ref a), .val (.ref aF), .val (.ref aA), .val (.int (((((0 : Int32) * s0) + v0) * s1) + v1)), .val (.int (2 : Int32))] [(.int (2 : Int32)), (.ref aS), (.int (((((0 : Int32) * s0) + v0) * s1) + v1))]))
  obtain ⟨cl13, Ar13, qk13, Sz13, qz13, Ha13, Gf13⟩ := id VS
  have in13 := inb_of (j := (2 : Int32)) Sz13 ⟨by decide, by decide⟩
  refine Goes.st (fun t k => X12.iaload hx (j := (2 : Int32)) (v := (.int s2)) (by rw [e12]; exact Ar13.1) (State.isArrayOf_alike hZ.alike Ar13.2.1) Ar13.2.2 in13 (Ha13.at in13 rfl) (g := (mkF m 19 #[.val (.ref a), .val (.ref aF), .val (.ref aA), .val (.int (((((0 : Int32) * s0) + v0) * s1) + v1)), .val (.int (2 : Int32))] [(.int (2 : Int32)), (.ref aS), (.int (((((0 : Int32) * s0) + v0) * s1) + v1))])) rfl rfl (hb hby d_prog_53_method_3_19) t k) ?_
  show Goes p e below s _ _ _ (T12.setTop (mkF m 20 #[.val (.ref a), .val (.ref aF), .val (.ref aA), .val (.int (((((0 : Int32) * s0) + v0) * s1) + v1)), .val (.int (2 : Int32))] [(.int s2), (.int (((((0 : Int32) * s0) + v0) * s1) + v1))]))
  refine Goes.st (fun t k => XS.imul X12.here hx rfl (hb hby d_prog_53_method_3_20) rfl k) ?_
  show Goes p e below s _ _ _ (T12.setTop (mkF m 21 #[.val (.ref a), .val (.ref aF), .val (.ref aA), .val (.int (((((0 : Int32) * s0) + v0) * s1) + v1)), .val (.int (2 : Int32))] [(.int ((((((0 : Int32) * s0) + v0) * s1) + v1) * s2))]))
  refine Goes.st (fun t k => XS.aloadN X12.here hx rfl (hb hby d_prog_53_method_3_21) rfl rfl k) ?_
  show Goes p e below s _ _ _ (T12.setTop (mkF m 22 #[.val (.ref a), .val (.ref aF), .val (.ref aA), .val (.int (((((0 : Int32) * s0) + v0) * s1) + v1)), .val (.int (2 : Int32))] [(.ref aF), (.int ((((((0 : Int32) * s0) + v0) * s1) + v1) * s2))]))
  refine Goes.st (fun t k => XS.aloadN X12.here hx rfl (hb hby d_prog_53_method_3_22) rfl rfl k) ?_
  show Goes p e below s _ _ _ (T12.setTop (mkF m 23 #[.val (.ref a), .val (.ref aF), .val (.ref aA), .val (.int (((((0 : Int32) * s0) + v0) * s1) + v1)), .val (.int (2 : Int32))] [(.ref aA), (.ref aF), (.int ((((((0 : Int32) * s0) + v0) * s1) + v1) * s2))]))
  refine Goes.st (fun t k => XS.iload X12.here hx rfl (hb hby d_prog_53_method_3_23) rfl k) ?_
  show Goes p e below s _ _ _ (T12.setTop (mkF m 25 #[.val (.ref a), .val (.ref aF), .val (.ref aA), .val (.int (((((0 : Int32) * s0) + v0) * s1) + v1)), .val (.int (2 : Int32))] [(.int (2 : Int32)), (.ref aA), (.ref aF), (.int ((((((0 : Int32) * s0) + v0) * s1) + v1) * s2))]))
  obtain ⟨cl14, Ar14, qk14, Sz14, qz14, Ha14, Gf14⟩ := id VA
  have in14 := inb_of (j := (2 : Int32)) Sz14 ⟨by decide, by decide⟩
  refine Goes.st (fun t k => X12.iaload hx (j := (2 : Int32)) (v := (.int p2)) (by rw [e12]; exact Ar14.1) (State.isArrayOf_alike hZ.alike Ar14.2.1) Ar14.2.2 in14 (Ha14.at in14 rfl) (g := (mkF m 25 #[.val (.ref a), .val (.ref aF), .val (.ref aA), .val (.int (((((0 : Int32) * s0) + v0) * s1) + v1)), .val (.int (2 : Int32))] [(.int (2 : Int32)), (.ref aA), (.ref aF), (.int ((((((0 : Int32) * s0) + v0) * s1) + v1) * s2))])) rfl rfl (hb hby d_prog_53_method_3_25) t k) ?_
  show Goes p e below s _ _ _ (T12.setTop (mkF m 26 #[.val (.ref a), .val (.ref aF), .val (.ref aA), .val (.int (((((0 : Int32) * s0) + v0) * s1) + v1)), .val (.int (2 : Int32))] [(.int p2), (.ref aF), (.int ((((((0 : Int32) * s0) + v0) * s1) + v1) * s2))]))
  obtain ⟨cl15, Ar15, qk15, Sz15, qz15, Ha15, Gf15⟩ := id VF
  have in15 := inb_of (j := p2) Sz15 hb2
  refine Goes.st (fun t k => X12.iaload hx (j := p2) (v := (.int v2)) (by rw [e12]; exact Ar15.1) (State.isArrayOf_alike hZ.alike Ar15.2.1) Ar15.2.2 in15 (Ha15.at in15 hg2) (g := (mkF m 26 #[.val (.ref a), .val (.ref aF), .val (.ref aA), .val (.int (((((0 : Int32) * s0) + v0) * s1) + v1)), .val (.int (2 : Int32))] [(.int p2), (.ref aF), (.int ((((((0 : Int32) * s0) + v0) * s1) + v1) * s2))])) rfl rfl (hb hby d_prog_53_method_3_26) t k) ?_
  show Goes p e below s _ _ _ (T12.setTop (mkF m 27 #[.val (.ref a), .val (.ref aF), .val (.ref aA), .val (.int (((((0 : Int32) * s0) + v0) * s1) + v1)), .val (.int (2 : Int32))] [(.int v2), (.int ((((((0 : Int32) * s0) + v0) * s1) + v1) * s2))]))
  refine Goes.st (fun t k => XS.iadd X12.here hx rfl (hb hby d_prog_53_method_3_27) rfl k) ?_
  show Goes p e below s _ _ _ (T12.setTop (mkF m 28 #[.val (.ref a), .val (.ref aF), .val (.ref aA), .val (.int (((((0 : Int32) * s0) + v0) * s1) + v1)), .val (.int (2 : Int32))] [(.int (((((((0 : Int32) * s0) + v0) * s1) + v1) * s2) + v2))]))
  refine Goes.st (fun t k => XS.istoreN X12.here hx rfl (hb hby d_prog_53_method_3_28) rfl (l' := #[.val (.ref a), .val (.ref aF), .val (.ref aA), .val (.int (((((((0 : Int32) * s0) + v0) * s1) + v1) * s2) + v2)), .val (.int (2 : Int32))]) rfl k) ?_
  show Goes p e below s _ _ _ (T12.setTop (mkF m 29 #[.val (.ref a), .val (.ref aF), .val (.ref aA), .val (.int (((((((0 : Int32) * s0) + v0) * s1) + v1) * s2) + v2)), .val (.int (2 : Int32))] []))
  refine Goes.st (fun t k => XS.iinc X12.here hx rfl (hb hby d_prog_53_method_3_29) rfl (l' := #[.val (.ref a), .val (.ref aF), .val (.ref aA), .val (.int (((((((0 : Int32) * s0) + v0) * s1) + v1) * s2) + v2)), .val (.int (3 : Int32))]) rfl k) ?_
  show Goes p e below s _ _ _ (T12.setTop (mkF m 32 #[.val (.ref a), .val (.ref aF), .val (.ref aA), .val (.int (((((((0 : Int32) * s0) + v0) * s1) + v1) * s2) + v2)), .val (.int (3 : Int32))] []))
  refine Goes.st (fun t k => XS.goto X12.here hx rfl (pc0 := 32) (pc' := 5) rfl (hb hby d_prog_53_method_3_32) (by decide) (by decide) k) ?_
  show Goes p e below s _ _ _ (T12.setTop (mkF m 5 #[.val (.ref a), .val (.ref aF), .val (.ref aA), .val (.int (((((((0 : Int32) * s0) + v0) * s1) + v1) * s2) + v2)), .val (.int (3 : Int32))] []))
  refine Goes.st (fun t k => XS.iload X12.here hx rfl (hb hby d_prog_53_method_3_5) rfl k) ?_
  show Goes p e below s _ _ _ (T12.setTop (mkF m 7 #[.val (.ref a), .val (.ref aF), .val (.ref aA), .val (.int (((((((0 : Int32) * s0) + v0) * s1) + v1) * s2) + v2)), .val (.int (3 : Int32))] [(.int (3 : Int32))]))
  refine Goes.st (fun t k => XS.aloadN X12.here hx rfl (hb hby d_prog_53_method_3_7) rfl rfl k) ?_
  show Goes p e below s _ _ _ (T12.setTop (mkF m 8 #[.val (.ref a), .val (.ref aF), .val (.ref aA), .val (.int (((((((0 : Int32) * s0) + v0) * s1) + v1) * s2) + v2)), .val (.int (3 : Int32))] [(.ref aA), (.int (3 : Int32))]))
  obtain ⟨cl16, Ar16, qk16, Sz16, qz16, Ha16, Gf16⟩ := id VA
  refine Goes.st (fun t k => X12.arraylength hx (cell := cl16) (by rw [e12]; exact Ar16.1) (State.isArrayOf_alike hZ.alike Ar16.2.1) (g := (mkF m 8 #[.val (.ref a), .val (.ref aF), .val (.ref aA), .val (.int (((((((0 : Int32) * s0) + v0) * s1) + v1) * s2) + v2)), .val (.int (3 : Int32))] [(.ref aA), (.int (3 : Int32))])) rfl (rest := [(.int (3 : Int32))]) rfl (hb hby d_prog_53_method_3_8) t k) ?_
  rw [len_of Sz16 qz16]
  show Goes p e below s _ _ _ (T12.setTop (mkF m 9 #[.val (.ref a), .val (.ref aF), .val (.ref aA), .val (.int (((((((0 : Int32) * s0) + v0) * s1) + v1) * s2) + v2)), .val (.int (3 : Int32))] [(.int (3 : Int32)), (.int (3 : Int32))]))
  refine Goes.st (fun t k => XS.icmpYes X12.here hx rfl (pc0 := 9) (pc' := 35) rfl (hb hby d_prog_53_method_3_9) rfl (by decide) (by decide) (by decide) k) ?_
  show Goes p e below s _ _ _ (T12.setTop (mkF m 35 #[.val (.ref a), .val (.ref aF), .val (.ref aA), .val (.int (((((((0 : Int32) * s0) + v0) * s1) + v1) * s2) + v2)), .val (.int (3 : Int32))] []))
  refine Goes.st (fun t k => XS.aloadN X12.here hx rfl (hb hby d_prog_53_method_3_35) rfl rfl k) ?_
  show Goes p e below s _ _ _ (T12.setTop (mkF m 36 #[.val (.ref a), .val (.ref aF), .val (.ref aA), .val (.int (((((((0 : Int32) * s0) + v0) * s1) + v1) * s2) + v2)), .val (.int (3 : Int32))] [(.ref a)]))
  obtain ⟨T17, X17, e17, st17⟩ := getF X12 hx hZ hown (host := "") (Or.inl (hw _ (List.mem_of_getElem? (i := 89) rfl))) Via.refl e12 Fe (g := (mkF m 36 #[.val (.ref a), .val (.ref aF), .val (.ref aA), .val (.int (((((((0 : Int32) * s0) + v0) * s1) + v1) * s2) + v2)), .val (.int (3 : Int32))] [(.ref a)])) rfl rfl (hb hby d_prog_53_method_3_36)
  refine Goes.st st17 ?_
  show Goes p e below s _ _ _ (T17.setTop (mkF m 39 #[.val (.ref a), .val (.ref aF), .val (.ref aA), .val (.int (((((((0 : Int32) * s0) + v0) * s1) + v1) * s2) + v2)), .val (.int (3 : Int32))] [(.ref aE)]))
  refine Goes.st (fun t k => XS.iloadN X17.here hx rfl (hb hby d_prog_53_method_3_39) rfl k) ?_
  show Goes p e below s _ _ _ (T17.setTop (mkF m 40 #[.val (.ref a), .val (.ref aF), .val (.ref aA), .val (.int (((((((0 : Int32) * s0) + v0) * s1) + v1) * s2) + v2)), .val (.int (3 : Int32))] [(.int (((((((0 : Int32) * s0) + v0) * s1) + v1) * s2) + v2)), (.ref aE)]))
  obtain ⟨cl18, Ar18, qk18, Sz18, qz18, Ha18, Gf18⟩ := id VE
  have in18 := inb_of (j := (((((((0 : Int32) * s0) + v0) * s1) + v1) * s2) + v2)) Sz18 hE
  refine Goes.st (fun t k => X17.daload hx (j := (((((((0 : Int32) * s0) + v0) * s1) + v1) * s2) + v2)) (v := (.double r)) (by rw [e17]; exact Ar18.1) (State.isArrayOf_alike hZ.alike Ar18.2.1) Ar18.2.2 in18 (Ha18.at in18 he) (g := (mkF m 40 #[.val (.ref a), .val (.ref aF), .val (.ref aA), .val (.int (((((((0 : Int32) * s0) + v0) * s1) + v1) * s2) + v2)), .val (.int (3 : Int32))] [(.int (((((((0 : Int32) * s0) + v0) * s1) + v1) * s2) + v2)), (.ref aE)])) rfl rfl (hb hby d_prog_53_method_3_40) t k) ?_
  show Goes p e below s _ _ _ (T17.setTop (mkF m 41 #[.val (.ref a), .val (.ref aF), .val (.ref aA), .val (.int (((((((0 : Int32) * s0) + v0) * s1) + v1) * s2) + v2)), .val (.int (3 : Int32))] [(.double r)]))
  refine Goes.retD X17 hx hlk hret (hb hby d_prog_53_method_3_41) ?_ (by decide) (by decide)
  rw [e17]
  exact ⟨rfl, N0, rfl⟩
set_option maxRecDepth 65536 in
set_option maxHeartbeats 40000000 in
theorem fill {p : Program} {l : Launch} {e : Env} {s : State} {m : MethodId} {args : Array Value} {below : List Frame} {meth : Method} {c : Code} (Z : State) (a0 : Array Value) (hw : ∀ d ∈ tables_1, d.before a0 Z = true) (hx : p.tables.exec = Jvm.exec) (hby : c.code = code) (hlk : meth.locks = false) (hret : meth.sig.returnType = some .boolean) (hml : c.maxLocals = 23) (hown : s.vm.findClass "com/example/parley/parley/TableEntryPinLaw" = some m.cls) (hnm : meth.name = "law") (hZ : Z.Warmed39 s.vm) {Q : Option Value → Heap → List Loc → Prop} {cs ss : Nat} (Ls : Array Slot) (cc sl : Nat) (hcc : cc + 1 ≤ 24) (hsl : sl + 64 ≤ 256) (h0 hh : Heap) (n0 : Nat) (T0 : State) (locs0 : List Loc) (X0 : Stand p l e room_1 s m args below meth c T0 locs0 cc sl) (e0 : T0.heap = hh) (N0 : Fr n0 locs0) (Z0 : n0 ≤ hh.size) (kont : ∀ (T : State) (h : Heap) (b : Addr) (k : ClassId) (locs : List Loc), Stand p l e room_1 s m args below meth c T locs (cc + 1) (sl + 64) → T.heap = h → Fr n0 locs → n0 ≤ h.size → Keep hh h [] → hh.size ≤ b → n0 ≤ b → Arv Z h b k .double (64 : Int32) entsL (.double (0 : UInt64)) → Goes p e below s Q cs ss (T.setTop (mkF m 648 Ls [(.ref b)]))) :
    Goes p e below s Q cs ss (T0.setTop (mkF m 206 Ls [])) := by
  have K0 : Keep hh hh [] := Keep.refl _ _
  show Goes p e below s _ _ _ (T0.setTop (mkF m 206 Ls []))
  refine Goes.st (fun t k => XS.bipush X0.here hx rfl (hb hby at_206) k) ?_
  show Goes p e below s _ _ _ (T0.setTop (mkF m 208 Ls [(.int (64 : Int32))]))
  obtain ⟨T1, h1, cA1, X1, e1, E1, A1, st1⟩ := newP X0 hx hZ (hw _ (List.mem_of_getElem? (i := 8) rfl)) e0 (g := (mkF m 208 Ls [(.int (64 : Int32))])) rfl (hb hby at_208) rfl (by decide) (cap := 64) (by decide) (by decide) hcc hsl
  obtain ⟨b1, g1⟩ : ∃ z, z = hh.size := ⟨_, rfl⟩
  rw [← g1] at A1 st1
  have lo_b1 : n0 ≤ b1 := by have := Z0; omega
  have sz_b1 : hh.size ≤ b1 := by have := K0.1; omega
  have KK2 := K0.ext E1
  have V1 : Arv Z h1 b1 cA1 .double (64 : Int32) [(.double (0 : UInt64)), (.double (0 : UInt64)), (.double (0 : UInt64)), (.double (0 : UInt64)), (.double (0 : UInt64)), (.double (0 : UInt64)), (.double (0 : UInt64)), (.double (0 : UInt64)), (.double (0 : UInt64)), (.double (0 : UInt64)), (.double (0 : UInt64)), (.double (0 : UInt64)), (.double (0 : UInt64)), (.double (0 : UInt64)), (.double (0 : UInt64)), (.double (0 : UInt64)), (.double (0 : UInt64)), (.double (0 : UInt64)), (.double (0 : UInt64)), (.double (0 : UInt64)), (.double (0 : UInt64)), (.double (0 : UInt64)), (.double (0 : UInt64)), (.double (0 : UInt64)), (.double (0 : UInt64)), (.double (0 : UInt64)), (.double (0 : UInt64)), (.double (0 : UInt64)), (.double (0 : UInt64)), (.double (0 : UInt64)), (.double (0 : UInt64)), (.double (0 : UInt64)), (.double (0 : UInt64)), (.double (0 : UInt64)), (.double (0 : UInt64)), (.double (0 : UInt64)), (.double (0 : UInt64)), (.double (0 : UInt64)), (.double (0 : UInt64)), (.double (0 : UInt64)), (.double (0 : UInt64)), (.double (0 : UInt64)), (.double (0 : UInt64)), (.double (0 : UInt64)), (.double (0 : UInt64)), (.double (0 : UInt64)), (.double (0 : UInt64)), (.double (0 : UInt64)), (.double (0 : UInt64)), (.double (0 : UInt64)), (.double (0 : UInt64)), (.double (0 : UInt64)), (.double (0 : UInt64)), (.double (0 : UInt64)), (.double (0 : UInt64)), (.double (0 : UInt64)), (.double (0 : UInt64)), (.double (0 : UInt64)), (.double (0 : UInt64)), (.double (0 : UInt64)), (.double (0 : UInt64)), (.double (0 : UInt64)), (.double (0 : UInt64)), (.double (0 : UInt64))] (.double (0 : UInt64)) := (Arv.new A1 (by decide)).pad (pad_rep [] _ 64)
  refine Goes.st st1 ?_
  have Z1 : n0 ≤ h1.size := Nat.le_trans Z0 E1.1
  show Goes p e below s _ _ _ (T1.setTop (mkF m 210 Ls [(.ref b1)]))
  refine Goes.st (fun t k => XS.dup X1.here hx rfl (hb hby at_210) rfl rfl k) ?_
  show Goes p e below s _ _ _ (T1.setTop (mkF m 211 Ls [(.ref b1), (.ref b1)]))
  refine Goes.st (fun t k => XS.iconst X1.here hx rfl (hb hby at_211) k) ?_
  show Goes p e below s _ _ _ (T1.setTop (mkF m 212 Ls [(.int (0 : Int32)), (.ref b1), (.ref b1)]))
  refine Goes.st (fun t k => XS.dconst0 X1.here hx rfl (hb hby at_212) (v := FP.dconst0) rfl k) ?_
  show Goes p e below s _ _ _ (T1.setTop (mkF m 213 Ls [(.double FP.dconst0), (.int (0 : Int32)), (.ref b1), (.ref b1)]))
  obtain ⟨cl3, Ar3, qk3, Sz3, qz3, Ha3, Gf3⟩ := id V1
  obtain ⟨T3, h3, X3, e3, W3, st3⟩ := stD X1 hx hZ e1 Ar3 (inb_of Sz3 ⟨by decide, by decide⟩) (g := (mkF m 213 Ls [(.double FP.dconst0), (.int (0 : Int32)), (.ref b1), (.ref b1)])) rfl rfl (hb hby at_213)
  have N3 := Fr.snoc X3 N0 lo_b1
  have V3 := Arv.set Ar3 qk3 Sz3 qz3 Ha3 Gf3 rfl W3 0 (by decide) (by simp)
  refine Goes.st st3 ?_
  have KK4 := KK2.wr W3 (Or.inr sz_b1)
  have Z3 : n0 ≤ h3.size := by have := W3.size; have := Z1; omega
  show Goes p e below s _ _ _ (T3.setTop (mkF m 214 Ls [(.ref b1)]))
  refine Goes.st (fun t k => XS.dup X3.here hx rfl (hb hby at_214) rfl rfl k) ?_
  show Goes p e below s _ _ _ (T3.setTop (mkF m 215 Ls [(.ref b1), (.ref b1)]))
  refine Goes.st (fun t k => XS.iconst X3.here hx rfl (hb hby at_215) k) ?_
  show Goes p e below s _ _ _ (T3.setTop (mkF m 216 Ls [(.int (1 : Int32)), (.ref b1), (.ref b1)]))
  refine Goes.st (fun t k => XS.dconst1 X3.here hx rfl (hb hby at_216) (v := FP.dconst1) rfl k) ?_
  show Goes p e below s _ _ _ (T3.setTop (mkF m 217 Ls [(.double FP.dconst1), (.int (1 : Int32)), (.ref b1), (.ref b1)]))
  obtain ⟨cl5, Ar5, qk5, Sz5, qz5, Ha5, Gf5⟩ := id V3
  obtain ⟨T5, h5, X5, e5, W5, st5⟩ := stD X3 hx hZ e3 Ar5 (inb_of Sz5 ⟨by decide, by decide⟩) (g := (mkF m 217 Ls [(.double FP.dconst1), (.int (1 : Int32)), (.ref b1), (.ref b1)])) rfl rfl (hb hby at_217)
  have N5 := Fr.snoc X5 N3 lo_b1
  have V5 := Arv.set Ar5 qk5 Sz5 qz5 Ha5 Gf5 rfl W5 1 (by decide) (by simp)
  refine Goes.st st5 ?_
  have KK6 := KK4.wr W5 (Or.inr sz_b1)
  have Z5 : n0 ≤ h5.size := by have := W5.size; have := Z3; omega
  show Goes p e below s _ _ _ (T5.setTop (mkF m 218 Ls [(.ref b1)]))
  refine Goes.st (fun t k => XS.dup X5.here hx rfl (hb hby at_218) rfl rfl k) ?_
  show Goes p e below s _ _ _ (T5.setTop (mkF m 219 Ls [(.ref b1), (.ref b1)]))
  refine Goes.st (fun t k => XS.iconst X5.here hx rfl (hb hby at_219) k) ?_
  show Goes p e below s _ _ _ (T5.setTop (mkF m 220 Ls [(.int (2 : Int32)), (.ref b1), (.ref b1)]))
  refine Goes.st (fun t k => X5.ldc2DoubleC hx hown (mvT hZ (hw _ (List.mem_of_getElem? (i := 9) rfl))) (g := (mkF m 220 Ls [(.int (2 : Int32)), (.ref b1), (.ref b1)])) rfl (hb hby at_220) t k) ?_
  show Goes p e below s _ _ _ (T5.setTop (mkF m 223 Ls [(.double (4611686018427387904 : UInt64)), (.int (2 : Int32)), (.ref b1), (.ref b1)]))
  obtain ⟨cl7, Ar7, qk7, Sz7, qz7, Ha7, Gf7⟩ := id V5
  obtain ⟨T7, h7, X7, e7, W7, st7⟩ := stD X5 hx hZ e5 Ar7 (inb_of Sz7 ⟨by decide, by decide⟩) (g := (mkF m 223 Ls [(.double (4611686018427387904 : UInt64)), (.int (2 : Int32)), (.ref b1), (.ref b1)])) rfl rfl (hb hby at_223)
  have N7 := Fr.snoc X7 N5 lo_b1
  have V7 := Arv.set Ar7 qk7 Sz7 qz7 Ha7 Gf7 rfl W7 2 (by decide) (by simp)
  refine Goes.st st7 ?_
  have KK8 := KK6.wr W7 (Or.inr sz_b1)
  have Z7 : n0 ≤ h7.size := by have := W7.size; have := Z5; omega
  show Goes p e below s _ _ _ (T7.setTop (mkF m 224 Ls [(.ref b1)]))
  refine Goes.st (fun t k => XS.dup X7.here hx rfl (hb hby at_224) rfl rfl k) ?_
  show Goes p e below s _ _ _ (T7.setTop (mkF m 225 Ls [(.ref b1), (.ref b1)]))
  refine Goes.st (fun t k => XS.iconst X7.here hx rfl (hb hby at_225) k) ?_
  show Goes p e below s _ _ _ (T7.setTop (mkF m 226 Ls [(.int (3 : Int32)), (.ref b1), (.ref b1)]))
  refine Goes.st (fun t k => X7.ldc2DoubleC hx hown (mvT hZ (hw _ (List.mem_of_getElem? (i := 10) rfl))) (g := (mkF m 226 Ls [(.int (3 : Int32)), (.ref b1), (.ref b1)])) rfl (hb hby at_226) t k) ?_
  show Goes p e below s _ _ _ (T7.setTop (mkF m 229 Ls [(.double (4613937818241073152 : UInt64)), (.int (3 : Int32)), (.ref b1), (.ref b1)]))
  obtain ⟨cl9, Ar9, qk9, Sz9, qz9, Ha9, Gf9⟩ := id V7
  obtain ⟨T9, h9, X9, e9, W9, st9⟩ := stD X7 hx hZ e7 Ar9 (inb_of Sz9 ⟨by decide, by decide⟩) (g := (mkF m 229 Ls [(.double (4613937818241073152 : UInt64)), (.int (3 : Int32)), (.ref b1), (.ref b1)])) rfl rfl (hb hby at_229)
  have N9 := Fr.snoc X9 N7 lo_b1
  have V9 := Arv.set Ar9 qk9 Sz9 qz9 Ha9 Gf9 rfl W9 3 (by decide) (by simp)
  refine Goes.st st9 ?_
  have KK10 := KK8.wr W9 (Or.inr sz_b1)
  have Z9 : n0 ≤ h9.size := by have := W9.size; have := Z7; omega
  show Goes p e below s _ _ _ (T9.setTop (mkF m 230 Ls [(.ref b1)]))
  refine Goes.st (fun t k => XS.dup X9.here hx rfl (hb hby at_230) rfl rfl k) ?_
  show Goes p e below s _ _ _ (T9.setTop (mkF m 231 Ls [(.ref b1), (.ref b1)]))
  refine Goes.st (fun t k => XS.iconst X9.here hx rfl (hb hby at_231) k) ?_
  show Goes p e below s _ _ _ (T9.setTop (mkF m 232 Ls [(.int (4 : Int32)), (.ref b1), (.ref b1)]))
  refine Goes.st (fun t k => X9.ldc2DoubleC hx hown (mvT hZ (hw _ (List.mem_of_getElem? (i := 11) rfl))) (g := (mkF m 232 Ls [(.int (4 : Int32)), (.ref b1), (.ref b1)])) rfl (hb hby at_232) t k) ?_
  show Goes p e below s _ _ _ (T9.setTop (mkF m 235 Ls [(.double (4616189618054758400 : UInt64)), (.int (4 : Int32)), (.ref b1), (.ref b1)]))
  obtain ⟨cl11, Ar11, qk11, Sz11, qz11, Ha11, Gf11⟩ := id V9
  obtain ⟨T11, h11, X11, e11, W11, st11⟩ := stD X9 hx hZ e9 Ar11 (inb_of Sz11 ⟨by decide, by decide⟩) (g := (mkF m 235 Ls [(.double (4616189618054758400 : UInt64)), (.int (4 : Int32)), (.ref b1), (.ref b1)])) rfl rfl (hb hby at_235)
  have N11 := Fr.snoc X11 N9 lo_b1
  have V11 := Arv.set Ar11 qk11 Sz11 qz11 Ha11 Gf11 rfl W11 4 (by decide) (by simp)
  refine Goes.st st11 ?_
  have KK12 := KK10.wr W11 (Or.inr sz_b1)
  have Z11 : n0 ≤ h11.size := by have := W11.size; have := Z9; omega
  show Goes p e below s _ _ _ (T11.setTop (mkF m 236 Ls [(.ref b1)]))
  refine Goes.st (fun t k => XS.dup X11.here hx rfl (hb hby at_236) rfl rfl k) ?_
  show Goes p e below s _ _ _ (T11.setTop (mkF m 237 Ls [(.ref b1), (.ref b1)]))
  refine Goes.st (fun t k => XS.iconst X11.here hx rfl (hb hby at_237) k) ?_
  show Goes p e below s _ _ _ (T11.setTop (mkF m 238 Ls [(.int (5 : Int32)), (.ref b1), (.ref b1)]))
  refine Goes.st (fun t k => X11.ldc2DoubleC hx hown (mvT hZ (hw _ (List.mem_of_getElem? (i := 12) rfl))) (g := (mkF m 238 Ls [(.int (5 : Int32)), (.ref b1), (.ref b1)])) rfl (hb hby at_238) t k) ?_
  show Goes p e below s _ _ _ (T11.setTop (mkF m 241 Ls [(.double (4617315517961601024 : UInt64)), (.int (5 : Int32)), (.ref b1), (.ref b1)]))
  obtain ⟨cl13, Ar13, qk13, Sz13, qz13, Ha13, Gf13⟩ := id V11
  obtain ⟨T13, h13, X13, e13, W13, st13⟩ := stD X11 hx hZ e11 Ar13 (inb_of Sz13 ⟨by decide, by decide⟩) (g := (mkF m 241 Ls [(.double (4617315517961601024 : UInt64)), (.int (5 : Int32)), (.ref b1), (.ref b1)])) rfl rfl (hb hby at_241)
  have N13 := Fr.snoc X13 N11 lo_b1
  have V13 := Arv.set Ar13 qk13 Sz13 qz13 Ha13 Gf13 rfl W13 5 (by decide) (by simp)
  refine Goes.st st13 ?_
  have KK14 := KK12.wr W13 (Or.inr sz_b1)
  have Z13 : n0 ≤ h13.size := by have := W13.size; have := Z11; omega
  show Goes p e below s _ _ _ (T13.setTop (mkF m 242 Ls [(.ref b1)]))
  refine Goes.st (fun t k => XS.dup X13.here hx rfl (hb hby at_242) rfl rfl k) ?_
  show Goes p e below s _ _ _ (T13.setTop (mkF m 243 Ls [(.ref b1), (.ref b1)]))
  refine Goes.st (fun t k => XS.bipush X13.here hx rfl (hb hby at_243) k) ?_
  show Goes p e below s _ _ _ (T13.setTop (mkF m 245 Ls [(.int (6 : Int32)), (.ref b1), (.ref b1)]))
  refine Goes.st (fun t k => X13.ldc2DoubleC hx hown (mvT hZ (hw _ (List.mem_of_getElem? (i := 13) rfl))) (g := (mkF m 245 Ls [(.int (6 : Int32)), (.ref b1), (.ref b1)])) rfl (hb hby at_245) t k) ?_
  show Goes p e below s _ _ _ (T13.setTop (mkF m 248 Ls [(.double (4618441417868443648 : UInt64)), (.int (6 : Int32)), (.ref b1), (.ref b1)]))
  obtain ⟨cl15, Ar15, qk15, Sz15, qz15, Ha15, Gf15⟩ := id V13
  obtain ⟨T15, h15, X15, e15, W15, st15⟩ := stD X13 hx hZ e13 Ar15 (inb_of Sz15 ⟨by decide, by decide⟩) (g := (mkF m 248 Ls [(.double (4618441417868443648 : UInt64)), (.int (6 : Int32)), (.ref b1), (.ref b1)])) rfl rfl (hb hby at_248)
  have N15 := Fr.snoc X15 N13 lo_b1
  have V15 := Arv.set Ar15 qk15 Sz15 qz15 Ha15 Gf15 rfl W15 6 (by decide) (by simp)
  refine Goes.st st15 ?_
  have KK16 := KK14.wr W15 (Or.inr sz_b1)
  have Z15 : n0 ≤ h15.size := by have := W15.size; have := Z13; omega
  show Goes p e below s _ _ _ (T15.setTop (mkF m 249 Ls [(.ref b1)]))
  refine Goes.st (fun t k => XS.dup X15.here hx rfl (hb hby at_249) rfl rfl k) ?_
  show Goes p e below s _ _ _ (T15.setTop (mkF m 250 Ls [(.ref b1), (.ref b1)]))
  refine Goes.st (fun t k => XS.bipush X15.here hx rfl (hb hby at_250) k) ?_
  show Goes p e below s _ _ _ (T15.setTop (mkF m 252 Ls [(.int (7 : Int32)), (.ref b1), (.ref b1)]))
  refine Goes.st (fun t k => X15.ldc2DoubleC hx hown (mvT hZ (hw _ (List.mem_of_getElem? (i := 14) rfl))) (g := (mkF m 252 Ls [(.int (7 : Int32)), (.ref b1), (.ref b1)])) rfl (hb hby at_252) t k) ?_
  show Goes p e below s _ _ _ (T15.setTop (mkF m 255 Ls [(.double (4619567317775286272 : UInt64)), (.int (7 : Int32)), (.ref b1), (.ref b1)]))
  obtain ⟨cl17, Ar17, qk17, Sz17, qz17, Ha17, Gf17⟩ := id V15
  obtain ⟨T17, h17, X17, e17, W17, st17⟩ := stD X15 hx hZ e15 Ar17 (inb_of Sz17 ⟨by decide, by decide⟩) (g := (mkF m 255 Ls [(.double (4619567317775286272 : UInt64)), (.int (7 : Int32)), (.ref b1), (.ref b1)])) rfl rfl (hb hby at_255)
  have N17 := Fr.snoc X17 N15 lo_b1
  have V17 := Arv.set Ar17 qk17 Sz17 qz17 Ha17 Gf17 rfl W17 7 (by decide) (by simp)
  refine Goes.st st17 ?_
  have KK18 := KK16.wr W17 (Or.inr sz_b1)
  have Z17 : n0 ≤ h17.size := by have := W17.size; have := Z15; omega
  show Goes p e below s _ _ _ (T17.setTop (mkF m 256 Ls [(.ref b1)]))
  refine Goes.st (fun t k => XS.dup X17.here hx rfl (hb hby at_256) rfl rfl k) ?_
  show Goes p e below s _ _ _ (T17.setTop (mkF m 257 Ls [(.ref b1), (.ref b1)]))
  refine Goes.st (fun t k => XS.bipush X17.here hx rfl (hb hby at_257) k) ?_
  show Goes p e below s _ _ _ (T17.setTop (mkF m 259 Ls [(.int (8 : Int32)), (.ref b1), (.ref b1)]))
  refine Goes.st (fun t k => X17.ldc2DoubleC hx hown (mvT hZ (hw _ (List.mem_of_getElem? (i := 15) rfl))) (g := (mkF m 259 Ls [(.int (8 : Int32)), (.ref b1), (.ref b1)])) rfl (hb hby at_259) t k) ?_
  show Goes p e below s _ _ _ (T17.setTop (mkF m 262 Ls [(.double (4620693217682128896 : UInt64)), (.int (8 : Int32)), (.ref b1), (.ref b1)]))
  obtain ⟨cl19, Ar19, qk19, Sz19, qz19, Ha19, Gf19⟩ := id V17
  obtain ⟨T19, h19, X19, e19, W19, st19⟩ := stD X17 hx hZ e17 Ar19 (inb_of Sz19 ⟨by decide, by decide⟩) (g := (mkF m 262 Ls [(.double (4620693217682128896 : UInt64)), (.int (8 : Int32)), (.ref b1), (.ref b1)])) rfl rfl (hb hby at_262)
  have N19 := Fr.snoc X19 N17 lo_b1
  have V19 := Arv.set Ar19 qk19 Sz19 qz19 Ha19 Gf19 rfl W19 8 (by decide) (by simp)
  refine Goes.st st19 ?_
  have KK20 := KK18.wr W19 (Or.inr sz_b1)
  have Z19 : n0 ≤ h19.size := by have := W19.size; have := Z17; omega
  show Goes p e below s _ _ _ (T19.setTop (mkF m 263 Ls [(.ref b1)]))
  refine Goes.st (fun t k => XS.dup X19.here hx rfl (hb hby at_263) rfl rfl k) ?_
  show Goes p e below s _ _ _ (T19.setTop (mkF m 264 Ls [(.ref b1), (.ref b1)]))
  refine Goes.st (fun t k => XS.bipush X19.here hx rfl (hb hby at_264) k) ?_
  show Goes p e below s _ _ _ (T19.setTop (mkF m 266 Ls [(.int (9 : Int32)), (.ref b1), (.ref b1)]))
  refine Goes.st (fun t k => X19.ldc2DoubleC hx hown (mvT hZ (hw _ (List.mem_of_getElem? (i := 16) rfl))) (g := (mkF m 266 Ls [(.int (9 : Int32)), (.ref b1), (.ref b1)])) rfl (hb hby at_266) t k) ?_
  show Goes p e below s _ _ _ (T19.setTop (mkF m 269 Ls [(.double (4621256167635550208 : UInt64)), (.int (9 : Int32)), (.ref b1), (.ref b1)]))
  obtain ⟨cl21, Ar21, qk21, Sz21, qz21, Ha21, Gf21⟩ := id V19
  obtain ⟨T21, h21, X21, e21, W21, st21⟩ := stD X19 hx hZ e19 Ar21 (inb_of Sz21 ⟨by decide, by decide⟩) (g := (mkF m 269 Ls [(.double (4621256167635550208 : UInt64)), (.int (9 : Int32)), (.ref b1), (.ref b1)])) rfl rfl (hb hby at_269)
  have N21 := Fr.snoc X21 N19 lo_b1
  have V21 := Arv.set Ar21 qk21 Sz21 qz21 Ha21 Gf21 rfl W21 9 (by decide) (by simp)
  refine Goes.st st21 ?_
  have KK22 := KK20.wr W21 (Or.inr sz_b1)
  have Z21 : n0 ≤ h21.size := by have := W21.size; have := Z19; omega
  show Goes p e below s _ _ _ (T21.setTop (mkF m 270 Ls [(.ref b1)]))
  refine Goes.st (fun t k => XS.dup X21.here hx rfl (hb hby at_270) rfl rfl k) ?_
  show Goes p e below s _ _ _ (T21.setTop (mkF m 271 Ls [(.ref b1), (.ref b1)]))
  refine Goes.st (fun t k => XS.bipush X21.here hx rfl (hb hby at_271) k) ?_
  show Goes p e below s _ _ _ (T21.setTop (mkF m 273 Ls [(.int (10 : Int32)), (.ref b1), (.ref b1)]))
  refine Goes.st (fun t k => X21.ldc2DoubleC hx hown (mvT hZ (hw _ (List.mem_of_getElem? (i := 17) rfl))) (g := (mkF m 273 Ls [(.int (10 : Int32)), (.ref b1), (.ref b1)])) rfl (hb hby at_273) t k) ?_
  show Goes p e below s _ _ _ (T21.setTop (mkF m 276 Ls [(.double (4621819117588971520 : UInt64)), (.int (10 : Int32)), (.ref b1), (.ref b1)]))
  obtain ⟨cl23, Ar23, qk23, Sz23, qz23, Ha23, Gf23⟩ := id V21
  obtain ⟨T23, h23, X23, e23, W23, st23⟩ := stD X21 hx hZ e21 Ar23 (inb_of Sz23 ⟨by decide, by decide⟩) (g := (mkF m 276 Ls [(.double (4621819117588971520 : UInt64)), (.int (10 : Int32)), (.ref b1), (.ref b1)])) rfl rfl (hb hby at_276)
  have N23 := Fr.snoc X23 N21 lo_b1
  have V23 := Arv.set Ar23 qk23 Sz23 qz23 Ha23 Gf23 rfl W23 10 (by decide) (by simp)
  refine Goes.st st23 ?_
  have KK24 := KK22.wr W23 (Or.inr sz_b1)
  have Z23 : n0 ≤ h23.size := by have := W23.size; have := Z21; omega
  show Goes p e below s _ _ _ (T23.setTop (mkF m 277 Ls [(.ref b1)]))
  refine Goes.st (fun t k => XS.dup X23.here hx rfl (hb hby at_277) rfl rfl k) ?_
  show Goes p e below s _ _ _ (T23.setTop (mkF m 278 Ls [(.ref b1), (.ref b1)]))
  refine Goes.st (fun t k => XS.bipush X23.here hx rfl (hb hby at_278) k) ?_
  show Goes p e below s _ _ _ (T23.setTop (mkF m 280 Ls [(.int (11 : Int32)), (.ref b1), (.ref b1)]))
  refine Goes.st (fun t k => X23.ldc2DoubleC hx hown (mvT hZ (hw _ (List.mem_of_getElem? (i := 18) rfl))) (g := (mkF m 280 Ls [(.int (11 : Int32)), (.ref b1), (.ref b1)])) rfl (hb hby at_280) t k) ?_
  show Goes p e below s _ _ _ (T23.setTop (mkF m 283 Ls [(.double (4622382067542392832 : UInt64)), (.int (11 : Int32)), (.ref b1), (.ref b1)]))
  obtain ⟨cl25, Ar25, qk25, Sz25, qz25, Ha25, Gf25⟩ := id V23
  obtain ⟨T25, h25, X25, e25, W25, st25⟩ := stD X23 hx hZ e23 Ar25 (inb_of Sz25 ⟨by decide, by decide⟩) (g := (mkF m 283 Ls [(.double (4622382067542392832 : UInt64)), (.int (11 : Int32)), (.ref b1), (.ref b1)])) rfl rfl (hb hby at_283)
  have N25 := Fr.snoc X25 N23 lo_b1
  have V25 := Arv.set Ar25 qk25 Sz25 qz25 Ha25 Gf25 rfl W25 11 (by decide) (by simp)
  refine Goes.st st25 ?_
  have KK26 := KK24.wr W25 (Or.inr sz_b1)
  have Z25 : n0 ≤ h25.size := by have := W25.size; have := Z23; omega
  show Goes p e below s _ _ _ (T25.setTop (mkF m 284 Ls [(.ref b1)]))
  refine Goes.st (fun t k => XS.dup X25.here hx rfl (hb hby at_284) rfl rfl k) ?_
  show Goes p e below s _ _ _ (T25.setTop (mkF m 285 Ls [(.ref b1), (.ref b1)]))
  refine Goes.st (fun t k => XS.bipush X25.here hx rfl (hb hby at_285) k) ?_
  show Goes p e below s _ _ _ (T25.setTop (mkF m 287 Ls [(.int (12 : Int32)), (.ref b1), (.ref b1)]))
  refine Goes.st (fun t k => X25.ldc2DoubleC hx hown (mvT hZ (hw _ (List.mem_of_getElem? (i := 19) rfl))) (g := (mkF m 287 Ls [(.int (12 : Int32)), (.ref b1), (.ref b1)])) rfl (hb hby at_287) t k) ?_
  show Goes p e below s _ _ _ (T25.setTop (mkF m 290 Ls [(.double (4622945017495814144 : UInt64)), (.int (12 : Int32)), (.ref b1), (.ref b1)]))
  obtain ⟨cl27, Ar27, qk27, Sz27, qz27, Ha27, Gf27⟩ := id V25
  obtain ⟨T27, h27, X27, e27, W27, st27⟩ := stD X25 hx hZ e25 Ar27 (inb_of Sz27 ⟨by decide, by decide⟩) (g := (mkF m 290 Ls [(.double (4622945017495814144 : UInt64)), (.int (12 : Int32)), (.ref b1), (.ref b1)])) rfl rfl (hb hby at_290)
  have N27 := Fr.snoc X27 N25 lo_b1
  have V27 := Arv.set Ar27 qk27 Sz27 qz27 Ha27 Gf27 rfl W27 12 (by decide) (by simp)
  refine Goes.st st27 ?_
  have KK28 := KK26.wr W27 (Or.inr sz_b1)
  have Z27 : n0 ≤ h27.size := by have := W27.size; have := Z25; omega
  show Goes p e below s _ _ _ (T27.setTop (mkF m 291 Ls [(.ref b1)]))
  refine Goes.st (fun t k => XS.dup X27.here hx rfl (hb hby at_291) rfl rfl k) ?_
  show Goes p e below s _ _ _ (T27.setTop (mkF m 292 Ls [(.ref b1), (.ref b1)]))
  refine Goes.st (fun t k => XS.bipush X27.here hx rfl (hb hby at_292) k) ?_
  show Goes p e below s _ _ _ (T27.setTop (mkF m 294 Ls [(.int (13 : Int32)), (.ref b1), (.ref b1)]))
  refine Goes.st (fun t k => X27.ldc2DoubleC hx hown (mvT hZ (hw _ (List.mem_of_getElem? (i := 20) rfl))) (g := (mkF m 294 Ls [(.int (13 : Int32)), (.ref b1), (.ref b1)])) rfl (hb hby at_294) t k) ?_
  show Goes p e below s _ _ _ (T27.setTop (mkF m 297 Ls [(.double (4623507967449235456 : UInt64)), (.int (13 : Int32)), (.ref b1), (.ref b1)]))
  obtain ⟨cl29, Ar29, qk29, Sz29, qz29, Ha29, Gf29⟩ := id V27
  obtain ⟨T29, h29, X29, e29, W29, st29⟩ := stD X27 hx hZ e27 Ar29 (inb_of Sz29 ⟨by decide, by decide⟩) (g := (mkF m 297 Ls [(.double (4623507967449235456 : UInt64)), (.int (13 : Int32)), (.ref b1), (.ref b1)])) rfl rfl (hb hby at_297)
  have N29 := Fr.snoc X29 N27 lo_b1
  have V29 := Arv.set Ar29 qk29 Sz29 qz29 Ha29 Gf29 rfl W29 13 (by decide) (by simp)
  refine Goes.st st29 ?_
  have KK30 := KK28.wr W29 (Or.inr sz_b1)
  have Z29 : n0 ≤ h29.size := by have := W29.size; have := Z27; omega
  show Goes p e below s _ _ _ (T29.setTop (mkF m 298 Ls [(.ref b1)]))
  refine Goes.st (fun t k => XS.dup X29.here hx rfl (hb hby at_298) rfl rfl k) ?_
  show Goes p e below s _ _ _ (T29.setTop (mkF m 299 Ls [(.ref b1), (.ref b1)]))
  refine Goes.st (fun t k => XS.bipush X29.here hx rfl (hb hby at_299) k) ?_
  show Goes p e below s _ _ _ (T29.setTop (mkF m 301 Ls [(.int (14 : Int32)), (.ref b1), (.ref b1)]))
  refine Goes.st (fun t k => X29.ldc2DoubleC hx hown (mvT hZ (hw _ (List.mem_of_getElem? (i := 21) rfl))) (g := (mkF m 301 Ls [(.int (14 : Int32)), (.ref b1), (.ref b1)])) rfl (hb hby at_301) t k) ?_
  show Goes p e below s _ _ _ (T29.setTop (mkF m 304 Ls [(.double (4624070917402656768 : UInt64)), (.int (14 : Int32)), (.ref b1), (.ref b1)]))
  obtain ⟨cl31, Ar31, qk31, Sz31, qz31, Ha31, Gf31⟩ := id V29
  obtain ⟨T31, h31, X31, e31, W31, st31⟩ := stD X29 hx hZ e29 Ar31 (inb_of Sz31 ⟨by decide, by decide⟩) (g := (mkF m 304 Ls [(.double (4624070917402656768 : UInt64)), (.int (14 : Int32)), (.ref b1), (.ref b1)])) rfl rfl (hb hby at_304)
  have N31 := Fr.snoc X31 N29 lo_b1
  have V31 := Arv.set Ar31 qk31 Sz31 qz31 Ha31 Gf31 rfl W31 14 (by decide) (by simp)
  refine Goes.st st31 ?_
  have KK32 := KK30.wr W31 (Or.inr sz_b1)
  have Z31 : n0 ≤ h31.size := by have := W31.size; have := Z29; omega
  show Goes p e below s _ _ _ (T31.setTop (mkF m 305 Ls [(.ref b1)]))
  refine Goes.st (fun t k => XS.dup X31.here hx rfl (hb hby at_305) rfl rfl k) ?_
  show Goes p e below s _ _ _ (T31.setTop (mkF m 306 Ls [(.ref b1), (.ref b1)]))
  refine Goes.st (fun t k => XS.bipush X31.here hx rfl (hb hby at_306) k) ?_
  show Goes p e below s _ _ _ (T31.setTop (mkF m 308 Ls [(.int (15 : Int32)), (.ref b1), (.ref b1)]))
  refine Goes.st (fun t k => X31.ldc2DoubleC hx hown (mvT hZ (hw _ (List.mem_of_getElem? (i := 22) rfl))) (g := (mkF m 308 Ls [(.int (15 : Int32)), (.ref b1), (.ref b1)])) rfl (hb hby at_308) t k) ?_
  show Goes p e below s _ _ _ (T31.setTop (mkF m 311 Ls [(.double (4624633867356078080 : UInt64)), (.int (15 : Int32)), (.ref b1), (.ref b1)]))
  obtain ⟨cl33, Ar33, qk33, Sz33, qz33, Ha33, Gf33⟩ := id V31
  obtain ⟨T33, h33, X33, e33, W33, st33⟩ := stD X31 hx hZ e31 Ar33 (inb_of Sz33 ⟨by decide, by decide⟩) (g := (mkF m 311 Ls [(.double (4624633867356078080 : UInt64)), (.int (15 : Int32)), (.ref b1), (.ref b1)])) rfl rfl (hb hby at_311)
  have N33 := Fr.snoc X33 N31 lo_b1
  have V33 := Arv.set Ar33 qk33 Sz33 qz33 Ha33 Gf33 rfl W33 15 (by decide) (by simp)
  refine Goes.st st33 ?_
  have KK34 := KK32.wr W33 (Or.inr sz_b1)
  have Z33 : n0 ≤ h33.size := by have := W33.size; have := Z31; omega
  show Goes p e below s _ _ _ (T33.setTop (mkF m 312 Ls [(.ref b1)]))
  refine Goes.st (fun t k => XS.dup X33.here hx rfl (hb hby at_312) rfl rfl k) ?_
  show Goes p e below s _ _ _ (T33.setTop (mkF m 313 Ls [(.ref b1), (.ref b1)]))
  refine Goes.st (fun t k => XS.bipush X33.here hx rfl (hb hby at_313) k) ?_
  show Goes p e below s _ _ _ (T33.setTop (mkF m 315 Ls [(.int (16 : Int32)), (.ref b1), (.ref b1)]))
  refine Goes.st (fun t k => X33.ldc2DoubleC hx hown (mvT hZ (hw _ (List.mem_of_getElem? (i := 23) rfl))) (g := (mkF m 315 Ls [(.int (16 : Int32)), (.ref b1), (.ref b1)])) rfl (hb hby at_315) t k) ?_
  show Goes p e below s _ _ _ (T33.setTop (mkF m 318 Ls [(.double (4625196817309499392 : UInt64)), (.int (16 : Int32)), (.ref b1), (.ref b1)]))
  obtain ⟨cl35, Ar35, qk35, Sz35, qz35, Ha35, Gf35⟩ := id V33
  obtain ⟨T35, h35, X35, e35, W35, st35⟩ := stD X33 hx hZ e33 Ar35 (inb_of Sz35 ⟨by decide, by decide⟩) (g := (mkF m 318 Ls [(.double (4625196817309499392 : UInt64)), (.int (16 : Int32)), (.ref b1), (.ref b1)])) rfl rfl (hb hby at_318)
  have N35 := Fr.snoc X35 N33 lo_b1
  have V35 := Arv.set Ar35 qk35 Sz35 qz35 Ha35 Gf35 rfl W35 16 (by decide) (by simp)
  refine Goes.st st35 ?_
  have KK36 := KK34.wr W35 (Or.inr sz_b1)
  have Z35 : n0 ≤ h35.size := by have := W35.size; have := Z33; omega
  show Goes p e below s _ _ _ (T35.setTop (mkF m 319 Ls [(.ref b1)]))
  refine Goes.st (fun t k => XS.dup X35.here hx rfl (hb hby at_319) rfl rfl k) ?_
  show Goes p e below s _ _ _ (T35.setTop (mkF m 320 Ls [(.ref b1), (.ref b1)]))
  refine Goes.st (fun t k => XS.bipush X35.here hx rfl (hb hby at_320) k) ?_
  show Goes p e below s _ _ _ (T35.setTop (mkF m 322 Ls [(.int (17 : Int32)), (.ref b1), (.ref b1)]))
  refine Goes.st (fun t k => X35.ldc2DoubleC hx hown (mvT hZ (hw _ (List.mem_of_getElem? (i := 24) rfl))) (g := (mkF m 322 Ls [(.int (17 : Int32)), (.ref b1), (.ref b1)])) rfl (hb hby at_322) t k) ?_
  show Goes p e below s _ _ _ (T35.setTop (mkF m 325 Ls [(.double (4625478292286210048 : UInt64)), (.int (17 : Int32)), (.ref b1), (.ref b1)]))
  obtain ⟨cl37, Ar37, qk37, Sz37, qz37, Ha37, Gf37⟩ := id V35
  obtain ⟨T37, h37, X37, e37, W37, st37⟩ := stD X35 hx hZ e35 Ar37 (inb_of Sz37 ⟨by decide, by decide⟩) (g := (mkF m 325 Ls [(.double (4625478292286210048 : UInt64)), (.int (17 : Int32)), (.ref b1), (.ref b1)])) rfl rfl (hb hby at_325)
  have N37 := Fr.snoc X37 N35 lo_b1
  have V37 := Arv.set Ar37 qk37 Sz37 qz37 Ha37 Gf37 rfl W37 17 (by decide) (by simp)
  refine Goes.st st37 ?_
  have KK38 := KK36.wr W37 (Or.inr sz_b1)
  have Z37 : n0 ≤ h37.size := by have := W37.size; have := Z35; omega
  show Goes p e below s _ _ _ (T37.setTop (mkF m 326 Ls [(.ref b1)]))
  refine Goes.st (fun t k => XS.dup X37.here hx rfl (hb hby at_326) rfl rfl k) ?_
  show Goes p e below s _ _ _ (T37.setTop (mkF m 327 Ls [(.ref b1), (.ref b1)]))
  refine Goes.st (fun t k => XS.bipush X37.here hx rfl (hb hby at_327) k) ?_
  show Goes p e below s _ _ _ (T37.setTop (mkF m 329 Ls [(.int (18 : Int32)), (.ref b1), (.ref b1)]))
  refine Goes.st (fun t k => X37.ldc2DoubleC hx hown (mvT hZ (hw _ (List.mem_of_getElem? (i := 25) rfl))) (g := (mkF m 329 Ls [(.int (18 : Int32)), (.ref b1), (.ref b1)])) rfl (hb hby at_329) t k) ?_
  show Goes p e below s _ _ _ (T37.setTop (mkF m 332 Ls [(.double (4625759767262920704 : UInt64)), (.int (18 : Int32)), (.ref b1), (.ref b1)]))
  obtain ⟨cl39, Ar39, qk39, Sz39, qz39, Ha39, Gf39⟩ := id V37
  obtain ⟨T39, h39, X39, e39, W39, st39⟩ := stD X37 hx hZ e37 Ar39 (inb_of Sz39 ⟨by decide, by decide⟩) (g := (mkF m 332 Ls [(.double (4625759767262920704 : UInt64)), (.int (18 : Int32)), (.ref b1), (.ref b1)])) rfl rfl (hb hby at_332)
  have N39 := Fr.snoc X39 N37 lo_b1
  have V39 := Arv.set Ar39 qk39 Sz39 qz39 Ha39 Gf39 rfl W39 18 (by decide) (by simp)
  refine Goes.st st39 ?_
  have KK40 := KK38.wr W39 (Or.inr sz_b1)
  have Z39 : n0 ≤ h39.size := by have := W39.size; have := Z37; omega
  show Goes p e below s _ _ _ (T39.setTop (mkF m 333 Ls [(.ref b1)]))
  refine Goes.st (fun t k => XS.dup X39.here hx rfl (hb hby at_333) rfl rfl k) ?_
  show Goes p e below s _ _ _ (T39.setTop (mkF m 334 Ls [(.ref b1), (.ref b1)]))
  refine Goes.st (fun t k => XS.bipush X39.here hx rfl (hb hby at_334) k) ?_
  show Goes p e below s _ _ _ (T39.setTop (mkF m 336 Ls [(.int (19 : Int32)), (.ref b1), (.ref b1)]))
  refine Goes.st (fun t k => X39.ldc2DoubleC hx hown (mvT hZ (hw _ (List.mem_of_getElem? (i := 26) rfl))) (g := (mkF m 336 Ls [(.int (19 : Int32)), (.ref b1), (.ref b1)])) rfl (hb hby at_336) t k) ?_
  show Goes p e below s _ _ _ (T39.setTop (mkF m 339 Ls [(.double (4626041242239631360 : UInt64)), (.int (19 : Int32)), (.ref b1), (.ref b1)]))
  obtain ⟨cl41, Ar41, qk41, Sz41, qz41, Ha41, Gf41⟩ := id V39
  obtain ⟨T41, h41, X41, e41, W41, st41⟩ := stD X39 hx hZ e39 Ar41 (inb_of Sz41 ⟨by decide, by decide⟩) (g := (mkF m 339 Ls [(.double (4626041242239631360 : UInt64)), (.int (19 : Int32)), (.ref b1), (.ref b1)])) rfl rfl (hb hby at_339)
  have N41 := Fr.snoc X41 N39 lo_b1
  have V41 := Arv.set Ar41 qk41 Sz41 qz41 Ha41 Gf41 rfl W41 19 (by decide) (by simp)
  refine Goes.st st41 ?_
  have KK42 := KK40.wr W41 (Or.inr sz_b1)
  have Z41 : n0 ≤ h41.size := by have := W41.size; have := Z39; omega
  show Goes p e below s _ _ _ (T41.setTop (mkF m 340 Ls [(.ref b1)]))
  refine Goes.st (fun t k => XS.dup X41.here hx rfl (hb hby at_340) rfl rfl k) ?_
  show Goes p e below s _ _ _ (T41.setTop (mkF m 341 Ls [(.ref b1), (.ref b1)]))
  refine Goes.st (fun t k => XS.bipush X41.here hx rfl (hb hby at_341) k) ?_
  show Goes p e below s _ _ _ (T41.setTop (mkF m 343 Ls [(.int (20 : Int32)), (.ref b1), (.ref b1)]))
  refine Goes.st (fun t k => X41.ldc2DoubleC hx hown (mvT hZ (hw _ (List.mem_of_getElem? (i := 27) rfl))) (g := (mkF m 343 Ls [(.int (20 : Int32)), (.ref b1), (.ref b1)])) rfl (hb hby at_343) t k) ?_
  show Goes p e below s _ _ _ (T41.setTop (mkF m 346 Ls [(.double (4626322717216342016 : UInt64)), (.int (20 : Int32)), (.ref b1), (.ref b1)]))
  obtain ⟨cl43, Ar43, qk43, Sz43, qz43, Ha43, Gf43⟩ := id V41
  obtain ⟨T43, h43, X43, e43, W43, st43⟩ := stD X41 hx hZ e41 Ar43 (inb_of Sz43 ⟨by decide, by decide⟩) (g := (mkF m 346 Ls [(.double (4626322717216342016 : UInt64)), (.int (20 : Int32)), (.ref b1), (.ref b1)])) rfl rfl (hb hby at_346)
  have N43 := Fr.snoc X43 N41 lo_b1
  have V43 := Arv.set Ar43 qk43 Sz43 qz43 Ha43 Gf43 rfl W43 20 (by decide) (by simp)
  refine Goes.st st43 ?_
  have KK44 := KK42.wr W43 (Or.inr sz_b1)
  have Z43 : n0 ≤ h43.size := by have := W43.size; have := Z41; omega
  show Goes p e below s _ _ _ (T43.setTop (mkF m 347 Ls [(.ref b1)]))
  refine Goes.st (fun t k => XS.dup X43.here hx rfl (hb hby at_347) rfl rfl k) ?_
  show Goes p e below s _ _ _ (T43.setTop (mkF m 348 Ls [(.ref b1), (.ref b1)]))
  refine Goes.st (fun t k => XS.bipush X43.here hx rfl (hb hby at_348) k) ?_
  show Goes p e below s _ _ _ (T43.setTop (mkF m 350 Ls [(.int (21 : Int32)), (.ref b1), (.ref b1)]))
  refine Goes.st (fun t k => X43.ldc2DoubleC hx hown (mvT hZ (hw _ (List.mem_of_getElem? (i := 28) rfl))) (g := (mkF m 350 Ls [(.int (21 : Int32)), (.ref b1), (.ref b1)])) rfl (hb hby at_350) t k) ?_
  show Goes p e below s _ _ _ (T43.setTop (mkF m 353 Ls [(.double (4626604192193052672 : UInt64)), (.int (21 : Int32)), (.ref b1), (.ref b1)]))
  obtain ⟨cl45, Ar45, qk45, Sz45, qz45, Ha45, Gf45⟩ := id V43
  obtain ⟨T45, h45, X45, e45, W45, st45⟩ := stD X43 hx hZ e43 Ar45 (inb_of Sz45 ⟨by decide, by decide⟩) (g := (mkF m 353 Ls [(.double (4626604192193052672 : UInt64)), (.int (21 : Int32)), (.ref b1), (.ref b1)])) rfl rfl (hb hby at_353)
  have N45 := Fr.snoc X45 N43 lo_b1
  have V45 := Arv.set Ar45 qk45 Sz45 qz45 Ha45 Gf45 rfl W45 21 (by decide) (by simp)
  refine Goes.st st45 ?_
  have KK46 := KK44.wr W45 (Or.inr sz_b1)
  have Z45 : n0 ≤ h45.size := by have := W45.size; have := Z43; omega
  show Goes p e below s _ _ _ (T45.setTop (mkF m 354 Ls [(.ref b1)]))
  refine Goes.st (fun t k => XS.dup X45.here hx rfl (hb hby at_354) rfl rfl k) ?_
  show Goes p e below s _ _ _ (T45.setTop (mkF m 355 Ls [(.ref b1), (.ref b1)]))
  refine Goes.st (fun t k => XS.bipush X45.here hx rfl (hb hby at_355) k) ?_
  show Goes p e below s _ _ _ (T45.setTop (mkF m 357 Ls [(.int (22 : Int32)), (.ref b1), (.ref b1)]))
  refine Goes.st (fun t k => X45.ldc2DoubleC hx hown (mvT hZ (hw _ (List.mem_of_getElem? (i := 29) rfl))) (g := (mkF m 357 Ls [(.int (22 : Int32)), (.ref b1), (.ref b1)])) rfl (hb hby at_357) t k) ?_
  show Goes p e below s _ _ _ (T45.setTop (mkF m 360 Ls [(.double (4626885667169763328 : UInt64)), (.int (22 : Int32)), (.ref b1), (.ref b1)]))
  obtain ⟨cl47, Ar47, qk47, Sz47, qz47, Ha47, Gf47⟩ := id V45
  obtain ⟨T47, h47, X47, e47, W47, st47⟩ := stD X45 hx hZ e45 Ar47 (inb_of Sz47 ⟨by decide, by decide⟩) (g := (mkF m 360 Ls [(.double (4626885667169763328 : UInt64)), (.int (22 : Int32)), (.ref b1), (.ref b1)])) rfl rfl (hb hby at_360)
  have N47 := Fr.snoc X47 N45 lo_b1
  have V47 := Arv.set Ar47 qk47 Sz47 qz47 Ha47 Gf47 rfl W47 22 (by decide) (by simp)
  refine Goes.st st47 ?_
  have KK48 := KK46.wr W47 (Or.inr sz_b1)
  have Z47 : n0 ≤ h47.size := by have := W47.size; have := Z45; omega
  show Goes p e below s _ _ _ (T47.setTop (mkF m 361 Ls [(.ref b1)]))
  refine Goes.st (fun t k => XS.dup X47.here hx rfl (hb hby at_361) rfl rfl k) ?_
  show Goes p e below s _ _ _ (T47.setTop (mkF m 362 Ls [(.ref b1), (.ref b1)]))
  refine Goes.st (fun t k => XS.bipush X47.here hx rfl (hb hby at_362) k) ?_
  show Goes p e below s _ _ _ (T47.setTop (mkF m 364 Ls [(.int (23 : Int32)), (.ref b1), (.ref b1)]))
  refine Goes.st (fun t k => X47.ldc2DoubleC hx hown (mvT hZ (hw _ (List.mem_of_getElem? (i := 30) rfl))) (g := (mkF m 364 Ls [(.int (23 : Int32)), (.ref b1), (.ref b1)])) rfl (hb hby at_364) t k) ?_
  show Goes p e below s _ _ _ (T47.setTop (mkF m 367 Ls [(.double (4627167142146473984 : UInt64)), (.int (23 : Int32)), (.ref b1), (.ref b1)]))
  obtain ⟨cl49, Ar49, qk49, Sz49, qz49, Ha49, Gf49⟩ := id V47
  obtain ⟨T49, h49, X49, e49, W49, st49⟩ := stD X47 hx hZ e47 Ar49 (inb_of Sz49 ⟨by decide, by decide⟩) (g := (mkF m 367 Ls [(.double (4627167142146473984 : UInt64)), (.int (23 : Int32)), (.ref b1), (.ref b1)])) rfl rfl (hb hby at_367)
  have N49 := Fr.snoc X49 N47 lo_b1
  have V49 := Arv.set Ar49 qk49 Sz49 qz49 Ha49 Gf49 rfl W49 23 (by decide) (by simp)
  refine Goes.st st49 ?_
  have KK50 := KK48.wr W49 (Or.inr sz_b1)
  have Z49 : n0 ≤ h49.size := by have := W49.size; have := Z47; omega
  show Goes p e below s _ _ _ (T49.setTop (mkF m 368 Ls [(.ref b1)]))
  refine Goes.st (fun t k => XS.dup X49.here hx rfl (hb hby at_368) rfl rfl k) ?_
  show Goes p e below s _ _ _ (T49.setTop (mkF m 369 Ls [(.ref b1), (.ref b1)]))
  refine Goes.st (fun t k => XS.bipush X49.here hx rfl (hb hby at_369) k) ?_
  show Goes p e below s _ _ _ (T49.setTop (mkF m 371 Ls [(.int (24 : Int32)), (.ref b1), (.ref b1)]))
  refine Goes.st (fun t k => X49.ldc2DoubleC hx hown (mvT hZ (hw _ (List.mem_of_getElem? (i := 31) rfl))) (g := (mkF m 371 Ls [(.int (24 : Int32)), (.ref b1), (.ref b1)])) rfl (hb hby at_371) t k) ?_
  show Goes p e below s _ _ _ (T49.setTop (mkF m 374 Ls [(.double (4627448617123184640 : UInt64)), (.int (24 : Int32)), (.ref b1), (.ref b1)]))
  obtain ⟨cl51, Ar51, qk51, Sz51, qz51, Ha51, Gf51⟩ := id V49
  obtain ⟨T51, h51, X51, e51, W51, st51⟩ := stD X49 hx hZ e49 Ar51 (inb_of Sz51 ⟨by decide, by decide⟩) (g := (mkF m 374 Ls [(.double (4627448617123184640 : UInt64)), (.int (24 : Int32)), (.ref b1), (.ref b1)])) rfl rfl (hb hby at_374)
  have N51 := Fr.snoc X51 N49 lo_b1
  have V51 := Arv.set Ar51 qk51 Sz51 qz51 Ha51 Gf51 rfl W51 24 (by decide) (by simp)
  refine Goes.st st51 ?_
  have KK52 := KK50.wr W51 (Or.inr sz_b1)
  have Z51 : n0 ≤ h51.size := by have := W51.size; have := Z49; omega
  show Goes p e below s _ _ _ (T51.setTop (mkF m 375 Ls [(.ref b1)]))
  refine Goes.st (fun t k => XS.dup X51.here hx rfl (hb hby at_375) rfl rfl k) ?_
  show Goes p e below s _ _ _ (T51.setTop (mkF m 376 Ls [(.ref b1), (.ref b1)]))
  refine Goes.st (fun t k => XS.bipush X51.here hx rfl (hb hby at_376) k) ?_
  show Goes p e below s _ _ _ (T51.setTop (mkF m 378 Ls [(.int (25 : Int32)), (.ref b1), (.ref b1)]))
  refine Goes.st (fun t k => X51.ldc2DoubleC hx hown (mvT hZ (hw _ (List.mem_of_getElem? (i := 32) rfl))) (g := (mkF m 378 Ls [(.int (25 : Int32)), (.ref b1), (.ref b1)])) rfl (hb hby at_378) t k) ?_
  show Goes p e below s _ _ _ (T51.setTop (mkF m 381 Ls [(.double (4627730092099895296 : UInt64)), (.int (25 : Int32)), (.ref b1), (.ref b1)]))
  obtain ⟨cl53, Ar53, qk53, Sz53, qz53, Ha53, Gf53⟩ := id V51
  obtain ⟨T53, h53, X53, e53, W53, st53⟩ := stD X51 hx hZ e51 Ar53 (inb_of Sz53 ⟨by decide, by decide⟩) (g := (mkF m 381 Ls [(.double (4627730092099895296 : UInt64)), (.int (25 : Int32)), (.ref b1), (.ref b1)])) rfl rfl (hb hby at_381)
  have N53 := Fr.snoc X53 N51 lo_b1
  have V53 := Arv.set Ar53 qk53 Sz53 qz53 Ha53 Gf53 rfl W53 25 (by decide) (by simp)
  refine Goes.st st53 ?_
  have KK54 := KK52.wr W53 (Or.inr sz_b1)
  have Z53 : n0 ≤ h53.size := by have := W53.size; have := Z51; omega
  show Goes p e below s _ _ _ (T53.setTop (mkF m 382 Ls [(.ref b1)]))
  refine Goes.st (fun t k => XS.dup X53.here hx rfl (hb hby at_382) rfl rfl k) ?_
  show Goes p e below s _ _ _ (T53.setTop (mkF m 383 Ls [(.ref b1), (.ref b1)]))
  refine Goes.st (fun t k => XS.bipush X53.here hx rfl (hb hby at_383) k) ?_
  show Goes p e below s _ _ _ (T53.setTop (mkF m 385 Ls [(.int (26 : Int32)), (.ref b1), (.ref b1)]))
  refine Goes.st (fun t k => X53.ldc2DoubleC hx hown (mvT hZ (hw _ (List.mem_of_getElem? (i := 33) rfl))) (g := (mkF m 385 Ls [(.int (26 : Int32)), (.ref b1), (.ref b1)])) rfl (hb hby at_385) t k) ?_
  show Goes p e below s _ _ _ (T53.setTop (mkF m 388 Ls [(.double (4628011567076605952 : UInt64)), (.int (26 : Int32)), (.ref b1), (.ref b1)]))
  obtain ⟨cl55, Ar55, qk55, Sz55, qz55, Ha55, Gf55⟩ := id V53
  obtain ⟨T55, h55, X55, e55, W55, st55⟩ := stD X53 hx hZ e53 Ar55 (inb_of Sz55 ⟨by decide, by decide⟩) (g := (mkF m 388 Ls [(.double (4628011567076605952 : UInt64)), (.int (26 : Int32)), (.ref b1), (.ref b1)])) rfl rfl (hb hby at_388)
  have N55 := Fr.snoc X55 N53 lo_b1
  have V55 := Arv.set Ar55 qk55 Sz55 qz55 Ha55 Gf55 rfl W55 26 (by decide) (by simp)
  refine Goes.st st55 ?_
  have KK56 := KK54.wr W55 (Or.inr sz_b1)
  have Z55 : n0 ≤ h55.size := by have := W55.size; have := Z53; omega
  show Goes p e below s _ _ _ (T55.setTop (mkF m 389 Ls [(.ref b1)]))
  refine Goes.st (fun t k => XS.dup X55.here hx rfl (hb hby at_389) rfl rfl k) ?_
  show Goes p e below s _ _ _ (T55.setTop (mkF m 390 Ls [(.ref b1), (.ref b1)]))
  refine Goes.st (fun t k => XS.bipush X55.here hx rfl (hb hby at_390) k) ?_
  show Goes p e below s _ _ _ (T55.setTop (mkF m 392 Ls [(.int (27 : Int32)), (.ref b1), (.ref b1)]))
  refine Goes.st (fun t k => X55.ldc2DoubleC hx hown (mvT hZ (hw _ (List.mem_of_getElem? (i := 34) rfl))) (g := (mkF m 392 Ls [(.int (27 : Int32)), (.ref b1), (.ref b1)])) rfl (hb hby at_392) t k) ?_
  show Goes p e below s _ _ _ (T55.setTop (mkF m 395 Ls [(.double (4628293042053316608 : UInt64)), (.int (27 : Int32)), (.ref b1), (.ref b1)]))
  obtain ⟨cl57, Ar57, qk57, Sz57, qz57, Ha57, Gf57⟩ := id V55
  obtain ⟨T57, h57, X57, e57, W57, st57⟩ := stD X55 hx hZ e55 Ar57 (inb_of Sz57 ⟨by decide, by decide⟩) (g := (mkF m 395 Ls [(.double (4628293042053316608 : UInt64)), (.int (27 : Int32)), (.ref b1), (.ref b1)])) rfl rfl (hb hby at_395)
  have N57 := Fr.snoc X57 N55 lo_b1
  have V57 := Arv.set Ar57 qk57 Sz57 qz57 Ha57 Gf57 rfl W57 27 (by decide) (by simp)
  refine Goes.st st57 ?_
  have KK58 := KK56.wr W57 (Or.inr sz_b1)
  have Z57 : n0 ≤ h57.size := by have := W57.size; have := Z55; omega
  show Goes p e below s _ _ _ (T57.setTop (mkF m 396 Ls [(.ref b1)]))
  refine Goes.st (fun t k => XS.dup X57.here hx rfl (hb hby at_396) rfl rfl k) ?_
  show Goes p e below s _ _ _ (T57.setTop (mkF m 397 Ls [(.ref b1), (.ref b1)]))
  refine Goes.st (fun t k => XS.bipush X57.here hx rfl (hb hby at_397) k) ?_
  show Goes p e below s _ _ _ (T57.setTop (mkF m 399 Ls [(.int (28 : Int32)), (.ref b1), (.ref b1)]))
  refine Goes.st (fun t k => X57.ldc2DoubleC hx hown (mvT hZ (hw _ (List.mem_of_getElem? (i := 35) rfl))) (g := (mkF m 399 Ls [(.int (28 : Int32)), (.ref b1), (.ref b1)])) rfl (hb hby at_399) t k) ?_
  show Goes p e below s _ _ _ (T57.setTop (mkF m 402 Ls [(.double (4628574517030027264 : UInt64)), (.int (28 : Int32)), (.ref b1), (.ref b1)]))
  obtain ⟨cl59, Ar59, qk59, Sz59, qz59, Ha59, Gf59⟩ := id V57
  obtain ⟨T59, h59, X59, e59, W59, st59⟩ := stD X57 hx hZ e57 Ar59 (inb_of Sz59 ⟨by decide, by decide⟩) (g := (mkF m 402 Ls [(.double (4628574517030027264 : UInt64)), (.int (28 : Int32)), (.ref b1), (.ref b1)])) rfl rfl (hb hby at_402)
  have N59 := Fr.snoc X59 N57 lo_b1
  have V59 := Arv.set Ar59 qk59 Sz59 qz59 Ha59 Gf59 rfl W59 28 (by decide) (by simp)
  refine Goes.st st59 ?_
  have KK60 := KK58.wr W59 (Or.inr sz_b1)
  have Z59 : n0 ≤ h59.size := by have := W59.size; have := Z57; omega
  show Goes p e below s _ _ _ (T59.setTop (mkF m 403 Ls [(.ref b1)]))
  refine Goes.st (fun t k => XS.dup X59.here hx rfl (hb hby at_403) rfl rfl k) ?_
  show Goes p e below s _ _ _ (T59.setTop (mkF m 404 Ls [(.ref b1), (.ref b1)]))
  refine Goes.st (fun t k => XS.bipush X59.here hx rfl (hb hby at_404) k) ?_
  show Goes p e below s _ _ _ (T59.setTop (mkF m 406 Ls [(.int (29 : Int32)), (.ref b1), (.ref b1)]))
  refine Goes.st (fun t k => X59.ldc2DoubleC hx hown (mvT hZ (hw _ (List.mem_of_getElem? (i := 36) rfl))) (g := (mkF m 406 Ls [(.int (29 : Int32)), (.ref b1), (.ref b1)])) rfl (hb hby at_406) t k) ?_
  show Goes p e below s _ _ _ (T59.setTop (mkF m 409 Ls [(.double (4628855992006737920 : UInt64)), (.int (29 : Int32)), (.ref b1), (.ref b1)]))
  obtain ⟨cl61, Ar61, qk61, Sz61, qz61, Ha61, Gf61⟩ := id V59
  obtain ⟨T61, h61, X61, e61, W61, st61⟩ := stD X59 hx hZ e59 Ar61 (inb_of Sz61 ⟨by decide, by decide⟩) (g := (mkF m 409 Ls [(.double (4628855992006737920 : UInt64)), (.int (29 : Int32)), (.ref b1), (.ref b1)])) rfl rfl (hb hby at_409)
  have N61 := Fr.snoc X61 N59 lo_b1
  have V61 := Arv.set Ar61 qk61 Sz61 qz61 Ha61 Gf61 rfl W61 29 (by decide) (by simp)
  refine Goes.st st61 ?_
  have KK62 := KK60.wr W61 (Or.inr sz_b1)
  have Z61 : n0 ≤ h61.size := by have := W61.size; have := Z59; omega
  show Goes p e below s _ _ _ (T61.setTop (mkF m 410 Ls [(.ref b1)]))
  refine Goes.st (fun t k => XS.dup X61.here hx rfl (hb hby at_410) rfl rfl k) ?_
  show Goes p e below s _ _ _ (T61.setTop (mkF m 411 Ls [(.ref b1), (.ref b1)]))
  refine Goes.st (fun t k => XS.bipush X61.here hx rfl (hb hby at_411) k) ?_
  show Goes p e below s _ _ _ (T61.setTop (mkF m 413 Ls [(.int (30 : Int32)), (.ref b1), (.ref b1)]))
  refine Goes.st (fun t k => X61.ldc2DoubleC hx hown (mvT hZ (hw _ (List.mem_of_getElem? (i := 37) rfl))) (g := (mkF m 413 Ls [(.int (30 : Int32)), (.ref b1), (.ref b1)])) rfl (hb hby at_413) t k) ?_
  show Goes p e below s _ _ _ (T61.setTop (mkF m 416 Ls [(.double (4629137466983448576 : UInt64)), (.int (30 : Int32)), (.ref b1), (.ref b1)]))
  obtain ⟨cl63, Ar63, qk63, Sz63, qz63, Ha63, Gf63⟩ := id V61
  obtain ⟨T63, h63, X63, e63, W63, st63⟩ := stD X61 hx hZ e61 Ar63 (inb_of Sz63 ⟨by decide, by decide⟩) (g := (mkF m 416 Ls [(.double (4629137466983448576 : UInt64)), (.int (30 : Int32)), (.ref b1), (.ref b1)])) rfl rfl (hb hby at_416)
  have N63 := Fr.snoc X63 N61 lo_b1
  have V63 := Arv.set Ar63 qk63 Sz63 qz63 Ha63 Gf63 rfl W63 30 (by decide) (by simp)
  refine Goes.st st63 ?_
  have KK64 := KK62.wr W63 (Or.inr sz_b1)
  have Z63 : n0 ≤ h63.size := by have := W63.size; have := Z61; omega
  show Goes p e below s _ _ _ (T63.setTop (mkF m 417 Ls [(.ref b1)]))
  refine Goes.st (fun t k => XS.dup X63.here hx rfl (hb hby at_417) rfl rfl k) ?_
  show Goes p e below s _ _ _ (T63.setTop (mkF m 418 Ls [(.ref b1), (.ref b1)]))
  refine Goes.st (fun t k => XS.bipush X63.here hx rfl (hb hby at_418) k) ?_
  show Goes p e below s _ _ _ (T63.setTop (mkF m 420 Ls [(.int (31 : Int32)), (.ref b1), (.ref b1)]))
  refine Goes.st (fun t k => X63.ldc2DoubleC hx hown (mvT hZ (hw _ (List.mem_of_getElem? (i := 38) rfl))) (g := (mkF m 420 Ls [(.int (31 : Int32)), (.ref b1), (.ref b1)])) rfl (hb hby at_420) t k) ?_
  show Goes p e below s _ _ _ (T63.setTop (mkF m 423 Ls [(.double (4629418941960159232 : UInt64)), (.int (31 : Int32)), (.ref b1), (.ref b1)]))
  obtain ⟨cl65, Ar65, qk65, Sz65, qz65, Ha65, Gf65⟩ := id V63
  obtain ⟨T65, h65, X65, e65, W65, st65⟩ := stD X63 hx hZ e63 Ar65 (inb_of Sz65 ⟨by decide, by decide⟩) (g := (mkF m 423 Ls [(.double (4629418941960159232 : UInt64)), (.int (31 : Int32)), (.ref b1), (.ref b1)])) rfl rfl (hb hby at_423)
  have N65 := Fr.snoc X65 N63 lo_b1
  have V65 := Arv.set Ar65 qk65 Sz65 qz65 Ha65 Gf65 rfl W65 31 (by decide) (by simp)
  refine Goes.st st65 ?_
  have KK66 := KK64.wr W65 (Or.inr sz_b1)
  have Z65 : n0 ≤ h65.size := by have := W65.size; have := Z63; omega
  show Goes p e below s _ _ _ (T65.setTop (mkF m 424 Ls [(.ref b1)]))
  refine Goes.st (fun t k => XS.dup X65.here hx rfl (hb hby at_424) rfl rfl k) ?_
  show Goes p e below s _ _ _ (T65.setTop (mkF m 425 Ls [(.ref b1), (.ref b1)]))
  refine Goes.st (fun t k => XS.bipush X65.here hx rfl (hb hby at_425) k) ?_
  show Goes p e below s _ _ _ (T65.setTop (mkF m 427 Ls [(.int (32 : Int32)), (.ref b1), (.ref b1)]))
  refine Goes.st (fun t k => X65.ldc2DoubleC hx hown (mvT hZ (hw _ (List.mem_of_getElem? (i := 39) rfl))) (g := (mkF m 427 Ls [(.int (32 : Int32)), (.ref b1), (.ref b1)])) rfl (hb hby at_427) t k) ?_
  show Goes p e below s _ _ _ (T65.setTop (mkF m 430 Ls [(.double (4629700416936869888 : UInt64)), (.int (32 : Int32)), (.ref b1), (.ref b1)]))
  obtain ⟨cl67, Ar67, qk67, Sz67, qz67, Ha67, Gf67⟩ := id V65
  obtain ⟨T67, h67, X67, e67, W67, st67⟩ := stD X65 hx hZ e65 Ar67 (inb_of Sz67 ⟨by decide, by decide⟩) (g := (mkF m 430 Ls [(.double (4629700416936869888 : UInt64)), (.int (32 : Int32)), (.ref b1), (.ref b1)])) rfl rfl (hb hby at_430)
  have N67 := Fr.snoc X67 N65 lo_b1
  have V67 := Arv.set Ar67 qk67 Sz67 qz67 Ha67 Gf67 rfl W67 32 (by decide) (by simp)
  refine Goes.st st67 ?_
  have KK68 := KK66.wr W67 (Or.inr sz_b1)
  have Z67 : n0 ≤ h67.size := by have := W67.size; have := Z65; omega
  show Goes p e below s _ _ _ (T67.setTop (mkF m 431 Ls [(.ref b1)]))
  refine Goes.st (fun t k => XS.dup X67.here hx rfl (hb hby at_431) rfl rfl k) ?_
  show Goes p e below s _ _ _ (T67.setTop (mkF m 432 Ls [(.ref b1), (.ref b1)]))
  refine Goes.st (fun t k => XS.bipush X67.here hx rfl (hb hby at_432) k) ?_
  show Goes p e below s _ _ _ (T67.setTop (mkF m 434 Ls [(.int (33 : Int32)), (.ref b1), (.ref b1)]))
  refine Goes.st (fun t k => X67.ldc2DoubleC hx hown (mvT hZ (hw _ (List.mem_of_getElem? (i := 40) rfl))) (g := (mkF m 434 Ls [(.int (33 : Int32)), (.ref b1), (.ref b1)])) rfl (hb hby at_434) t k) ?_
  show Goes p e below s _ _ _ (T67.setTop (mkF m 437 Ls [(.double (4629841154425225216 : UInt64)), (.int (33 : Int32)), (.ref b1), (.ref b1)]))
  obtain ⟨cl69, Ar69, qk69, Sz69, qz69, Ha69, Gf69⟩ := id V67
  obtain ⟨T69, h69, X69, e69, W69, st69⟩ := stD X67 hx hZ e67 Ar69 (inb_of Sz69 ⟨by decide, by decide⟩) (g := (mkF m 437 Ls [(.double (4629841154425225216 : UInt64)), (.int (33 : Int32)), (.ref b1), (.ref b1)])) rfl rfl (hb hby at_437)
  have N69 := Fr.snoc X69 N67 lo_b1
  have V69 := Arv.set Ar69 qk69 Sz69 qz69 Ha69 Gf69 rfl W69 33 (by decide) (by simp)
  refine Goes.st st69 ?_
  have KK70 := KK68.wr W69 (Or.inr sz_b1)
  have Z69 : n0 ≤ h69.size := by have := W69.size; have := Z67; omega
  show Goes p e below s _ _ _ (T69.setTop (mkF m 438 Ls [(.ref b1)]))
  refine Goes.st (fun t k => XS.dup X69.here hx rfl (hb hby at_438) rfl rfl k) ?_
  show Goes p e below s _ _ _ (T69.setTop (mkF m 439 Ls [(.ref b1), (.ref b1)]))
  refine Goes.st (fun t k => XS.bipush X69.here hx rfl (hb hby at_439) k) ?_
  show Goes p e below s _ _ _ (T69.setTop (mkF m 441 Ls [(.int (34 : Int32)), (.ref b1), (.ref b1)]))
  refine Goes.st (fun t k => X69.ldc2DoubleC hx hown (mvT hZ (hw _ (List.mem_of_getElem? (i := 41) rfl))) (g := (mkF m 441 Ls [(.int (34 : Int32)), (.ref b1), (.ref b1)])) rfl (hb hby at_441) t k) ?_
  show Goes p e below s _ _ _ (T69.setTop (mkF m 444 Ls [(.double (4629981891913580544 : UInt64)), (.int (34 : Int32)), (.ref b1), (.ref b1)]))
  obtain ⟨cl71, Ar71, qk71, Sz71, qz71, Ha71, Gf71⟩ := id V69
  obtain ⟨T71, h71, X71, e71, W71, st71⟩ := stD X69 hx hZ e69 Ar71 (inb_of Sz71 ⟨by decide, by decide⟩) (g := (mkF m 444 Ls [(.double (4629981891913580544 : UInt64)), (.int (34 : Int32)), (.ref b1), (.ref b1)])) rfl rfl (hb hby at_444)
  have N71 := Fr.snoc X71 N69 lo_b1
  have V71 := Arv.set Ar71 qk71 Sz71 qz71 Ha71 Gf71 rfl W71 34 (by decide) (by simp)
  refine Goes.st st71 ?_
  have KK72 := KK70.wr W71 (Or.inr sz_b1)
  have Z71 : n0 ≤ h71.size := by have := W71.size; have := Z69; omega
  show Goes p e below s _ _ _ (T71.setTop (mkF m 445 Ls [(.ref b1)]))
  refine Goes.st (fun t k => XS.dup X71.here hx rfl (hb hby at_445) rfl rfl k) ?_
  show Goes p e below s _ _ _ (T71.setTop (mkF m 446 Ls [(.ref b1), (.ref b1)]))
  refine Goes.st (fun t k => XS.bipush X71.here hx rfl (hb hby at_446) k) ?_
  show Goes p e below s _ _ _ (T71.setTop (mkF m 448 Ls [(.int (35 : Int32)), (.ref b1), (.ref b1)]))
  refine Goes.st (fun t k => X71.ldc2DoubleC hx hown (mvT hZ (hw _ (List.mem_of_getElem? (i := 42) rfl))) (g := (mkF m 448 Ls [(.int (35 : Int32)), (.ref b1), (.ref b1)])) rfl (hb hby at_448) t k) ?_
  show Goes p e below s _ _ _ (T71.setTop (mkF m 451 Ls [(.double (4630122629401935872 : UInt64)), (.int (35 : Int32)), (.ref b1), (.ref b1)]))
  obtain ⟨cl73, Ar73, qk73, Sz73, qz73, Ha73, Gf73⟩ := id V71
  obtain ⟨T73, h73, X73, e73, W73, st73⟩ := stD X71 hx hZ e71 Ar73 (inb_of Sz73 ⟨by decide, by decide⟩) (g := (mkF m 451 Ls [(.double (4630122629401935872 : UInt64)), (.int (35 : Int32)), (.ref b1), (.ref b1)])) rfl rfl (hb hby at_451)
  have N73 := Fr.snoc X73 N71 lo_b1
  have V73 := Arv.set Ar73 qk73 Sz73 qz73 Ha73 Gf73 rfl W73 35 (by decide) (by simp)
  refine Goes.st st73 ?_
  have KK74 := KK72.wr W73 (Or.inr sz_b1)
  have Z73 : n0 ≤ h73.size := by have := W73.size; have := Z71; omega
  show Goes p e below s _ _ _ (T73.setTop (mkF m 452 Ls [(.ref b1)]))
  refine Goes.st (fun t k => XS.dup X73.here hx rfl (hb hby at_452) rfl rfl k) ?_
  show Goes p e below s _ _ _ (T73.setTop (mkF m 453 Ls [(.ref b1), (.ref b1)]))
  refine Goes.st (fun t k => XS.bipush X73.here hx rfl (hb hby at_453) k) ?_
  show Goes p e below s _ _ _ (T73.setTop (mkF m 455 Ls [(.int (36 : Int32)), (.ref b1), (.ref b1)]))
  refine Goes.st (fun t k => X73.ldc2DoubleC hx hown (mvT hZ (hw _ (List.mem_of_getElem? (i := 43) rfl))) (g := (mkF m 455 Ls [(.int (36 : Int32)), (.ref b1), (.ref b1)])) rfl (hb hby at_455) t k) ?_
  show Goes p e below s _ _ _ (T73.setTop (mkF m 458 Ls [(.double (4630263366890291200 : UInt64)), (.int (36 : Int32)), (.ref b1), (.ref b1)]))
  obtain ⟨cl75, Ar75, qk75, Sz75, qz75, Ha75, Gf75⟩ := id V73
  obtain ⟨T75, h75, X75, e75, W75, st75⟩ := stD X73 hx hZ e73 Ar75 (inb_of Sz75 ⟨by decide, by decide⟩) (g := (mkF m 458 Ls [(.double (4630263366890291200 : UInt64)), (.int (36 : Int32)), (.ref b1), (.ref b1)])) rfl rfl (hb hby at_458)
  have N75 := Fr.snoc X75 N73 lo_b1
  have V75 := Arv.set Ar75 qk75 Sz75 qz75 Ha75 Gf75 rfl W75 36 (by decide) (by simp)
  refine Goes.st st75 ?_
  have KK76 := KK74.wr W75 (Or.inr sz_b1)
  have Z75 : n0 ≤ h75.size := by have := W75.size; have := Z73; omega
  show Goes p e below s _ _ _ (T75.setTop (mkF m 459 Ls [(.ref b1)]))
  refine Goes.st (fun t k => XS.dup X75.here hx rfl (hb hby at_459) rfl rfl k) ?_
  show Goes p e below s _ _ _ (T75.setTop (mkF m 460 Ls [(.ref b1), (.ref b1)]))
  refine Goes.st (fun t k => XS.bipush X75.here hx rfl (hb hby at_460) k) ?_
  show Goes p e below s _ _ _ (T75.setTop (mkF m 462 Ls [(.int (37 : Int32)), (.ref b1), (.ref b1)]))
  refine Goes.st (fun t k => X75.ldc2DoubleC hx hown (mvT hZ (hw _ (List.mem_of_getElem? (i := 44) rfl))) (g := (mkF m 462 Ls [(.int (37 : Int32)), (.ref b1), (.ref b1)])) rfl (hb hby at_462) t k) ?_
  show Goes p e below s _ _ _ (T75.setTop (mkF m 465 Ls [(.double (4630404104378646528 : UInt64)), (.int (37 : Int32)), (.ref b1), (.ref b1)]))
  obtain ⟨cl77, Ar77, qk77, Sz77, qz77, Ha77, Gf77⟩ := id V75
  obtain ⟨T77, h77, X77, e77, W77, st77⟩ := stD X75 hx hZ e75 Ar77 (inb_of Sz77 ⟨by decide, by decide⟩) (g := (mkF m 465 Ls [(.double (4630404104378646528 : UInt64)), (.int (37 : Int32)), (.ref b1), (.ref b1)])) rfl rfl (hb hby at_465)
  have N77 := Fr.snoc X77 N75 lo_b1
  have V77 := Arv.set Ar77 qk77 Sz77 qz77 Ha77 Gf77 rfl W77 37 (by decide) (by simp)
  refine Goes.st st77 ?_
  have KK78 := KK76.wr W77 (Or.inr sz_b1)
  have Z77 : n0 ≤ h77.size := by have := W77.size; have := Z75; omega
  show Goes p e below s _ _ _ (T77.setTop (mkF m 466 Ls [(.ref b1)]))
  refine Goes.st (fun t k => XS.dup X77.here hx rfl (hb hby at_466) rfl rfl k) ?_
  show Goes p e below s _ _ _ (T77.setTop (mkF m 467 Ls [(.ref b1), (.ref b1)]))
  refine Goes.st (fun t k => XS.bipush X77.here hx rfl (hb hby at_467) k) ?_
  show Goes p e below s _ _ _ (T77.setTop (mkF m 469 Ls [(.int (38 : Int32)), (.ref b1), (.ref b1)]))
  refine Goes.st (fun t k => X77.ldc2DoubleC hx hown (mvT hZ (hw _ (List.mem_of_getElem? (i := 45) rfl))) (g := (mkF m 469 Ls [(.int (38 : Int32)), (.ref b1), (.ref b1)])) rfl (hb hby at_469) t k) ?_
  show Goes p e below s _ _ _ (T77.setTop (mkF m 472 Ls [(.double (4630544841867001856 : UInt64)), (.int (38 : Int32)), (.ref b1), (.ref b1)]))
  obtain ⟨cl79, Ar79, qk79, Sz79, qz79, Ha79, Gf79⟩ := id V77
  obtain ⟨T79, h79, X79, e79, W79, st79⟩ := stD X77 hx hZ e77 Ar79 (inb_of Sz79 ⟨by decide, by decide⟩) (g := (mkF m 472 Ls [(.double (4630544841867001856 : UInt64)), (.int (38 : Int32)), (.ref b1), (.ref b1)])) rfl rfl (hb hby at_472)
  have N79 := Fr.snoc X79 N77 lo_b1
  have V79 := Arv.set Ar79 qk79 Sz79 qz79 Ha79 Gf79 rfl W79 38 (by decide) (by simp)
  refine Goes.st st79 ?_
  have KK80 := KK78.wr W79 (Or.inr sz_b1)
  have Z79 : n0 ≤ h79.size := by have := W79.size; have := Z77; omega
  show Goes p e below s _ _ _ (T79.setTop (mkF m 473 Ls [(.ref b1)]))
  refine Goes.st (fun t k => XS.dup X79.here hx rfl (hb hby at_473) rfl rfl k) ?_
  show Goes p e below s _ _ _ (T79.setTop (mkF m 474 Ls [(.ref b1), (.ref b1)]))
  refine Goes.st (fun t k => XS.bipush X79.here hx rfl (hb hby at_474) k) ?_
  show Goes p e below s _ _ _ (T79.setTop (mkF m 476 Ls [(.int (39 : Int32)), (.ref b1), (.ref b1)]))
  refine Goes.st (fun t k => X79.ldc2DoubleC hx hown (mvT hZ (hw _ (List.mem_of_getElem? (i := 46) rfl))) (g := (mkF m 476 Ls [(.int (39 : Int32)), (.ref b1), (.ref b1)])) rfl (hb hby at_476) t k) ?_
  show Goes p e below s _ _ _ (T79.setTop (mkF m 479 Ls [(.double (4630685579355357184 : UInt64)), (.int (39 : Int32)), (.ref b1), (.ref b1)]))
  obtain ⟨cl81, Ar81, qk81, Sz81, qz81, Ha81, Gf81⟩ := id V79
  obtain ⟨T81, h81, X81, e81, W81, st81⟩ := stD X79 hx hZ e79 Ar81 (inb_of Sz81 ⟨by decide, by decide⟩) (g := (mkF m 479 Ls [(.double (4630685579355357184 : UInt64)), (.int (39 : Int32)), (.ref b1), (.ref b1)])) rfl rfl (hb hby at_479)
  have N81 := Fr.snoc X81 N79 lo_b1
  have V81 := Arv.set Ar81 qk81 Sz81 qz81 Ha81 Gf81 rfl W81 39 (by decide) (by simp)
  refine Goes.st st81 ?_
  have KK82 := KK80.wr W81 (Or.inr sz_b1)
  have Z81 : n0 ≤ h81.size := by have := W81.size; have := Z79; omega
  show Goes p e below s _ _ _ (T81.setTop (mkF m 480 Ls [(.ref b1)]))
  refine Goes.st (fun t k => XS.dup X81.here hx rfl (hb hby at_480) rfl rfl k) ?_
  show Goes p e below s _ _ _ (T81.setTop (mkF m 481 Ls [(.ref b1), (.ref b1)]))
  refine Goes.st (fun t k => XS.bipush X81.here hx rfl (hb hby at_481) k) ?_
  show Goes p e below s _ _ _ (T81.setTop (mkF m 483 Ls [(.int (40 : Int32)), (.ref b1), (.ref b1)]))
  refine Goes.st (fun t k => X81.ldc2DoubleC hx hown (mvT hZ (hw _ (List.mem_of_getElem? (i := 47) rfl))) (g := (mkF m 483 Ls [(.int (40 : Int32)), (.ref b1), (.ref b1)])) rfl (hb hby at_483) t k) ?_
  show Goes p e below s _ _ _ (T81.setTop (mkF m 486 Ls [(.double (4630826316843712512 : UInt64)), (.int (40 : Int32)), (.ref b1), (.ref b1)]))
  obtain ⟨cl83, Ar83, qk83, Sz83, qz83, Ha83, Gf83⟩ := id V81
  obtain ⟨T83, h83, X83, e83, W83, st83⟩ := stD X81 hx hZ e81 Ar83 (inb_of Sz83 ⟨by decide, by decide⟩) (g := (mkF m 486 Ls [(.double (4630826316843712512 : UInt64)), (.int (40 : Int32)), (.ref b1), (.ref b1)])) rfl rfl (hb hby at_486)
  have N83 := Fr.snoc X83 N81 lo_b1
  have V83 := Arv.set Ar83 qk83 Sz83 qz83 Ha83 Gf83 rfl W83 40 (by decide) (by simp)
  refine Goes.st st83 ?_
  have KK84 := KK82.wr W83 (Or.inr sz_b1)
  have Z83 : n0 ≤ h83.size := by have := W83.size; have := Z81; omega
  show Goes p e below s _ _ _ (T83.setTop (mkF m 487 Ls [(.ref b1)]))
  refine Goes.st (fun t k => XS.dup X83.here hx rfl (hb hby at_487) rfl rfl k) ?_
  show Goes p e below s _ _ _ (T83.setTop (mkF m 488 Ls [(.ref b1), (.ref b1)]))
  refine Goes.st (fun t k => XS.bipush X83.here hx rfl (hb hby at_488) k) ?_
  show Goes p e below s _ _ _ (T83.setTop (mkF m 490 Ls [(.int (41 : Int32)), (.ref b1), (.ref b1)]))
  refine Goes.st (fun t k => X83.ldc2DoubleC hx hown (mvT hZ (hw _ (List.mem_of_getElem? (i := 48) rfl))) (g := (mkF m 490 Ls [(.int (41 : Int32)), (.ref b1), (.ref b1)])) rfl (hb hby at_490) t k) ?_
  show Goes p e below s _ _ _ (T83.setTop (mkF m 493 Ls [(.double (4630967054332067840 : UInt64)), (.int (41 : Int32)), (.ref b1), (.ref b1)]))
  obtain ⟨cl85, Ar85, qk85, Sz85, qz85, Ha85, Gf85⟩ := id V83
  obtain ⟨T85, h85, X85, e85, W85, st85⟩ := stD X83 hx hZ e83 Ar85 (inb_of Sz85 ⟨by decide, by decide⟩) (g := (mkF m 493 Ls [(.double (4630967054332067840 : UInt64)), (.int (41 : Int32)), (.ref b1), (.ref b1)])) rfl rfl (hb hby at_493)
  have N85 := Fr.snoc X85 N83 lo_b1
  have V85 := Arv.set Ar85 qk85 Sz85 qz85 Ha85 Gf85 rfl W85 41 (by decide) (by simp)
  refine Goes.st st85 ?_
  have KK86 := KK84.wr W85 (Or.inr sz_b1)
  have Z85 : n0 ≤ h85.size := by have := W85.size; have := Z83; omega
  show Goes p e below s _ _ _ (T85.setTop (mkF m 494 Ls [(.ref b1)]))
  refine Goes.st (fun t k => XS.dup X85.here hx rfl (hb hby at_494) rfl rfl k) ?_
  show Goes p e below s _ _ _ (T85.setTop (mkF m 495 Ls [(.ref b1), (.ref b1)]))
  refine Goes.st (fun t k => XS.bipush X85.here hx rfl (hb hby at_495) k) ?_
  show Goes p e below s _ _ _ (T85.setTop (mkF m 497 Ls [(.int (42 : Int32)), (.ref b1), (.ref b1)]))
  refine Goes.st (fun t k => X85.ldc2DoubleC hx hown (mvT hZ (hw _ (List.mem_of_getElem? (i := 49) rfl))) (g := (mkF m 497 Ls [(.int (42 : Int32)), (.ref b1), (.ref b1)])) rfl (hb hby at_497) t k) ?_
  show Goes p e below s _ _ _ (T85.setTop (mkF m 500 Ls [(.double (4631107791820423168 : UInt64)), (.int (42 : Int32)), (.ref b1), (.ref b1)]))
  obtain ⟨cl87, Ar87, qk87, Sz87, qz87, Ha87, Gf87⟩ := id V85
  obtain ⟨T87, h87, X87, e87, W87, st87⟩ := stD X85 hx hZ e85 Ar87 (inb_of Sz87 ⟨by decide, by decide⟩) (g := (mkF m 500 Ls [(.double (4631107791820423168 : UInt64)), (.int (42 : Int32)), (.ref b1), (.ref b1)])) rfl rfl (hb hby at_500)
  have N87 := Fr.snoc X87 N85 lo_b1
  have V87 := Arv.set Ar87 qk87 Sz87 qz87 Ha87 Gf87 rfl W87 42 (by decide) (by simp)
  refine Goes.st st87 ?_
  have KK88 := KK86.wr W87 (Or.inr sz_b1)
  have Z87 : n0 ≤ h87.size := by have := W87.size; have := Z85; omega
  show Goes p e below s _ _ _ (T87.setTop (mkF m 501 Ls [(.ref b1)]))
  refine Goes.st (fun t k => XS.dup X87.here hx rfl (hb hby at_501) rfl rfl k) ?_
  show Goes p e below s _ _ _ (T87.setTop (mkF m 502 Ls [(.ref b1), (.ref b1)]))
  refine Goes.st (fun t k => XS.bipush X87.here hx rfl (hb hby at_502) k) ?_
  show Goes p e below s _ _ _ (T87.setTop (mkF m 504 Ls [(.int (43 : Int32)), (.ref b1), (.ref b1)]))
  refine Goes.st (fun t k => X87.ldc2DoubleC hx hown (mvT hZ (hw _ (List.mem_of_getElem? (i := 50) rfl))) (g := (mkF m 504 Ls [(.int (43 : Int32)), (.ref b1), (.ref b1)])) rfl (hb hby at_504) t k) ?_
  show Goes p e below s _ _ _ (T87.setTop (mkF m 507 Ls [(.double (4631248529308778496 : UInt64)), (.int (43 : Int32)), (.ref b1), (.ref b1)]))
  obtain ⟨cl89, Ar89, qk89, Sz89, qz89, Ha89, Gf89⟩ := id V87
  obtain ⟨T89, h89, X89, e89, W89, st89⟩ := stD X87 hx hZ e87 Ar89 (inb_of Sz89 ⟨by decide, by decide⟩) (g := (mkF m 507 Ls [(.double (4631248529308778496 : UInt64)), (.int (43 : Int32)), (.ref b1), (.ref b1)])) rfl rfl (hb hby at_507)
  have N89 := Fr.snoc X89 N87 lo_b1
  have V89 := Arv.set Ar89 qk89 Sz89 qz89 Ha89 Gf89 rfl W89 43 (by decide) (by simp)
  refine Goes.st st89 ?_
  have KK90 := KK88.wr W89 (Or.inr sz_b1)
  have Z89 : n0 ≤ h89.size := by have := W89.size; have := Z87; omega
  show Goes p e below s _ _ _ (T89.setTop (mkF m 508 Ls [(.ref b1)]))
  refine Goes.st (fun t k => XS.dup X89.here hx rfl (hb hby at_508) rfl rfl k) ?_
  show Goes p e below s _ _ _ (T89.setTop (mkF m 509 Ls [(.ref b1), (.ref b1)]))
  refine Goes.st (fun t k => XS.bipush X89.here hx rfl (hb hby at_509) k) ?_
  show Goes p e below s _ _ _ (T89.setTop (mkF m 511 Ls [(.int (44 : Int32)), (.ref b1), (.ref b1)]))
  refine Goes.st (fun t k => X89.ldc2DoubleC hx hown (mvT hZ (hw _ (List.mem_of_getElem? (i := 51) rfl))) (g := (mkF m 511 Ls [(.int (44 : Int32)), (.ref b1), (.ref b1)])) rfl (hb hby at_511) t k) ?_
  show Goes p e below s _ _ _ (T89.setTop (mkF m 514 Ls [(.double (4631389266797133824 : UInt64)), (.int (44 : Int32)), (.ref b1), (.ref b1)]))
  obtain ⟨cl91, Ar91, qk91, Sz91, qz91, Ha91, Gf91⟩ := id V89
  obtain ⟨T91, h91, X91, e91, W91, st91⟩ := stD X89 hx hZ e89 Ar91 (inb_of Sz91 ⟨by decide, by decide⟩) (g := (mkF m 514 Ls [(.double (4631389266797133824 : UInt64)), (.int (44 : Int32)), (.ref b1), (.ref b1)])) rfl rfl (hb hby at_514)
  have N91 := Fr.snoc X91 N89 lo_b1
  have V91 := Arv.set Ar91 qk91 Sz91 qz91 Ha91 Gf91 rfl W91 44 (by decide) (by simp)
  refine Goes.st st91 ?_
  have KK92 := KK90.wr W91 (Or.inr sz_b1)
  have Z91 : n0 ≤ h91.size := by have := W91.size; have := Z89; omega
  show Goes p e below s _ _ _ (T91.setTop (mkF m 515 Ls [(.ref b1)]))
  refine Goes.st (fun t k => XS.dup X91.here hx rfl (hb hby at_515) rfl rfl k) ?_
  show Goes p e below s _ _ _ (T91.setTop (mkF m 516 Ls [(.ref b1), (.ref b1)]))
  refine Goes.st (fun t k => XS.bipush X91.here hx rfl (hb hby at_516) k) ?_
  show Goes p e below s _ _ _ (T91.setTop (mkF m 518 Ls [(.int (45 : Int32)), (.ref b1), (.ref b1)]))
  refine Goes.st (fun t k => X91.ldc2DoubleC hx hown (mvT hZ (hw _ (List.mem_of_getElem? (i := 52) rfl))) (g := (mkF m 518 Ls [(.int (45 : Int32)), (.ref b1), (.ref b1)])) rfl (hb hby at_518) t k) ?_
  show Goes p e below s _ _ _ (T91.setTop (mkF m 521 Ls [(.double (4631530004285489152 : UInt64)), (.int (45 : Int32)), (.ref b1), (.ref b1)]))
  obtain ⟨cl93, Ar93, qk93, Sz93, qz93, Ha93, Gf93⟩ := id V91
  obtain ⟨T93, h93, X93, e93, W93, st93⟩ := stD X91 hx hZ e91 Ar93 (inb_of Sz93 ⟨by decide, by decide⟩) (g := (mkF m 521 Ls [(.double (4631530004285489152 : UInt64)), (.int (45 : Int32)), (.ref b1), (.ref b1)])) rfl rfl (hb hby at_521)
  have N93 := Fr.snoc X93 N91 lo_b1
  have V93 := Arv.set Ar93 qk93 Sz93 qz93 Ha93 Gf93 rfl W93 45 (by decide) (by simp)
  refine Goes.st st93 ?_
  have KK94 := KK92.wr W93 (Or.inr sz_b1)
  have Z93 : n0 ≤ h93.size := by have := W93.size; have := Z91; omega
  show Goes p e below s _ _ _ (T93.setTop (mkF m 522 Ls [(.ref b1)]))
  refine Goes.st (fun t k => XS.dup X93.here hx rfl (hb hby at_522) rfl rfl k) ?_
  show Goes p e below s _ _ _ (T93.setTop (mkF m 523 Ls [(.ref b1), (.ref b1)]))
  refine Goes.st (fun t k => XS.bipush X93.here hx rfl (hb hby at_523) k) ?_
  show Goes p e below s _ _ _ (T93.setTop (mkF m 525 Ls [(.int (46 : Int32)), (.ref b1), (.ref b1)]))
  refine Goes.st (fun t k => X93.ldc2DoubleC hx hown (mvT hZ (hw _ (List.mem_of_getElem? (i := 53) rfl))) (g := (mkF m 525 Ls [(.int (46 : Int32)), (.ref b1), (.ref b1)])) rfl (hb hby at_525) t k) ?_
  show Goes p e below s _ _ _ (T93.setTop (mkF m 528 Ls [(.double (4631670741773844480 : UInt64)), (.int (46 : Int32)), (.ref b1), (.ref b1)]))
  obtain ⟨cl95, Ar95, qk95, Sz95, qz95, Ha95, Gf95⟩ := id V93
  obtain ⟨T95, h95, X95, e95, W95, st95⟩ := stD X93 hx hZ e93 Ar95 (inb_of Sz95 ⟨by decide, by decide⟩) (g := (mkF m 528 Ls [(.double (4631670741773844480 : UInt64)), (.int (46 : Int32)), (.ref b1), (.ref b1)])) rfl rfl (hb hby at_528)
  have N95 := Fr.snoc X95 N93 lo_b1
  have V95 := Arv.set Ar95 qk95 Sz95 qz95 Ha95 Gf95 rfl W95 46 (by decide) (by simp)
  refine Goes.st st95 ?_
  have KK96 := KK94.wr W95 (Or.inr sz_b1)
  have Z95 : n0 ≤ h95.size := by have := W95.size; have := Z93; omega
  show Goes p e below s _ _ _ (T95.setTop (mkF m 529 Ls [(.ref b1)]))
  refine Goes.st (fun t k => XS.dup X95.here hx rfl (hb hby at_529) rfl rfl k) ?_
  show Goes p e below s _ _ _ (T95.setTop (mkF m 530 Ls [(.ref b1), (.ref b1)]))
  refine Goes.st (fun t k => XS.bipush X95.here hx rfl (hb hby at_530) k) ?_
  show Goes p e below s _ _ _ (T95.setTop (mkF m 532 Ls [(.int (47 : Int32)), (.ref b1), (.ref b1)]))
  refine Goes.st (fun t k => X95.ldc2DoubleC hx hown (mvT hZ (hw _ (List.mem_of_getElem? (i := 54) rfl))) (g := (mkF m 532 Ls [(.int (47 : Int32)), (.ref b1), (.ref b1)])) rfl (hb hby at_532) t k) ?_
  show Goes p e below s _ _ _ (T95.setTop (mkF m 535 Ls [(.double (4631811479262199808 : UInt64)), (.int (47 : Int32)), (.ref b1), (.ref b1)]))
  obtain ⟨cl97, Ar97, qk97, Sz97, qz97, Ha97, Gf97⟩ := id V95
  obtain ⟨T97, h97, X97, e97, W97, st97⟩ := stD X95 hx hZ e95 Ar97 (inb_of Sz97 ⟨by decide, by decide⟩) (g := (mkF m 535 Ls [(.double (4631811479262199808 : UInt64)), (.int (47 : Int32)), (.ref b1), (.ref b1)])) rfl rfl (hb hby at_535)
  have N97 := Fr.snoc X97 N95 lo_b1
  have V97 := Arv.set Ar97 qk97 Sz97 qz97 Ha97 Gf97 rfl W97 47 (by decide) (by simp)
  refine Goes.st st97 ?_
  have KK98 := KK96.wr W97 (Or.inr sz_b1)
  have Z97 : n0 ≤ h97.size := by have := W97.size; have := Z95; omega
  show Goes p e below s _ _ _ (T97.setTop (mkF m 536 Ls [(.ref b1)]))
  refine Goes.st (fun t k => XS.dup X97.here hx rfl (hb hby at_536) rfl rfl k) ?_
  show Goes p e below s _ _ _ (T97.setTop (mkF m 537 Ls [(.ref b1), (.ref b1)]))
  refine Goes.st (fun t k => XS.bipush X97.here hx rfl (hb hby at_537) k) ?_
  show Goes p e below s _ _ _ (T97.setTop (mkF m 539 Ls [(.int (48 : Int32)), (.ref b1), (.ref b1)]))
  refine Goes.st (fun t k => X97.ldc2DoubleC hx hown (mvT hZ (hw _ (List.mem_of_getElem? (i := 55) rfl))) (g := (mkF m 539 Ls [(.int (48 : Int32)), (.ref b1), (.ref b1)])) rfl (hb hby at_539) t k) ?_
  show Goes p e below s _ _ _ (T97.setTop (mkF m 542 Ls [(.double (4631952216750555136 : UInt64)), (.int (48 : Int32)), (.ref b1), (.ref b1)]))
  obtain ⟨cl99, Ar99, qk99, Sz99, qz99, Ha99, Gf99⟩ := id V97
  obtain ⟨T99, h99, X99, e99, W99, st99⟩ := stD X97 hx hZ e97 Ar99 (inb_of Sz99 ⟨by decide, by decide⟩) (g := (mkF m 542 Ls [(.double (4631952216750555136 : UInt64)), (.int (48 : Int32)), (.ref b1), (.ref b1)])) rfl rfl (hb hby at_542)
  have N99 := Fr.snoc X99 N97 lo_b1
  have V99 := Arv.set Ar99 qk99 Sz99 qz99 Ha99 Gf99 rfl W99 48 (by decide) (by simp)
  refine Goes.st st99 ?_
  have KK100 := KK98.wr W99 (Or.inr sz_b1)
  have Z99 : n0 ≤ h99.size := by have := W99.size; have := Z97; omega
  show Goes p e below s _ _ _ (T99.setTop (mkF m 543 Ls [(.ref b1)]))
  refine Goes.st (fun t k => XS.dup X99.here hx rfl (hb hby at_543) rfl rfl k) ?_
  show Goes p e below s _ _ _ (T99.setTop (mkF m 544 Ls [(.ref b1), (.ref b1)]))
  refine Goes.st (fun t k => XS.bipush X99.here hx rfl (hb hby at_544) k) ?_
  show Goes p e below s _ _ _ (T99.setTop (mkF m 546 Ls [(.int (49 : Int32)), (.ref b1), (.ref b1)]))
  refine Goes.st (fun t k => X99.ldc2DoubleC hx hown (mvT hZ (hw _ (List.mem_of_getElem? (i := 56) rfl))) (g := (mkF m 546 Ls [(.int (49 : Int32)), (.ref b1), (.ref b1)])) rfl (hb hby at_546) t k) ?_
  show Goes p e below s _ _ _ (T99.setTop (mkF m 549 Ls [(.double (4632092954238910464 : UInt64)), (.int (49 : Int32)), (.ref b1), (.ref b1)]))
  obtain ⟨cl101, Ar101, qk101, Sz101, qz101, Ha101, Gf101⟩ := id V99
  obtain ⟨T101, h101, X101, e101, W101, st101⟩ := stD X99 hx hZ e99 Ar101 (inb_of Sz101 ⟨by decide, by decide⟩) (g := (mkF m 549 Ls [(.double (4632092954238910464 : UInt64)), (.int (49 : Int32)), (.ref b1), (.ref b1)])) rfl rfl (hb hby at_549)
  have N101 := Fr.snoc X101 N99 lo_b1
  have V101 := Arv.set Ar101 qk101 Sz101 qz101 Ha101 Gf101 rfl W101 49 (by decide) (by simp)
  refine Goes.st st101 ?_
  have KK102 := KK100.wr W101 (Or.inr sz_b1)
  have Z101 : n0 ≤ h101.size := by have := W101.size; have := Z99; omega
  show Goes p e below s _ _ _ (T101.setTop (mkF m 550 Ls [(.ref b1)]))
  refine Goes.st (fun t k => XS.dup X101.here hx rfl (hb hby at_550) rfl rfl k) ?_
  show Goes p e below s _ _ _ (T101.setTop (mkF m 551 Ls [(.ref b1), (.ref b1)]))
  refine Goes.st (fun t k => XS.bipush X101.here hx rfl (hb hby at_551) k) ?_
  show Goes p e below s _ _ _ (T101.setTop (mkF m 553 Ls [(.int (50 : Int32)), (.ref b1), (.ref b1)]))
  refine Goes.st (fun t k => X101.ldc2DoubleC hx hown (mvT hZ (hw _ (List.mem_of_getElem? (i := 57) rfl))) (g := (mkF m 553 Ls [(.int (50 : Int32)), (.ref b1), (.ref b1)])) rfl (hb hby at_553) t k) ?_
  show Goes p e below s _ _ _ (T101.setTop (mkF m 556 Ls [(.double (4632233691727265792 : UInt64)), (.int (50 : Int32)), (.ref b1), (.ref b1)]))
  obtain ⟨cl103, Ar103, qk103, Sz103, qz103, Ha103, Gf103⟩ := id V101
  obtain ⟨T103, h103, X103, e103, W103, st103⟩ := stD X101 hx hZ e101 Ar103 (inb_of Sz103 ⟨by decide, by decide⟩) (g := (mkF m 556 Ls [(.double (4632233691727265792 : UInt64)), (.int (50 : Int32)), (.ref b1), (.ref b1)])) rfl rfl (hb hby at_556)
  have N103 := Fr.snoc X103 N101 lo_b1
  have V103 := Arv.set Ar103 qk103 Sz103 qz103 Ha103 Gf103 rfl W103 50 (by decide) (by simp)
  refine Goes.st st103 ?_
  have KK104 := KK102.wr W103 (Or.inr sz_b1)
  have Z103 : n0 ≤ h103.size := by have := W103.size; have := Z101; omega
  show Goes p e below s _ _ _ (T103.setTop (mkF m 557 Ls [(.ref b1)]))
  refine Goes.st (fun t k => XS.dup X103.here hx rfl (hb hby at_557) rfl rfl k) ?_
  show Goes p e below s _ _ _ (T103.setTop (mkF m 558 Ls [(.ref b1), (.ref b1)]))
  refine Goes.st (fun t k => XS.bipush X103.here hx rfl (hb hby at_558) k) ?_
  show Goes p e below s _ _ _ (T103.setTop (mkF m 560 Ls [(.int (51 : Int32)), (.ref b1), (.ref b1)]))
  refine Goes.st (fun t k => X103.ldc2DoubleC hx hown (mvT hZ (hw _ (List.mem_of_getElem? (i := 58) rfl))) (g := (mkF m 560 Ls [(.int (51 : Int32)), (.ref b1), (.ref b1)])) rfl (hb hby at_560) t k) ?_
  show Goes p e below s _ _ _ (T103.setTop (mkF m 563 Ls [(.double (4632374429215621120 : UInt64)), (.int (51 : Int32)), (.ref b1), (.ref b1)]))
  obtain ⟨cl105, Ar105, qk105, Sz105, qz105, Ha105, Gf105⟩ := id V103
  obtain ⟨T105, h105, X105, e105, W105, st105⟩ := stD X103 hx hZ e103 Ar105 (inb_of Sz105 ⟨by decide, by decide⟩) (g := (mkF m 563 Ls [(.double (4632374429215621120 : UInt64)), (.int (51 : Int32)), (.ref b1), (.ref b1)])) rfl rfl (hb hby at_563)
  have N105 := Fr.snoc X105 N103 lo_b1
  have V105 := Arv.set Ar105 qk105 Sz105 qz105 Ha105 Gf105 rfl W105 51 (by decide) (by simp)
  refine Goes.st st105 ?_
  have KK106 := KK104.wr W105 (Or.inr sz_b1)
  have Z105 : n0 ≤ h105.size := by have := W105.size; have := Z103; omega
  show Goes p e below s _ _ _ (T105.setTop (mkF m 564 Ls [(.ref b1)]))
  refine Goes.st (fun t k => XS.dup X105.here hx rfl (hb hby at_564) rfl rfl k) ?_
  show Goes p e below s _ _ _ (T105.setTop (mkF m 565 Ls [(.ref b1), (.ref b1)]))
  refine Goes.st (fun t k => XS.bipush X105.here hx rfl (hb hby at_565) k) ?_
  show Goes p e below s _ _ _ (T105.setTop (mkF m 567 Ls [(.int (52 : Int32)), (.ref b1), (.ref b1)]))
  refine Goes.st (fun t k => X105.ldc2DoubleC hx hown (mvT hZ (hw _ (List.mem_of_getElem? (i := 59) rfl))) (g := (mkF m 567 Ls [(.int (52 : Int32)), (.ref b1), (.ref b1)])) rfl (hb hby at_567) t k) ?_
  show Goes p e below s _ _ _ (T105.setTop (mkF m 570 Ls [(.double (4632515166703976448 : UInt64)), (.int (52 : Int32)), (.ref b1), (.ref b1)]))
  obtain ⟨cl107, Ar107, qk107, Sz107, qz107, Ha107, Gf107⟩ := id V105
  obtain ⟨T107, h107, X107, e107, W107, st107⟩ := stD X105 hx hZ e105 Ar107 (inb_of Sz107 ⟨by decide, by decide⟩) (g := (mkF m 570 Ls [(.double (4632515166703976448 : UInt64)), (.int (52 : Int32)), (.ref b1), (.ref b1)])) rfl rfl (hb hby at_570)
  have N107 := Fr.snoc X107 N105 lo_b1
  have V107 := Arv.set Ar107 qk107 Sz107 qz107 Ha107 Gf107 rfl W107 52 (by decide) (by simp)
  refine Goes.st st107 ?_
  have KK108 := KK106.wr W107 (Or.inr sz_b1)
  have Z107 : n0 ≤ h107.size := by have := W107.size; have := Z105; omega
  show Goes p e below s _ _ _ (T107.setTop (mkF m 571 Ls [(.ref b1)]))
  refine Goes.st (fun t k => XS.dup X107.here hx rfl (hb hby at_571) rfl rfl k) ?_
  show Goes p e below s _ _ _ (T107.setTop (mkF m 572 Ls [(.ref b1), (.ref b1)]))
  refine Goes.st (fun t k => XS.bipush X107.here hx rfl (hb hby at_572) k) ?_
  show Goes p e below s _ _ _ (T107.setTop (mkF m 574 Ls [(.int (53 : Int32)), (.ref b1), (.ref b1)]))
  refine Goes.st (fun t k => X107.ldc2DoubleC hx hown (mvT hZ (hw _ (List.mem_of_getElem? (i := 60) rfl))) (g := (mkF m 574 Ls [(.int (53 : Int32)), (.ref b1), (.ref b1)])) rfl (hb hby at_574) t k) ?_
  show Goes p e below s _ _ _ (T107.setTop (mkF m 577 Ls [(.double (4632655904192331776 : UInt64)), (.int (53 : Int32)), (.ref b1), (.ref b1)]))
  obtain ⟨cl109, Ar109, qk109, Sz109, qz109, Ha109, Gf109⟩ := id V107
  obtain ⟨T109, h109, X109, e109, W109, st109⟩ := stD X107 hx hZ e107 Ar109 (inb_of Sz109 ⟨by decide, by decide⟩) (g := (mkF m 577 Ls [(.double (4632655904192331776 : UInt64)), (.int (53 : Int32)), (.ref b1), (.ref b1)])) rfl rfl (hb hby at_577)
  have N109 := Fr.snoc X109 N107 lo_b1
  have V109 := Arv.set Ar109 qk109 Sz109 qz109 Ha109 Gf109 rfl W109 53 (by decide) (by simp)
  refine Goes.st st109 ?_
  have KK110 := KK108.wr W109 (Or.inr sz_b1)
  have Z109 : n0 ≤ h109.size := by have := W109.size; have := Z107; omega
  show Goes p e below s _ _ _ (T109.setTop (mkF m 578 Ls [(.ref b1)]))
  refine Goes.st (fun t k => XS.dup X109.here hx rfl (hb hby at_578) rfl rfl k) ?_
  show Goes p e below s _ _ _ (T109.setTop (mkF m 579 Ls [(.ref b1), (.ref b1)]))
  refine Goes.st (fun t k => XS.bipush X109.here hx rfl (hb hby at_579) k) ?_
  show Goes p e below s _ _ _ (T109.setTop (mkF m 581 Ls [(.int (54 : Int32)), (.ref b1), (.ref b1)]))
  refine Goes.st (fun t k => X109.ldc2DoubleC hx hown (mvT hZ (hw _ (List.mem_of_getElem? (i := 61) rfl))) (g := (mkF m 581 Ls [(.int (54 : Int32)), (.ref b1), (.ref b1)])) rfl (hb hby at_581) t k) ?_
  show Goes p e below s _ _ _ (T109.setTop (mkF m 584 Ls [(.double (4632796641680687104 : UInt64)), (.int (54 : Int32)), (.ref b1), (.ref b1)]))
  obtain ⟨cl111, Ar111, qk111, Sz111, qz111, Ha111, Gf111⟩ := id V109
  obtain ⟨T111, h111, X111, e111, W111, st111⟩ := stD X109 hx hZ e109 Ar111 (inb_of Sz111 ⟨by decide, by decide⟩) (g := (mkF m 584 Ls [(.double (4632796641680687104 : UInt64)), (.int (54 : Int32)), (.ref b1), (.ref b1)])) rfl rfl (hb hby at_584)
  have N111 := Fr.snoc X111 N109 lo_b1
  have V111 := Arv.set Ar111 qk111 Sz111 qz111 Ha111 Gf111 rfl W111 54 (by decide) (by simp)
  refine Goes.st st111 ?_
  have KK112 := KK110.wr W111 (Or.inr sz_b1)
  have Z111 : n0 ≤ h111.size := by have := W111.size; have := Z109; omega
  show Goes p e below s _ _ _ (T111.setTop (mkF m 585 Ls [(.ref b1)]))
  refine Goes.st (fun t k => XS.dup X111.here hx rfl (hb hby at_585) rfl rfl k) ?_
  show Goes p e below s _ _ _ (T111.setTop (mkF m 586 Ls [(.ref b1), (.ref b1)]))
  refine Goes.st (fun t k => XS.bipush X111.here hx rfl (hb hby at_586) k) ?_
  show Goes p e below s _ _ _ (T111.setTop (mkF m 588 Ls [(.int (55 : Int32)), (.ref b1), (.ref b1)]))
  refine Goes.st (fun t k => X111.ldc2DoubleC hx hown (mvT hZ (hw _ (List.mem_of_getElem? (i := 62) rfl))) (g := (mkF m 588 Ls [(.int (55 : Int32)), (.ref b1), (.ref b1)])) rfl (hb hby at_588) t k) ?_
  show Goes p e below s _ _ _ (T111.setTop (mkF m 591 Ls [(.double (4632937379169042432 : UInt64)), (.int (55 : Int32)), (.ref b1), (.ref b1)]))
  obtain ⟨cl113, Ar113, qk113, Sz113, qz113, Ha113, Gf113⟩ := id V111
  obtain ⟨T113, h113, X113, e113, W113, st113⟩ := stD X111 hx hZ e111 Ar113 (inb_of Sz113 ⟨by decide, by decide⟩) (g := (mkF m 591 Ls [(.double (4632937379169042432 : UInt64)), (.int (55 : Int32)), (.ref b1), (.ref b1)])) rfl rfl (hb hby at_591)
  have N113 := Fr.snoc X113 N111 lo_b1
  have V113 := Arv.set Ar113 qk113 Sz113 qz113 Ha113 Gf113 rfl W113 55 (by decide) (by simp)
  refine Goes.st st113 ?_
  have KK114 := KK112.wr W113 (Or.inr sz_b1)
  have Z113 : n0 ≤ h113.size := by have := W113.size; have := Z111; omega
  show Goes p e below s _ _ _ (T113.setTop (mkF m 592 Ls [(.ref b1)]))
  refine Goes.st (fun t k => XS.dup X113.here hx rfl (hb hby at_592) rfl rfl k) ?_
  show Goes p e below s _ _ _ (T113.setTop (mkF m 593 Ls [(.ref b1), (.ref b1)]))
  refine Goes.st (fun t k => XS.bipush X113.here hx rfl (hb hby at_593) k) ?_
  show Goes p e below s _ _ _ (T113.setTop (mkF m 595 Ls [(.int (56 : Int32)), (.ref b1), (.ref b1)]))
  refine Goes.st (fun t k => X113.ldc2DoubleC hx hown (mvT hZ (hw _ (List.mem_of_getElem? (i := 63) rfl))) (g := (mkF m 595 Ls [(.int (56 : Int32)), (.ref b1), (.ref b1)])) rfl (hb hby at_595) t k) ?_
  show Goes p e below s _ _ _ (T113.setTop (mkF m 598 Ls [(.double (4633078116657397760 : UInt64)), (.int (56 : Int32)), (.ref b1), (.ref b1)]))
  obtain ⟨cl115, Ar115, qk115, Sz115, qz115, Ha115, Gf115⟩ := id V113
  obtain ⟨T115, h115, X115, e115, W115, st115⟩ := stD X113 hx hZ e113 Ar115 (inb_of Sz115 ⟨by decide, by decide⟩) (g := (mkF m 598 Ls [(.double (4633078116657397760 : UInt64)), (.int (56 : Int32)), (.ref b1), (.ref b1)])) rfl rfl (hb hby at_598)
  have N115 := Fr.snoc X115 N113 lo_b1
  have V115 := Arv.set Ar115 qk115 Sz115 qz115 Ha115 Gf115 rfl W115 56 (by decide) (by simp)
  refine Goes.st st115 ?_
  have KK116 := KK114.wr W115 (Or.inr sz_b1)
  have Z115 : n0 ≤ h115.size := by have := W115.size; have := Z113; omega
  show Goes p e below s _ _ _ (T115.setTop (mkF m 599 Ls [(.ref b1)]))
  refine Goes.st (fun t k => XS.dup X115.here hx rfl (hb hby at_599) rfl rfl k) ?_
  show Goes p e below s _ _ _ (T115.setTop (mkF m 600 Ls [(.ref b1), (.ref b1)]))
  refine Goes.st (fun t k => XS.bipush X115.here hx rfl (hb hby at_600) k) ?_
  show Goes p e below s _ _ _ (T115.setTop (mkF m 602 Ls [(.int (57 : Int32)), (.ref b1), (.ref b1)]))
  refine Goes.st (fun t k => X115.ldc2DoubleC hx hown (mvT hZ (hw _ (List.mem_of_getElem? (i := 64) rfl))) (g := (mkF m 602 Ls [(.int (57 : Int32)), (.ref b1), (.ref b1)])) rfl (hb hby at_602) t k) ?_
  show Goes p e below s _ _ _ (T115.setTop (mkF m 605 Ls [(.double (4633218854145753088 : UInt64)), (.int (57 : Int32)), (.ref b1), (.ref b1)]))
  obtain ⟨cl117, Ar117, qk117, Sz117, qz117, Ha117, Gf117⟩ := id V115
  obtain ⟨T117, h117, X117, e117, W117, st117⟩ := stD X115 hx hZ e115 Ar117 (inb_of Sz117 ⟨by decide, by decide⟩) (g := (mkF m 605 Ls [(.double (4633218854145753088 : UInt64)), (.int (57 : Int32)), (.ref b1), (.ref b1)])) rfl rfl (hb hby at_605)
  have N117 := Fr.snoc X117 N115 lo_b1
  have V117 := Arv.set Ar117 qk117 Sz117 qz117 Ha117 Gf117 rfl W117 57 (by decide) (by simp)
  refine Goes.st st117 ?_
  have KK118 := KK116.wr W117 (Or.inr sz_b1)
  have Z117 : n0 ≤ h117.size := by have := W117.size; have := Z115; omega
  show Goes p e below s _ _ _ (T117.setTop (mkF m 606 Ls [(.ref b1)]))
  refine Goes.st (fun t k => XS.dup X117.here hx rfl (hb hby at_606) rfl rfl k) ?_
  show Goes p e below s _ _ _ (T117.setTop (mkF m 607 Ls [(.ref b1), (.ref b1)]))
  refine Goes.st (fun t k => XS.bipush X117.here hx rfl (hb hby at_607) k) ?_
  show Goes p e below s _ _ _ (T117.setTop (mkF m 609 Ls [(.int (58 : Int32)), (.ref b1), (.ref b1)]))
  refine Goes.st (fun t k => X117.ldc2DoubleC hx hown (mvT hZ (hw _ (List.mem_of_getElem? (i := 65) rfl))) (g := (mkF m 609 Ls [(.int (58 : Int32)), (.ref b1), (.ref b1)])) rfl (hb hby at_609) t k) ?_
  show Goes p e below s _ _ _ (T117.setTop (mkF m 612 Ls [(.double (4633359591634108416 : UInt64)), (.int (58 : Int32)), (.ref b1), (.ref b1)]))
  obtain ⟨cl119, Ar119, qk119, Sz119, qz119, Ha119, Gf119⟩ := id V117
  obtain ⟨T119, h119, X119, e119, W119, st119⟩ := stD X117 hx hZ e117 Ar119 (inb_of Sz119 ⟨by decide, by decide⟩) (g := (mkF m 612 Ls [(.double (4633359591634108416 : UInt64)), (.int (58 : Int32)), (.ref b1), (.ref b1)])) rfl rfl (hb hby at_612)
  have N119 := Fr.snoc X119 N117 lo_b1
  have V119 := Arv.set Ar119 qk119 Sz119 qz119 Ha119 Gf119 rfl W119 58 (by decide) (by simp)
  refine Goes.st st119 ?_
  have KK120 := KK118.wr W119 (Or.inr sz_b1)
  have Z119 : n0 ≤ h119.size := by have := W119.size; have := Z117; omega
  show Goes p e below s _ _ _ (T119.setTop (mkF m 613 Ls [(.ref b1)]))
  refine Goes.st (fun t k => XS.dup X119.here hx rfl (hb hby at_613) rfl rfl k) ?_
  show Goes p e below s _ _ _ (T119.setTop (mkF m 614 Ls [(.ref b1), (.ref b1)]))
  refine Goes.st (fun t k => XS.bipush X119.here hx rfl (hb hby at_614) k) ?_
  show Goes p e below s _ _ _ (T119.setTop (mkF m 616 Ls [(.int (59 : Int32)), (.ref b1), (.ref b1)]))
  refine Goes.st (fun t k => X119.ldc2DoubleC hx hown (mvT hZ (hw _ (List.mem_of_getElem? (i := 66) rfl))) (g := (mkF m 616 Ls [(.int (59 : Int32)), (.ref b1), (.ref b1)])) rfl (hb hby at_616) t k) ?_
  show Goes p e below s _ _ _ (T119.setTop (mkF m 619 Ls [(.double (4633500329122463744 : UInt64)), (.int (59 : Int32)), (.ref b1), (.ref b1)]))
  obtain ⟨cl121, Ar121, qk121, Sz121, qz121, Ha121, Gf121⟩ := id V119
  obtain ⟨T121, h121, X121, e121, W121, st121⟩ := stD X119 hx hZ e119 Ar121 (inb_of Sz121 ⟨by decide, by decide⟩) (g := (mkF m 619 Ls [(.double (4633500329122463744 : UInt64)), (.int (59 : Int32)), (.ref b1), (.ref b1)])) rfl rfl (hb hby at_619)
  have N121 := Fr.snoc X121 N119 lo_b1
  have V121 := Arv.set Ar121 qk121 Sz121 qz121 Ha121 Gf121 rfl W121 59 (by decide) (by simp)
  refine Goes.st st121 ?_
  have KK122 := KK120.wr W121 (Or.inr sz_b1)
  have Z121 : n0 ≤ h121.size := by have := W121.size; have := Z119; omega
  show Goes p e below s _ _ _ (T121.setTop (mkF m 620 Ls [(.ref b1)]))
  refine Goes.st (fun t k => XS.dup X121.here hx rfl (hb hby at_620) rfl rfl k) ?_
  show Goes p e below s _ _ _ (T121.setTop (mkF m 621 Ls [(.ref b1), (.ref b1)]))
  refine Goes.st (fun t k => XS.bipush X121.here hx rfl (hb hby at_621) k) ?_
  show Goes p e below s _ _ _ (T121.setTop (mkF m 623 Ls [(.int (60 : Int32)), (.ref b1), (.ref b1)]))
  refine Goes.st (fun t k => X121.ldc2DoubleC hx hown (mvT hZ (hw _ (List.mem_of_getElem? (i := 67) rfl))) (g := (mkF m 623 Ls [(.int (60 : Int32)), (.ref b1), (.ref b1)])) rfl (hb hby at_623) t k) ?_
  show Goes p e below s _ _ _ (T121.setTop (mkF m 626 Ls [(.double (4633641066610819072 : UInt64)), (.int (60 : Int32)), (.ref b1), (.ref b1)]))
  obtain ⟨cl123, Ar123, qk123, Sz123, qz123, Ha123, Gf123⟩ := id V121
  obtain ⟨T123, h123, X123, e123, W123, st123⟩ := stD X121 hx hZ e121 Ar123 (inb_of Sz123 ⟨by decide, by decide⟩) (g := (mkF m 626 Ls [(.double (4633641066610819072 : UInt64)), (.int (60 : Int32)), (.ref b1), (.ref b1)])) rfl rfl (hb hby at_626)
  have N123 := Fr.snoc X123 N121 lo_b1
  have V123 := Arv.set Ar123 qk123 Sz123 qz123 Ha123 Gf123 rfl W123 60 (by decide) (by simp)
  refine Goes.st st123 ?_
  have KK124 := KK122.wr W123 (Or.inr sz_b1)
  have Z123 : n0 ≤ h123.size := by have := W123.size; have := Z121; omega
  show Goes p e below s _ _ _ (T123.setTop (mkF m 627 Ls [(.ref b1)]))
  refine Goes.st (fun t k => XS.dup X123.here hx rfl (hb hby at_627) rfl rfl k) ?_
  show Goes p e below s _ _ _ (T123.setTop (mkF m 628 Ls [(.ref b1), (.ref b1)]))
  refine Goes.st (fun t k => XS.bipush X123.here hx rfl (hb hby at_628) k) ?_
  show Goes p e below s _ _ _ (T123.setTop (mkF m 630 Ls [(.int (61 : Int32)), (.ref b1), (.ref b1)]))
  refine Goes.st (fun t k => X123.ldc2DoubleC hx hown (mvT hZ (hw _ (List.mem_of_getElem? (i := 68) rfl))) (g := (mkF m 630 Ls [(.int (61 : Int32)), (.ref b1), (.ref b1)])) rfl (hb hby at_630) t k) ?_
  show Goes p e below s _ _ _ (T123.setTop (mkF m 633 Ls [(.double (4633781804099174400 : UInt64)), (.int (61 : Int32)), (.ref b1), (.ref b1)]))
  obtain ⟨cl125, Ar125, qk125, Sz125, qz125, Ha125, Gf125⟩ := id V123
  obtain ⟨T125, h125, X125, e125, W125, st125⟩ := stD X123 hx hZ e123 Ar125 (inb_of Sz125 ⟨by decide, by decide⟩) (g := (mkF m 633 Ls [(.double (4633781804099174400 : UInt64)), (.int (61 : Int32)), (.ref b1), (.ref b1)])) rfl rfl (hb hby at_633)
  have N125 := Fr.snoc X125 N123 lo_b1
  have V125 := Arv.set Ar125 qk125 Sz125 qz125 Ha125 Gf125 rfl W125 61 (by decide) (by simp)
  refine Goes.st st125 ?_
  have KK126 := KK124.wr W125 (Or.inr sz_b1)
  have Z125 : n0 ≤ h125.size := by have := W125.size; have := Z123; omega
  show Goes p e below s _ _ _ (T125.setTop (mkF m 634 Ls [(.ref b1)]))
  refine Goes.st (fun t k => XS.dup X125.here hx rfl (hb hby at_634) rfl rfl k) ?_
  show Goes p e below s _ _ _ (T125.setTop (mkF m 635 Ls [(.ref b1), (.ref b1)]))
  refine Goes.st (fun t k => XS.bipush X125.here hx rfl (hb hby at_635) k) ?_
  show Goes p e below s _ _ _ (T125.setTop (mkF m 637 Ls [(.int (62 : Int32)), (.ref b1), (.ref b1)]))
  refine Goes.st (fun t k => X125.ldc2DoubleC hx hown (mvT hZ (hw _ (List.mem_of_getElem? (i := 69) rfl))) (g := (mkF m 637 Ls [(.int (62 : Int32)), (.ref b1), (.ref b1)])) rfl (hb hby at_637) t k) ?_
  show Goes p e below s _ _ _ (T125.setTop (mkF m 640 Ls [(.double (4633922541587529728 : UInt64)), (.int (62 : Int32)), (.ref b1), (.ref b1)]))
  obtain ⟨cl127, Ar127, qk127, Sz127, qz127, Ha127, Gf127⟩ := id V125
  obtain ⟨T127, h127, X127, e127, W127, st127⟩ := stD X125 hx hZ e125 Ar127 (inb_of Sz127 ⟨by decide, by decide⟩) (g := (mkF m 640 Ls [(.double (4633922541587529728 : UInt64)), (.int (62 : Int32)), (.ref b1), (.ref b1)])) rfl rfl (hb hby at_640)
  have N127 := Fr.snoc X127 N125 lo_b1
  have V127 := Arv.set Ar127 qk127 Sz127 qz127 Ha127 Gf127 rfl W127 62 (by decide) (by simp)
  refine Goes.st st127 ?_
  have KK128 := KK126.wr W127 (Or.inr sz_b1)
  have Z127 : n0 ≤ h127.size := by have := W127.size; have := Z125; omega
  show Goes p e below s _ _ _ (T127.setTop (mkF m 641 Ls [(.ref b1)]))
  refine Goes.st (fun t k => XS.dup X127.here hx rfl (hb hby at_641) rfl rfl k) ?_
  show Goes p e below s _ _ _ (T127.setTop (mkF m 642 Ls [(.ref b1), (.ref b1)]))
  refine Goes.st (fun t k => XS.bipush X127.here hx rfl (hb hby at_642) k) ?_
  show Goes p e below s _ _ _ (T127.setTop (mkF m 644 Ls [(.int (63 : Int32)), (.ref b1), (.ref b1)]))
  refine Goes.st (fun t k => X127.ldc2DoubleC hx hown (mvT hZ (hw _ (List.mem_of_getElem? (i := 70) rfl))) (g := (mkF m 644 Ls [(.int (63 : Int32)), (.ref b1), (.ref b1)])) rfl (hb hby at_644) t k) ?_
  show Goes p e below s _ _ _ (T127.setTop (mkF m 647 Ls [(.double (4634063279075885056 : UInt64)), (.int (63 : Int32)), (.ref b1), (.ref b1)]))
  obtain ⟨cl129, Ar129, qk129, Sz129, qz129, Ha129, Gf129⟩ := id V127
  obtain ⟨T129, h129, X129, e129, W129, st129⟩ := stD X127 hx hZ e127 Ar129 (inb_of Sz129 ⟨by decide, by decide⟩) (g := (mkF m 647 Ls [(.double (4634063279075885056 : UInt64)), (.int (63 : Int32)), (.ref b1), (.ref b1)])) rfl rfl (hb hby at_647)
  have N129 := Fr.snoc X129 N127 lo_b1
  have V129 := Arv.set Ar129 qk129 Sz129 qz129 Ha129 Gf129 rfl W129 63 (by decide) (by simp)
  refine Goes.st st129 ?_
  have KK130 := KK128.wr W129 (Or.inr sz_b1)
  have Z129 : n0 ≤ h129.size := by have := W129.size; have := Z127; omega
  show Goes p e below s _ _ _ (T129.setTop (mkF m 648 Ls [(.ref b1)]))
  have VV : Arv Z h129 b1 cA1 .double (64 : Int32) entsL (.double (0 : UInt64)) := V129
  exact kont _ _ _ _ _ X129 e129 N129 Z129 KK130 sz_b1 lo_b1 VV
theorem pd__IIZ_I_ea4 : parseMethodDescriptor "(IIZ)I" = some ⟨[.int, .int, .boolean], some .int⟩ := by decide +kernel
theorem pd__IIII__I_1677 : parseMethodDescriptor "(IIII)[I" = some ⟨[.int, .int, .int, .int], some (.array .int)⟩ := by decide +kernel
theorem pd___I_I_D_V_1c32 : parseMethodDescriptor "([I[I[D)V" = some ⟨[(.array .int), (.array .int), (.array .double)], none⟩ := by decide +kernel
theorem pd___I_I_D_1292 : parseMethodDescriptor "([I[I)D" = some ⟨[(.array .int), (.array .int)], some .double⟩ := by decide +kernel
theorem ef_0 (m : MethodId) (x0 : Int32) (x1 : Int32) (x2 : Int32) (x3 : Int32) : entryFrame m #[(.int x0), (.int x1), (.int x2), (.int x3)] maxLocals = mkF m 0 #[.val (.int x0), .val (.int x1), .val (.int x2), .val (.int x3), .unset, .unset, .unset, .unset, .unset, .unset, .unset, .unset, .unset, .unset, .unset, .unset, .unset, .unset, .unset, .unset, .unset, .unset, .unset] [] := by first | (simp [entryFrame, mkF, argsToLocals, Value.category, maxLocals]; done) | rfl
def Q0 (Z : State) (q0 q1 q2 q3 : Int32) (h0 : Heap) (n0 : Nat) (v : Option Value) (h : Heap) (L : List Loc) : Prop := v = some (.int 1) ∧ Fr n0 L
set_option maxRecDepth 65536 in
set_option maxHeartbeats 40000000 in
theorem rm0 (l : Launch) (Z : State) (a0 : Array Value) (hw : ∀ d ∈ tables_1, d.before a0 Z = true) (ws : List Jvm.Cond) (q0 q1 q2 q3 : Int32) (h0 : Heap) (n0 : Nat) (Z0 : n0 ≤ h0.size)  :
    MetFree l x (head1 (Jvm.Cond.code x code maxLocals ret :: ws) room_1) (fun aa U => aa = #[(.int q0), (.int q1), (.int q2), (.int q3)] ∧ Z.Warmed39 U.vm ∧ U.heap = h0) (fun _ _ _ _ _ => True) (fun _ U o U' => ∃ v L, o = .returned v ∧ Q0 Z q0 q1 q2 q3 h0 n0 v U'.heap L ∧ FrameEnd U o U' L 24 256) := by
  refine MetFree.of_bodySF (plainFor_of_name pn_com_example_parley_parley_TableEntryPinLaw) hisR ?_
  intro p e s m args below meth c s₁ Bd hml0 hP hK
  obtain ⟨rfl, hZ, hh⟩ := hP
  have hx := Bd.exec
  have hby := Bd.bytes
  have hlk := BodyLoose.notSynchronized Bd
  have hret := Bd.returns
  have hml : c.maxLocals = 23 := hml0
  have hown : s.vm.findClass "com/example/parley/parley/TableEntryPinLaw" = some m.cls := findClass_of_methodNamed Bd.named
  have hnm := (name_of_methodNamed Bd.named Bd.method).1
  have X0 : Stand p l e room_1 s m #[(.int q0), (.int q1), (.int q2), (.int q3)] below meth c s₁ [] 0 0 := Stand.of_body Bd
  have e0 : s₁.heap = h0 := by rw [← hh, Bd.state]; rfl
  have N0 := Fr.nil n0
  refine Goes.st (s := s) (Q := Q0 Z q0 q1 q2 q3 h0 n0) (cs := 24) (ss := 256) (fun t k => castTop (ef_0 m q0 q1 q2 q3) k) ?_
  show Goes p e below s _ _ _ (s₁.setTop (mkF m 0 #[.val (.int q0), .val (.int q1), .val (.int q2), .val (.int q3), .unset, .unset, .unset, .unset, .unset, .unset, .unset, .unset, .unset, .unset, .unset, .unset, .unset, .unset, .unset, .unset, .unset, .unset, .unset] []))
  refine Goes.st (fun t k => XS.iloadN X0.here hx rfl (hb hby at_0) rfl k) ?_
  show Goes p e below s _ _ _ (s₁.setTop (mkF m 1 #[.val (.int q0), .val (.int q1), .val (.int q2), .val (.int q3), .unset, .unset, .unset, .unset, .unset, .unset, .unset, .unset, .unset, .unset, .unset, .unset, .unset, .unset, .unset, .unset, .unset, .unset, .unset] [(.int q0)]))
  refine Goes.st (fun t k => XS.iconst X0.here hx rfl (hb hby at_1) k) ?_
  show Goes p e below s _ _ _ (s₁.setTop (mkF m 2 #[.val (.int q0), .val (.int q1), .val (.int q2), .val (.int q3), .unset, .unset, .unset, .unset, .unset, .unset, .unset, .unset, .unset, .unset, .unset, .unset, .unset, .unset, .unset, .unset, .unset, .unset, .unset] [(.int (3 : Int32)), (.int q0)]))
  refine Goes.st (fun t k => XS.iand X0.here hx rfl (hb hby at_2) rfl k) ?_
  show Goes p e below s _ _ _ (s₁.setTop (mkF m 3 #[.val (.int q0), .val (.int q1), .val (.int q2), .val (.int q3), .unset, .unset, .unset, .unset, .unset, .unset, .unset, .unset, .unset, .unset, .unset, .unset, .unset, .unset, .unset, .unset, .unset, .unset, .unset] [(.int (q0 &&& (3 : Int32)))]))
  rcases own_and3 q0 with hn | hn | hn | hn
  · rw [hn]
    show Goes p e below s _ _ _ (s₁.setTop (mkF m 3 #[.val (.int q0), .val (.int q1), .val (.int q2), .val (.int q3), .unset, .unset, .unset, .unset, .unset, .unset, .unset, .unset, .unset, .unset, .unset, .unset, .unset, .unset, .unset, .unset, .unset, .unset, .unset] [(.int (0 : Int32))]))
    refine Goes.st (fun t k => XS.istore X0.here hx rfl (hb hby at_3) rfl (l' := #[.val (.int q0), .val (.int q1), .val (.int q2), .val (.int q3), .val (.int (0 : Int32)), .unset, .unset, .unset, .unset, .unset, .unset, .unset, .unset, .unset, .unset, .unset, .unset, .unset, .unset, .unset, .unset, .unset, .unset]) rfl k) ?_
    show Goes p e below s _ _ _ (s₁.setTop (mkF m 5 #[.val (.int q0), .val (.int q1), .val (.int q2), .val (.int q3), .val (.int (0 : Int32)), .unset, .unset, .unset, .unset, .unset, .unset, .unset, .unset, .unset, .unset, .unset, .unset, .unset, .unset, .unset, .unset, .unset, .unset] []))
    refine Goes.st (fun t k => XS.iloadN X0.here hx rfl (hb hby at_5) rfl k) ?_
    show Goes p e below s _ _ _ (s₁.setTop (mkF m 6 #[.val (.int q0), .val (.int q1), .val (.int q2), .val (.int q3), .val (.int (0 : Int32)), .unset, .unset, .unset, .unset, .unset, .unset, .unset, .unset, .unset, .unset, .unset, .unset, .unset, .unset, .unset, .unset, .unset, .unset] [(.int q0)]))
    refine Goes.st (fun t k => XS.iconst X0.here hx rfl (hb hby at_6) k) ?_
    show Goes p e below s _ _ _ (s₁.setTop (mkF m 7 #[.val (.int q0), .val (.int q1), .val (.int q2), .val (.int q3), .val (.int (0 : Int32)), .unset, .unset, .unset, .unset, .unset, .unset, .unset, .unset, .unset, .unset, .unset, .unset, .unset, .unset, .unset, .unset, .unset, .unset] [(.int (2 : Int32)), (.int q0)]))
    refine Goes.st (fun t k => XT.iushr X0.here hx rfl (hb hby at_7) rfl k) ?_
    show Goes p e below s _ _ _ (s₁.setTop (mkF m 8 #[.val (.int q0), .val (.int q1), .val (.int q2), .val (.int q3), .val (.int (0 : Int32)), .unset, .unset, .unset, .unset, .unset, .unset, .unset, .unset, .unset, .unset, .unset, .unset, .unset, .unset, .unset, .unset, .unset, .unset] [(.int (XT.ushr q0 (2 : Int32)))]))
    refine Goes.st (fun t k => XS.iconst X0.here hx rfl (hb hby at_8) k) ?_
    show Goes p e below s _ _ _ (s₁.setTop (mkF m 9 #[.val (.int q0), .val (.int q1), .val (.int q2), .val (.int q3), .val (.int (0 : Int32)), .unset, .unset, .unset, .unset, .unset, .unset, .unset, .unset, .unset, .unset, .unset, .unset, .unset, .unset, .unset, .unset, .unset, .unset] [(.int (3 : Int32)), (.int (XT.ushr q0 (2 : Int32)))]))
    refine Goes.st (fun t k => XS.iand X0.here hx rfl (hb hby at_9) rfl k) ?_
    show Goes p e below s _ _ _ (s₁.setTop (mkF m 10 #[.val (.int q0), .val (.int q1), .val (.int q2), .val (.int q3), .val (.int (0 : Int32)), .unset, .unset, .unset, .unset, .unset, .unset, .unset, .unset, .unset, .unset, .unset, .unset, .unset, .unset, .unset, .unset, .unset, .unset] [(.int ((XT.ushr q0 (2 : Int32)) &&& (3 : Int32)))]))
    obtain ⟨r, r_eq⟩ : ∃ z : Int32, z = ((XT.ushr q0 (2 : Int32)) &&& (3 : Int32)) := ⟨_, rfl⟩
    rw [← r_eq]
    show Goes p e below s _ _ _ (s₁.setTop (mkF m 10 #[.val (.int q0), .val (.int q1), .val (.int q2), .val (.int q3), .val (.int (0 : Int32)), .unset, .unset, .unset, .unset, .unset, .unset, .unset, .unset, .unset, .unset, .unset, .unset, .unset, .unset, .unset, .unset, .unset, .unset] [(.int r)]))
    have ir : In4 r := by rw [r_eq]; exact own_and3 _
    refine Goes.st (fun t k => XS.istore X0.here hx rfl (hb hby at_10) rfl (l' := #[.val (.int q0), .val (.int q1), .val (.int q2), .val (.int q3), .val (.int (0 : Int32)), .val (.int r), .unset, .unset, .unset, .unset, .unset, .unset, .unset, .unset, .unset, .unset, .unset, .unset, .unset, .unset, .unset, .unset, .unset]) rfl k) ?_
    show Goes p e below s _ _ _ (s₁.setTop (mkF m 12 #[.val (.int q0), .val (.int q1), .val (.int q2), .val (.int q3), .val (.int (0 : Int32)), .val (.int r), .unset, .unset, .unset, .unset, .unset, .unset, .unset, .unset, .unset, .unset, .unset, .unset, .unset, .unset, .unset, .unset, .unset] []))
    refine Goes.st (fun t k => XS.iloadN X0.here hx rfl (hb hby at_12) rfl k) ?_
    show Goes p e below s _ _ _ (s₁.setTop (mkF m 13 #[.val (.int q0), .val (.int q1), .val (.int q2), .val (.int q3), .val (.int (0 : Int32)), .val (.int r), .unset, .unset, .unset, .unset, .unset, .unset, .unset, .unset, .unset, .unset, .unset, .unset, .unset, .unset, .unset, .unset, .unset] [(.int q0)]))
    refine Goes.st (fun t k => XS.iconst X0.here hx rfl (hb hby at_13) k) ?_
    show Goes p e below s _ _ _ (s₁.setTop (mkF m 14 #[.val (.int q0), .val (.int q1), .val (.int q2), .val (.int q3), .val (.int (0 : Int32)), .val (.int r), .unset, .unset, .unset, .unset, .unset, .unset, .unset, .unset, .unset, .unset, .unset, .unset, .unset, .unset, .unset, .unset, .unset] [(.int (4 : Int32)), (.int q0)]))
    refine Goes.st (fun t k => XT.iushr X0.here hx rfl (hb hby at_14) rfl k) ?_
    show Goes p e below s _ _ _ (s₁.setTop (mkF m 15 #[.val (.int q0), .val (.int q1), .val (.int q2), .val (.int q3), .val (.int (0 : Int32)), .val (.int r), .unset, .unset, .unset, .unset, .unset, .unset, .unset, .unset, .unset, .unset, .unset, .unset, .unset, .unset, .unset, .unset, .unset] [(.int (XT.ushr q0 (4 : Int32)))]))
    refine Goes.st (fun t k => XS.iconst X0.here hx rfl (hb hby at_15) k) ?_
    show Goes p e below s _ _ _ (s₁.setTop (mkF m 16 #[.val (.int q0), .val (.int q1), .val (.int q2), .val (.int q3), .val (.int (0 : Int32)), .val (.int r), .unset, .unset, .unset, .unset, .unset, .unset, .unset, .unset, .unset, .unset, .unset, .unset, .unset, .unset, .unset, .unset, .unset] [(.int (1 : Int32)), (.int (XT.ushr q0 (4 : Int32)))]))
    refine Goes.st (fun t k => XS.iand X0.here hx rfl (hb hby at_16) rfl k) ?_
    show Goes p e below s _ _ _ (s₁.setTop (mkF m 17 #[.val (.int q0), .val (.int q1), .val (.int q2), .val (.int q3), .val (.int (0 : Int32)), .val (.int r), .unset, .unset, .unset, .unset, .unset, .unset, .unset, .unset, .unset, .unset, .unset, .unset, .unset, .unset, .unset, .unset, .unset] [(.int ((XT.ushr q0 (4 : Int32)) &&& (1 : Int32)))]))
    have J1 : ∀ (rv : Int32), Goes p e below s (Q0 Z q0 q1 q2 q3 h0 n0) 24 256 (s₁.setTop (mkF m 25 #[.val (.int q0), .val (.int q1), .val (.int q2), .val (.int q3), .val (.int (0 : Int32)), .val (.int r), .unset, .unset, .unset, .unset, .unset, .unset, .unset, .unset, .unset, .unset, .unset, .unset, .unset, .unset, .unset, .unset, .unset] [(.int rv)])) := by
      intro rv
      refine Goes.st (fun t k => XS.istore X0.here hx rfl (hb hby at_25) rfl (l' := #[.val (.int q0), .val (.int q1), .val (.int q2), .val (.int q3), .val (.int (0 : Int32)), .val (.int r), .val (.int rv), .unset, .unset, .unset, .unset, .unset, .unset, .unset, .unset, .unset, .unset, .unset, .unset, .unset, .unset, .unset, .unset]) rfl k) ?_
      show Goes p e below s _ _ _ (s₁.setTop (mkF m 27 #[.val (.int q0), .val (.int q1), .val (.int q2), .val (.int q3), .val (.int (0 : Int32)), .val (.int r), .val (.int rv), .unset, .unset, .unset, .unset, .unset, .unset, .unset, .unset, .unset, .unset, .unset, .unset, .unset, .unset, .unset, .unset] []))
      refine Goes.st (fun t k => XS.iconst X0.here hx rfl (hb hby at_27) k) ?_
      show Goes p e below s _ _ _ (s₁.setTop (mkF m 28 #[.val (.int q0), .val (.int q1), .val (.int q2), .val (.int q3), .val (.int (0 : Int32)), .val (.int r), .val (.int rv), .unset, .unset, .unset, .unset, .unset, .unset, .unset, .unset, .unset, .unset, .unset, .unset, .unset, .unset, .unset, .unset] [(.int (1 : Int32))]))
      refine Goes.st (fun t k => XS.iloadN X0.here hx rfl (hb hby at_28) rfl k) ?_
      show Goes p e below s _ _ _ (s₁.setTop (mkF m 29 #[.val (.int q0), .val (.int q1), .val (.int q2), .val (.int q3), .val (.int (0 : Int32)), .val (.int r), .val (.int rv), .unset, .unset, .unset, .unset, .unset, .unset, .unset, .unset, .unset, .unset, .unset, .unset, .unset, .unset, .unset, .unset] [(.int q1), (.int (1 : Int32))]))
      refine Goes.st (fun t k => XS.iconst X0.here hx rfl (hb hby at_29) k) ?_
      show Goes p e below s _ _ _ (s₁.setTop (mkF m 30 #[.val (.int q0), .val (.int q1), .val (.int q2), .val (.int q3), .val (.int (0 : Int32)), .val (.int r), .val (.int rv), .unset, .unset, .unset, .unset, .unset, .unset, .unset, .unset, .unset, .unset, .unset, .unset, .unset, .unset, .unset, .unset] [(.int (3 : Int32)), (.int q1), (.int (1 : Int32))]))
      refine Goes.st (fun t k => XS.iand X0.here hx rfl (hb hby at_30) rfl k) ?_
      show Goes p e below s _ _ _ (s₁.setTop (mkF m 31 #[.val (.int q0), .val (.int q1), .val (.int q2), .val (.int q3), .val (.int (0 : Int32)), .val (.int r), .val (.int rv), .unset, .unset, .unset, .unset, .unset, .unset, .unset, .unset, .unset, .unset, .unset, .unset, .unset, .unset, .unset, .unset] [(.int (q1 &&& (3 : Int32))), (.int (1 : Int32))]))
      refine Goes.st (fun t k => XS.iadd X0.here hx rfl (hb hby at_31) rfl k) ?_
      show Goes p e below s _ _ _ (s₁.setTop (mkF m 32 #[.val (.int q0), .val (.int q1), .val (.int q2), .val (.int q3), .val (.int (0 : Int32)), .val (.int r), .val (.int rv), .unset, .unset, .unset, .unset, .unset, .unset, .unset, .unset, .unset, .unset, .unset, .unset, .unset, .unset, .unset, .unset] [(.int ((1 : Int32) + (q1 &&& (3 : Int32))))]))
      obtain ⟨s0, s0_eq⟩ : ∃ z : Int32, z = ((1 : Int32) + (q1 &&& (3 : Int32))) := ⟨_, rfl⟩
      rw [← s0_eq]
      show Goes p e below s _ _ _ (s₁.setTop (mkF m 32 #[.val (.int q0), .val (.int q1), .val (.int q2), .val (.int q3), .val (.int (0 : Int32)), .val (.int r), .val (.int rv), .unset, .unset, .unset, .unset, .unset, .unset, .unset, .unset, .unset, .unset, .unset, .unset, .unset, .unset, .unset, .unset] [(.int s0)]))
      have is0 : Sz4 s0 := by rw [s0_eq]; exact own_sz _
      refine Goes.st (fun t k => XS.istore X0.here hx rfl (hb hby at_32) rfl (l' := #[.val (.int q0), .val (.int q1), .val (.int q2), .val (.int q3), .val (.int (0 : Int32)), .val (.int r), .val (.int rv), .val (.int s0), .unset, .unset, .unset, .unset, .unset, .unset, .unset, .unset, .unset, .unset, .unset, .unset, .unset, .unset, .unset]) rfl k) ?_
      show Goes p e below s _ _ _ (s₁.setTop (mkF m 34 #[.val (.int q0), .val (.int q1), .val (.int q2), .val (.int q3), .val (.int (0 : Int32)), .val (.int r), .val (.int rv), .val (.int s0), .unset, .unset, .unset, .unset, .unset, .unset, .unset, .unset, .unset, .unset, .unset, .unset, .unset, .unset, .unset] []))
      refine Goes.st (fun t k => XS.iconst X0.here hx rfl (hb hby at_34) k) ?_
      show Goes p e below s _ _ _ (s₁.setTop (mkF m 35 #[.val (.int q0), .val (.int q1), .val (.int q2), .val (.int q3), .val (.int (0 : Int32)), .val (.int r), .val (.int rv), .val (.int s0), .unset, .unset, .unset, .unset, .unset, .unset, .unset, .unset, .unset, .unset, .unset, .unset, .unset, .unset, .unset] [(.int (1 : Int32))]))
      refine Goes.st (fun t k => XS.iloadN X0.here hx rfl (hb hby at_35) rfl k) ?_
      show Goes p e below s _ _ _ (s₁.setTop (mkF m 36 #[.val (.int q0), .val (.int q1), .val (.int q2), .val (.int q3), .val (.int (0 : Int32)), .val (.int r), .val (.int rv), .val (.int s0), .unset, .unset, .unset, .unset, .unset, .unset, .unset, .unset, .unset, .unset, .unset, .unset, .unset, .unset, .unset] [(.int q1), (.int (1 : Int32))]))
      refine Goes.st (fun t k => XS.iconst X0.here hx rfl (hb hby at_36) k) ?_
      show Goes p e below s _ _ _ (s₁.setTop (mkF m 37 #[.val (.int q0), .val (.int q1), .val (.int q2), .val (.int q3), .val (.int (0 : Int32)), .val (.int r), .val (.int rv), .val (.int s0), .unset, .unset, .unset, .unset, .unset, .unset, .unset, .unset, .unset, .unset, .unset, .unset, .unset, .unset, .unset] [(.int (2 : Int32)), (.int q1), (.int (1 : Int32))]))
      refine Goes.st (fun t k => XT.iushr X0.here hx rfl (hb hby at_37) rfl k) ?_
      show Goes p e below s _ _ _ (s₁.setTop (mkF m 38 #[.val (.int q0), .val (.int q1), .val (.int q2), .val (.int q3), .val (.int (0 : Int32)), .val (.int r), .val (.int rv), .val (.int s0), .unset, .unset, .unset, .unset, .unset, .unset, .unset, .unset, .unset, .unset, .unset, .unset, .unset, .unset, .unset] [(.int (XT.ushr q1 (2 : Int32))), (.int (1 : Int32))]))
      refine Goes.st (fun t k => XS.iconst X0.here hx rfl (hb hby at_38) k) ?_
      show Goes p e below s _ _ _ (s₁.setTop (mkF m 39 #[.val (.int q0), .val (.int q1), .val (.int q2), .val (.int q3), .val (.int (0 : Int32)), .val (.int r), .val (.int rv), .val (.int s0), .unset, .unset, .unset, .unset, .unset, .unset, .unset, .unset, .unset, .unset, .unset, .unset, .unset, .unset, .unset] [(.int (3 : Int32)), (.int (XT.ushr q1 (2 : Int32))), (.int (1 : Int32))]))
      refine Goes.st (fun t k => XS.iand X0.here hx rfl (hb hby at_39) rfl k) ?_
      show Goes p e below s _ _ _ (s₁.setTop (mkF m 40 #[.val (.int q0), .val (.int q1), .val (.int q2), .val (.int q3), .val (.int (0 : Int32)), .val (.int r), .val (.int rv), .val (.int s0), .unset, .unset, .unset, .unset, .unset, .unset, .unset, .unset, .unset, .unset, .unset, .unset, .unset, .unset, .unset] [(.int ((XT.ushr q1 (2 : Int32)) &&& (3 : Int32))), (.int (1 : Int32))]))
      refine Goes.st (fun t k => XS.iadd X0.here hx rfl (hb hby at_40) rfl k) ?_
      show Goes p e below s _ _ _ (s₁.setTop (mkF m 41 #[.val (.int q0), .val (.int q1), .val (.int q2), .val (.int q3), .val (.int (0 : Int32)), .val (.int r), .val (.int rv), .val (.int s0), .unset, .unset, .unset, .unset, .unset, .unset, .unset, .unset, .unset, .unset, .unset, .unset, .unset, .unset, .unset] [(.int ((1 : Int32) + ((XT.ushr q1 (2 : Int32)) &&& (3 : Int32))))]))
      obtain ⟨s1, s1_eq⟩ : ∃ z : Int32, z = ((1 : Int32) + ((XT.ushr q1 (2 : Int32)) &&& (3 : Int32))) := ⟨_, rfl⟩
      rw [← s1_eq]
      show Goes p e below s _ _ _ (s₁.setTop (mkF m 41 #[.val (.int q0), .val (.int q1), .val (.int q2), .val (.int q3), .val (.int (0 : Int32)), .val (.int r), .val (.int rv), .val (.int s0), .unset, .unset, .unset, .unset, .unset, .unset, .unset, .unset, .unset, .unset, .unset, .unset, .unset, .unset, .unset] [(.int s1)]))
      have is1 : Sz4 s1 := by rw [s1_eq]; exact own_sz _
      refine Goes.st (fun t k => XS.istore X0.here hx rfl (hb hby at_41) rfl (l' := #[.val (.int q0), .val (.int q1), .val (.int q2), .val (.int q3), .val (.int (0 : Int32)), .val (.int r), .val (.int rv), .val (.int s0), .val (.int s1), .unset, .unset, .unset, .unset, .unset, .unset, .unset, .unset, .unset, .unset, .unset, .unset, .unset, .unset]) rfl k) ?_
      show Goes p e below s _ _ _ (s₁.setTop (mkF m 43 #[.val (.int q0), .val (.int q1), .val (.int q2), .val (.int q3), .val (.int (0 : Int32)), .val (.int r), .val (.int rv), .val (.int s0), .val (.int s1), .unset, .unset, .unset, .unset, .unset, .unset, .unset, .unset, .unset, .unset, .unset, .unset, .unset, .unset] []))
      refine Goes.st (fun t k => XS.iconst X0.here hx rfl (hb hby at_43) k) ?_
      show Goes p e below s _ _ _ (s₁.setTop (mkF m 44 #[.val (.int q0), .val (.int q1), .val (.int q2), .val (.int q3), .val (.int (0 : Int32)), .val (.int r), .val (.int rv), .val (.int s0), .val (.int s1), .unset, .unset, .unset, .unset, .unset, .unset, .unset, .unset, .unset, .unset, .unset, .unset, .unset, .unset] [(.int (1 : Int32))]))
      refine Goes.st (fun t k => XS.iloadN X0.here hx rfl (hb hby at_44) rfl k) ?_
      show Goes p e below s _ _ _ (s₁.setTop (mkF m 45 #[.val (.int q0), .val (.int q1), .val (.int q2), .val (.int q3), .val (.int (0 : Int32)), .val (.int r), .val (.int rv), .val (.int s0), .val (.int s1), .unset, .unset, .unset, .unset, .unset, .unset, .unset, .unset, .unset, .unset, .unset, .unset, .unset, .unset] [(.int q1), (.int (1 : Int32))]))
      refine Goes.st (fun t k => XS.iconst X0.here hx rfl (hb hby at_45) k) ?_
      show Goes p e below s _ _ _ (s₁.setTop (mkF m 46 #[.val (.int q0), .val (.int q1), .val (.int q2), .val (.int q3), .val (.int (0 : Int32)), .val (.int r), .val (.int rv), .val (.int s0), .val (.int s1), .unset, .unset, .unset, .unset, .unset, .unset, .unset, .unset, .unset, .unset, .unset, .unset, .unset, .unset] [(.int (4 : Int32)), (.int q1), (.int (1 : Int32))]))
      refine Goes.st (fun t k => XT.iushr X0.here hx rfl (hb hby at_46) rfl k) ?_
      show Goes p e below s _ _ _ (s₁.setTop (mkF m 47 #[.val (.int q0), .val (.int q1), .val (.int q2), .val (.int q3), .val (.int (0 : Int32)), .val (.int r), .val (.int rv), .val (.int s0), .val (.int s1), .unset, .unset, .unset, .unset, .unset, .unset, .unset, .unset, .unset, .unset, .unset, .unset, .unset, .unset] [(.int (XT.ushr q1 (4 : Int32))), (.int (1 : Int32))]))
      refine Goes.st (fun t k => XS.iconst X0.here hx rfl (hb hby at_47) k) ?_
      show Goes p e below s _ _ _ (s₁.setTop (mkF m 48 #[.val (.int q0), .val (.int q1), .val (.int q2), .val (.int q3), .val (.int (0 : Int32)), .val (.int r), .val (.int rv), .val (.int s0), .val (.int s1), .unset, .unset, .unset, .unset, .unset, .unset, .unset, .unset, .unset, .unset, .unset, .unset, .unset, .unset] [(.int (3 : Int32)), (.int (XT.ushr q1 (4 : Int32))), (.int (1 : Int32))]))
      refine Goes.st (fun t k => XS.iand X0.here hx rfl (hb hby at_48) rfl k) ?_
      show Goes p e below s _ _ _ (s₁.setTop (mkF m 49 #[.val (.int q0), .val (.int q1), .val (.int q2), .val (.int q3), .val (.int (0 : Int32)), .val (.int r), .val (.int rv), .val (.int s0), .val (.int s1), .unset, .unset, .unset, .unset, .unset, .unset, .unset, .unset, .unset, .unset, .unset, .unset, .unset, .unset] [(.int ((XT.ushr q1 (4 : Int32)) &&& (3 : Int32))), (.int (1 : Int32))]))
      refine Goes.st (fun t k => XS.iadd X0.here hx rfl (hb hby at_49) rfl k) ?_
      show Goes p e below s _ _ _ (s₁.setTop (mkF m 50 #[.val (.int q0), .val (.int q1), .val (.int q2), .val (.int q3), .val (.int (0 : Int32)), .val (.int r), .val (.int rv), .val (.int s0), .val (.int s1), .unset, .unset, .unset, .unset, .unset, .unset, .unset, .unset, .unset, .unset, .unset, .unset, .unset, .unset] [(.int ((1 : Int32) + ((XT.ushr q1 (4 : Int32)) &&& (3 : Int32))))]))
      obtain ⟨s2, s2_eq⟩ : ∃ z : Int32, z = ((1 : Int32) + ((XT.ushr q1 (4 : Int32)) &&& (3 : Int32))) := ⟨_, rfl⟩
      rw [← s2_eq]
      show Goes p e below s _ _ _ (s₁.setTop (mkF m 50 #[.val (.int q0), .val (.int q1), .val (.int q2), .val (.int q3), .val (.int (0 : Int32)), .val (.int r), .val (.int rv), .val (.int s0), .val (.int s1), .unset, .unset, .unset, .unset, .unset, .unset, .unset, .unset, .unset, .unset, .unset, .unset, .unset, .unset] [(.int s2)]))
      have is2 : Sz4 s2 := by rw [s2_eq]; exact own_sz _
      refine Goes.st (fun t k => XS.istore X0.here hx rfl (hb hby at_50) rfl (l' := #[.val (.int q0), .val (.int q1), .val (.int q2), .val (.int q3), .val (.int (0 : Int32)), .val (.int r), .val (.int rv), .val (.int s0), .val (.int s1), .val (.int s2), .unset, .unset, .unset, .unset, .unset, .unset, .unset, .unset, .unset, .unset, .unset, .unset, .unset]) rfl k) ?_
      show Goes p e below s _ _ _ (s₁.setTop (mkF m 52 #[.val (.int q0), .val (.int q1), .val (.int q2), .val (.int q3), .val (.int (0 : Int32)), .val (.int r), .val (.int rv), .val (.int s0), .val (.int s1), .val (.int s2), .unset, .unset, .unset, .unset, .unset, .unset, .unset, .unset, .unset, .unset, .unset, .unset, .unset] []))
      refine Goes.st (fun t k => XS.iloadN X0.here hx rfl (hb hby at_52) rfl k) ?_
      show Goes p e below s _ _ _ (s₁.setTop (mkF m 53 #[.val (.int q0), .val (.int q1), .val (.int q2), .val (.int q3), .val (.int (0 : Int32)), .val (.int r), .val (.int rv), .val (.int s0), .val (.int s1), .val (.int s2), .unset, .unset, .unset, .unset, .unset, .unset, .unset, .unset, .unset, .unset, .unset, .unset, .unset] [(.int q2)]))
      refine Goes.st (fun t k => XS.iconst X0.here hx rfl (hb hby at_53) k) ?_
      show Goes p e below s _ _ _ (s₁.setTop (mkF m 54 #[.val (.int q0), .val (.int q1), .val (.int q2), .val (.int q3), .val (.int (0 : Int32)), .val (.int r), .val (.int rv), .val (.int s0), .val (.int s1), .val (.int s2), .unset, .unset, .unset, .unset, .unset, .unset, .unset, .unset, .unset, .unset, .unset, .unset, .unset] [(.int (3 : Int32)), (.int q2)]))
      refine Goes.st (fun t k => XS.iand X0.here hx rfl (hb hby at_54) rfl k) ?_
      show Goes p e below s _ _ _ (s₁.setTop (mkF m 55 #[.val (.int q0), .val (.int q1), .val (.int q2), .val (.int q3), .val (.int (0 : Int32)), .val (.int r), .val (.int rv), .val (.int s0), .val (.int s1), .val (.int s2), .unset, .unset, .unset, .unset, .unset, .unset, .unset, .unset, .unset, .unset, .unset, .unset, .unset] [(.int (q2 &&& (3 : Int32)))]))
      refine Goes.st (fun t k => XS.iload X0.here hx rfl (hb hby at_55) rfl k) ?_
      show Goes p e below s _ _ _ (s₁.setTop (mkF m 57 #[.val (.int q0), .val (.int q1), .val (.int q2), .val (.int q3), .val (.int (0 : Int32)), .val (.int r), .val (.int rv), .val (.int s0), .val (.int s1), .val (.int s2), .unset, .unset, .unset, .unset, .unset, .unset, .unset, .unset, .unset, .unset, .unset, .unset, .unset] [(.int s0), (.int (q2 &&& (3 : Int32)))]))
      refine Goes.st (fun t k => iremM X0 hx rfl (hb hby at_57) rfl (own_sz0 is0) k) ?_
      show Goes p e below s _ _ _ (s₁.setTop (mkF m 58 #[.val (.int q0), .val (.int q1), .val (.int q2), .val (.int q3), .val (.int (0 : Int32)), .val (.int r), .val (.int rv), .val (.int s0), .val (.int s1), .val (.int s2), .unset, .unset, .unset, .unset, .unset, .unset, .unset, .unset, .unset, .unset, .unset, .unset, .unset] [(.int ((q2 &&& (3 : Int32)) % s0))]))
      obtain ⟨v0, v0_eq⟩ : ∃ z : Int32, z = ((q2 &&& (3 : Int32)) % s0) := ⟨_, rfl⟩
      rw [← v0_eq]
      show Goes p e below s _ _ _ (s₁.setTop (mkF m 58 #[.val (.int q0), .val (.int q1), .val (.int q2), .val (.int q3), .val (.int (0 : Int32)), .val (.int r), .val (.int rv), .val (.int s0), .val (.int s1), .val (.int s2), .unset, .unset, .unset, .unset, .unset, .unset, .unset, .unset, .unset, .unset, .unset, .unset, .unset] [(.int v0)]))
      have iv0 : In4 v0 := by rw [v0_eq]; exact own_rem (own_and3 _) is0
      refine Goes.st (fun t k => XS.istore X0.here hx rfl (hb hby at_58) rfl (l' := #[.val (.int q0), .val (.int q1), .val (.int q2), .val (.int q3), .val (.int (0 : Int32)), .val (.int r), .val (.int rv), .val (.int s0), .val (.int s1), .val (.int s2), .val (.int v0), .unset, .unset, .unset, .unset, .unset, .unset, .unset, .unset, .unset, .unset, .unset, .unset]) rfl k) ?_
      show Goes p e below s _ _ _ (s₁.setTop (mkF m 60 #[.val (.int q0), .val (.int q1), .val (.int q2), .val (.int q3), .val (.int (0 : Int32)), .val (.int r), .val (.int rv), .val (.int s0), .val (.int s1), .val (.int s2), .val (.int v0), .unset, .unset, .unset, .unset, .unset, .unset, .unset, .unset, .unset, .unset, .unset, .unset] []))
      refine Goes.st (fun t k => XS.iloadN X0.here hx rfl (hb hby at_60) rfl k) ?_
      show Goes p e below s _ _ _ (s₁.setTop (mkF m 61 #[.val (.int q0), .val (.int q1), .val (.int q2), .val (.int q3), .val (.int (0 : Int32)), .val (.int r), .val (.int rv), .val (.int s0), .val (.int s1), .val (.int s2), .val (.int v0), .unset, .unset, .unset, .unset, .unset, .unset, .unset, .unset, .unset, .unset, .unset, .unset] [(.int q2)]))
      refine Goes.st (fun t k => XS.iconst X0.here hx rfl (hb hby at_61) k) ?_
      show Goes p e below s _ _ _ (s₁.setTop (mkF m 62 #[.val (.int q0), .val (.int q1), .val (.int q2), .val (.int q3), .val (.int (0 : Int32)), .val (.int r), .val (.int rv), .val (.int s0), .val (.int s1), .val (.int s2), .val (.int v0), .unset, .unset, .unset, .unset, .unset, .unset, .unset, .unset, .unset, .unset, .unset, .unset] [(.int (2 : Int32)), (.int q2)]))
      refine Goes.st (fun t k => XT.iushr X0.here hx rfl (hb hby at_62) rfl k) ?_
      show Goes p e below s _ _ _ (s₁.setTop (mkF m 63 #[.val (.int q0), .val (.int q1), .val (.int q2), .val (.int q3), .val (.int (0 : Int32)), .val (.int r), .val (.int rv), .val (.int s0), .val (.int s1), .val (.int s2), .val (.int v0), .unset, .unset, .unset, .unset, .unset, .unset, .unset, .unset, .unset, .unset, .unset, .unset] [(.int (XT.ushr q2 (2 : Int32)))]))
      refine Goes.st (fun t k => XS.iconst X0.here hx rfl (hb hby at_63) k) ?_
      show Goes p e below s _ _ _ (s₁.setTop (mkF m 64 #[.val (.int q0), .val (.int q1), .val (.int q2), .val (.int q3), .val (.int (0 : Int32)), .val (.int r), .val (.int rv), .val (.int s0), .val (.int s1), .val (.int s2), .val (.int v0), .unset, .unset, .unset, .unset, .unset, .unset, .unset, .unset, .unset, .unset, .unset, .unset] [(.int (3 : Int32)), (.int (XT.ushr q2 (2 : Int32)))]))
      refine Goes.st (fun t k => XS.iand X0.here hx rfl (hb hby at_64) rfl k) ?_
      show Goes p e below s _ _ _ (s₁.setTop (mkF m 65 #[.val (.int q0), .val (.int q1), .val (.int q2), .val (.int q3), .val (.int (0 : Int32)), .val (.int r), .val (.int rv), .val (.int s0), .val (.int s1), .val (.int s2), .val (.int v0), .unset, .unset, .unset, .unset, .unset, .unset, .unset, .unset, .unset, .unset, .unset, .unset] [(.int ((XT.ushr q2 (2 : Int32)) &&& (3 : Int32)))]))
      refine Goes.st (fun t k => XS.iload X0.here hx rfl (hb hby at_65) rfl k) ?_
      show Goes p e below s _ _ _ (s₁.setTop (mkF m 67 #[.val (.int q0), .val (.int q1), .val (.int q2), .val (.int q3), .val (.int (0 : Int32)), .val (.int r), .val (.int rv), .val (.int s0), .val (.int s1), .val (.int s2), .val (.int v0), .unset, .unset, .unset, .unset, .unset, .unset, .unset, .unset, .unset, .unset, .unset, .unset] [(.int s1), (.int ((XT.ushr q2 (2 : Int32)) &&& (3 : Int32)))]))
      refine Goes.st (fun t k => iremM X0 hx rfl (hb hby at_67) rfl (own_sz0 is1) k) ?_
      show Goes p e below s _ _ _ (s₁.setTop (mkF m 68 #[.val (.int q0), .val (.int q1), .val (.int q2), .val (.int q3), .val (.int (0 : Int32)), .val (.int r), .val (.int rv), .val (.int s0), .val (.int s1), .val (.int s2), .val (.int v0), .unset, .unset, .unset, .unset, .unset, .unset, .unset, .unset, .unset, .unset, .unset, .unset] [(.int (((XT.ushr q2 (2 : Int32)) &&& (3 : Int32)) % s1))]))
      obtain ⟨v1, v1_eq⟩ : ∃ z : Int32, z = (((XT.ushr q2 (2 : Int32)) &&& (3 : Int32)) % s1) := ⟨_, rfl⟩
      rw [← v1_eq]
      show Goes p e below s _ _ _ (s₁.setTop (mkF m 68 #[.val (.int q0), .val (.int q1), .val (.int q2), .val (.int q3), .val (.int (0 : Int32)), .val (.int r), .val (.int rv), .val (.int s0), .val (.int s1), .val (.int s2), .val (.int v0), .unset, .unset, .unset, .unset, .unset, .unset, .unset, .unset, .unset, .unset, .unset, .unset] [(.int v1)]))
      have iv1 : In4 v1 := by rw [v1_eq]; exact own_rem (own_and3 _) is1
      refine Goes.st (fun t k => XS.istore X0.here hx rfl (hb hby at_68) rfl (l' := #[.val (.int q0), .val (.int q1), .val (.int q2), .val (.int q3), .val (.int (0 : Int32)), .val (.int r), .val (.int rv), .val (.int s0), .val (.int s1), .val (.int s2), .val (.int v0), .val (.int v1), .unset, .unset, .unset, .unset, .unset, .unset, .unset, .unset, .unset, .unset, .unset]) rfl k) ?_
      show Goes p e below s _ _ _ (s₁.setTop (mkF m 70 #[.val (.int q0), .val (.int q1), .val (.int q2), .val (.int q3), .val (.int (0 : Int32)), .val (.int r), .val (.int rv), .val (.int s0), .val (.int s1), .val (.int s2), .val (.int v0), .val (.int v1), .unset, .unset, .unset, .unset, .unset, .unset, .unset, .unset, .unset, .unset, .unset] []))
      refine Goes.st (fun t k => XS.iloadN X0.here hx rfl (hb hby at_70) rfl k) ?_
      show Goes p e below s _ _ _ (s₁.setTop (mkF m 71 #[.val (.int q0), .val (.int q1), .val (.int q2), .val (.int q3), .val (.int (0 : Int32)), .val (.int r), .val (.int rv), .val (.int s0), .val (.int s1), .val (.int s2), .val (.int v0), .val (.int v1), .unset, .unset, .unset, .unset, .unset, .unset, .unset, .unset, .unset, .unset, .unset] [(.int q2)]))
      refine Goes.st (fun t k => XS.iconst X0.here hx rfl (hb hby at_71) k) ?_
      show Goes p e below s _ _ _ (s₁.setTop (mkF m 72 #[.val (.int q0), .val (.int q1), .val (.int q2), .val (.int q3), .val (.int (0 : Int32)), .val (.int r), .val (.int rv), .val (.int s0), .val (.int s1), .val (.int s2), .val (.int v0), .val (.int v1), .unset, .unset, .unset, .unset, .unset, .unset, .unset, .unset, .unset, .unset, .unset] [(.int (4 : Int32)), (.int q2)]))
      refine Goes.st (fun t k => XT.iushr X0.here hx rfl (hb hby at_72) rfl k) ?_
      show Goes p e below s _ _ _ (s₁.setTop (mkF m 73 #[.val (.int q0), .val (.int q1), .val (.int q2), .val (.int q3), .val (.int (0 : Int32)), .val (.int r), .val (.int rv), .val (.int s0), .val (.int s1), .val (.int s2), .val (.int v0), .val (.int v1), .unset, .unset, .unset, .unset, .unset, .unset, .unset, .unset, .unset, .unset, .unset] [(.int (XT.ushr q2 (4 : Int32)))]))
      refine Goes.st (fun t k => XS.iconst X0.here hx rfl (hb hby at_73) k) ?_
      show Goes p e below s _ _ _ (s₁.setTop (mkF m 74 #[.val (.int q0), .val (.int q1), .val (.int q2), .val (.int q3), .val (.int (0 : Int32)), .val (.int r), .val (.int rv), .val (.int s0), .val (.int s1), .val (.int s2), .val (.int v0), .val (.int v1), .unset, .unset, .unset, .unset, .unset, .unset, .unset, .unset, .unset, .unset, .unset] [(.int (3 : Int32)), (.int (XT.ushr q2 (4 : Int32)))]))
      refine Goes.st (fun t k => XS.iand X0.here hx rfl (hb hby at_74) rfl k) ?_
      show Goes p e below s _ _ _ (s₁.setTop (mkF m 75 #[.val (.int q0), .val (.int q1), .val (.int q2), .val (.int q3), .val (.int (0 : Int32)), .val (.int r), .val (.int rv), .val (.int s0), .val (.int s1), .val (.int s2), .val (.int v0), .val (.int v1), .unset, .unset, .unset, .unset, .unset, .unset, .unset, .unset, .unset, .unset, .unset] [(.int ((XT.ushr q2 (4 : Int32)) &&& (3 : Int32)))]))
      refine Goes.st (fun t k => XS.iload X0.here hx rfl (hb hby at_75) rfl k) ?_
      show Goes p e below s _ _ _ (s₁.setTop (mkF m 77 #[.val (.int q0), .val (.int q1), .val (.int q2), .val (.int q3), .val (.int (0 : Int32)), .val (.int r), .val (.int rv), .val (.int s0), .val (.int s1), .val (.int s2), .val (.int v0), .val (.int v1), .unset, .unset, .unset, .unset, .unset, .unset, .unset, .unset, .unset, .unset, .unset] [(.int s2), (.int ((XT.ushr q2 (4 : Int32)) &&& (3 : Int32)))]))
      refine Goes.st (fun t k => iremM X0 hx rfl (hb hby at_77) rfl (own_sz0 is2) k) ?_
      show Goes p e below s _ _ _ (s₁.setTop (mkF m 78 #[.val (.int q0), .val (.int q1), .val (.int q2), .val (.int q3), .val (.int (0 : Int32)), .val (.int r), .val (.int rv), .val (.int s0), .val (.int s1), .val (.int s2), .val (.int v0), .val (.int v1), .unset, .unset, .unset, .unset, .unset, .unset, .unset, .unset, .unset, .unset, .unset] [(.int (((XT.ushr q2 (4 : Int32)) &&& (3 : Int32)) % s2))]))
      obtain ⟨v2, v2_eq⟩ : ∃ z : Int32, z = (((XT.ushr q2 (4 : Int32)) &&& (3 : Int32)) % s2) := ⟨_, rfl⟩
      rw [← v2_eq]
      show Goes p e below s _ _ _ (s₁.setTop (mkF m 78 #[.val (.int q0), .val (.int q1), .val (.int q2), .val (.int q3), .val (.int (0 : Int32)), .val (.int r), .val (.int rv), .val (.int s0), .val (.int s1), .val (.int s2), .val (.int v0), .val (.int v1), .unset, .unset, .unset, .unset, .unset, .unset, .unset, .unset, .unset, .unset, .unset] [(.int v2)]))
      have iv2 : In4 v2 := by rw [v2_eq]; exact own_rem (own_and3 _) is2
      refine Goes.st (fun t k => XS.istore X0.here hx rfl (hb hby at_78) rfl (l' := #[.val (.int q0), .val (.int q1), .val (.int q2), .val (.int q3), .val (.int (0 : Int32)), .val (.int r), .val (.int rv), .val (.int s0), .val (.int s1), .val (.int s2), .val (.int v0), .val (.int v1), .val (.int v2), .unset, .unset, .unset, .unset, .unset, .unset, .unset, .unset, .unset, .unset]) rfl k) ?_
      show Goes p e below s _ _ _ (s₁.setTop (mkF m 80 #[.val (.int q0), .val (.int q1), .val (.int q2), .val (.int q3), .val (.int (0 : Int32)), .val (.int r), .val (.int rv), .val (.int s0), .val (.int s1), .val (.int s2), .val (.int v0), .val (.int v1), .val (.int v2), .unset, .unset, .unset, .unset, .unset, .unset, .unset, .unset, .unset, .unset] []))
      refine Goes.st (fun t k => XS.iload X0.here hx rfl (hb hby at_80) rfl k) ?_
      show Goes p e below s _ _ _ (s₁.setTop (mkF m 82 #[.val (.int q0), .val (.int q1), .val (.int q2), .val (.int q3), .val (.int (0 : Int32)), .val (.int r), .val (.int rv), .val (.int s0), .val (.int s1), .val (.int s2), .val (.int v0), .val (.int v1), .val (.int v2), .unset, .unset, .unset, .unset, .unset, .unset, .unset, .unset, .unset, .unset] [(.int r)]))
      refine Goes.st (fun t k => XS.iconst X0.here hx rfl (hb hby at_82) k) ?_
      show Goes p e below s _ _ _ (s₁.setTop (mkF m 83 #[.val (.int q0), .val (.int q1), .val (.int q2), .val (.int q3), .val (.int (0 : Int32)), .val (.int r), .val (.int rv), .val (.int s0), .val (.int s1), .val (.int s2), .val (.int v0), .val (.int v1), .val (.int v2), .unset, .unset, .unset, .unset, .unset, .unset, .unset, .unset, .unset, .unset] [(.int (0 : Int32)), (.int r)]))
      refine Goes.st (fun t k => XS.iload X0.here hx rfl (hb hby at_83) rfl k) ?_
      show Goes p e below s _ _ _ (s₁.setTop (mkF m 85 #[.val (.int q0), .val (.int q1), .val (.int q2), .val (.int q3), .val (.int (0 : Int32)), .val (.int r), .val (.int rv), .val (.int s0), .val (.int s1), .val (.int s2), .val (.int v0), .val (.int v1), .val (.int v2), .unset, .unset, .unset, .unset, .unset, .unset, .unset, .unset, .unset, .unset] [(.int rv), (.int (0 : Int32)), (.int r)]))
      obtain ⟨_, _, ⟨T2, L2, k2, n2⟩, -, X2, ⟨Lc2, hQ2, l2, y2, z2⟩, st2⟩ := Jvm.LawKit.callS X0 hx (y := (⟨"com/example/parley/parley/TableEntryPinLaw", "slot", "(IIZ)I"⟩ : MethodName)) hown (mvT hZ (hw _ (List.mem_of_getElem? (i := 0) rfl))) (mvT hZ (hw _ (List.mem_of_getElem? (i := 1) rfl))) (mvT hZ (hw _ (List.mem_of_getElem? (i := 2) rfl))) (mvT hZ (hw _ (List.mem_of_getElem? (i := 3) rfl))) (by decide) (backOf (W := 0) (rmS l Z a0 hw [] r (0 : Int32) rv h0 n0 Z0 ) hZ (hw _ (List.mem_of_getElem? (i := 3) rfl)) (hw _ (List.mem_of_getElem? (i := 2) rfl)) (by decide) (by decide)) (g := (mkF m 85 #[.val (.int q0), .val (.int q1), .val (.int q2), .val (.int q3), .val (.int (0 : Int32)), .val (.int r), .val (.int rv), .val (.int s0), .val (.int s1), .val (.int s2), .val (.int v0), .val (.int v1), .val (.int v2), .unset, .unset, .unset, .unset, .unset, .unset, .unset, .unset, .unset, .unset] [(.int rv), (.int (0 : Int32)), (.int r)])) rfl (by rw [hml]; rfl) (argsL := [(.int r), (.int (0 : Int32)), (.int rv)]) (rest := []) (lenOf pd__IIZ_I_ea4 rfl) rfl (by show 2 * 0 + _ ≤ _; exact Nat.le_of_eq rfl) (hb hby at_85) (fun _ _ => ⟨rfl, e0, (by decide : 0 + 0 ≤ 24), (by decide : 0 + 0 ≤ 256)⟩)
      dsimp only [Pt.U, Pt.locs, Pt.cells, Pt.slots] at X2 l2 y2 z2 st2 hQ2
      subst l2 y2 z2
      obtain ⟨rfl, N2q, eh2⟩ := hQ2
      have N2 := Fr.app N0 N2q
      refine Goes.st st2 ?_
      show Goes p e below s _ _ _ (T2.setTop (mkF m 88 #[.val (.int q0), .val (.int q1), .val (.int q2), .val (.int q3), .val (.int (0 : Int32)), .val (.int r), .val (.int rv), .val (.int s0), .val (.int s1), .val (.int s2), .val (.int v0), .val (.int v1), .val (.int v2), .unset, .unset, .unset, .unset, .unset, .unset, .unset, .unset, .unset, .unset] [(.int (slF r (0 : Int32) rv))]))
      obtain ⟨p0x, p0x_eq⟩ : ∃ z : Int32, z = (slF r (0 : Int32) rv) := ⟨_, rfl⟩
      rw [← p0x_eq]
      show Goes p e below s _ _ _ (T2.setTop (mkF m 88 #[.val (.int q0), .val (.int q1), .val (.int q2), .val (.int q3), .val (.int (0 : Int32)), .val (.int r), .val (.int rv), .val (.int s0), .val (.int s1), .val (.int s2), .val (.int v0), .val (.int v1), .val (.int v2), .unset, .unset, .unset, .unset, .unset, .unset, .unset, .unset, .unset, .unset] [(.int p0x)]))
      obtain ⟨p0, p0_e⟩ : ∃ z : Int32, z = p0x := ⟨_, rfl⟩
      rw [← p0_e]
      show Goes p e below s _ _ _ (T2.setTop (mkF m 88 #[.val (.int q0), .val (.int q1), .val (.int q2), .val (.int q3), .val (.int (0 : Int32)), .val (.int r), .val (.int rv), .val (.int s0), .val (.int s1), .val (.int s2), .val (.int v0), .val (.int v1), .val (.int v2), .unset, .unset, .unset, .unset, .unset, .unset, .unset, .unset, .unset, .unset] [(.int p0)]))
      refine Goes.st (fun t k => XS.istore X2.here hx rfl (hb hby at_88) rfl (l' := #[.val (.int q0), .val (.int q1), .val (.int q2), .val (.int q3), .val (.int (0 : Int32)), .val (.int r), .val (.int rv), .val (.int s0), .val (.int s1), .val (.int s2), .val (.int v0), .val (.int v1), .val (.int v2), .val (.int p0), .unset, .unset, .unset, .unset, .unset, .unset, .unset, .unset, .unset]) rfl k) ?_
      show Goes p e below s _ _ _ (T2.setTop (mkF m 90 #[.val (.int q0), .val (.int q1), .val (.int q2), .val (.int q3), .val (.int (0 : Int32)), .val (.int r), .val (.int rv), .val (.int s0), .val (.int s1), .val (.int s2), .val (.int v0), .val (.int v1), .val (.int v2), .val (.int p0), .unset, .unset, .unset, .unset, .unset, .unset, .unset, .unset, .unset] []))
      refine Goes.st (fun t k => XS.iload X2.here hx rfl (hb hby at_90) rfl k) ?_
      show Goes p e below s _ _ _ (T2.setTop (mkF m 92 #[.val (.int q0), .val (.int q1), .val (.int q2), .val (.int q3), .val (.int (0 : Int32)), .val (.int r), .val (.int rv), .val (.int s0), .val (.int s1), .val (.int s2), .val (.int v0), .val (.int v1), .val (.int v2), .val (.int p0), .unset, .unset, .unset, .unset, .unset, .unset, .unset, .unset, .unset] [(.int r)]))
      refine Goes.st (fun t k => XS.iconst X2.here hx rfl (hb hby at_92) k) ?_
      show Goes p e below s _ _ _ (T2.setTop (mkF m 93 #[.val (.int q0), .val (.int q1), .val (.int q2), .val (.int q3), .val (.int (0 : Int32)), .val (.int r), .val (.int rv), .val (.int s0), .val (.int s1), .val (.int s2), .val (.int v0), .val (.int v1), .val (.int v2), .val (.int p0), .unset, .unset, .unset, .unset, .unset, .unset, .unset, .unset, .unset] [(.int (1 : Int32)), (.int r)]))
      refine Goes.st (fun t k => XS.iload X2.here hx rfl (hb hby at_93) rfl k) ?_
      show Goes p e below s _ _ _ (T2.setTop (mkF m 95 #[.val (.int q0), .val (.int q1), .val (.int q2), .val (.int q3), .val (.int (0 : Int32)), .val (.int r), .val (.int rv), .val (.int s0), .val (.int s1), .val (.int s2), .val (.int v0), .val (.int v1), .val (.int v2), .val (.int p0), .unset, .unset, .unset, .unset, .unset, .unset, .unset, .unset, .unset] [(.int rv), (.int (1 : Int32)), (.int r)]))
      obtain ⟨_, _, ⟨T3, L3, k3, n3⟩, -, X3, ⟨Lc3, hQ3, l3, y3, z3⟩, st3⟩ := Jvm.LawKit.callS X2 hx (y := (⟨"com/example/parley/parley/TableEntryPinLaw", "slot", "(IIZ)I"⟩ : MethodName)) hown (mvT hZ (hw _ (List.mem_of_getElem? (i := 0) rfl))) (mvT hZ (hw _ (List.mem_of_getElem? (i := 1) rfl))) (mvT hZ (hw _ (List.mem_of_getElem? (i := 2) rfl))) (mvT hZ (hw _ (List.mem_of_getElem? (i := 3) rfl))) (by decide) (backOf (W := 0) (rmS l Z a0 hw [] r (1 : Int32) rv h0 n0 Z0 ) hZ (hw _ (List.mem_of_getElem? (i := 3) rfl)) (hw _ (List.mem_of_getElem? (i := 2) rfl)) (by decide) (by decide)) (g := (mkF m 95 #[.val (.int q0), .val (.int q1), .val (.int q2), .val (.int q3), .val (.int (0 : Int32)), .val (.int r), .val (.int rv), .val (.int s0), .val (.int s1), .val (.int s2), .val (.int v0), .val (.int v1), .val (.int v2), .val (.int p0), .unset, .unset, .unset, .unset, .unset, .unset, .unset, .unset, .unset] [(.int rv), (.int (1 : Int32)), (.int r)])) rfl (by rw [hml]; rfl) (argsL := [(.int r), (.int (1 : Int32)), (.int rv)]) (rest := []) (lenOf pd__IIZ_I_ea4 rfl) rfl (by show 2 * 0 + _ ≤ _; exact Nat.le_of_eq rfl) (hb hby at_95) (fun _ _ => ⟨rfl, eh2, (by decide : 0 + 0 ≤ 24), (by decide : 0 + 0 ≤ 256)⟩)
      dsimp only [Pt.U, Pt.locs, Pt.cells, Pt.slots] at X3 l3 y3 z3 st3 hQ3
      subst l3 y3 z3
      obtain ⟨rfl, N3q, eh3⟩ := hQ3
      have N3 := Fr.app N2 N3q
      refine Goes.st st3 ?_
      show Goes p e below s _ _ _ (T3.setTop (mkF m 98 #[.val (.int q0), .val (.int q1), .val (.int q2), .val (.int q3), .val (.int (0 : Int32)), .val (.int r), .val (.int rv), .val (.int s0), .val (.int s1), .val (.int s2), .val (.int v0), .val (.int v1), .val (.int v2), .val (.int p0), .unset, .unset, .unset, .unset, .unset, .unset, .unset, .unset, .unset] [(.int (slF r (1 : Int32) rv))]))
      obtain ⟨p1x, p1x_eq⟩ : ∃ z : Int32, z = (slF r (1 : Int32) rv) := ⟨_, rfl⟩
      rw [← p1x_eq]
      show Goes p e below s _ _ _ (T3.setTop (mkF m 98 #[.val (.int q0), .val (.int q1), .val (.int q2), .val (.int q3), .val (.int (0 : Int32)), .val (.int r), .val (.int rv), .val (.int s0), .val (.int s1), .val (.int s2), .val (.int v0), .val (.int v1), .val (.int v2), .val (.int p0), .unset, .unset, .unset, .unset, .unset, .unset, .unset, .unset, .unset] [(.int p1x)]))
      obtain ⟨p1, p1_e⟩ : ∃ z : Int32, z = p1x := ⟨_, rfl⟩
      rw [← p1_e]
      show Goes p e below s _ _ _ (T3.setTop (mkF m 98 #[.val (.int q0), .val (.int q1), .val (.int q2), .val (.int q3), .val (.int (0 : Int32)), .val (.int r), .val (.int rv), .val (.int s0), .val (.int s1), .val (.int s2), .val (.int v0), .val (.int v1), .val (.int v2), .val (.int p0), .unset, .unset, .unset, .unset, .unset, .unset, .unset, .unset, .unset] [(.int p1)]))
      refine Goes.st (fun t k => XS.istore X3.here hx rfl (hb hby at_98) rfl (l' := #[.val (.int q0), .val (.int q1), .val (.int q2), .val (.int q3), .val (.int (0 : Int32)), .val (.int r), .val (.int rv), .val (.int s0), .val (.int s1), .val (.int s2), .val (.int v0), .val (.int v1), .val (.int v2), .val (.int p0), .val (.int p1), .unset, .unset, .unset, .unset, .unset, .unset, .unset, .unset]) rfl k) ?_
      show Goes p e below s _ _ _ (T3.setTop (mkF m 100 #[.val (.int q0), .val (.int q1), .val (.int q2), .val (.int q3), .val (.int (0 : Int32)), .val (.int r), .val (.int rv), .val (.int s0), .val (.int s1), .val (.int s2), .val (.int v0), .val (.int v1), .val (.int v2), .val (.int p0), .val (.int p1), .unset, .unset, .unset, .unset, .unset, .unset, .unset, .unset] []))
      refine Goes.st (fun t k => XS.iload X3.here hx rfl (hb hby at_100) rfl k) ?_
      show Goes p e below s _ _ _ (T3.setTop (mkF m 102 #[.val (.int q0), .val (.int q1), .val (.int q2), .val (.int q3), .val (.int (0 : Int32)), .val (.int r), .val (.int rv), .val (.int s0), .val (.int s1), .val (.int s2), .val (.int v0), .val (.int v1), .val (.int v2), .val (.int p0), .val (.int p1), .unset, .unset, .unset, .unset, .unset, .unset, .unset, .unset] [(.int r)]))
      refine Goes.st (fun t k => XS.iconst X3.here hx rfl (hb hby at_102) k) ?_
      show Goes p e below s _ _ _ (T3.setTop (mkF m 103 #[.val (.int q0), .val (.int q1), .val (.int q2), .val (.int q3), .val (.int (0 : Int32)), .val (.int r), .val (.int rv), .val (.int s0), .val (.int s1), .val (.int s2), .val (.int v0), .val (.int v1), .val (.int v2), .val (.int p0), .val (.int p1), .unset, .unset, .unset, .unset, .unset, .unset, .unset, .unset] [(.int (2 : Int32)), (.int r)]))
      refine Goes.st (fun t k => XS.iload X3.here hx rfl (hb hby at_103) rfl k) ?_
      show Goes p e below s _ _ _ (T3.setTop (mkF m 105 #[.val (.int q0), .val (.int q1), .val (.int q2), .val (.int q3), .val (.int (0 : Int32)), .val (.int r), .val (.int rv), .val (.int s0), .val (.int s1), .val (.int s2), .val (.int v0), .val (.int v1), .val (.int v2), .val (.int p0), .val (.int p1), .unset, .unset, .unset, .unset, .unset, .unset, .unset, .unset] [(.int rv), (.int (2 : Int32)), (.int r)]))
      obtain ⟨_, _, ⟨T4, L4, k4, n4⟩, -, X4, ⟨Lc4, hQ4, l4, y4, z4⟩, st4⟩ := Jvm.LawKit.callS X3 hx (y := (⟨"com/example/parley/parley/TableEntryPinLaw", "slot", "(IIZ)I"⟩ : MethodName)) hown (mvT hZ (hw _ (List.mem_of_getElem? (i := 0) rfl))) (mvT hZ (hw _ (List.mem_of_getElem? (i := 1) rfl))) (mvT hZ (hw _ (List.mem_of_getElem? (i := 2) rfl))) (mvT hZ (hw _ (List.mem_of_getElem? (i := 3) rfl))) (by decide) (backOf (W := 0) (rmS l Z a0 hw [] r (2 : Int32) rv h0 n0 Z0 ) hZ (hw _ (List.mem_of_getElem? (i := 3) rfl)) (hw _ (List.mem_of_getElem? (i := 2) rfl)) (by decide) (by decide)) (g := (mkF m 105 #[.val (.int q0), .val (.int q1), .val (.int q2), .val (.int q3), .val (.int (0 : Int32)), .val (.int r), .val (.int rv), .val (.int s0), .val (.int s1), .val (.int s2), .val (.int v0), .val (.int v1), .val (.int v2), .val (.int p0), .val (.int p1), .unset, .unset, .unset, .unset, .unset, .unset, .unset, .unset] [(.int rv), (.int (2 : Int32)), (.int r)])) rfl (by rw [hml]; rfl) (argsL := [(.int r), (.int (2 : Int32)), (.int rv)]) (rest := []) (lenOf pd__IIZ_I_ea4 rfl) rfl (by show 2 * 0 + _ ≤ _; exact Nat.le_of_eq rfl) (hb hby at_105) (fun _ _ => ⟨rfl, eh3, (by decide : 0 + 0 ≤ 24), (by decide : 0 + 0 ≤ 256)⟩)
      dsimp only [Pt.U, Pt.locs, Pt.cells, Pt.slots] at X4 l4 y4 z4 st4 hQ4
      subst l4 y4 z4
      obtain ⟨rfl, N4q, eh4⟩ := hQ4
      have N4 := Fr.app N3 N4q
      refine Goes.st st4 ?_
      show Goes p e below s _ _ _ (T4.setTop (mkF m 108 #[.val (.int q0), .val (.int q1), .val (.int q2), .val (.int q3), .val (.int (0 : Int32)), .val (.int r), .val (.int rv), .val (.int s0), .val (.int s1), .val (.int s2), .val (.int v0), .val (.int v1), .val (.int v2), .val (.int p0), .val (.int p1), .unset, .unset, .unset, .unset, .unset, .unset, .unset, .unset] [(.int (slF r (2 : Int32) rv))]))
      obtain ⟨p2x, p2x_eq⟩ : ∃ z : Int32, z = (slF r (2 : Int32) rv) := ⟨_, rfl⟩
      rw [← p2x_eq]
      show Goes p e below s _ _ _ (T4.setTop (mkF m 108 #[.val (.int q0), .val (.int q1), .val (.int q2), .val (.int q3), .val (.int (0 : Int32)), .val (.int r), .val (.int rv), .val (.int s0), .val (.int s1), .val (.int s2), .val (.int v0), .val (.int v1), .val (.int v2), .val (.int p0), .val (.int p1), .unset, .unset, .unset, .unset, .unset, .unset, .unset, .unset] [(.int p2x)]))
      obtain ⟨p2, p2_e⟩ : ∃ z : Int32, z = p2x := ⟨_, rfl⟩
      rw [← p2_e]
      show Goes p e below s _ _ _ (T4.setTop (mkF m 108 #[.val (.int q0), .val (.int q1), .val (.int q2), .val (.int q3), .val (.int (0 : Int32)), .val (.int r), .val (.int rv), .val (.int s0), .val (.int s1), .val (.int s2), .val (.int v0), .val (.int v1), .val (.int v2), .val (.int p0), .val (.int p1), .unset, .unset, .unset, .unset, .unset, .unset, .unset, .unset] [(.int p2)]))
      obtain ⟨ip0, ip1, ip2, hne01, hne02, hne12⟩ := own_sl ir rv
      rw [← p0x_eq, ← p0_e] at ip0 hne01 hne02
      rw [← p1x_eq, ← p1_e] at ip1 hne01 hne12
      rw [← p2x_eq, ← p2_e] at ip2 hne02 hne12
      refine Goes.st (fun t k => XS.istore X4.here hx rfl (hb hby at_108) rfl (l' := #[.val (.int q0), .val (.int q1), .val (.int q2), .val (.int q3), .val (.int (0 : Int32)), .val (.int r), .val (.int rv), .val (.int s0), .val (.int s1), .val (.int s2), .val (.int v0), .val (.int v1), .val (.int v2), .val (.int p0), .val (.int p1), .val (.int p2), .unset, .unset, .unset, .unset, .unset, .unset, .unset]) rfl k) ?_
      show Goes p e below s _ _ _ (T4.setTop (mkF m 110 #[.val (.int q0), .val (.int q1), .val (.int q2), .val (.int q3), .val (.int (0 : Int32)), .val (.int r), .val (.int rv), .val (.int s0), .val (.int s1), .val (.int s2), .val (.int v0), .val (.int v1), .val (.int v2), .val (.int p0), .val (.int p1), .val (.int p2), .unset, .unset, .unset, .unset, .unset, .unset, .unset] []))
      refine Goes.st (fun t k => XS.iconst X4.here hx rfl (hb hby at_110) k) ?_
      show Goes p e below s _ _ _ (T4.setTop (mkF m 111 #[.val (.int q0), .val (.int q1), .val (.int q2), .val (.int q3), .val (.int (0 : Int32)), .val (.int r), .val (.int rv), .val (.int s0), .val (.int s1), .val (.int s2), .val (.int v0), .val (.int v1), .val (.int v2), .val (.int p0), .val (.int p1), .val (.int p2), .unset, .unset, .unset, .unset, .unset, .unset, .unset] [(.int (4 : Int32))]))
      obtain ⟨T5, h5, cA5, X5, e5, E5, A5, st5⟩ := newP X4 hx hZ (hw _ (List.mem_of_getElem? (i := 4) rfl)) eh4 (g := (mkF m 111 #[.val (.int q0), .val (.int q1), .val (.int q2), .val (.int q3), .val (.int (0 : Int32)), .val (.int r), .val (.int rv), .val (.int s0), .val (.int s1), .val (.int s2), .val (.int v0), .val (.int v1), .val (.int v2), .val (.int p0), .val (.int p1), .val (.int p2), .unset, .unset, .unset, .unset, .unset, .unset, .unset] [(.int (4 : Int32))])) rfl (hb hby at_111) rfl (by decide) (cap := 4) (by decide) (by decide) (by decide) (by decide)
      obtain ⟨b5, g5⟩ : ∃ z, z = h0.size := ⟨_, rfl⟩
      rw [← g5] at A5 st5
      have lo_b5 : n0 ≤ b5 := by have := Z0; omega
      have V5 : Arv Z h5 b5 cA5 .int (4 : Int32) [(.int (0 : Int32)), (.int (0 : Int32)), (.int (0 : Int32)), (.int (0 : Int32))] (.int (0 : Int32)) := (Arv.new A5 (by decide)).pad (pad_rep [] _ 4)
      refine Goes.st st5 ?_
      have Z5 : n0 ≤ h5.size := Nat.le_trans Z0 E5.1
      show Goes p e below s _ _ _ (T5.setTop (mkF m 113 #[.val (.int q0), .val (.int q1), .val (.int q2), .val (.int q3), .val (.int (0 : Int32)), .val (.int r), .val (.int rv), .val (.int s0), .val (.int s1), .val (.int s2), .val (.int v0), .val (.int v1), .val (.int v2), .val (.int p0), .val (.int p1), .val (.int p2), .unset, .unset, .unset, .unset, .unset, .unset, .unset] [(.ref b5)]))
      refine Goes.st (fun t k => XS.dup X5.here hx rfl (hb hby at_113) rfl rfl k) ?_
      show Goes p e below s _ _ _ (T5.setTop (mkF m 114 #[.val (.int q0), .val (.int q1), .val (.int q2), .val (.int q3), .val (.int (0 : Int32)), .val (.int r), .val (.int rv), .val (.int s0), .val (.int s1), .val (.int s2), .val (.int v0), .val (.int v1), .val (.int v2), .val (.int p0), .val (.int p1), .val (.int p2), .unset, .unset, .unset, .unset, .unset, .unset, .unset] [(.ref b5), (.ref b5)]))
      refine Goes.st (fun t k => XS.iconst X5.here hx rfl (hb hby at_114) k) ?_
      show Goes p e below s _ _ _ (T5.setTop (mkF m 115 #[.val (.int q0), .val (.int q1), .val (.int q2), .val (.int q3), .val (.int (0 : Int32)), .val (.int r), .val (.int rv), .val (.int s0), .val (.int s1), .val (.int s2), .val (.int v0), .val (.int v1), .val (.int v2), .val (.int p0), .val (.int p1), .val (.int p2), .unset, .unset, .unset, .unset, .unset, .unset, .unset] [(.int (0 : Int32)), (.ref b5), (.ref b5)]))
      refine Goes.st (fun t k => XS.iloadN X5.here hx rfl (hb hby at_115) rfl k) ?_
      show Goes p e below s _ _ _ (T5.setTop (mkF m 116 #[.val (.int q0), .val (.int q1), .val (.int q2), .val (.int q3), .val (.int (0 : Int32)), .val (.int r), .val (.int rv), .val (.int s0), .val (.int s1), .val (.int s2), .val (.int v0), .val (.int v1), .val (.int v2), .val (.int p0), .val (.int p1), .val (.int p2), .unset, .unset, .unset, .unset, .unset, .unset, .unset] [(.int q3), (.int (0 : Int32)), (.ref b5), (.ref b5)]))
      obtain ⟨cl7, Ar7, qk7, Sz7, qz7, Ha7, Gf7⟩ := id V5
      obtain ⟨T7, h7, X7, e7, W7, st7⟩ := stI X5 hx hZ e5 Ar7 (inb_of Sz7 ⟨by decide, by decide⟩) (g := (mkF m 116 #[.val (.int q0), .val (.int q1), .val (.int q2), .val (.int q3), .val (.int (0 : Int32)), .val (.int r), .val (.int rv), .val (.int s0), .val (.int s1), .val (.int s2), .val (.int v0), .val (.int v1), .val (.int v2), .val (.int p0), .val (.int p1), .val (.int p2), .unset, .unset, .unset, .unset, .unset, .unset, .unset] [(.int q3), (.int (0 : Int32)), (.ref b5), (.ref b5)])) rfl rfl (hb hby at_116)
      have N7 := Fr.snoc X7 N4 lo_b5
      have V7 : Arv Z h7 b5 cA5 .int (4 : Int32) [(.int q3), (.int (0 : Int32)), (.int (0 : Int32)), (.int (0 : Int32))] (.int (0 : Int32)) := Arv.set Ar7 qk7 Sz7 qz7 Ha7 Gf7 rfl W7 0 (by decide) (by simp)
      refine Goes.st st7 ?_
      have Z7 : n0 ≤ h7.size := by have := W7.size; have := Z5; omega
      show Goes p e below s _ _ _ (T7.setTop (mkF m 117 #[.val (.int q0), .val (.int q1), .val (.int q2), .val (.int q3), .val (.int (0 : Int32)), .val (.int r), .val (.int rv), .val (.int s0), .val (.int s1), .val (.int s2), .val (.int v0), .val (.int v1), .val (.int v2), .val (.int p0), .val (.int p1), .val (.int p2), .unset, .unset, .unset, .unset, .unset, .unset, .unset] [(.ref b5)]))
      refine Goes.st (fun t k => XS.dup X7.here hx rfl (hb hby at_117) rfl rfl k) ?_
      show Goes p e below s _ _ _ (T7.setTop (mkF m 118 #[.val (.int q0), .val (.int q1), .val (.int q2), .val (.int q3), .val (.int (0 : Int32)), .val (.int r), .val (.int rv), .val (.int s0), .val (.int s1), .val (.int s2), .val (.int v0), .val (.int v1), .val (.int v2), .val (.int p0), .val (.int p1), .val (.int p2), .unset, .unset, .unset, .unset, .unset, .unset, .unset] [(.ref b5), (.ref b5)]))
      refine Goes.st (fun t k => XS.iconst X7.here hx rfl (hb hby at_118) k) ?_
      show Goes p e below s _ _ _ (T7.setTop (mkF m 119 #[.val (.int q0), .val (.int q1), .val (.int q2), .val (.int q3), .val (.int (0 : Int32)), .val (.int r), .val (.int rv), .val (.int s0), .val (.int s1), .val (.int s2), .val (.int v0), .val (.int v1), .val (.int v2), .val (.int p0), .val (.int p1), .val (.int p2), .unset, .unset, .unset, .unset, .unset, .unset, .unset] [(.int (1 : Int32)), (.ref b5), (.ref b5)]))
      refine Goes.st (fun t k => XS.iloadN X7.here hx rfl (hb hby at_119) rfl k) ?_
      show Goes p e below s _ _ _ (T7.setTop (mkF m 120 #[.val (.int q0), .val (.int q1), .val (.int q2), .val (.int q3), .val (.int (0 : Int32)), .val (.int r), .val (.int rv), .val (.int s0), .val (.int s1), .val (.int s2), .val (.int v0), .val (.int v1), .val (.int v2), .val (.int p0), .val (.int p1), .val (.int p2), .unset, .unset, .unset, .unset, .unset, .unset, .unset] [(.int q3), (.int (1 : Int32)), (.ref b5), (.ref b5)]))
      obtain ⟨cl9, Ar9, qk9, Sz9, qz9, Ha9, Gf9⟩ := id V7
      obtain ⟨T9, h9, X9, e9, W9, st9⟩ := stI X7 hx hZ e7 Ar9 (inb_of Sz9 ⟨by decide, by decide⟩) (g := (mkF m 120 #[.val (.int q0), .val (.int q1), .val (.int q2), .val (.int q3), .val (.int (0 : Int32)), .val (.int r), .val (.int rv), .val (.int s0), .val (.int s1), .val (.int s2), .val (.int v0), .val (.int v1), .val (.int v2), .val (.int p0), .val (.int p1), .val (.int p2), .unset, .unset, .unset, .unset, .unset, .unset, .unset] [(.int q3), (.int (1 : Int32)), (.ref b5), (.ref b5)])) rfl rfl (hb hby at_120)
      have N9 := Fr.snoc X9 N7 lo_b5
      have V9 : Arv Z h9 b5 cA5 .int (4 : Int32) [(.int q3), (.int q3), (.int (0 : Int32)), (.int (0 : Int32))] (.int (0 : Int32)) := Arv.set Ar9 qk9 Sz9 qz9 Ha9 Gf9 rfl W9 1 (by decide) (by simp)
      refine Goes.st st9 ?_
      have Z9 : n0 ≤ h9.size := by have := W9.size; have := Z7; omega
      show Goes p e below s _ _ _ (T9.setTop (mkF m 121 #[.val (.int q0), .val (.int q1), .val (.int q2), .val (.int q3), .val (.int (0 : Int32)), .val (.int r), .val (.int rv), .val (.int s0), .val (.int s1), .val (.int s2), .val (.int v0), .val (.int v1), .val (.int v2), .val (.int p0), .val (.int p1), .val (.int p2), .unset, .unset, .unset, .unset, .unset, .unset, .unset] [(.ref b5)]))
      refine Goes.st (fun t k => XS.dup X9.here hx rfl (hb hby at_121) rfl rfl k) ?_
      show Goes p e below s _ _ _ (T9.setTop (mkF m 122 #[.val (.int q0), .val (.int q1), .val (.int q2), .val (.int q3), .val (.int (0 : Int32)), .val (.int r), .val (.int rv), .val (.int s0), .val (.int s1), .val (.int s2), .val (.int v0), .val (.int v1), .val (.int v2), .val (.int p0), .val (.int p1), .val (.int p2), .unset, .unset, .unset, .unset, .unset, .unset, .unset] [(.ref b5), (.ref b5)]))
      refine Goes.st (fun t k => XS.iconst X9.here hx rfl (hb hby at_122) k) ?_
      show Goes p e below s _ _ _ (T9.setTop (mkF m 123 #[.val (.int q0), .val (.int q1), .val (.int q2), .val (.int q3), .val (.int (0 : Int32)), .val (.int r), .val (.int rv), .val (.int s0), .val (.int s1), .val (.int s2), .val (.int v0), .val (.int v1), .val (.int v2), .val (.int p0), .val (.int p1), .val (.int p2), .unset, .unset, .unset, .unset, .unset, .unset, .unset] [(.int (2 : Int32)), (.ref b5), (.ref b5)]))
      refine Goes.st (fun t k => XS.iloadN X9.here hx rfl (hb hby at_123) rfl k) ?_
      show Goes p e below s _ _ _ (T9.setTop (mkF m 124 #[.val (.int q0), .val (.int q1), .val (.int q2), .val (.int q3), .val (.int (0 : Int32)), .val (.int r), .val (.int rv), .val (.int s0), .val (.int s1), .val (.int s2), .val (.int v0), .val (.int v1), .val (.int v2), .val (.int p0), .val (.int p1), .val (.int p2), .unset, .unset, .unset, .unset, .unset, .unset, .unset] [(.int q3), (.int (2 : Int32)), (.ref b5), (.ref b5)]))
      obtain ⟨cl11, Ar11, qk11, Sz11, qz11, Ha11, Gf11⟩ := id V9
      obtain ⟨T11, h11, X11, e11, W11, st11⟩ := stI X9 hx hZ e9 Ar11 (inb_of Sz11 ⟨by decide, by decide⟩) (g := (mkF m 124 #[.val (.int q0), .val (.int q1), .val (.int q2), .val (.int q3), .val (.int (0 : Int32)), .val (.int r), .val (.int rv), .val (.int s0), .val (.int s1), .val (.int s2), .val (.int v0), .val (.int v1), .val (.int v2), .val (.int p0), .val (.int p1), .val (.int p2), .unset, .unset, .unset, .unset, .unset, .unset, .unset] [(.int q3), (.int (2 : Int32)), (.ref b5), (.ref b5)])) rfl rfl (hb hby at_124)
      have N11 := Fr.snoc X11 N9 lo_b5
      have V11 : Arv Z h11 b5 cA5 .int (4 : Int32) [(.int q3), (.int q3), (.int q3), (.int (0 : Int32))] (.int (0 : Int32)) := Arv.set Ar11 qk11 Sz11 qz11 Ha11 Gf11 rfl W11 2 (by decide) (by simp)
      refine Goes.st st11 ?_
      have Z11 : n0 ≤ h11.size := by have := W11.size; have := Z9; omega
      show Goes p e below s _ _ _ (T11.setTop (mkF m 125 #[.val (.int q0), .val (.int q1), .val (.int q2), .val (.int q3), .val (.int (0 : Int32)), .val (.int r), .val (.int rv), .val (.int s0), .val (.int s1), .val (.int s2), .val (.int v0), .val (.int v1), .val (.int v2), .val (.int p0), .val (.int p1), .val (.int p2), .unset, .unset, .unset, .unset, .unset, .unset, .unset] [(.ref b5)]))
      refine Goes.st (fun t k => XS.dup X11.here hx rfl (hb hby at_125) rfl rfl k) ?_
      show Goes p e below s _ _ _ (T11.setTop (mkF m 126 #[.val (.int q0), .val (.int q1), .val (.int q2), .val (.int q3), .val (.int (0 : Int32)), .val (.int r), .val (.int rv), .val (.int s0), .val (.int s1), .val (.int s2), .val (.int v0), .val (.int v1), .val (.int v2), .val (.int p0), .val (.int p1), .val (.int p2), .unset, .unset, .unset, .unset, .unset, .unset, .unset] [(.ref b5), (.ref b5)]))
      refine Goes.st (fun t k => XS.iconst X11.here hx rfl (hb hby at_126) k) ?_
      show Goes p e below s _ _ _ (T11.setTop (mkF m 127 #[.val (.int q0), .val (.int q1), .val (.int q2), .val (.int q3), .val (.int (0 : Int32)), .val (.int r), .val (.int rv), .val (.int s0), .val (.int s1), .val (.int s2), .val (.int v0), .val (.int v1), .val (.int v2), .val (.int p0), .val (.int p1), .val (.int p2), .unset, .unset, .unset, .unset, .unset, .unset, .unset] [(.int (3 : Int32)), (.ref b5), (.ref b5)]))
      refine Goes.st (fun t k => XS.iloadN X11.here hx rfl (hb hby at_127) rfl k) ?_
      show Goes p e below s _ _ _ (T11.setTop (mkF m 128 #[.val (.int q0), .val (.int q1), .val (.int q2), .val (.int q3), .val (.int (0 : Int32)), .val (.int r), .val (.int rv), .val (.int s0), .val (.int s1), .val (.int s2), .val (.int v0), .val (.int v1), .val (.int v2), .val (.int p0), .val (.int p1), .val (.int p2), .unset, .unset, .unset, .unset, .unset, .unset, .unset] [(.int q3), (.int (3 : Int32)), (.ref b5), (.ref b5)]))
      obtain ⟨cl13, Ar13, qk13, Sz13, qz13, Ha13, Gf13⟩ := id V11
      obtain ⟨T13, h13, X13, e13, W13, st13⟩ := stI X11 hx hZ e11 Ar13 (inb_of Sz13 ⟨by decide, by decide⟩) (g := (mkF m 128 #[.val (.int q0), .val (.int q1), .val (.int q2), .val (.int q3), .val (.int (0 : Int32)), .val (.int r), .val (.int rv), .val (.int s0), .val (.int s1), .val (.int s2), .val (.int v0), .val (.int v1), .val (.int v2), .val (.int p0), .val (.int p1), .val (.int p2), .unset, .unset, .unset, .unset, .unset, .unset, .unset] [(.int q3), (.int (3 : Int32)), (.ref b5), (.ref b5)])) rfl rfl (hb hby at_128)
      have N13 := Fr.snoc X13 N11 lo_b5
      have V13 : Arv Z h13 b5 cA5 .int (4 : Int32) [(.int q3), (.int q3), (.int q3), (.int q3)] (.int (0 : Int32)) := Arv.set Ar13 qk13 Sz13 qz13 Ha13 Gf13 rfl W13 3 (by decide) (by simp)
      refine Goes.st st13 ?_
      have Z13 : n0 ≤ h13.size := by have := W13.size; have := Z11; omega
      show Goes p e below s _ _ _ (T13.setTop (mkF m 129 #[.val (.int q0), .val (.int q1), .val (.int q2), .val (.int q3), .val (.int (0 : Int32)), .val (.int r), .val (.int rv), .val (.int s0), .val (.int s1), .val (.int s2), .val (.int v0), .val (.int v1), .val (.int v2), .val (.int p0), .val (.int p1), .val (.int p2), .unset, .unset, .unset, .unset, .unset, .unset, .unset] [(.ref b5)]))
      refine Goes.st (fun t k => XS.astore X13.here hx rfl (hb hby at_129) rfl rfl (l' := #[.val (.int q0), .val (.int q1), .val (.int q2), .val (.int q3), .val (.int (0 : Int32)), .val (.int r), .val (.int rv), .val (.int s0), .val (.int s1), .val (.int s2), .val (.int v0), .val (.int v1), .val (.int v2), .val (.int p0), .val (.int p1), .val (.int p2), .val (.ref b5), .unset, .unset, .unset, .unset, .unset, .unset]) rfl k) ?_
      show Goes p e below s _ _ _ (T13.setTop (mkF m 131 #[.val (.int q0), .val (.int q1), .val (.int q2), .val (.int q3), .val (.int (0 : Int32)), .val (.int r), .val (.int rv), .val (.int s0), .val (.int s1), .val (.int s2), .val (.int v0), .val (.int v1), .val (.int v2), .val (.int p0), .val (.int p1), .val (.int p2), .val (.ref b5), .unset, .unset, .unset, .unset, .unset, .unset] []))
      refine Goes.st (fun t k => XS.iload X13.here hx rfl (hb hby at_131) rfl k) ?_
      show Goes p e below s _ _ _ (T13.setTop (mkF m 133 #[.val (.int q0), .val (.int q1), .val (.int q2), .val (.int q3), .val (.int (0 : Int32)), .val (.int r), .val (.int rv), .val (.int s0), .val (.int s1), .val (.int s2), .val (.int v0), .val (.int v1), .val (.int v2), .val (.int p0), .val (.int p1), .val (.int p2), .val (.ref b5), .unset, .unset, .unset, .unset, .unset, .unset] [(.int (0 : Int32))]))
      refine Goes.st (fun t k => XS.iconst X13.here hx rfl (hb hby at_133) k) ?_
      show Goes p e below s _ _ _ (T13.setTop (mkF m 134 #[.val (.int q0), .val (.int q1), .val (.int q2), .val (.int q3), .val (.int (0 : Int32)), .val (.int r), .val (.int rv), .val (.int s0), .val (.int s1), .val (.int s2), .val (.int v0), .val (.int v1), .val (.int v2), .val (.int p0), .val (.int p1), .val (.int p2), .val (.ref b5), .unset, .unset, .unset, .unset, .unset, .unset] [(.int (1 : Int32)), (.int (0 : Int32))]))
      refine Goes.st (fun t k => XS.icmpYes X13.here hx rfl (pc0 := 134) (pc' := 144) rfl (hb hby at_134) rfl (by decide) (by decide) (by decide) k) ?_
      show Goes p e below s _ _ _ (T13.setTop (mkF m 144 #[.val (.int q0), .val (.int q1), .val (.int q2), .val (.int q3), .val (.int (0 : Int32)), .val (.int r), .val (.int rv), .val (.int s0), .val (.int s1), .val (.int s2), .val (.int v0), .val (.int v1), .val (.int v2), .val (.int p0), .val (.int p1), .val (.int p2), .val (.ref b5), .unset, .unset, .unset, .unset, .unset, .unset] []))
      refine Goes.st (fun t k => XS.iload X13.here hx rfl (hb hby at_144) rfl k) ?_
      show Goes p e below s _ _ _ (T13.setTop (mkF m 146 #[.val (.int q0), .val (.int q1), .val (.int q2), .val (.int q3), .val (.int (0 : Int32)), .val (.int r), .val (.int rv), .val (.int s0), .val (.int s1), .val (.int s2), .val (.int v0), .val (.int v1), .val (.int v2), .val (.int p0), .val (.int p1), .val (.int p2), .val (.ref b5), .unset, .unset, .unset, .unset, .unset, .unset] [(.int (0 : Int32))]))
      refine Goes.st (fun t k => XS.iconst X13.here hx rfl (hb hby at_146) k) ?_
      show Goes p e below s _ _ _ (T13.setTop (mkF m 147 #[.val (.int q0), .val (.int q1), .val (.int q2), .val (.int q3), .val (.int (0 : Int32)), .val (.int r), .val (.int rv), .val (.int s0), .val (.int s1), .val (.int s2), .val (.int v0), .val (.int v1), .val (.int v2), .val (.int p0), .val (.int p1), .val (.int p2), .val (.ref b5), .unset, .unset, .unset, .unset, .unset, .unset] [(.int (2 : Int32)), (.int (0 : Int32))]))
      refine Goes.st (fun t k => XS.icmpYes X13.here hx rfl (pc0 := 147) (pc' := 157) rfl (hb hby at_147) rfl (by decide) (by decide) (by decide) k) ?_
      show Goes p e below s _ _ _ (T13.setTop (mkF m 157 #[.val (.int q0), .val (.int q1), .val (.int q2), .val (.int q3), .val (.int (0 : Int32)), .val (.int r), .val (.int rv), .val (.int s0), .val (.int s1), .val (.int s2), .val (.int v0), .val (.int v1), .val (.int v2), .val (.int p0), .val (.int p1), .val (.int p2), .val (.ref b5), .unset, .unset, .unset, .unset, .unset, .unset] []))
      refine Goes.st (fun t k => XS.iload X13.here hx rfl (hb hby at_157) rfl k) ?_
      show Goes p e below s _ _ _ (T13.setTop (mkF m 159 #[.val (.int q0), .val (.int q1), .val (.int q2), .val (.int q3), .val (.int (0 : Int32)), .val (.int r), .val (.int rv), .val (.int s0), .val (.int s1), .val (.int s2), .val (.int v0), .val (.int v1), .val (.int v2), .val (.int p0), .val (.int p1), .val (.int p2), .val (.ref b5), .unset, .unset, .unset, .unset, .unset, .unset] [(.int (0 : Int32))]))
      refine Goes.st (fun t k => XS.iconst X13.here hx rfl (hb hby at_159) k) ?_
      show Goes p e below s _ _ _ (T13.setTop (mkF m 160 #[.val (.int q0), .val (.int q1), .val (.int q2), .val (.int q3), .val (.int (0 : Int32)), .val (.int r), .val (.int rv), .val (.int s0), .val (.int s1), .val (.int s2), .val (.int v0), .val (.int v1), .val (.int v2), .val (.int p0), .val (.int p1), .val (.int p2), .val (.ref b5), .unset, .unset, .unset, .unset, .unset, .unset] [(.int (3 : Int32)), (.int (0 : Int32))]))
      refine Goes.st (fun t k => XS.icmpYes X13.here hx rfl (pc0 := 160) (pc' := 170) rfl (hb hby at_160) rfl (by decide) (by decide) (by decide) k) ?_
      show Goes p e below s _ _ _ (T13.setTop (mkF m 170 #[.val (.int q0), .val (.int q1), .val (.int q2), .val (.int q3), .val (.int (0 : Int32)), .val (.int r), .val (.int rv), .val (.int s0), .val (.int s1), .val (.int s2), .val (.int v0), .val (.int v1), .val (.int v2), .val (.int p0), .val (.int p1), .val (.int p2), .val (.ref b5), .unset, .unset, .unset, .unset, .unset, .unset] []))
      refine Goes.st (fun t k => XS.iload X13.here hx rfl (hb hby at_170) rfl k) ?_
      show Goes p e below s _ _ _ (T13.setTop (mkF m 172 #[.val (.int q0), .val (.int q1), .val (.int q2), .val (.int q3), .val (.int (0 : Int32)), .val (.int r), .val (.int rv), .val (.int s0), .val (.int s1), .val (.int s2), .val (.int v0), .val (.int v1), .val (.int v2), .val (.int p0), .val (.int p1), .val (.int p2), .val (.ref b5), .unset, .unset, .unset, .unset, .unset, .unset] [(.int (0 : Int32))]))
      refine Goes.st (fun t k => XS.iload X13.here hx rfl (hb hby at_172) rfl k) ?_
      show Goes p e below s _ _ _ (T13.setTop (mkF m 174 #[.val (.int q0), .val (.int q1), .val (.int q2), .val (.int q3), .val (.int (0 : Int32)), .val (.int r), .val (.int rv), .val (.int s0), .val (.int s1), .val (.int s2), .val (.int v0), .val (.int v1), .val (.int v2), .val (.int p0), .val (.int p1), .val (.int p2), .val (.ref b5), .unset, .unset, .unset, .unset, .unset, .unset] [(.int p0), (.int (0 : Int32))]))
      refine Goes.st (fun t k => XS.iload X13.here hx rfl (hb hby at_174) rfl k) ?_
      show Goes p e below s _ _ _ (T13.setTop (mkF m 176 #[.val (.int q0), .val (.int q1), .val (.int q2), .val (.int q3), .val (.int (0 : Int32)), .val (.int r), .val (.int rv), .val (.int s0), .val (.int s1), .val (.int s2), .val (.int v0), .val (.int v1), .val (.int v2), .val (.int p0), .val (.int p1), .val (.int p2), .val (.ref b5), .unset, .unset, .unset, .unset, .unset, .unset] [(.int p1), (.int p0), (.int (0 : Int32))]))
      refine Goes.st (fun t k => XS.iload X13.here hx rfl (hb hby at_176) rfl k) ?_
      show Goes p e below s _ _ _ (T13.setTop (mkF m 178 #[.val (.int q0), .val (.int q1), .val (.int q2), .val (.int q3), .val (.int (0 : Int32)), .val (.int r), .val (.int rv), .val (.int s0), .val (.int s1), .val (.int s2), .val (.int v0), .val (.int v1), .val (.int v2), .val (.int p0), .val (.int p1), .val (.int p2), .val (.ref b5), .unset, .unset, .unset, .unset, .unset, .unset] [(.int p2), (.int p1), (.int p0), (.int (0 : Int32))]))
      have lt15 : b5 < h13.size := V13.lt
      obtain ⟨_, _, ⟨T16, L16, k16, n16⟩, -, X16, ⟨Lc16, hQ16, l16, y16, z16⟩, st16⟩ := Jvm.LawKit.callS X13 hx (y := (⟨"com/example/parley/parley/TableEntryPinLaw", "take", "(IIII)[I"⟩ : MethodName)) hown (mvT hZ (hw _ (List.mem_of_getElem? (i := 5) rfl))) (mvT hZ (hw _ (List.mem_of_getElem? (i := 6) rfl))) (mvT hZ (hw _ (List.mem_of_getElem? (i := 2) rfl))) (mvT hZ (hw _ (List.mem_of_getElem? (i := 7) rfl))) (by decide) (backOf (W := 0) (rmT0 l Z a0 hw [] p0 p1 p2 h13 n0 Z13 ) hZ (hw _ (List.mem_of_getElem? (i := 7) rfl)) (hw _ (List.mem_of_getElem? (i := 2) rfl)) (by decide) (by decide)) (g := (mkF m 178 #[.val (.int q0), .val (.int q1), .val (.int q2), .val (.int q3), .val (.int (0 : Int32)), .val (.int r), .val (.int rv), .val (.int s0), .val (.int s1), .val (.int s2), .val (.int v0), .val (.int v1), .val (.int v2), .val (.int p0), .val (.int p1), .val (.int p2), .val (.ref b5), .unset, .unset, .unset, .unset, .unset, .unset] [(.int p2), (.int p1), (.int p0), (.int (0 : Int32))])) rfl (by rw [hml]; rfl) (argsL := [(.int (0 : Int32)), (.int p0), (.int p1), (.int p2)]) (rest := []) (lenOf pd__IIII__I_1677 rfl) rfl (by show 2 * 0 + _ ≤ _; exact Nat.le_of_eq rfl) (hb hby at_178) (fun _ _ => ⟨rfl, e13, (by decide : 1 + 1 ≤ 24), (by decide : 4 + 0 ≤ 256)⟩)
      dsimp only [Pt.U, Pt.locs, Pt.cells, Pt.slots] at X16 l16 y16 z16 st16 hQ16
      subst l16 y16 z16
      obtain ⟨b16, kA16, rfl, N16q, K16, szq16, loq16, V16⟩ := hQ16
      have ne_b5_b16 : b5 ≠ b16 := Nat.ne_of_lt (Nat.lt_of_lt_of_le lt15 szq16)
      have Z16 : n0 ≤ T16.heap.size := Nat.le_trans Z13 K16.1
      have N16 := Fr.app N13 N16q
      refine Goes.st st16 ?_
      show Goes p e below s _ _ _ (T16.setTop (mkF m 181 #[.val (.int q0), .val (.int q1), .val (.int q2), .val (.int q3), .val (.int (0 : Int32)), .val (.int r), .val (.int rv), .val (.int s0), .val (.int s1), .val (.int s2), .val (.int v0), .val (.int v1), .val (.int v2), .val (.int p0), .val (.int p1), .val (.int p2), .val (.ref b5), .unset, .unset, .unset, .unset, .unset, .unset] [(.ref b16)]))
      refine Goes.st (fun t k => XS.astore X16.here hx rfl (hb hby at_181) rfl rfl (l' := #[.val (.int q0), .val (.int q1), .val (.int q2), .val (.int q3), .val (.int (0 : Int32)), .val (.int r), .val (.int rv), .val (.int s0), .val (.int s1), .val (.int s2), .val (.int v0), .val (.int v1), .val (.int v2), .val (.int p0), .val (.int p1), .val (.int p2), .val (.ref b5), .val (.ref b16), .unset, .unset, .unset, .unset, .unset]) rfl k) ?_
      show Goes p e below s _ _ _ (T16.setTop (mkF m 183 #[.val (.int q0), .val (.int q1), .val (.int q2), .val (.int q3), .val (.int (0 : Int32)), .val (.int r), .val (.int rv), .val (.int s0), .val (.int s1), .val (.int s2), .val (.int v0), .val (.int v1), .val (.int v2), .val (.int p0), .val (.int p1), .val (.int p2), .val (.ref b5), .val (.ref b16), .unset, .unset, .unset, .unset, .unset] []))
      refine Goes.st (fun t k => XS.iload X16.here hx rfl (hb hby at_183) rfl k) ?_
      show Goes p e below s _ _ _ (T16.setTop (mkF m 185 #[.val (.int q0), .val (.int q1), .val (.int q2), .val (.int q3), .val (.int (0 : Int32)), .val (.int r), .val (.int rv), .val (.int s0), .val (.int s1), .val (.int s2), .val (.int v0), .val (.int v1), .val (.int v2), .val (.int p0), .val (.int p1), .val (.int p2), .val (.ref b5), .val (.ref b16), .unset, .unset, .unset, .unset, .unset] [(.int (0 : Int32))]))
      refine Goes.st (fun t k => XS.iload X16.here hx rfl (hb hby at_185) rfl k) ?_
      show Goes p e below s _ _ _ (T16.setTop (mkF m 187 #[.val (.int q0), .val (.int q1), .val (.int q2), .val (.int q3), .val (.int (0 : Int32)), .val (.int r), .val (.int rv), .val (.int s0), .val (.int s1), .val (.int s2), .val (.int v0), .val (.int v1), .val (.int v2), .val (.int p0), .val (.int p1), .val (.int p2), .val (.ref b5), .val (.ref b16), .unset, .unset, .unset, .unset, .unset] [(.int s0), (.int (0 : Int32))]))
      refine Goes.st (fun t k => XS.iload X16.here hx rfl (hb hby at_187) rfl k) ?_
      show Goes p e below s _ _ _ (T16.setTop (mkF m 189 #[.val (.int q0), .val (.int q1), .val (.int q2), .val (.int q3), .val (.int (0 : Int32)), .val (.int r), .val (.int rv), .val (.int s0), .val (.int s1), .val (.int s2), .val (.int v0), .val (.int v1), .val (.int v2), .val (.int p0), .val (.int p1), .val (.int p2), .val (.ref b5), .val (.ref b16), .unset, .unset, .unset, .unset, .unset] [(.int s1), (.int s0), (.int (0 : Int32))]))
      refine Goes.st (fun t k => XS.iload X16.here hx rfl (hb hby at_189) rfl k) ?_
      show Goes p e below s _ _ _ (T16.setTop (mkF m 191 #[.val (.int q0), .val (.int q1), .val (.int q2), .val (.int q3), .val (.int (0 : Int32)), .val (.int r), .val (.int rv), .val (.int s0), .val (.int s1), .val (.int s2), .val (.int v0), .val (.int v1), .val (.int v2), .val (.int p0), .val (.int p1), .val (.int p2), .val (.ref b5), .val (.ref b16), .unset, .unset, .unset, .unset, .unset] [(.int s2), (.int s1), (.int s0), (.int (0 : Int32))]))
      have f19 := (V13.keep K16 nin0)
      have lt18 : b5 < T16.heap.size := f19.lt
      have lt20 : b16 < T16.heap.size := V16.lt
      obtain ⟨_, _, ⟨T21, L21, k21, n21⟩, -, X21, ⟨Lc21, hQ21, l21, y21, z21⟩, st21⟩ := Jvm.LawKit.callS X16 hx (y := (⟨"com/example/parley/parley/TableEntryPinLaw", "take", "(IIII)[I"⟩ : MethodName)) hown (mvT hZ (hw _ (List.mem_of_getElem? (i := 5) rfl))) (mvT hZ (hw _ (List.mem_of_getElem? (i := 6) rfl))) (mvT hZ (hw _ (List.mem_of_getElem? (i := 2) rfl))) (mvT hZ (hw _ (List.mem_of_getElem? (i := 7) rfl))) (by decide) (backOf (W := 0) (rmT0 l Z a0 hw [] s0 s1 s2 T16.heap n0 Z16 ) hZ (hw _ (List.mem_of_getElem? (i := 7) rfl)) (hw _ (List.mem_of_getElem? (i := 2) rfl)) (by decide) (by decide)) (g := (mkF m 191 #[.val (.int q0), .val (.int q1), .val (.int q2), .val (.int q3), .val (.int (0 : Int32)), .val (.int r), .val (.int rv), .val (.int s0), .val (.int s1), .val (.int s2), .val (.int v0), .val (.int v1), .val (.int v2), .val (.int p0), .val (.int p1), .val (.int p2), .val (.ref b5), .val (.ref b16), .unset, .unset, .unset, .unset, .unset] [(.int s2), (.int s1), (.int s0), (.int (0 : Int32))])) rfl (by rw [hml]; rfl) (argsL := [(.int (0 : Int32)), (.int s0), (.int s1), (.int s2)]) (rest := []) (lenOf pd__IIII__I_1677 rfl) rfl (by show 2 * 0 + _ ≤ _; exact Nat.le_of_eq rfl) (hb hby at_191) (fun _ _ => ⟨rfl, rfl, (by decide : 2 + 1 ≤ 24), (by decide : 4 + 0 ≤ 256)⟩)
      dsimp only [Pt.U, Pt.locs, Pt.cells, Pt.slots] at X21 l21 y21 z21 st21 hQ21
      subst l21 y21 z21
      obtain ⟨b21, kA21, rfl, N21q, K21, szq21, loq21, V21⟩ := hQ21
      have ne_b5_b21 : b5 ≠ b21 := Nat.ne_of_lt (Nat.lt_of_lt_of_le lt18 szq21)
      have ne_b16_b21 : b16 ≠ b21 := Nat.ne_of_lt (Nat.lt_of_lt_of_le lt20 szq21)
      have Z21 : n0 ≤ T21.heap.size := Nat.le_trans Z16 K21.1
      have N21 := Fr.app N16 N21q
      refine Goes.st st21 ?_
      show Goes p e below s _ _ _ (T21.setTop (mkF m 194 #[.val (.int q0), .val (.int q1), .val (.int q2), .val (.int q3), .val (.int (0 : Int32)), .val (.int r), .val (.int rv), .val (.int s0), .val (.int s1), .val (.int s2), .val (.int v0), .val (.int v1), .val (.int v2), .val (.int p0), .val (.int p1), .val (.int p2), .val (.ref b5), .val (.ref b16), .unset, .unset, .unset, .unset, .unset] [(.ref b21)]))
      refine Goes.st (fun t k => XS.astore X21.here hx rfl (hb hby at_194) rfl rfl (l' := #[.val (.int q0), .val (.int q1), .val (.int q2), .val (.int q3), .val (.int (0 : Int32)), .val (.int r), .val (.int rv), .val (.int s0), .val (.int s1), .val (.int s2), .val (.int v0), .val (.int v1), .val (.int v2), .val (.int p0), .val (.int p1), .val (.int p2), .val (.ref b5), .val (.ref b16), .val (.ref b21), .unset, .unset, .unset, .unset]) rfl k) ?_
      show Goes p e below s _ _ _ (T21.setTop (mkF m 196 #[.val (.int q0), .val (.int q1), .val (.int q2), .val (.int q3), .val (.int (0 : Int32)), .val (.int r), .val (.int rv), .val (.int s0), .val (.int s1), .val (.int s2), .val (.int v0), .val (.int v1), .val (.int v2), .val (.int p0), .val (.int p1), .val (.int p2), .val (.ref b5), .val (.ref b16), .val (.ref b21), .unset, .unset, .unset, .unset] []))
      refine Goes.st (fun t k => XS.iload X21.here hx rfl (hb hby at_196) rfl k) ?_
      show Goes p e below s _ _ _ (T21.setTop (mkF m 198 #[.val (.int q0), .val (.int q1), .val (.int q2), .val (.int q3), .val (.int (0 : Int32)), .val (.int r), .val (.int rv), .val (.int s0), .val (.int s1), .val (.int s2), .val (.int v0), .val (.int v1), .val (.int v2), .val (.int p0), .val (.int p1), .val (.int p2), .val (.ref b5), .val (.ref b16), .val (.ref b21), .unset, .unset, .unset, .unset] [(.int (0 : Int32))]))
      refine Goes.st (fun t k => XS.iconst X21.here hx rfl (hb hby at_198) k) ?_
      show Goes p e below s _ _ _ (T21.setTop (mkF m 199 #[.val (.int q0), .val (.int q1), .val (.int q2), .val (.int q3), .val (.int (0 : Int32)), .val (.int r), .val (.int rv), .val (.int s0), .val (.int s1), .val (.int s2), .val (.int v0), .val (.int v1), .val (.int v2), .val (.int p0), .val (.int p1), .val (.int p2), .val (.ref b5), .val (.ref b16), .val (.ref b21), .unset, .unset, .unset, .unset] [(.int (0 : Int32)), (.int (0 : Int32))]))
      refine Goes.st (fun t k => XS.iconst X21.here hx rfl (hb hby at_199) k) ?_
      show Goes p e below s _ _ _ (T21.setTop (mkF m 200 #[.val (.int q0), .val (.int q1), .val (.int q2), .val (.int q3), .val (.int (0 : Int32)), .val (.int r), .val (.int rv), .val (.int s0), .val (.int s1), .val (.int s2), .val (.int v0), .val (.int v1), .val (.int v2), .val (.int p0), .val (.int p1), .val (.int p2), .val (.ref b5), .val (.ref b16), .val (.ref b21), .unset, .unset, .unset, .unset] [(.int (1 : Int32)), (.int (0 : Int32)), (.int (0 : Int32))]))
      refine Goes.st (fun t k => XS.iconst X21.here hx rfl (hb hby at_200) k) ?_
      show Goes p e below s _ _ _ (T21.setTop (mkF m 201 #[.val (.int q0), .val (.int q1), .val (.int q2), .val (.int q3), .val (.int (0 : Int32)), .val (.int r), .val (.int rv), .val (.int s0), .val (.int s1), .val (.int s2), .val (.int v0), .val (.int v1), .val (.int v2), .val (.int p0), .val (.int p1), .val (.int p2), .val (.ref b5), .val (.ref b16), .val (.ref b21), .unset, .unset, .unset, .unset] [(.int (2 : Int32)), (.int (1 : Int32)), (.int (0 : Int32)), (.int (0 : Int32))]))
      have f24 := (f19.keep K21 nin0)
      have lt23 : b5 < T21.heap.size := f24.lt
      have f26 := (V16.keep K21 nin0)
      have lt25 : b16 < T21.heap.size := f26.lt
      have lt27 : b21 < T21.heap.size := V21.lt
      obtain ⟨_, _, ⟨T28, L28, k28, n28⟩, -, X28, ⟨Lc28, hQ28, l28, y28, z28⟩, st28⟩ := Jvm.LawKit.callS X21 hx (y := (⟨"com/example/parley/parley/TableEntryPinLaw", "take", "(IIII)[I"⟩ : MethodName)) hown (mvT hZ (hw _ (List.mem_of_getElem? (i := 5) rfl))) (mvT hZ (hw _ (List.mem_of_getElem? (i := 6) rfl))) (mvT hZ (hw _ (List.mem_of_getElem? (i := 2) rfl))) (mvT hZ (hw _ (List.mem_of_getElem? (i := 7) rfl))) (by decide) (backOf (W := 0) (rmT0 l Z a0 hw [] (0 : Int32) (1 : Int32) (2 : Int32) T21.heap n0 Z21 ) hZ (hw _ (List.mem_of_getElem? (i := 7) rfl)) (hw _ (List.mem_of_getElem? (i := 2) rfl)) (by decide) (by decide)) (g := (mkF m 201 #[.val (.int q0), .val (.int q1), .val (.int q2), .val (.int q3), .val (.int (0 : Int32)), .val (.int r), .val (.int rv), .val (.int s0), .val (.int s1), .val (.int s2), .val (.int v0), .val (.int v1), .val (.int v2), .val (.int p0), .val (.int p1), .val (.int p2), .val (.ref b5), .val (.ref b16), .val (.ref b21), .unset, .unset, .unset, .unset] [(.int (2 : Int32)), (.int (1 : Int32)), (.int (0 : Int32)), (.int (0 : Int32))])) rfl (by rw [hml]; rfl) (argsL := [(.int (0 : Int32)), (.int (0 : Int32)), (.int (1 : Int32)), (.int (2 : Int32))]) (rest := []) (lenOf pd__IIII__I_1677 rfl) rfl (by show 2 * 0 + _ ≤ _; exact Nat.le_of_eq rfl) (hb hby at_201) (fun _ _ => ⟨rfl, rfl, (by decide : 3 + 1 ≤ 24), (by decide : 4 + 0 ≤ 256)⟩)
      dsimp only [Pt.U, Pt.locs, Pt.cells, Pt.slots] at X28 l28 y28 z28 st28 hQ28
      subst l28 y28 z28
      obtain ⟨b28, kA28, rfl, N28q, K28, szq28, loq28, V28⟩ := hQ28
      have ne_b5_b28 : b5 ≠ b28 := Nat.ne_of_lt (Nat.lt_of_lt_of_le lt23 szq28)
      have ne_b16_b28 : b16 ≠ b28 := Nat.ne_of_lt (Nat.lt_of_lt_of_le lt25 szq28)
      have ne_b21_b28 : b21 ≠ b28 := Nat.ne_of_lt (Nat.lt_of_lt_of_le lt27 szq28)
      have Z28 : n0 ≤ T28.heap.size := Nat.le_trans Z21 K28.1
      have N28 := Fr.app N21 N28q
      refine Goes.st st28 ?_
      show Goes p e below s _ _ _ (T28.setTop (mkF m 204 #[.val (.int q0), .val (.int q1), .val (.int q2), .val (.int q3), .val (.int (0 : Int32)), .val (.int r), .val (.int rv), .val (.int s0), .val (.int s1), .val (.int s2), .val (.int v0), .val (.int v1), .val (.int v2), .val (.int p0), .val (.int p1), .val (.int p2), .val (.ref b5), .val (.ref b16), .val (.ref b21), .unset, .unset, .unset, .unset] [(.ref b28)]))
      refine Goes.st (fun t k => XS.astore X28.here hx rfl (hb hby at_204) rfl rfl (l' := #[.val (.int q0), .val (.int q1), .val (.int q2), .val (.int q3), .val (.int (0 : Int32)), .val (.int r), .val (.int rv), .val (.int s0), .val (.int s1), .val (.int s2), .val (.int v0), .val (.int v1), .val (.int v2), .val (.int p0), .val (.int p1), .val (.int p2), .val (.ref b5), .val (.ref b16), .val (.ref b21), .val (.ref b28), .unset, .unset, .unset]) rfl k) ?_
      show Goes p e below s _ _ _ (T28.setTop (mkF m 206 #[.val (.int q0), .val (.int q1), .val (.int q2), .val (.int q3), .val (.int (0 : Int32)), .val (.int r), .val (.int rv), .val (.int s0), .val (.int s1), .val (.int s2), .val (.int v0), .val (.int v1), .val (.int v2), .val (.int p0), .val (.int p1), .val (.int p2), .val (.ref b5), .val (.ref b16), .val (.ref b21), .val (.ref b28), .unset, .unset, .unset] []))
      have f31 := (f24.keep K28 nin0)
      have lt30 : b5 < T28.heap.size := f31.lt
      have f33 := (f26.keep K28 nin0)
      have lt32 : b16 < T28.heap.size := f33.lt
      have f35 := (V21.keep K28 nin0)
      have lt34 : b21 < T28.heap.size := f35.lt
      have lt36 : b28 < T28.heap.size := V28.lt
      refine fill Z a0 hw hx hby hlk hret hml hown hnm hZ #[.val (.int q0), .val (.int q1), .val (.int q2), .val (.int q3), .val (.int (0 : Int32)), .val (.int r), .val (.int rv), .val (.int s0), .val (.int s1), .val (.int s2), .val (.int v0), .val (.int v1), .val (.int v2), .val (.int p0), .val (.int p1), .val (.int p2), .val (.ref b5), .val (.ref b16), .val (.ref b21), .val (.ref b28), .unset, .unset, .unset] _ _ (by decide) (by decide) h0 T28.heap n0 T28 _ X28 rfl N28 Z28 ?_
      intro T37 h37 b37 kE37 locs37 X37 e37 N37 Z37 K37 szq37 loq37 V37
      have ne_b5_b37 : b5 ≠ b37 := Nat.ne_of_lt (Nat.lt_of_lt_of_le lt30 szq37)
      have ne_b16_b37 : b16 ≠ b37 := Nat.ne_of_lt (Nat.lt_of_lt_of_le lt32 szq37)
      have ne_b21_b37 : b21 ≠ b37 := Nat.ne_of_lt (Nat.lt_of_lt_of_le lt34 szq37)
      have ne_b28_b37 : b28 ≠ b37 := Nat.ne_of_lt (Nat.lt_of_lt_of_le lt36 szq37)
      show Goes p e below s _ _ _ (T37.setTop (mkF m 648 #[.val (.int q0), .val (.int q1), .val (.int q2), .val (.int q3), .val (.int (0 : Int32)), .val (.int r), .val (.int rv), .val (.int s0), .val (.int s1), .val (.int s2), .val (.int v0), .val (.int v1), .val (.int v2), .val (.int p0), .val (.int p1), .val (.int p2), .val (.ref b5), .val (.ref b16), .val (.ref b21), .val (.ref b28), .unset, .unset, .unset] [(.ref b37)]))
      refine Goes.st (fun t k => XS.astore X37.here hx rfl (hb hby at_648) rfl rfl (l' := #[.val (.int q0), .val (.int q1), .val (.int q2), .val (.int q3), .val (.int (0 : Int32)), .val (.int r), .val (.int rv), .val (.int s0), .val (.int s1), .val (.int s2), .val (.int v0), .val (.int v1), .val (.int v2), .val (.int p0), .val (.int p1), .val (.int p2), .val (.ref b5), .val (.ref b16), .val (.ref b21), .val (.ref b28), .val (.ref b37), .unset, .unset]) rfl k) ?_
      show Goes p e below s _ _ _ (T37.setTop (mkF m 650 #[.val (.int q0), .val (.int q1), .val (.int q2), .val (.int q3), .val (.int (0 : Int32)), .val (.int r), .val (.int rv), .val (.int s0), .val (.int s1), .val (.int s2), .val (.int v0), .val (.int v1), .val (.int v2), .val (.int p0), .val (.int p1), .val (.int p2), .val (.ref b5), .val (.ref b16), .val (.ref b21), .val (.ref b28), .val (.ref b37), .unset, .unset] []))
      obtain ⟨T39, h39, X39, e39, E39, A39, D39, -, st39⟩ := newO X37 hx hZ hown (hw _ (List.mem_of_getElem? (i := 71) rfl)) (hw _ (List.mem_of_getElem? (i := 72) rfl)) (hw _ (List.mem_of_getElem? (i := 73) rfl)) e37 (g := (mkF m 650 #[.val (.int q0), .val (.int q1), .val (.int q2), .val (.int q3), .val (.int (0 : Int32)), .val (.int r), .val (.int rv), .val (.int s0), .val (.int s1), .val (.int s2), .val (.int v0), .val (.int v1), .val (.int v2), .val (.int p0), .val (.int p1), .val (.int p2), .val (.ref b5), .val (.ref b16), .val (.ref b21), .val (.ref b28), .val (.ref b37), .unset, .unset] [])) rfl (hb hby at_650) (by decide) (by decide)
      obtain ⟨b39, g39⟩ : ∃ z, z = h37.size := ⟨_, rfl⟩
      rw [← g39] at A39 D39 st39
      have f40 := (f31.keep K37 nin0)
      have ne_b5_b39 : b5 ≠ b39 := Nat.ne_of_lt (Nat.lt_of_lt_of_le f40.lt (Nat.le_of_eq g39.symm))
      have f41 := (f33.keep K37 nin0)
      have ne_b16_b39 : b16 ≠ b39 := Nat.ne_of_lt (Nat.lt_of_lt_of_le f41.lt (Nat.le_of_eq g39.symm))
      have f42 := (f35.keep K37 nin0)
      have ne_b21_b39 : b21 ≠ b39 := Nat.ne_of_lt (Nat.lt_of_lt_of_le f42.lt (Nat.le_of_eq g39.symm))
      have f43 := (V28.keep K37 nin0)
      have ne_b28_b39 : b28 ≠ b39 := Nat.ne_of_lt (Nat.lt_of_lt_of_le f43.lt (Nat.le_of_eq g39.symm))
      have ne_b37_b39 : b37 ≠ b39 := Nat.ne_of_lt (Nat.lt_of_lt_of_le V37.lt (Nat.le_of_eq g39.symm))
      have lo_b39 : n0 ≤ b39 := by have := Z37; omega
      refine Goes.st st39 ?_
      have Z39 : n0 ≤ h39.size := Nat.le_trans Z37 E39.1
      have F39_variables : Fld Z h39 b39 "com/example/parley/parley/Table" "variables" "[I" .null := D39 (Or.inr (hw _ (List.mem_of_getElem? (i := 86) rfl))) (ty := (.array .int)) (by decide)
      have F39_sizes : Fld Z h39 b39 "com/example/parley/parley/Table" "sizes" "[I" .null := D39 (Or.inr (hw _ (List.mem_of_getElem? (i := 88) rfl))) (ty := (.array .int)) (by decide)
      have F39_entries : Fld Z h39 b39 "com/example/parley/parley/Table" "entries" "[D" .null := D39 (Or.inr (hw _ (List.mem_of_getElem? (i := 90) rfl))) (ty := (.array .double)) (by decide)
      show Goes p e below s _ _ _ (T39.setTop (mkF m 653 #[.val (.int q0), .val (.int q1), .val (.int q2), .val (.int q3), .val (.int (0 : Int32)), .val (.int r), .val (.int rv), .val (.int s0), .val (.int s1), .val (.int s2), .val (.int v0), .val (.int v1), .val (.int v2), .val (.int p0), .val (.int p1), .val (.int p2), .val (.ref b5), .val (.ref b16), .val (.ref b21), .val (.ref b28), .val (.ref b37), .unset, .unset] [(.ref b39)]))
      refine Goes.st (fun t k => XS.dup X39.here hx rfl (hb hby at_653) rfl rfl k) ?_
      show Goes p e below s _ _ _ (T39.setTop (mkF m 654 #[.val (.int q0), .val (.int q1), .val (.int q2), .val (.int q3), .val (.int (0 : Int32)), .val (.int r), .val (.int rv), .val (.int s0), .val (.int s1), .val (.int s2), .val (.int v0), .val (.int v1), .val (.int v2), .val (.int p0), .val (.int p1), .val (.int p2), .val (.ref b5), .val (.ref b16), .val (.ref b21), .val (.ref b28), .val (.ref b37), .unset, .unset] [(.ref b39), (.ref b39)]))
      refine Goes.st (fun t k => XS.aload X39.here hx rfl (hb hby at_654) rfl rfl k) ?_
      show Goes p e below s _ _ _ (T39.setTop (mkF m 656 #[.val (.int q0), .val (.int q1), .val (.int q2), .val (.int q3), .val (.int (0 : Int32)), .val (.int r), .val (.int rv), .val (.int s0), .val (.int s1), .val (.int s2), .val (.int v0), .val (.int v1), .val (.int v2), .val (.int p0), .val (.int p1), .val (.int p2), .val (.ref b5), .val (.ref b16), .val (.ref b21), .val (.ref b28), .val (.ref b37), .unset, .unset] [(.ref b28), (.ref b39), (.ref b39)]))
      refine Goes.st (fun t k => XS.aload X39.here hx rfl (hb hby at_656) rfl rfl k) ?_
      show Goes p e below s _ _ _ (T39.setTop (mkF m 658 #[.val (.int q0), .val (.int q1), .val (.int q2), .val (.int q3), .val (.int (0 : Int32)), .val (.int r), .val (.int rv), .val (.int s0), .val (.int s1), .val (.int s2), .val (.int v0), .val (.int v1), .val (.int v2), .val (.int p0), .val (.int p1), .val (.int p2), .val (.ref b5), .val (.ref b16), .val (.ref b21), .val (.ref b28), .val (.ref b37), .unset, .unset] [(.ref b21), (.ref b28), (.ref b39), (.ref b39)]))
      refine Goes.st (fun t k => XS.aload X39.here hx rfl (hb hby at_658) rfl rfl k) ?_
      show Goes p e below s _ _ _ (T39.setTop (mkF m 660 #[.val (.int q0), .val (.int q1), .val (.int q2), .val (.int q3), .val (.int (0 : Int32)), .val (.int r), .val (.int rv), .val (.int s0), .val (.int s1), .val (.int s2), .val (.int v0), .val (.int v1), .val (.int v2), .val (.int p0), .val (.int p1), .val (.int p2), .val (.ref b5), .val (.ref b16), .val (.ref b21), .val (.ref b28), .val (.ref b37), .unset, .unset] [(.ref b37), (.ref b21), (.ref b28), (.ref b39), (.ref b39)]))
      obtain ⟨_, _, ⟨T45, L45, k45, n45⟩, -, X45, ⟨Lc45, hQ45, l45, y45, z45⟩, st45⟩ := X39.specialBack hx (y := (⟨"com/example/parley/parley/Table", "<init>", "([I[I[D)V"⟩ : MethodName)) rfl hown (mvT hZ (hw _ (List.mem_of_getElem? (i := 74) rfl))) (mvT hZ (hw _ (List.mem_of_getElem? (i := 75) rfl))) (mvT hZ (hw _ (List.mem_of_getElem? (i := 76) rfl))) (by decide) (backOf (W := 1) (rmC l Z a0 hw [] b39 b28 b21 b37 .null .null .null h39 n0 Z39 A39 lo_b39 F39_variables F39_sizes F39_entries) hZ (hw _ (List.mem_of_getElem? (i := 76) rfl)) (hw _ (List.mem_of_getElem? (i := 73) rfl)) (by decide) (by decide)) (g := (mkF m 660 #[.val (.int q0), .val (.int q1), .val (.int q2), .val (.int q3), .val (.int (0 : Int32)), .val (.int r), .val (.int rv), .val (.int s0), .val (.int s1), .val (.int s2), .val (.int v0), .val (.int v1), .val (.int v2), .val (.int p0), .val (.int p1), .val (.int p2), .val (.ref b5), .val (.ref b16), .val (.ref b21), .val (.ref b28), .val (.ref b37), .unset, .unset] [(.ref b37), (.ref b21), (.ref b28), (.ref b39), (.ref b39)])) rfl (by rw [hml]; rfl) (Steps.refl _) (a := b39) (argsL := [(.ref b28), (.ref b21), (.ref b37)]) (rest := [(.ref b39)]) (lenOf pd___I_I_D_V_1c32 rfl) rfl (by show 2 * 0 + _ ≤ _; exact Nat.le_of_eq rfl) (hb hby at_660) (fun _ _ => ⟨rfl, e39, (by decide : 6 + 0 ≤ 24), (by decide : 71 + 0 ≤ 256)⟩)
      dsimp only [Pt.U, Pt.locs, Pt.cells, Pt.slots] at X45 l45 y45 z45 st45 hQ45
      subst l45 y45 z45
      obtain ⟨rfl, N45q, K45, R45_0, R45_1, R45_2⟩ := hQ45
      have Z45 : n0 ≤ T45.heap.size := Nat.le_trans Z39 K45.1
      have N45 := Fr.app N37 N45q
      refine Goes.sts st45 ?_
      show Goes p e below s _ _ _ (T45.setTop (mkF m 663 #[.val (.int q0), .val (.int q1), .val (.int q2), .val (.int q3), .val (.int (0 : Int32)), .val (.int r), .val (.int rv), .val (.int s0), .val (.int s1), .val (.int s2), .val (.int v0), .val (.int v1), .val (.int v2), .val (.int p0), .val (.int p1), .val (.int p2), .val (.ref b5), .val (.ref b16), .val (.ref b21), .val (.ref b28), .val (.ref b37), .unset, .unset] [(.ref b39)]))
      refine Goes.st (fun t k => XS.astore X45.here hx rfl (hb hby at_663) rfl rfl (l' := #[.val (.int q0), .val (.int q1), .val (.int q2), .val (.int q3), .val (.int (0 : Int32)), .val (.int r), .val (.int rv), .val (.int s0), .val (.int s1), .val (.int s2), .val (.int v0), .val (.int v1), .val (.int v2), .val (.int p0), .val (.int p1), .val (.int p2), .val (.ref b5), .val (.ref b16), .val (.ref b21), .val (.ref b28), .val (.ref b37), .val (.ref b39), .unset]) rfl k) ?_
      show Goes p e below s _ _ _ (T45.setTop (mkF m 665 #[.val (.int q0), .val (.int q1), .val (.int q2), .val (.int q3), .val (.int (0 : Int32)), .val (.int r), .val (.int rv), .val (.int s0), .val (.int s1), .val (.int s2), .val (.int v0), .val (.int v1), .val (.int v2), .val (.int p0), .val (.int p1), .val (.int p2), .val (.ref b5), .val (.ref b16), .val (.ref b21), .val (.ref b28), .val (.ref b37), .val (.ref b39), .unset] []))
      refine Goes.st (fun t k => XS.iload X45.here hx rfl (hb hby at_665) rfl k) ?_
      show Goes p e below s _ _ _ (T45.setTop (mkF m 667 #[.val (.int q0), .val (.int q1), .val (.int q2), .val (.int q3), .val (.int (0 : Int32)), .val (.int r), .val (.int rv), .val (.int s0), .val (.int s1), .val (.int s2), .val (.int v0), .val (.int v1), .val (.int v2), .val (.int p0), .val (.int p1), .val (.int p2), .val (.ref b5), .val (.ref b16), .val (.ref b21), .val (.ref b28), .val (.ref b37), .val (.ref b39), .unset] [(.int (0 : Int32))]))
      refine Goes.st (fun t k => XS.ifNo X45.here hx rfl (hb hby at_667) rfl (by decide) k) ?_
      show Goes p e below s _ _ _ (T45.setTop (mkF m 670 #[.val (.int q0), .val (.int q1), .val (.int q2), .val (.int q3), .val (.int (0 : Int32)), .val (.int r), .val (.int rv), .val (.int s0), .val (.int s1), .val (.int s2), .val (.int v0), .val (.int v1), .val (.int v2), .val (.int p0), .val (.int p1), .val (.int p2), .val (.ref b5), .val (.ref b16), .val (.ref b21), .val (.ref b28), .val (.ref b37), .val (.ref b39), .unset] []))
      refine Goes.st (fun t k => XS.iconst X45.here hx rfl (hb hby at_670) k) ?_
      show Goes p e below s _ _ _ (T45.setTop (mkF m 671 #[.val (.int q0), .val (.int q1), .val (.int q2), .val (.int q3), .val (.int (0 : Int32)), .val (.int r), .val (.int rv), .val (.int s0), .val (.int s1), .val (.int s2), .val (.int v0), .val (.int v1), .val (.int v2), .val (.int p0), .val (.int p1), .val (.int p2), .val (.ref b5), .val (.ref b16), .val (.ref b21), .val (.ref b28), .val (.ref b37), .val (.ref b39), .unset] [(.int (0 : Int32))]))
      refine Goes.st (fun t k => XS.istore X45.here hx rfl (hb hby at_671) rfl (l' := #[.val (.int q0), .val (.int q1), .val (.int q2), .val (.int q3), .val (.int (0 : Int32)), .val (.int r), .val (.int rv), .val (.int s0), .val (.int s1), .val (.int s2), .val (.int v0), .val (.int v1), .val (.int v2), .val (.int p0), .val (.int p1), .val (.int p2), .val (.ref b5), .val (.ref b16), .val (.ref b21), .val (.ref b28), .val (.ref b37), .val (.ref b39), .val (.int (0 : Int32))]) rfl k) ?_
      show Goes p e below s _ _ _ (T45.setTop (mkF m 673 #[.val (.int q0), .val (.int q1), .val (.int q2), .val (.int q3), .val (.int (0 : Int32)), .val (.int r), .val (.int rv), .val (.int s0), .val (.int s1), .val (.int s2), .val (.int v0), .val (.int v1), .val (.int v2), .val (.int p0), .val (.int p1), .val (.int p2), .val (.ref b5), .val (.ref b16), .val (.ref b21), .val (.ref b28), .val (.ref b37), .val (.ref b39), .val (.int (0 : Int32))] []))
      refine Goes.st (fun t k => XS.goto X45.here hx rfl (pc0 := 673) (pc' := 727) rfl (hb hby at_673) (by decide) (by decide) k) ?_
      show Goes p e below s _ _ _ (T45.setTop (mkF m 727 #[.val (.int q0), .val (.int q1), .val (.int q2), .val (.int q3), .val (.int (0 : Int32)), .val (.int r), .val (.int rv), .val (.int s0), .val (.int s1), .val (.int s2), .val (.int v0), .val (.int v1), .val (.int v2), .val (.int p0), .val (.int p1), .val (.int p2), .val (.ref b5), .val (.ref b16), .val (.ref b21), .val (.ref b28), .val (.ref b37), .val (.ref b39), .val (.int (0 : Int32))] []))
      refine Goes.st (fun t k => XS.aload X45.here hx rfl (hb hby at_727) rfl rfl k) ?_
      show Goes p e below s _ _ _ (T45.setTop (mkF m 729 #[.val (.int q0), .val (.int q1), .val (.int q2), .val (.int q3), .val (.int (0 : Int32)), .val (.int r), .val (.int rv), .val (.int s0), .val (.int s1), .val (.int s2), .val (.int v0), .val (.int v1), .val (.int v2), .val (.int p0), .val (.int p1), .val (.int p2), .val (.ref b5), .val (.ref b16), .val (.ref b21), .val (.ref b28), .val (.ref b37), .val (.ref b39), .val (.int (0 : Int32))] [(.ref b39)]))
      refine Goes.st (fun t k => XS.aload X45.here hx rfl (hb hby at_729) rfl rfl k) ?_
      show Goes p e below s _ _ _ (T45.setTop (mkF m 731 #[.val (.int q0), .val (.int q1), .val (.int q2), .val (.int q3), .val (.int (0 : Int32)), .val (.int r), .val (.int rv), .val (.int s0), .val (.int s1), .val (.int s2), .val (.int v0), .val (.int v1), .val (.int v2), .val (.int p0), .val (.int p1), .val (.int p2), .val (.ref b5), .val (.ref b16), .val (.ref b21), .val (.ref b28), .val (.ref b37), .val (.ref b39), .val (.int (0 : Int32))] [(.ref b5), (.ref b39)]))
      refine Goes.st (fun t k => XS.aload X45.here hx rfl (hb hby at_731) rfl rfl k) ?_
      show Goes p e below s _ _ _ (T45.setTop (mkF m 733 #[.val (.int q0), .val (.int q1), .val (.int q2), .val (.int q3), .val (.int (0 : Int32)), .val (.int r), .val (.int rv), .val (.int s0), .val (.int s1), .val (.int s2), .val (.int v0), .val (.int v1), .val (.int v2), .val (.int p0), .val (.int p1), .val (.int p2), .val (.ref b5), .val (.ref b16), .val (.ref b21), .val (.ref b28), .val (.ref b37), .val (.ref b39), .val (.int (0 : Int32))] [(.ref b16), (.ref b5), (.ref b39)]))
      have f47 := ((f41.ext E39).keep K45 (ninS ne_b16_b39 nin0))
      have f48 := ((f42.ext E39).keep K45 (ninS ne_b21_b39 nin0))
      have f49 := ((f40.ext E39).keep K45 (ninS ne_b5_b39 nin0))
      have f50 := ((V37.ext E39).keep K45 (ninS ne_b37_b39 nin0))
      have hix : (0 : Int32) = (0 : Int32) := by rfl
      have hI : Ix (0 : Int32) := by exact own_i1 (Or.inl rfl)
      have he := own_ent hI
      rw [hix] at he
      have f52 := (A39.keep K45)
      obtain ⟨cq51, kq51, qa51, qb51, qc51⟩ := isOf hZ rfl f52
      obtain ⟨_, _, ⟨T51, L51, k51, n51⟩, -, X51, ⟨Lc51, hQ51, l51, y51, z51⟩, st51⟩ := X45.virtualBack hx (y := (⟨"com/example/parley/parley/Table", "entry", "([I[I)D"⟩ : MethodName)) (z := (⟨"com/example/parley/parley/Table", "entry", "([I[I)D"⟩ : MethodName)) hown (mvT hZ (hw _ (List.mem_of_getElem? (i := 91) rfl))) (mvT hZ (hw _ (List.mem_of_getElem? (i := 92) rfl))) (notFace_of_selects (args := #[]) (mvT hZ (hw _ (List.mem_of_getElem? (i := 94) rfl)))) (mvT hZ (hw _ (List.mem_of_getElem? (i := 94) rfl))) (mvT hZ (hw _ (List.mem_of_getElem? (i := 93) rfl))) (by decide) (backOf (W := 0) (rmE0 l Z a0 hw [] b39 b5 b16 b21 b37 kA16 kA21 cA5 kE37 [(.int q3), (.int q3), (.int q3), (.int q3)] entsL (FP.i2d (0 : Int32))  T45.heap n0 Z45 R45_1 R45_2 f47 f48 f49 f50 (own_ix64 hI) (by rw [hix]; exact he)) hZ (hw _ (List.mem_of_getElem? (i := 95) rfl)) (hw _ (List.mem_of_getElem? (i := 73) rfl)) (by decide) (by decide)) qa51 qc51 (g := (mkF m 733 #[.val (.int q0), .val (.int q1), .val (.int q2), .val (.int q3), .val (.int (0 : Int32)), .val (.int r), .val (.int rv), .val (.int s0), .val (.int s1), .val (.int s2), .val (.int v0), .val (.int v1), .val (.int v2), .val (.int p0), .val (.int p1), .val (.int p2), .val (.ref b5), .val (.ref b16), .val (.ref b21), .val (.ref b28), .val (.ref b37), .val (.ref b39), .val (.int (0 : Int32))] [(.ref b16), (.ref b5), (.ref b39)])) rfl (by rw [hml]; rfl) (Steps.refl _) (argsL := [(.ref b5), (.ref b16)]) (rest := []) (lenOf pd___I_I_D_1292 rfl) rfl (by show 2 * 0 + _ ≤ _; exact Nat.le_of_eq rfl) (hb hby at_733) (fun _ _ => ⟨rfl, rfl, (by decide : 6 + 0 ≤ 24), (by decide : 71 + 0 ≤ 256)⟩)
      dsimp only [Pt.U, Pt.locs, Pt.cells, Pt.slots] at X51 l51 y51 z51 st51 hQ51
      subst l51 y51 z51
      obtain ⟨rfl, N51q, eh51⟩ := hQ51
      have N51 := Fr.app N45 N51q
      refine Goes.sts st51 ?_
      show Goes p e below s _ _ _ (T51.setTop (mkF m 736 #[.val (.int q0), .val (.int q1), .val (.int q2), .val (.int q3), .val (.int (0 : Int32)), .val (.int r), .val (.int rv), .val (.int s0), .val (.int s1), .val (.int s2), .val (.int v0), .val (.int v1), .val (.int v2), .val (.int p0), .val (.int p1), .val (.int p2), .val (.ref b5), .val (.ref b16), .val (.ref b21), .val (.ref b28), .val (.ref b37), .val (.ref b39), .val (.int (0 : Int32))] [(.double (FP.i2d (0 : Int32)))]))
      refine Goes.st (fun t k => XS.iload X51.here hx rfl (hb hby at_736) rfl k) ?_
      show Goes p e below s _ _ _ (T51.setTop (mkF m 738 #[.val (.int q0), .val (.int q1), .val (.int q2), .val (.int q3), .val (.int (0 : Int32)), .val (.int r), .val (.int rv), .val (.int s0), .val (.int s1), .val (.int s2), .val (.int v0), .val (.int v1), .val (.int v2), .val (.int p0), .val (.int p1), .val (.int p2), .val (.ref b5), .val (.ref b16), .val (.ref b21), .val (.ref b28), .val (.ref b37), .val (.ref b39), .val (.int (0 : Int32))] [(.int (0 : Int32)), (.double (FP.i2d (0 : Int32)))]))
      refine Goes.st (fun t k => XS.i2dS X51.here hx rfl (hb hby at_738) rfl (v := (FP.i2d (0 : Int32))) rfl k) ?_
      show Goes p e below s _ _ _ (T51.setTop (mkF m 739 #[.val (.int q0), .val (.int q1), .val (.int q2), .val (.int q3), .val (.int (0 : Int32)), .val (.int r), .val (.int rv), .val (.int s0), .val (.int s1), .val (.int s2), .val (.int v0), .val (.int v1), .val (.int v2), .val (.int p0), .val (.int p1), .val (.int p2), .val (.ref b5), .val (.ref b16), .val (.ref b21), .val (.ref b28), .val (.ref b37), .val (.ref b39), .val (.int (0 : Int32))] [(.double (FP.i2d (0 : Int32))), (.double (FP.i2d (0 : Int32)))]))
      refine Goes.st (fun t k => XS.dcmpS X51.here hx rfl (hb hby at_739) rfl (v := (cmpValue (FP.dcmp (FP.i2d (0 : Int32)) (FP.i2d (0 : Int32))) .l)) rfl k) ?_
      show Goes p e below s _ _ _ (T51.setTop (mkF m 740 #[.val (.int q0), .val (.int q1), .val (.int q2), .val (.int q3), .val (.int (0 : Int32)), .val (.int r), .val (.int rv), .val (.int s0), .val (.int s1), .val (.int s2), .val (.int v0), .val (.int v1), .val (.int v2), .val (.int p0), .val (.int p1), .val (.int p2), .val (.ref b5), .val (.ref b16), .val (.ref b21), .val (.ref b28), .val (.ref b37), .val (.ref b39), .val (.int (0 : Int32))] [(.int (cmpValue (FP.dcmp (FP.i2d (0 : Int32)) (FP.i2d (0 : Int32))) .l))]))
      refine Goes.st (fun t k => XS.ifNo X51.here hx rfl (hb hby at_740) rfl ((if0 _ _).trans (teq (dcmpV_self (i2d_fin _).noNaN _)).2) k) ?_
      show Goes p e below s _ _ _ (T51.setTop (mkF m 743 #[.val (.int q0), .val (.int q1), .val (.int q2), .val (.int q3), .val (.int (0 : Int32)), .val (.int r), .val (.int rv), .val (.int s0), .val (.int s1), .val (.int s2), .val (.int v0), .val (.int v1), .val (.int v2), .val (.int p0), .val (.int p1), .val (.int p2), .val (.ref b5), .val (.ref b16), .val (.ref b21), .val (.ref b28), .val (.ref b37), .val (.ref b39), .val (.int (0 : Int32))] []))
      refine Goes.st (fun t k => XS.iconst X51.here hx rfl (hb hby at_743) k) ?_
      show Goes p e below s _ _ _ (T51.setTop (mkF m 744 #[.val (.int q0), .val (.int q1), .val (.int q2), .val (.int q3), .val (.int (0 : Int32)), .val (.int r), .val (.int rv), .val (.int s0), .val (.int s1), .val (.int s2), .val (.int v0), .val (.int v1), .val (.int v2), .val (.int p0), .val (.int p1), .val (.int p2), .val (.ref b5), .val (.ref b16), .val (.ref b21), .val (.ref b28), .val (.ref b37), .val (.ref b39), .val (.int (0 : Int32))] [(.int (1 : Int32))]))
      refine Goes.st (fun t k => XS.goto X51.here hx rfl (pc0 := 744) (pc' := 748) rfl (hb hby at_744) (by decide) (by decide) k) ?_
      show Goes p e below s _ _ _ (T51.setTop (mkF m 748 #[.val (.int q0), .val (.int q1), .val (.int q2), .val (.int q3), .val (.int (0 : Int32)), .val (.int r), .val (.int rv), .val (.int s0), .val (.int s1), .val (.int s2), .val (.int v0), .val (.int v1), .val (.int v2), .val (.int p0), .val (.int p1), .val (.int p2), .val (.ref b5), .val (.ref b16), .val (.ref b21), .val (.ref b28), .val (.ref b37), .val (.ref b39), .val (.int (0 : Int32))] [(.int (1 : Int32))]))
      refine Goes.retN X51 hx hlk hret (by simp) (hb hby at_748) (by decide) ?_ (by decide) (by decide)
      rw [eh51]
      exact ⟨rfl, N51⟩
    by_cases c53 : ((XT.ushr q0 (4 : Int32)) &&& (1 : Int32)) = (0 : Int32)
    · refine Goes.st (fun t k => XS.ifYes X0.here hx rfl (pc0 := 17) (pc' := 24) rfl (hb hby at_17) rfl ((if0 _ _).trans (teq c53).1) (by decide) (by decide) k) ?_
      show Goes p e below s _ _ _ (s₁.setTop (mkF m 24 #[.val (.int q0), .val (.int q1), .val (.int q2), .val (.int q3), .val (.int (0 : Int32)), .val (.int r), .unset, .unset, .unset, .unset, .unset, .unset, .unset, .unset, .unset, .unset, .unset, .unset, .unset, .unset, .unset, .unset, .unset] []))
      refine Goes.st (fun t k => XS.iconst X0.here hx rfl (hb hby at_24) k) ?_
      show Goes p e below s _ _ _ (s₁.setTop (mkF m 25 #[.val (.int q0), .val (.int q1), .val (.int q2), .val (.int q3), .val (.int (0 : Int32)), .val (.int r), .unset, .unset, .unset, .unset, .unset, .unset, .unset, .unset, .unset, .unset, .unset, .unset, .unset, .unset, .unset, .unset, .unset] [(.int (0 : Int32))]))
      exact J1 _
    · refine Goes.st (fun t k => XS.ifNo X0.here hx rfl (hb hby at_17) rfl ((if0 _ _).trans (feq c53).1) k) ?_
      show Goes p e below s _ _ _ (s₁.setTop (mkF m 20 #[.val (.int q0), .val (.int q1), .val (.int q2), .val (.int q3), .val (.int (0 : Int32)), .val (.int r), .unset, .unset, .unset, .unset, .unset, .unset, .unset, .unset, .unset, .unset, .unset, .unset, .unset, .unset, .unset, .unset, .unset] []))
      refine Goes.st (fun t k => XS.iconst X0.here hx rfl (hb hby at_20) k) ?_
      show Goes p e below s _ _ _ (s₁.setTop (mkF m 21 #[.val (.int q0), .val (.int q1), .val (.int q2), .val (.int q3), .val (.int (0 : Int32)), .val (.int r), .unset, .unset, .unset, .unset, .unset, .unset, .unset, .unset, .unset, .unset, .unset, .unset, .unset, .unset, .unset, .unset, .unset] [(.int (1 : Int32))]))
      refine Goes.st (fun t k => XS.goto X0.here hx rfl (pc0 := 21) (pc' := 25) rfl (hb hby at_21) (by decide) (by decide) k) ?_
      show Goes p e below s _ _ _ (s₁.setTop (mkF m 25 #[.val (.int q0), .val (.int q1), .val (.int q2), .val (.int q3), .val (.int (0 : Int32)), .val (.int r), .unset, .unset, .unset, .unset, .unset, .unset, .unset, .unset, .unset, .unset, .unset, .unset, .unset, .unset, .unset, .unset, .unset] [(.int (1 : Int32))]))
      exact J1 _
  · rw [hn]
    show Goes p e below s _ _ _ (s₁.setTop (mkF m 3 #[.val (.int q0), .val (.int q1), .val (.int q2), .val (.int q3), .unset, .unset, .unset, .unset, .unset, .unset, .unset, .unset, .unset, .unset, .unset, .unset, .unset, .unset, .unset, .unset, .unset, .unset, .unset] [(.int (1 : Int32))]))
    refine Goes.st (fun t k => XS.istore X0.here hx rfl (hb hby at_3) rfl (l' := #[.val (.int q0), .val (.int q1), .val (.int q2), .val (.int q3), .val (.int (1 : Int32)), .unset, .unset, .unset, .unset, .unset, .unset, .unset, .unset, .unset, .unset, .unset, .unset, .unset, .unset, .unset, .unset, .unset, .unset]) rfl k) ?_
    show Goes p e below s _ _ _ (s₁.setTop (mkF m 5 #[.val (.int q0), .val (.int q1), .val (.int q2), .val (.int q3), .val (.int (1 : Int32)), .unset, .unset, .unset, .unset, .unset, .unset, .unset, .unset, .unset, .unset, .unset, .unset, .unset, .unset, .unset, .unset, .unset, .unset] []))
    refine Goes.st (fun t k => XS.iloadN X0.here hx rfl (hb hby at_5) rfl k) ?_
    show Goes p e below s _ _ _ (s₁.setTop (mkF m 6 #[.val (.int q0), .val (.int q1), .val (.int q2), .val (.int q3), .val (.int (1 : Int32)), .unset, .unset, .unset, .unset, .unset, .unset, .unset, .unset, .unset, .unset, .unset, .unset, .unset, .unset, .unset, .unset, .unset, .unset] [(.int q0)]))
    refine Goes.st (fun t k => XS.iconst X0.here hx rfl (hb hby at_6) k) ?_
    show Goes p e below s _ _ _ (s₁.setTop (mkF m 7 #[.val (.int q0), .val (.int q1), .val (.int q2), .val (.int q3), .val (.int (1 : Int32)), .unset, .unset, .unset, .unset, .unset, .unset, .unset, .unset, .unset, .unset, .unset, .unset, .unset, .unset, .unset, .unset, .unset, .unset] [(.int (2 : Int32)), (.int q0)]))
    refine Goes.st (fun t k => XT.iushr X0.here hx rfl (hb hby at_7) rfl k) ?_
    show Goes p e below s _ _ _ (s₁.setTop (mkF m 8 #[.val (.int q0), .val (.int q1), .val (.int q2), .val (.int q3), .val (.int (1 : Int32)), .unset, .unset, .unset, .unset, .unset, .unset, .unset, .unset, .unset, .unset, .unset, .unset, .unset, .unset, .unset, .unset, .unset, .unset] [(.int (XT.ushr q0 (2 : Int32)))]))
    refine Goes.st (fun t k => XS.iconst X0.here hx rfl (hb hby at_8) k) ?_
    show Goes p e below s _ _ _ (s₁.setTop (mkF m 9 #[.val (.int q0), .val (.int q1), .val (.int q2), .val (.int q3), .val (.int (1 : Int32)), .unset, .unset, .unset, .unset, .unset, .unset, .unset, .unset, .unset, .unset, .unset, .unset, .unset, .unset, .unset, .unset, .unset, .unset] [(.int (3 : Int32)), (.int (XT.ushr q0 (2 : Int32)))]))
    refine Goes.st (fun t k => XS.iand X0.here hx rfl (hb hby at_9) rfl k) ?_
    show Goes p e below s _ _ _ (s₁.setTop (mkF m 10 #[.val (.int q0), .val (.int q1), .val (.int q2), .val (.int q3), .val (.int (1 : Int32)), .unset, .unset, .unset, .unset, .unset, .unset, .unset, .unset, .unset, .unset, .unset, .unset, .unset, .unset, .unset, .unset, .unset, .unset] [(.int ((XT.ushr q0 (2 : Int32)) &&& (3 : Int32)))]))
    obtain ⟨r, r_eq⟩ : ∃ z : Int32, z = ((XT.ushr q0 (2 : Int32)) &&& (3 : Int32)) := ⟨_, rfl⟩
    rw [← r_eq]
    show Goes p e below s _ _ _ (s₁.setTop (mkF m 10 #[.val (.int q0), .val (.int q1), .val (.int q2), .val (.int q3), .val (.int (1 : Int32)), .unset, .unset, .unset, .unset, .unset, .unset, .unset, .unset, .unset, .unset, .unset, .unset, .unset, .unset, .unset, .unset, .unset, .unset] [(.int r)]))
    have ir : In4 r := by rw [r_eq]; exact own_and3 _
    refine Goes.st (fun t k => XS.istore X0.here hx rfl (hb hby at_10) rfl (l' := #[.val (.int q0), .val (.int q1), .val (.int q2), .val (.int q3), .val (.int (1 : Int32)), .val (.int r), .unset, .unset, .unset, .unset, .unset, .unset, .unset, .unset, .unset, .unset, .unset, .unset, .unset, .unset, .unset, .unset, .unset]) rfl k) ?_
    show Goes p e below s _ _ _ (s₁.setTop (mkF m 12 #[.val (.int q0), .val (.int q1), .val (.int q2), .val (.int q3), .val (.int (1 : Int32)), .val (.int r), .unset, .unset, .unset, .unset, .unset, .unset, .unset, .unset, .unset, .unset, .unset, .unset, .unset, .unset, .unset, .unset, .unset] []))
    refine Goes.st (fun t k => XS.iloadN X0.here hx rfl (hb hby at_12) rfl k) ?_
    show Goes p e below s _ _ _ (s₁.setTop (mkF m 13 #[.val (.int q0), .val (.int q1), .val (.int q2), .val (.int q3), .val (.int (1 : Int32)), .val (.int r), .unset, .unset, .unset, .unset, .unset, .unset, .unset, .unset, .unset, .unset, .unset, .unset, .unset, .unset, .unset, .unset, .unset] [(.int q0)]))
    refine Goes.st (fun t k => XS.iconst X0.here hx rfl (hb hby at_13) k) ?_
    show Goes p e below s _ _ _ (s₁.setTop (mkF m 14 #[.val (.int q0), .val (.int q1), .val (.int q2), .val (.int q3), .val (.int (1 : Int32)), .val (.int r), .unset, .unset, .unset, .unset, .unset, .unset, .unset, .unset, .unset, .unset, .unset, .unset, .unset, .unset, .unset, .unset, .unset] [(.int (4 : Int32)), (.int q0)]))
    refine Goes.st (fun t k => XT.iushr X0.here hx rfl (hb hby at_14) rfl k) ?_
    show Goes p e below s _ _ _ (s₁.setTop (mkF m 15 #[.val (.int q0), .val (.int q1), .val (.int q2), .val (.int q3), .val (.int (1 : Int32)), .val (.int r), .unset, .unset, .unset, .unset, .unset, .unset, .unset, .unset, .unset, .unset, .unset, .unset, .unset, .unset, .unset, .unset, .unset] [(.int (XT.ushr q0 (4 : Int32)))]))
    refine Goes.st (fun t k => XS.iconst X0.here hx rfl (hb hby at_15) k) ?_
    show Goes p e below s _ _ _ (s₁.setTop (mkF m 16 #[.val (.int q0), .val (.int q1), .val (.int q2), .val (.int q3), .val (.int (1 : Int32)), .val (.int r), .unset, .unset, .unset, .unset, .unset, .unset, .unset, .unset, .unset, .unset, .unset, .unset, .unset, .unset, .unset, .unset, .unset] [(.int (1 : Int32)), (.int (XT.ushr q0 (4 : Int32)))]))
    refine Goes.st (fun t k => XS.iand X0.here hx rfl (hb hby at_16) rfl k) ?_
    show Goes p e below s _ _ _ (s₁.setTop (mkF m 17 #[.val (.int q0), .val (.int q1), .val (.int q2), .val (.int q3), .val (.int (1 : Int32)), .val (.int r), .unset, .unset, .unset, .unset, .unset, .unset, .unset, .unset, .unset, .unset, .unset, .unset, .unset, .unset, .unset, .unset, .unset] [(.int ((XT.ushr q0 (4 : Int32)) &&& (1 : Int32)))]))
    have J54 : ∀ (rv : Int32), Goes p e below s (Q0 Z q0 q1 q2 q3 h0 n0) 24 256 (s₁.setTop (mkF m 25 #[.val (.int q0), .val (.int q1), .val (.int q2), .val (.int q3), .val (.int (1 : Int32)), .val (.int r), .unset, .unset, .unset, .unset, .unset, .unset, .unset, .unset, .unset, .unset, .unset, .unset, .unset, .unset, .unset, .unset, .unset] [(.int rv)])) := by
      intro rv
      refine Goes.st (fun t k => XS.istore X0.here hx rfl (hb hby at_25) rfl (l' := #[.val (.int q0), .val (.int q1), .val (.int q2), .val (.int q3), .val (.int (1 : Int32)), .val (.int r), .val (.int rv), .unset, .unset, .unset, .unset, .unset, .unset, .unset, .unset, .unset, .unset, .unset, .unset, .unset, .unset, .unset, .unset]) rfl k) ?_
      show Goes p e below s _ _ _ (s₁.setTop (mkF m 27 #[.val (.int q0), .val (.int q1), .val (.int q2), .val (.int q3), .val (.int (1 : Int32)), .val (.int r), .val (.int rv), .unset, .unset, .unset, .unset, .unset, .unset, .unset, .unset, .unset, .unset, .unset, .unset, .unset, .unset, .unset, .unset] []))
      refine Goes.st (fun t k => XS.iconst X0.here hx rfl (hb hby at_27) k) ?_
      show Goes p e below s _ _ _ (s₁.setTop (mkF m 28 #[.val (.int q0), .val (.int q1), .val (.int q2), .val (.int q3), .val (.int (1 : Int32)), .val (.int r), .val (.int rv), .unset, .unset, .unset, .unset, .unset, .unset, .unset, .unset, .unset, .unset, .unset, .unset, .unset, .unset, .unset, .unset] [(.int (1 : Int32))]))
      refine Goes.st (fun t k => XS.iloadN X0.here hx rfl (hb hby at_28) rfl k) ?_
      show Goes p e below s _ _ _ (s₁.setTop (mkF m 29 #[.val (.int q0), .val (.int q1), .val (.int q2), .val (.int q3), .val (.int (1 : Int32)), .val (.int r), .val (.int rv), .unset, .unset, .unset, .unset, .unset, .unset, .unset, .unset, .unset, .unset, .unset, .unset, .unset, .unset, .unset, .unset] [(.int q1), (.int (1 : Int32))]))
      refine Goes.st (fun t k => XS.iconst X0.here hx rfl (hb hby at_29) k) ?_
      show Goes p e below s _ _ _ (s₁.setTop (mkF m 30 #[.val (.int q0), .val (.int q1), .val (.int q2), .val (.int q3), .val (.int (1 : Int32)), .val (.int r), .val (.int rv), .unset, .unset, .unset, .unset, .unset, .unset, .unset, .unset, .unset, .unset, .unset, .unset, .unset, .unset, .unset, .unset] [(.int (3 : Int32)), (.int q1), (.int (1 : Int32))]))
      refine Goes.st (fun t k => XS.iand X0.here hx rfl (hb hby at_30) rfl k) ?_
      show Goes p e below s _ _ _ (s₁.setTop (mkF m 31 #[.val (.int q0), .val (.int q1), .val (.int q2), .val (.int q3), .val (.int (1 : Int32)), .val (.int r), .val (.int rv), .unset, .unset, .unset, .unset, .unset, .unset, .unset, .unset, .unset, .unset, .unset, .unset, .unset, .unset, .unset, .unset] [(.int (q1 &&& (3 : Int32))), (.int (1 : Int32))]))
      refine Goes.st (fun t k => XS.iadd X0.here hx rfl (hb hby at_31) rfl k) ?_
      show Goes p e below s _ _ _ (s₁.setTop (mkF m 32 #[.val (.int q0), .val (.int q1), .val (.int q2), .val (.int q3), .val (.int (1 : Int32)), .val (.int r), .val (.int rv), .unset, .unset, .unset, .unset, .unset, .unset, .unset, .unset, .unset, .unset, .unset, .unset, .unset, .unset, .unset, .unset] [(.int ((1 : Int32) + (q1 &&& (3 : Int32))))]))
      obtain ⟨s0, s0_eq⟩ : ∃ z : Int32, z = ((1 : Int32) + (q1 &&& (3 : Int32))) := ⟨_, rfl⟩
      rw [← s0_eq]
      show Goes p e below s _ _ _ (s₁.setTop (mkF m 32 #[.val (.int q0), .val (.int q1), .val (.int q2), .val (.int q3), .val (.int (1 : Int32)), .val (.int r), .val (.int rv), .unset, .unset, .unset, .unset, .unset, .unset, .unset, .unset, .unset, .unset, .unset, .unset, .unset, .unset, .unset, .unset] [(.int s0)]))
      have is0 : Sz4 s0 := by rw [s0_eq]; exact own_sz _
      refine Goes.st (fun t k => XS.istore X0.here hx rfl (hb hby at_32) rfl (l' := #[.val (.int q0), .val (.int q1), .val (.int q2), .val (.int q3), .val (.int (1 : Int32)), .val (.int r), .val (.int rv), .val (.int s0), .unset, .unset, .unset, .unset, .unset, .unset, .unset, .unset, .unset, .unset, .unset, .unset, .unset, .unset, .unset]) rfl k) ?_
      show Goes p e below s _ _ _ (s₁.setTop (mkF m 34 #[.val (.int q0), .val (.int q1), .val (.int q2), .val (.int q3), .val (.int (1 : Int32)), .val (.int r), .val (.int rv), .val (.int s0), .unset, .unset, .unset, .unset, .unset, .unset, .unset, .unset, .unset, .unset, .unset, .unset, .unset, .unset, .unset] []))
      refine Goes.st (fun t k => XS.iconst X0.here hx rfl (hb hby at_34) k) ?_
      show Goes p e below s _ _ _ (s₁.setTop (mkF m 35 #[.val (.int q0), .val (.int q1), .val (.int q2), .val (.int q3), .val (.int (1 : Int32)), .val (.int r), .val (.int rv), .val (.int s0), .unset, .unset, .unset, .unset, .unset, .unset, .unset, .unset, .unset, .unset, .unset, .unset, .unset, .unset, .unset] [(.int (1 : Int32))]))
      refine Goes.st (fun t k => XS.iloadN X0.here hx rfl (hb hby at_35) rfl k) ?_
      show Goes p e below s _ _ _ (s₁.setTop (mkF m 36 #[.val (.int q0), .val (.int q1), .val (.int q2), .val (.int q3), .val (.int (1 : Int32)), .val (.int r), .val (.int rv), .val (.int s0), .unset, .unset, .unset, .unset, .unset, .unset, .unset, .unset, .unset, .unset, .unset, .unset, .unset, .unset, .unset] [(.int q1), (.int (1 : Int32))]))
      refine Goes.st (fun t k => XS.iconst X0.here hx rfl (hb hby at_36) k) ?_
      show Goes p e below s _ _ _ (s₁.setTop (mkF m 37 #[.val (.int q0), .val (.int q1), .val (.int q2), .val (.int q3), .val (.int (1 : Int32)), .val (.int r), .val (.int rv), .val (.int s0), .unset, .unset, .unset, .unset, .unset, .unset, .unset, .unset, .unset, .unset, .unset, .unset, .unset, .unset, .unset] [(.int (2 : Int32)), (.int q1), (.int (1 : Int32))]))
      refine Goes.st (fun t k => XT.iushr X0.here hx rfl (hb hby at_37) rfl k) ?_
      show Goes p e below s _ _ _ (s₁.setTop (mkF m 38 #[.val (.int q0), .val (.int q1), .val (.int q2), .val (.int q3), .val (.int (1 : Int32)), .val (.int r), .val (.int rv), .val (.int s0), .unset, .unset, .unset, .unset, .unset, .unset, .unset, .unset, .unset, .unset, .unset, .unset, .unset, .unset, .unset] [(.int (XT.ushr q1 (2 : Int32))), (.int (1 : Int32))]))
      refine Goes.st (fun t k => XS.iconst X0.here hx rfl (hb hby at_38) k) ?_
      show Goes p e below s _ _ _ (s₁.setTop (mkF m 39 #[.val (.int q0), .val (.int q1), .val (.int q2), .val (.int q3), .val (.int (1 : Int32)), .val (.int r), .val (.int rv), .val (.int s0), .unset, .unset, .unset, .unset, .unset, .unset, .unset, .unset, .unset, .unset, .unset, .unset, .unset, .unset, .unset] [(.int (3 : Int32)), (.int (XT.ushr q1 (2 : Int32))), (.int (1 : Int32))]))
      refine Goes.st (fun t k => XS.iand X0.here hx rfl (hb hby at_39) rfl k) ?_
      show Goes p e below s _ _ _ (s₁.setTop (mkF m 40 #[.val (.int q0), .val (.int q1), .val (.int q2), .val (.int q3), .val (.int (1 : Int32)), .val (.int r), .val (.int rv), .val (.int s0), .unset, .unset, .unset, .unset, .unset, .unset, .unset, .unset, .unset, .unset, .unset, .unset, .unset, .unset, .unset] [(.int ((XT.ushr q1 (2 : Int32)) &&& (3 : Int32))), (.int (1 : Int32))]))
      refine Goes.st (fun t k => XS.iadd X0.here hx rfl (hb hby at_40) rfl k) ?_
      show Goes p e below s _ _ _ (s₁.setTop (mkF m 41 #[.val (.int q0), .val (.int q1), .val (.int q2), .val (.int q3), .val (.int (1 : Int32)), .val (.int r), .val (.int rv), .val (.int s0), .unset, .unset, .unset, .unset, .unset, .unset, .unset, .unset, .unset, .unset, .unset, .unset, .unset, .unset, .unset] [(.int ((1 : Int32) + ((XT.ushr q1 (2 : Int32)) &&& (3 : Int32))))]))
      obtain ⟨s1, s1_eq⟩ : ∃ z : Int32, z = ((1 : Int32) + ((XT.ushr q1 (2 : Int32)) &&& (3 : Int32))) := ⟨_, rfl⟩
      rw [← s1_eq]
      show Goes p e below s _ _ _ (s₁.setTop (mkF m 41 #[.val (.int q0), .val (.int q1), .val (.int q2), .val (.int q3), .val (.int (1 : Int32)), .val (.int r), .val (.int rv), .val (.int s0), .unset, .unset, .unset, .unset, .unset, .unset, .unset, .unset, .unset, .unset, .unset, .unset, .unset, .unset, .unset] [(.int s1)]))
      have is1 : Sz4 s1 := by rw [s1_eq]; exact own_sz _
      refine Goes.st (fun t k => XS.istore X0.here hx rfl (hb hby at_41) rfl (l' := #[.val (.int q0), .val (.int q1), .val (.int q2), .val (.int q3), .val (.int (1 : Int32)), .val (.int r), .val (.int rv), .val (.int s0), .val (.int s1), .unset, .unset, .unset, .unset, .unset, .unset, .unset, .unset, .unset, .unset, .unset, .unset, .unset, .unset]) rfl k) ?_
      show Goes p e below s _ _ _ (s₁.setTop (mkF m 43 #[.val (.int q0), .val (.int q1), .val (.int q2), .val (.int q3), .val (.int (1 : Int32)), .val (.int r), .val (.int rv), .val (.int s0), .val (.int s1), .unset, .unset, .unset, .unset, .unset, .unset, .unset, .unset, .unset, .unset, .unset, .unset, .unset, .unset] []))
      refine Goes.st (fun t k => XS.iconst X0.here hx rfl (hb hby at_43) k) ?_
      show Goes p e below s _ _ _ (s₁.setTop (mkF m 44 #[.val (.int q0), .val (.int q1), .val (.int q2), .val (.int q3), .val (.int (1 : Int32)), .val (.int r), .val (.int rv), .val (.int s0), .val (.int s1), .unset, .unset, .unset, .unset, .unset, .unset, .unset, .unset, .unset, .unset, .unset, .unset, .unset, .unset] [(.int (1 : Int32))]))
      refine Goes.st (fun t k => XS.iloadN X0.here hx rfl (hb hby at_44) rfl k) ?_
      show Goes p e below s _ _ _ (s₁.setTop (mkF m 45 #[.val (.int q0), .val (.int q1), .val (.int q2), .val (.int q3), .val (.int (1 : Int32)), .val (.int r), .val (.int rv), .val (.int s0), .val (.int s1), .unset, .unset, .unset, .unset, .unset, .unset, .unset, .unset, .unset, .unset, .unset, .unset, .unset, .unset] [(.int q1), (.int (1 : Int32))]))
      refine Goes.st (fun t k => XS.iconst X0.here hx rfl (hb hby at_45) k) ?_
      show Goes p e below s _ _ _ (s₁.setTop (mkF m 46 #[.val (.int q0), .val (.int q1), .val (.int q2), .val (.int q3), .val (.int (1 : Int32)), .val (.int r), .val (.int rv), .val (.int s0), .val (.int s1), .unset, .unset, .unset, .unset, .unset, .unset, .unset, .unset, .unset, .unset, .unset, .unset, .unset, .unset] [(.int (4 : Int32)), (.int q1), (.int (1 : Int32))]))
      refine Goes.st (fun t k => XT.iushr X0.here hx rfl (hb hby at_46) rfl k) ?_
      show Goes p e below s _ _ _ (s₁.setTop (mkF m 47 #[.val (.int q0), .val (.int q1), .val (.int q2), .val (.int q3), .val (.int (1 : Int32)), .val (.int r), .val (.int rv), .val (.int s0), .val (.int s1), .unset, .unset, .unset, .unset, .unset, .unset, .unset, .unset, .unset, .unset, .unset, .unset, .unset, .unset] [(.int (XT.ushr q1 (4 : Int32))), (.int (1 : Int32))]))
      refine Goes.st (fun t k => XS.iconst X0.here hx rfl (hb hby at_47) k) ?_
      show Goes p e below s _ _ _ (s₁.setTop (mkF m 48 #[.val (.int q0), .val (.int q1), .val (.int q2), .val (.int q3), .val (.int (1 : Int32)), .val (.int r), .val (.int rv), .val (.int s0), .val (.int s1), .unset, .unset, .unset, .unset, .unset, .unset, .unset, .unset, .unset, .unset, .unset, .unset, .unset, .unset] [(.int (3 : Int32)), (.int (XT.ushr q1 (4 : Int32))), (.int (1 : Int32))]))
      refine Goes.st (fun t k => XS.iand X0.here hx rfl (hb hby at_48) rfl k) ?_
      show Goes p e below s _ _ _ (s₁.setTop (mkF m 49 #[.val (.int q0), .val (.int q1), .val (.int q2), .val (.int q3), .val (.int (1 : Int32)), .val (.int r), .val (.int rv), .val (.int s0), .val (.int s1), .unset, .unset, .unset, .unset, .unset, .unset, .unset, .unset, .unset, .unset, .unset, .unset, .unset, .unset] [(.int ((XT.ushr q1 (4 : Int32)) &&& (3 : Int32))), (.int (1 : Int32))]))
      refine Goes.st (fun t k => XS.iadd X0.here hx rfl (hb hby at_49) rfl k) ?_
      show Goes p e below s _ _ _ (s₁.setTop (mkF m 50 #[.val (.int q0), .val (.int q1), .val (.int q2), .val (.int q3), .val (.int (1 : Int32)), .val (.int r), .val (.int rv), .val (.int s0), .val (.int s1), .unset, .unset, .unset, .unset, .unset, .unset, .unset, .unset, .unset, .unset, .unset, .unset, .unset, .unset] [(.int ((1 : Int32) + ((XT.ushr q1 (4 : Int32)) &&& (3 : Int32))))]))
      obtain ⟨s2, s2_eq⟩ : ∃ z : Int32, z = ((1 : Int32) + ((XT.ushr q1 (4 : Int32)) &&& (3 : Int32))) := ⟨_, rfl⟩
      rw [← s2_eq]
      show Goes p e below s _ _ _ (s₁.setTop (mkF m 50 #[.val (.int q0), .val (.int q1), .val (.int q2), .val (.int q3), .val (.int (1 : Int32)), .val (.int r), .val (.int rv), .val (.int s0), .val (.int s1), .unset, .unset, .unset, .unset, .unset, .unset, .unset, .unset, .unset, .unset, .unset, .unset, .unset, .unset] [(.int s2)]))
      have is2 : Sz4 s2 := by rw [s2_eq]; exact own_sz _
      refine Goes.st (fun t k => XS.istore X0.here hx rfl (hb hby at_50) rfl (l' := #[.val (.int q0), .val (.int q1), .val (.int q2), .val (.int q3), .val (.int (1 : Int32)), .val (.int r), .val (.int rv), .val (.int s0), .val (.int s1), .val (.int s2), .unset, .unset, .unset, .unset, .unset, .unset, .unset, .unset, .unset, .unset, .unset, .unset, .unset]) rfl k) ?_
      show Goes p e below s _ _ _ (s₁.setTop (mkF m 52 #[.val (.int q0), .val (.int q1), .val (.int q2), .val (.int q3), .val (.int (1 : Int32)), .val (.int r), .val (.int rv), .val (.int s0), .val (.int s1), .val (.int s2), .unset, .unset, .unset, .unset, .unset, .unset, .unset, .unset, .unset, .unset, .unset, .unset, .unset] []))
      refine Goes.st (fun t k => XS.iloadN X0.here hx rfl (hb hby at_52) rfl k) ?_
      show Goes p e below s _ _ _ (s₁.setTop (mkF m 53 #[.val (.int q0), .val (.int q1), .val (.int q2), .val (.int q3), .val (.int (1 : Int32)), .val (.int r), .val (.int rv), .val (.int s0), .val (.int s1), .val (.int s2), .unset, .unset, .unset, .unset, .unset, .unset, .unset, .unset, .unset, .unset, .unset, .unset, .unset] [(.int q2)]))
      refine Goes.st (fun t k => XS.iconst X0.here hx rfl (hb hby at_53) k) ?_
      show Goes p e below s _ _ _ (s₁.setTop (mkF m 54 #[.val (.int q0), .val (.int q1), .val (.int q2), .val (.int q3), .val (.int (1 : Int32)), .val (.int r), .val (.int rv), .val (.int s0), .val (.int s1), .val (.int s2), .unset, .unset, .unset, .unset, .unset, .unset, .unset, .unset, .unset, .unset, .unset, .unset, .unset] [(.int (3 : Int32)), (.int q2)]))
      refine Goes.st (fun t k => XS.iand X0.here hx rfl (hb hby at_54) rfl k) ?_
      show Goes p e below s _ _ _ (s₁.setTop (mkF m 55 #[.val (.int q0), .val (.int q1), .val (.int q2), .val (.int q3), .val (.int (1 : Int32)), .val (.int r), .val (.int rv), .val (.int s0), .val (.int s1), .val (.int s2), .unset, .unset, .unset, .unset, .unset, .unset, .unset, .unset, .unset, .unset, .unset, .unset, .unset] [(.int (q2 &&& (3 : Int32)))]))
      refine Goes.st (fun t k => XS.iload X0.here hx rfl (hb hby at_55) rfl k) ?_
      show Goes p e below s _ _ _ (s₁.setTop (mkF m 57 #[.val (.int q0), .val (.int q1), .val (.int q2), .val (.int q3), .val (.int (1 : Int32)), .val (.int r), .val (.int rv), .val (.int s0), .val (.int s1), .val (.int s2), .unset, .unset, .unset, .unset, .unset, .unset, .unset, .unset, .unset, .unset, .unset, .unset, .unset] [(.int s0), (.int (q2 &&& (3 : Int32)))]))
      refine Goes.st (fun t k => iremM X0 hx rfl (hb hby at_57) rfl (own_sz0 is0) k) ?_
      show Goes p e below s _ _ _ (s₁.setTop (mkF m 58 #[.val (.int q0), .val (.int q1), .val (.int q2), .val (.int q3), .val (.int (1 : Int32)), .val (.int r), .val (.int rv), .val (.int s0), .val (.int s1), .val (.int s2), .unset, .unset, .unset, .unset, .unset, .unset, .unset, .unset, .unset, .unset, .unset, .unset, .unset] [(.int ((q2 &&& (3 : Int32)) % s0))]))
      obtain ⟨v0, v0_eq⟩ : ∃ z : Int32, z = ((q2 &&& (3 : Int32)) % s0) := ⟨_, rfl⟩
      rw [← v0_eq]
      show Goes p e below s _ _ _ (s₁.setTop (mkF m 58 #[.val (.int q0), .val (.int q1), .val (.int q2), .val (.int q3), .val (.int (1 : Int32)), .val (.int r), .val (.int rv), .val (.int s0), .val (.int s1), .val (.int s2), .unset, .unset, .unset, .unset, .unset, .unset, .unset, .unset, .unset, .unset, .unset, .unset, .unset] [(.int v0)]))
      have iv0 : In4 v0 := by rw [v0_eq]; exact own_rem (own_and3 _) is0
      refine Goes.st (fun t k => XS.istore X0.here hx rfl (hb hby at_58) rfl (l' := #[.val (.int q0), .val (.int q1), .val (.int q2), .val (.int q3), .val (.int (1 : Int32)), .val (.int r), .val (.int rv), .val (.int s0), .val (.int s1), .val (.int s2), .val (.int v0), .unset, .unset, .unset, .unset, .unset, .unset, .unset, .unset, .unset, .unset, .unset, .unset]) rfl k) ?_
      show Goes p e below s _ _ _ (s₁.setTop (mkF m 60 #[.val (.int q0), .val (.int q1), .val (.int q2), .val (.int q3), .val (.int (1 : Int32)), .val (.int r), .val (.int rv), .val (.int s0), .val (.int s1), .val (.int s2), .val (.int v0), .unset, .unset, .unset, .unset, .unset, .unset, .unset, .unset, .unset, .unset, .unset, .unset] []))
      refine Goes.st (fun t k => XS.iloadN X0.here hx rfl (hb hby at_60) rfl k) ?_
      show Goes p e below s _ _ _ (s₁.setTop (mkF m 61 #[.val (.int q0), .val (.int q1), .val (.int q2), .val (.int q3), .val (.int (1 : Int32)), .val (.int r), .val (.int rv), .val (.int s0), .val (.int s1), .val (.int s2), .val (.int v0), .unset, .unset, .unset, .unset, .unset, .unset, .unset, .unset, .unset, .unset, .unset, .unset] [(.int q2)]))
      refine Goes.st (fun t k => XS.iconst X0.here hx rfl (hb hby at_61) k) ?_
      show Goes p e below s _ _ _ (s₁.setTop (mkF m 62 #[.val (.int q0), .val (.int q1), .val (.int q2), .val (.int q3), .val (.int (1 : Int32)), .val (.int r), .val (.int rv), .val (.int s0), .val (.int s1), .val (.int s2), .val (.int v0), .unset, .unset, .unset, .unset, .unset, .unset, .unset, .unset, .unset, .unset, .unset, .unset] [(.int (2 : Int32)), (.int q2)]))
      refine Goes.st (fun t k => XT.iushr X0.here hx rfl (hb hby at_62) rfl k) ?_
      show Goes p e below s _ _ _ (s₁.setTop (mkF m 63 #[.val (.int q0), .val (.int q1), .val (.int q2), .val (.int q3), .val (.int (1 : Int32)), .val (.int r), .val (.int rv), .val (.int s0), .val (.int s1), .val (.int s2), .val (.int v0), .unset, .unset, .unset, .unset, .unset, .unset, .unset, .unset, .unset, .unset, .unset, .unset] [(.int (XT.ushr q2 (2 : Int32)))]))
      refine Goes.st (fun t k => XS.iconst X0.here hx rfl (hb hby at_63) k) ?_
      show Goes p e below s _ _ _ (s₁.setTop (mkF m 64 #[.val (.int q0), .val (.int q1), .val (.int q2), .val (.int q3), .val (.int (1 : Int32)), .val (.int r), .val (.int rv), .val (.int s0), .val (.int s1), .val (.int s2), .val (.int v0), .unset, .unset, .unset, .unset, .unset, .unset, .unset, .unset, .unset, .unset, .unset, .unset] [(.int (3 : Int32)), (.int (XT.ushr q2 (2 : Int32)))]))
      refine Goes.st (fun t k => XS.iand X0.here hx rfl (hb hby at_64) rfl k) ?_
      show Goes p e below s _ _ _ (s₁.setTop (mkF m 65 #[.val (.int q0), .val (.int q1), .val (.int q2), .val (.int q3), .val (.int (1 : Int32)), .val (.int r), .val (.int rv), .val (.int s0), .val (.int s1), .val (.int s2), .val (.int v0), .unset, .unset, .unset, .unset, .unset, .unset, .unset, .unset, .unset, .unset, .unset, .unset] [(.int ((XT.ushr q2 (2 : Int32)) &&& (3 : Int32)))]))
      refine Goes.st (fun t k => XS.iload X0.here hx rfl (hb hby at_65) rfl k) ?_
      show Goes p e below s _ _ _ (s₁.setTop (mkF m 67 #[.val (.int q0), .val (.int q1), .val (.int q2), .val (.int q3), .val (.int (1 : Int32)), .val (.int r), .val (.int rv), .val (.int s0), .val (.int s1), .val (.int s2), .val (.int v0), .unset, .unset, .unset, .unset, .unset, .unset, .unset, .unset, .unset, .unset, .unset, .unset] [(.int s1), (.int ((XT.ushr q2 (2 : Int32)) &&& (3 : Int32)))]))
      refine Goes.st (fun t k => iremM X0 hx rfl (hb hby at_67) rfl (own_sz0 is1) k) ?_
      show Goes p e below s _ _ _ (s₁.setTop (mkF m 68 #[.val (.int q0), .val (.int q1), .val (.int q2), .val (.int q3), .val (.int (1 : Int32)), .val (.int r), .val (.int rv), .val (.int s0), .val (.int s1), .val (.int s2), .val (.int v0), .unset, .unset, .unset, .unset, .unset, .unset, .unset, .unset, .unset, .unset, .unset, .unset] [(.int (((XT.ushr q2 (2 : Int32)) &&& (3 : Int32)) % s1))]))
      obtain ⟨v1, v1_eq⟩ : ∃ z : Int32, z = (((XT.ushr q2 (2 : Int32)) &&& (3 : Int32)) % s1) := ⟨_, rfl⟩
      rw [← v1_eq]
      show Goes p e below s _ _ _ (s₁.setTop (mkF m 68 #[.val (.int q0), .val (.int q1), .val (.int q2), .val (.int q3), .val (.int (1 : Int32)), .val (.int r), .val (.int rv), .val (.int s0), .val (.int s1), .val (.int s2), .val (.int v0), .unset, .unset, .unset, .unset, .unset, .unset, .unset, .unset, .unset, .unset, .unset, .unset] [(.int v1)]))
      have iv1 : In4 v1 := by rw [v1_eq]; exact own_rem (own_and3 _) is1
      refine Goes.st (fun t k => XS.istore X0.here hx rfl (hb hby at_68) rfl (l' := #[.val (.int q0), .val (.int q1), .val (.int q2), .val (.int q3), .val (.int (1 : Int32)), .val (.int r), .val (.int rv), .val (.int s0), .val (.int s1), .val (.int s2), .val (.int v0), .val (.int v1), .unset, .unset, .unset, .unset, .unset, .unset, .unset, .unset, .unset, .unset, .unset]) rfl k) ?_
      show Goes p e below s _ _ _ (s₁.setTop (mkF m 70 #[.val (.int q0), .val (.int q1), .val (.int q2), .val (.int q3), .val (.int (1 : Int32)), .val (.int r), .val (.int rv), .val (.int s0), .val (.int s1), .val (.int s2), .val (.int v0), .val (.int v1), .unset, .unset, .unset, .unset, .unset, .unset, .unset, .unset, .unset, .unset, .unset] []))
      refine Goes.st (fun t k => XS.iloadN X0.here hx rfl (hb hby at_70) rfl k) ?_
      show Goes p e below s _ _ _ (s₁.setTop (mkF m 71 #[.val (.int q0), .val (.int q1), .val (.int q2), .val (.int q3), .val (.int (1 : Int32)), .val (.int r), .val (.int rv), .val (.int s0), .val (.int s1), .val (.int s2), .val (.int v0), .val (.int v1), .unset, .unset, .unset, .unset, .unset, .unset, .unset, .unset, .unset, .unset, .unset] [(.int q2)]))
      refine Goes.st (fun t k => XS.iconst X0.here hx rfl (hb hby at_71) k) ?_
      show Goes p e below s _ _ _ (s₁.setTop (mkF m 72 #[.val (.int q0), .val (.int q1), .val (.int q2), .val (.int q3), .val (.int (1 : Int32)), .val (.int r), .val (.int rv), .val (.int s0), .val (.int s1), .val (.int s2), .val (.int v0), .val (.int v1), .unset, .unset, .unset, .unset, .unset, .unset, .unset, .unset, .unset, .unset, .unset] [(.int (4 : Int32)), (.int q2)]))
      refine Goes.st (fun t k => XT.iushr X0.here hx rfl (hb hby at_72) rfl k) ?_
      show Goes p e below s _ _ _ (s₁.setTop (mkF m 73 #[.val (.int q0), .val (.int q1), .val (.int q2), .val (.int q3), .val (.int (1 : Int32)), .val (.int r), .val (.int rv), .val (.int s0), .val (.int s1), .val (.int s2), .val (.int v0), .val (.int v1), .unset, .unset, .unset, .unset, .unset, .unset, .unset, .unset, .unset, .unset, .unset] [(.int (XT.ushr q2 (4 : Int32)))]))
      refine Goes.st (fun t k => XS.iconst X0.here hx rfl (hb hby at_73) k) ?_
      show Goes p e below s _ _ _ (s₁.setTop (mkF m 74 #[.val (.int q0), .val (.int q1), .val (.int q2), .val (.int q3), .val (.int (1 : Int32)), .val (.int r), .val (.int rv), .val (.int s0), .val (.int s1), .val (.int s2), .val (.int v0), .val (.int v1), .unset, .unset, .unset, .unset, .unset, .unset, .unset, .unset, .unset, .unset, .unset] [(.int (3 : Int32)), (.int (XT.ushr q2 (4 : Int32)))]))
      refine Goes.st (fun t k => XS.iand X0.here hx rfl (hb hby at_74) rfl k) ?_
      show Goes p e below s _ _ _ (s₁.setTop (mkF m 75 #[.val (.int q0), .val (.int q1), .val (.int q2), .val (.int q3), .val (.int (1 : Int32)), .val (.int r), .val (.int rv), .val (.int s0), .val (.int s1), .val (.int s2), .val (.int v0), .val (.int v1), .unset, .unset, .unset, .unset, .unset, .unset, .unset, .unset, .unset, .unset, .unset] [(.int ((XT.ushr q2 (4 : Int32)) &&& (3 : Int32)))]))
      refine Goes.st (fun t k => XS.iload X0.here hx rfl (hb hby at_75) rfl k) ?_
      show Goes p e below s _ _ _ (s₁.setTop (mkF m 77 #[.val (.int q0), .val (.int q1), .val (.int q2), .val (.int q3), .val (.int (1 : Int32)), .val (.int r), .val (.int rv), .val (.int s0), .val (.int s1), .val (.int s2), .val (.int v0), .val (.int v1), .unset, .unset, .unset, .unset, .unset, .unset, .unset, .unset, .unset, .unset, .unset] [(.int s2), (.int ((XT.ushr q2 (4 : Int32)) &&& (3 : Int32)))]))
      refine Goes.st (fun t k => iremM X0 hx rfl (hb hby at_77) rfl (own_sz0 is2) k) ?_
      show Goes p e below s _ _ _ (s₁.setTop (mkF m 78 #[.val (.int q0), .val (.int q1), .val (.int q2), .val (.int q3), .val (.int (1 : Int32)), .val (.int r), .val (.int rv), .val (.int s0), .val (.int s1), .val (.int s2), .val (.int v0), .val (.int v1), .unset, .unset, .unset, .unset, .unset, .unset, .unset, .unset, .unset, .unset, .unset] [(.int (((XT.ushr q2 (4 : Int32)) &&& (3 : Int32)) % s2))]))
      obtain ⟨v2, v2_eq⟩ : ∃ z : Int32, z = (((XT.ushr q2 (4 : Int32)) &&& (3 : Int32)) % s2) := ⟨_, rfl⟩
      rw [← v2_eq]
      show Goes p e below s _ _ _ (s₁.setTop (mkF m 78 #[.val (.int q0), .val (.int q1), .val (.int q2), .val (.int q3), .val (.int (1 : Int32)), .val (.int r), .val (.int rv), .val (.int s0), .val (.int s1), .val (.int s2), .val (.int v0), .val (.int v1), .unset, .unset, .unset, .unset, .unset, .unset, .unset, .unset, .unset, .unset, .unset] [(.int v2)]))
      have iv2 : In4 v2 := by rw [v2_eq]; exact own_rem (own_and3 _) is2
      refine Goes.st (fun t k => XS.istore X0.here hx rfl (hb hby at_78) rfl (l' := #[.val (.int q0), .val (.int q1), .val (.int q2), .val (.int q3), .val (.int (1 : Int32)), .val (.int r), .val (.int rv), .val (.int s0), .val (.int s1), .val (.int s2), .val (.int v0), .val (.int v1), .val (.int v2), .unset, .unset, .unset, .unset, .unset, .unset, .unset, .unset, .unset, .unset]) rfl k) ?_
      show Goes p e below s _ _ _ (s₁.setTop (mkF m 80 #[.val (.int q0), .val (.int q1), .val (.int q2), .val (.int q3), .val (.int (1 : Int32)), .val (.int r), .val (.int rv), .val (.int s0), .val (.int s1), .val (.int s2), .val (.int v0), .val (.int v1), .val (.int v2), .unset, .unset, .unset, .unset, .unset, .unset, .unset, .unset, .unset, .unset] []))
      refine Goes.st (fun t k => XS.iload X0.here hx rfl (hb hby at_80) rfl k) ?_
      show Goes p e below s _ _ _ (s₁.setTop (mkF m 82 #[.val (.int q0), .val (.int q1), .val (.int q2), .val (.int q3), .val (.int (1 : Int32)), .val (.int r), .val (.int rv), .val (.int s0), .val (.int s1), .val (.int s2), .val (.int v0), .val (.int v1), .val (.int v2), .unset, .unset, .unset, .unset, .unset, .unset, .unset, .unset, .unset, .unset] [(.int r)]))
      refine Goes.st (fun t k => XS.iconst X0.here hx rfl (hb hby at_82) k) ?_
      show Goes p e below s _ _ _ (s₁.setTop (mkF m 83 #[.val (.int q0), .val (.int q1), .val (.int q2), .val (.int q3), .val (.int (1 : Int32)), .val (.int r), .val (.int rv), .val (.int s0), .val (.int s1), .val (.int s2), .val (.int v0), .val (.int v1), .val (.int v2), .unset, .unset, .unset, .unset, .unset, .unset, .unset, .unset, .unset, .unset] [(.int (0 : Int32)), (.int r)]))
      refine Goes.st (fun t k => XS.iload X0.here hx rfl (hb hby at_83) rfl k) ?_
      show Goes p e below s _ _ _ (s₁.setTop (mkF m 85 #[.val (.int q0), .val (.int q1), .val (.int q2), .val (.int q3), .val (.int (1 : Int32)), .val (.int r), .val (.int rv), .val (.int s0), .val (.int s1), .val (.int s2), .val (.int v0), .val (.int v1), .val (.int v2), .unset, .unset, .unset, .unset, .unset, .unset, .unset, .unset, .unset, .unset] [(.int rv), (.int (0 : Int32)), (.int r)]))
      obtain ⟨_, _, ⟨T55, L55, k55, n55⟩, -, X55, ⟨Lc55, hQ55, l55, y55, z55⟩, st55⟩ := Jvm.LawKit.callS X0 hx (y := (⟨"com/example/parley/parley/TableEntryPinLaw", "slot", "(IIZ)I"⟩ : MethodName)) hown (mvT hZ (hw _ (List.mem_of_getElem? (i := 0) rfl))) (mvT hZ (hw _ (List.mem_of_getElem? (i := 1) rfl))) (mvT hZ (hw _ (List.mem_of_getElem? (i := 2) rfl))) (mvT hZ (hw _ (List.mem_of_getElem? (i := 3) rfl))) (by decide) (backOf (W := 0) (rmS l Z a0 hw [] r (0 : Int32) rv h0 n0 Z0 ) hZ (hw _ (List.mem_of_getElem? (i := 3) rfl)) (hw _ (List.mem_of_getElem? (i := 2) rfl)) (by decide) (by decide)) (g := (mkF m 85 #[.val (.int q0), .val (.int q1), .val (.int q2), .val (.int q3), .val (.int (1 : Int32)), .val (.int r), .val (.int rv), .val (.int s0), .val (.int s1), .val (.int s2), .val (.int v0), .val (.int v1), .val (.int v2), .unset, .unset, .unset, .unset, .unset, .unset, .unset, .unset, .unset, .unset] [(.int rv), (.int (0 : Int32)), (.int r)])) rfl (by rw [hml]; rfl) (argsL := [(.int r), (.int (0 : Int32)), (.int rv)]) (rest := []) (lenOf pd__IIZ_I_ea4 rfl) rfl (by show 2 * 0 + _ ≤ _; exact Nat.le_of_eq rfl) (hb hby at_85) (fun _ _ => ⟨rfl, e0, (by decide : 0 + 0 ≤ 24), (by decide : 0 + 0 ≤ 256)⟩)
      dsimp only [Pt.U, Pt.locs, Pt.cells, Pt.slots] at X55 l55 y55 z55 st55 hQ55
      subst l55 y55 z55
      obtain ⟨rfl, N55q, eh55⟩ := hQ55
      have N55 := Fr.app N0 N55q
      refine Goes.st st55 ?_
      show Goes p e below s _ _ _ (T55.setTop (mkF m 88 #[.val (.int q0), .val (.int q1), .val (.int q2), .val (.int q3), .val (.int (1 : Int32)), .val (.int r), .val (.int rv), .val (.int s0), .val (.int s1), .val (.int s2), .val (.int v0), .val (.int v1), .val (.int v2), .unset, .unset, .unset, .unset, .unset, .unset, .unset, .unset, .unset, .unset] [(.int (slF r (0 : Int32) rv))]))
      obtain ⟨p0x, p0x_eq⟩ : ∃ z : Int32, z = (slF r (0 : Int32) rv) := ⟨_, rfl⟩
      rw [← p0x_eq]
      show Goes p e below s _ _ _ (T55.setTop (mkF m 88 #[.val (.int q0), .val (.int q1), .val (.int q2), .val (.int q3), .val (.int (1 : Int32)), .val (.int r), .val (.int rv), .val (.int s0), .val (.int s1), .val (.int s2), .val (.int v0), .val (.int v1), .val (.int v2), .unset, .unset, .unset, .unset, .unset, .unset, .unset, .unset, .unset, .unset] [(.int p0x)]))
      obtain ⟨p0, p0_e⟩ : ∃ z : Int32, z = p0x := ⟨_, rfl⟩
      rw [← p0_e]
      show Goes p e below s _ _ _ (T55.setTop (mkF m 88 #[.val (.int q0), .val (.int q1), .val (.int q2), .val (.int q3), .val (.int (1 : Int32)), .val (.int r), .val (.int rv), .val (.int s0), .val (.int s1), .val (.int s2), .val (.int v0), .val (.int v1), .val (.int v2), .unset, .unset, .unset, .unset, .unset, .unset, .unset, .unset, .unset, .unset] [(.int p0)]))
      refine Goes.st (fun t k => XS.istore X55.here hx rfl (hb hby at_88) rfl (l' := #[.val (.int q0), .val (.int q1), .val (.int q2), .val (.int q3), .val (.int (1 : Int32)), .val (.int r), .val (.int rv), .val (.int s0), .val (.int s1), .val (.int s2), .val (.int v0), .val (.int v1), .val (.int v2), .val (.int p0), .unset, .unset, .unset, .unset, .unset, .unset, .unset, .unset, .unset]) rfl k) ?_
      show Goes p e below s _ _ _ (T55.setTop (mkF m 90 #[.val (.int q0), .val (.int q1), .val (.int q2), .val (.int q3), .val (.int (1 : Int32)), .val (.int r), .val (.int rv), .val (.int s0), .val (.int s1), .val (.int s2), .val (.int v0), .val (.int v1), .val (.int v2), .val (.int p0), .unset, .unset, .unset, .unset, .unset, .unset, .unset, .unset, .unset] []))
      refine Goes.st (fun t k => XS.iload X55.here hx rfl (hb hby at_90) rfl k) ?_
      show Goes p e below s _ _ _ (T55.setTop (mkF m 92 #[.val (.int q0), .val (.int q1), .val (.int q2), .val (.int q3), .val (.int (1 : Int32)), .val (.int r), .val (.int rv), .val (.int s0), .val (.int s1), .val (.int s2), .val (.int v0), .val (.int v1), .val (.int v2), .val (.int p0), .unset, .unset, .unset, .unset, .unset, .unset, .unset, .unset, .unset] [(.int r)]))
      refine Goes.st (fun t k => XS.iconst X55.here hx rfl (hb hby at_92) k) ?_
      show Goes p e below s _ _ _ (T55.setTop (mkF m 93 #[.val (.int q0), .val (.int q1), .val (.int q2), .val (.int q3), .val (.int (1 : Int32)), .val (.int r), .val (.int rv), .val (.int s0), .val (.int s1), .val (.int s2), .val (.int v0), .val (.int v1), .val (.int v2), .val (.int p0), .unset, .unset, .unset, .unset, .unset, .unset, .unset, .unset, .unset] [(.int (1 : Int32)), (.int r)]))
      refine Goes.st (fun t k => XS.iload X55.here hx rfl (hb hby at_93) rfl k) ?_
      show Goes p e below s _ _ _ (T55.setTop (mkF m 95 #[.val (.int q0), .val (.int q1), .val (.int q2), .val (.int q3), .val (.int (1 : Int32)), .val (.int r), .val (.int rv), .val (.int s0), .val (.int s1), .val (.int s2), .val (.int v0), .val (.int v1), .val (.int v2), .val (.int p0), .unset, .unset, .unset, .unset, .unset, .unset, .unset, .unset, .unset] [(.int rv), (.int (1 : Int32)), (.int r)]))
      obtain ⟨_, _, ⟨T56, L56, k56, n56⟩, -, X56, ⟨Lc56, hQ56, l56, y56, z56⟩, st56⟩ := Jvm.LawKit.callS X55 hx (y := (⟨"com/example/parley/parley/TableEntryPinLaw", "slot", "(IIZ)I"⟩ : MethodName)) hown (mvT hZ (hw _ (List.mem_of_getElem? (i := 0) rfl))) (mvT hZ (hw _ (List.mem_of_getElem? (i := 1) rfl))) (mvT hZ (hw _ (List.mem_of_getElem? (i := 2) rfl))) (mvT hZ (hw _ (List.mem_of_getElem? (i := 3) rfl))) (by decide) (backOf (W := 0) (rmS l Z a0 hw [] r (1 : Int32) rv h0 n0 Z0 ) hZ (hw _ (List.mem_of_getElem? (i := 3) rfl)) (hw _ (List.mem_of_getElem? (i := 2) rfl)) (by decide) (by decide)) (g := (mkF m 95 #[.val (.int q0), .val (.int q1), .val (.int q2), .val (.int q3), .val (.int (1 : Int32)), .val (.int r), .val (.int rv), .val (.int s0), .val (.int s1), .val (.int s2), .val (.int v0), .val (.int v1), .val (.int v2), .val (.int p0), .unset, .unset, .unset, .unset, .unset, .unset, .unset, .unset, .unset] [(.int rv), (.int (1 : Int32)), (.int r)])) rfl (by rw [hml]; rfl) (argsL := [(.int r), (.int (1 : Int32)), (.int rv)]) (rest := []) (lenOf pd__IIZ_I_ea4 rfl) rfl (by show 2 * 0 + _ ≤ _; exact Nat.le_of_eq rfl) (hb hby at_95) (fun _ _ => ⟨rfl, eh55, (by decide : 0 + 0 ≤ 24), (by decide : 0 + 0 ≤ 256)⟩)
      dsimp only [Pt.U, Pt.locs, Pt.cells, Pt.slots] at X56 l56 y56 z56 st56 hQ56
      subst l56 y56 z56
      obtain ⟨rfl, N56q, eh56⟩ := hQ56
      have N56 := Fr.app N55 N56q
      refine Goes.st st56 ?_
      show Goes p e below s _ _ _ (T56.setTop (mkF m 98 #[.val (.int q0), .val (.int q1), .val (.int q2), .val (.int q3), .val (.int (1 : Int32)), .val (.int r), .val (.int rv), .val (.int s0), .val (.int s1), .val (.int s2), .val (.int v0), .val (.int v1), .val (.int v2), .val (.int p0), .unset, .unset, .unset, .unset, .unset, .unset, .unset, .unset, .unset] [(.int (slF r (1 : Int32) rv))]))
      obtain ⟨p1x, p1x_eq⟩ : ∃ z : Int32, z = (slF r (1 : Int32) rv) := ⟨_, rfl⟩
      rw [← p1x_eq]
      show Goes p e below s _ _ _ (T56.setTop (mkF m 98 #[.val (.int q0), .val (.int q1), .val (.int q2), .val (.int q3), .val (.int (1 : Int32)), .val (.int r), .val (.int rv), .val (.int s0), .val (.int s1), .val (.int s2), .val (.int v0), .val (.int v1), .val (.int v2), .val (.int p0), .unset, .unset, .unset, .unset, .unset, .unset, .unset, .unset, .unset] [(.int p1x)]))
      obtain ⟨p1, p1_e⟩ : ∃ z : Int32, z = p1x := ⟨_, rfl⟩
      rw [← p1_e]
      show Goes p e below s _ _ _ (T56.setTop (mkF m 98 #[.val (.int q0), .val (.int q1), .val (.int q2), .val (.int q3), .val (.int (1 : Int32)), .val (.int r), .val (.int rv), .val (.int s0), .val (.int s1), .val (.int s2), .val (.int v0), .val (.int v1), .val (.int v2), .val (.int p0), .unset, .unset, .unset, .unset, .unset, .unset, .unset, .unset, .unset] [(.int p1)]))
      refine Goes.st (fun t k => XS.istore X56.here hx rfl (hb hby at_98) rfl (l' := #[.val (.int q0), .val (.int q1), .val (.int q2), .val (.int q3), .val (.int (1 : Int32)), .val (.int r), .val (.int rv), .val (.int s0), .val (.int s1), .val (.int s2), .val (.int v0), .val (.int v1), .val (.int v2), .val (.int p0), .val (.int p1), .unset, .unset, .unset, .unset, .unset, .unset, .unset, .unset]) rfl k) ?_
      show Goes p e below s _ _ _ (T56.setTop (mkF m 100 #[.val (.int q0), .val (.int q1), .val (.int q2), .val (.int q3), .val (.int (1 : Int32)), .val (.int r), .val (.int rv), .val (.int s0), .val (.int s1), .val (.int s2), .val (.int v0), .val (.int v1), .val (.int v2), .val (.int p0), .val (.int p1), .unset, .unset, .unset, .unset, .unset, .unset, .unset, .unset] []))
      refine Goes.st (fun t k => XS.iload X56.here hx rfl (hb hby at_100) rfl k) ?_
      show Goes p e below s _ _ _ (T56.setTop (mkF m 102 #[.val (.int q0), .val (.int q1), .val (.int q2), .val (.int q3), .val (.int (1 : Int32)), .val (.int r), .val (.int rv), .val (.int s0), .val (.int s1), .val (.int s2), .val (.int v0), .val (.int v1), .val (.int v2), .val (.int p0), .val (.int p1), .unset, .unset, .unset, .unset, .unset, .unset, .unset, .unset] [(.int r)]))
      refine Goes.st (fun t k => XS.iconst X56.here hx rfl (hb hby at_102) k) ?_
      show Goes p e below s _ _ _ (T56.setTop (mkF m 103 #[.val (.int q0), .val (.int q1), .val (.int q2), .val (.int q3), .val (.int (1 : Int32)), .val (.int r), .val (.int rv), .val (.int s0), .val (.int s1), .val (.int s2), .val (.int v0), .val (.int v1), .val (.int v2), .val (.int p0), .val (.int p1), .unset, .unset, .unset, .unset, .unset, .unset, .unset, .unset] [(.int (2 : Int32)), (.int r)]))
      refine Goes.st (fun t k => XS.iload X56.here hx rfl (hb hby at_103) rfl k) ?_
      show Goes p e below s _ _ _ (T56.setTop (mkF m 105 #[.val (.int q0), .val (.int q1), .val (.int q2), .val (.int q3), .val (.int (1 : Int32)), .val (.int r), .val (.int rv), .val (.int s0), .val (.int s1), .val (.int s2), .val (.int v0), .val (.int v1), .val (.int v2), .val (.int p0), .val (.int p1), .unset, .unset, .unset, .unset, .unset, .unset, .unset, .unset] [(.int rv), (.int (2 : Int32)), (.int r)]))
      obtain ⟨_, _, ⟨T57, L57, k57, n57⟩, -, X57, ⟨Lc57, hQ57, l57, y57, z57⟩, st57⟩ := Jvm.LawKit.callS X56 hx (y := (⟨"com/example/parley/parley/TableEntryPinLaw", "slot", "(IIZ)I"⟩ : MethodName)) hown (mvT hZ (hw _ (List.mem_of_getElem? (i := 0) rfl))) (mvT hZ (hw _ (List.mem_of_getElem? (i := 1) rfl))) (mvT hZ (hw _ (List.mem_of_getElem? (i := 2) rfl))) (mvT hZ (hw _ (List.mem_of_getElem? (i := 3) rfl))) (by decide) (backOf (W := 0) (rmS l Z a0 hw [] r (2 : Int32) rv h0 n0 Z0 ) hZ (hw _ (List.mem_of_getElem? (i := 3) rfl)) (hw _ (List.mem_of_getElem? (i := 2) rfl)) (by decide) (by decide)) (g := (mkF m 105 #[.val (.int q0), .val (.int q1), .val (.int q2), .val (.int q3), .val (.int (1 : Int32)), .val (.int r), .val (.int rv), .val (.int s0), .val (.int s1), .val (.int s2), .val (.int v0), .val (.int v1), .val (.int v2), .val (.int p0), .val (.int p1), .unset, .unset, .unset, .unset, .unset, .unset, .unset, .unset] [(.int rv), (.int (2 : Int32)), (.int r)])) rfl (by rw [hml]; rfl) (argsL := [(.int r), (.int (2 : Int32)), (.int rv)]) (rest := []) (lenOf pd__IIZ_I_ea4 rfl) rfl (by show 2 * 0 + _ ≤ _; exact Nat.le_of_eq rfl) (hb hby at_105) (fun _ _ => ⟨rfl, eh56, (by decide : 0 + 0 ≤ 24), (by decide : 0 + 0 ≤ 256)⟩)
      dsimp only [Pt.U, Pt.locs, Pt.cells, Pt.slots] at X57 l57 y57 z57 st57 hQ57
      subst l57 y57 z57
      obtain ⟨rfl, N57q, eh57⟩ := hQ57
      have N57 := Fr.app N56 N57q
      refine Goes.st st57 ?_
      show Goes p e below s _ _ _ (T57.setTop (mkF m 108 #[.val (.int q0), .val (.int q1), .val (.int q2), .val (.int q3), .val (.int (1 : Int32)), .val (.int r), .val (.int rv), .val (.int s0), .val (.int s1), .val (.int s2), .val (.int v0), .val (.int v1), .val (.int v2), .val (.int p0), .val (.int p1), .unset, .unset, .unset, .unset, .unset, .unset, .unset, .unset] [(.int (slF r (2 : Int32) rv))]))
      obtain ⟨p2x, p2x_eq⟩ : ∃ z : Int32, z = (slF r (2 : Int32) rv) := ⟨_, rfl⟩
      rw [← p2x_eq]
      show Goes p e below s _ _ _ (T57.setTop (mkF m 108 #[.val (.int q0), .val (.int q1), .val (.int q2), .val (.int q3), .val (.int (1 : Int32)), .val (.int r), .val (.int rv), .val (.int s0), .val (.int s1), .val (.int s2), .val (.int v0), .val (.int v1), .val (.int v2), .val (.int p0), .val (.int p1), .unset, .unset, .unset, .unset, .unset, .unset, .unset, .unset] [(.int p2x)]))
      obtain ⟨p2, p2_e⟩ : ∃ z : Int32, z = p2x := ⟨_, rfl⟩
      rw [← p2_e]
      show Goes p e below s _ _ _ (T57.setTop (mkF m 108 #[.val (.int q0), .val (.int q1), .val (.int q2), .val (.int q3), .val (.int (1 : Int32)), .val (.int r), .val (.int rv), .val (.int s0), .val (.int s1), .val (.int s2), .val (.int v0), .val (.int v1), .val (.int v2), .val (.int p0), .val (.int p1), .unset, .unset, .unset, .unset, .unset, .unset, .unset, .unset] [(.int p2)]))
      obtain ⟨ip0, ip1, ip2, hne01, hne02, hne12⟩ := own_sl ir rv
      rw [← p0x_eq, ← p0_e] at ip0 hne01 hne02
      rw [← p1x_eq, ← p1_e] at ip1 hne01 hne12
      rw [← p2x_eq, ← p2_e] at ip2 hne02 hne12
      refine Goes.st (fun t k => XS.istore X57.here hx rfl (hb hby at_108) rfl (l' := #[.val (.int q0), .val (.int q1), .val (.int q2), .val (.int q3), .val (.int (1 : Int32)), .val (.int r), .val (.int rv), .val (.int s0), .val (.int s1), .val (.int s2), .val (.int v0), .val (.int v1), .val (.int v2), .val (.int p0), .val (.int p1), .val (.int p2), .unset, .unset, .unset, .unset, .unset, .unset, .unset]) rfl k) ?_
      show Goes p e below s _ _ _ (T57.setTop (mkF m 110 #[.val (.int q0), .val (.int q1), .val (.int q2), .val (.int q3), .val (.int (1 : Int32)), .val (.int r), .val (.int rv), .val (.int s0), .val (.int s1), .val (.int s2), .val (.int v0), .val (.int v1), .val (.int v2), .val (.int p0), .val (.int p1), .val (.int p2), .unset, .unset, .unset, .unset, .unset, .unset, .unset] []))
      refine Goes.st (fun t k => XS.iconst X57.here hx rfl (hb hby at_110) k) ?_
      show Goes p e below s _ _ _ (T57.setTop (mkF m 111 #[.val (.int q0), .val (.int q1), .val (.int q2), .val (.int q3), .val (.int (1 : Int32)), .val (.int r), .val (.int rv), .val (.int s0), .val (.int s1), .val (.int s2), .val (.int v0), .val (.int v1), .val (.int v2), .val (.int p0), .val (.int p1), .val (.int p2), .unset, .unset, .unset, .unset, .unset, .unset, .unset] [(.int (4 : Int32))]))
      obtain ⟨T58, h58, cA58, X58, e58, E58, A58, st58⟩ := newP X57 hx hZ (hw _ (List.mem_of_getElem? (i := 4) rfl)) eh57 (g := (mkF m 111 #[.val (.int q0), .val (.int q1), .val (.int q2), .val (.int q3), .val (.int (1 : Int32)), .val (.int r), .val (.int rv), .val (.int s0), .val (.int s1), .val (.int s2), .val (.int v0), .val (.int v1), .val (.int v2), .val (.int p0), .val (.int p1), .val (.int p2), .unset, .unset, .unset, .unset, .unset, .unset, .unset] [(.int (4 : Int32))])) rfl (hb hby at_111) rfl (by decide) (cap := 4) (by decide) (by decide) (by decide) (by decide)
      obtain ⟨b58, g58⟩ : ∃ z, z = h0.size := ⟨_, rfl⟩
      rw [← g58] at A58 st58
      have lo_b58 : n0 ≤ b58 := by have := Z0; omega
      have V58 : Arv Z h58 b58 cA58 .int (4 : Int32) [(.int (0 : Int32)), (.int (0 : Int32)), (.int (0 : Int32)), (.int (0 : Int32))] (.int (0 : Int32)) := (Arv.new A58 (by decide)).pad (pad_rep [] _ 4)
      refine Goes.st st58 ?_
      have Z58 : n0 ≤ h58.size := Nat.le_trans Z0 E58.1
      show Goes p e below s _ _ _ (T58.setTop (mkF m 113 #[.val (.int q0), .val (.int q1), .val (.int q2), .val (.int q3), .val (.int (1 : Int32)), .val (.int r), .val (.int rv), .val (.int s0), .val (.int s1), .val (.int s2), .val (.int v0), .val (.int v1), .val (.int v2), .val (.int p0), .val (.int p1), .val (.int p2), .unset, .unset, .unset, .unset, .unset, .unset, .unset] [(.ref b58)]))
      refine Goes.st (fun t k => XS.dup X58.here hx rfl (hb hby at_113) rfl rfl k) ?_
      show Goes p e below s _ _ _ (T58.setTop (mkF m 114 #[.val (.int q0), .val (.int q1), .val (.int q2), .val (.int q3), .val (.int (1 : Int32)), .val (.int r), .val (.int rv), .val (.int s0), .val (.int s1), .val (.int s2), .val (.int v0), .val (.int v1), .val (.int v2), .val (.int p0), .val (.int p1), .val (.int p2), .unset, .unset, .unset, .unset, .unset, .unset, .unset] [(.ref b58), (.ref b58)]))
      refine Goes.st (fun t k => XS.iconst X58.here hx rfl (hb hby at_114) k) ?_
      show Goes p e below s _ _ _ (T58.setTop (mkF m 115 #[.val (.int q0), .val (.int q1), .val (.int q2), .val (.int q3), .val (.int (1 : Int32)), .val (.int r), .val (.int rv), .val (.int s0), .val (.int s1), .val (.int s2), .val (.int v0), .val (.int v1), .val (.int v2), .val (.int p0), .val (.int p1), .val (.int p2), .unset, .unset, .unset, .unset, .unset, .unset, .unset] [(.int (0 : Int32)), (.ref b58), (.ref b58)]))
      refine Goes.st (fun t k => XS.iloadN X58.here hx rfl (hb hby at_115) rfl k) ?_
      show Goes p e below s _ _ _ (T58.setTop (mkF m 116 #[.val (.int q0), .val (.int q1), .val (.int q2), .val (.int q3), .val (.int (1 : Int32)), .val (.int r), .val (.int rv), .val (.int s0), .val (.int s1), .val (.int s2), .val (.int v0), .val (.int v1), .val (.int v2), .val (.int p0), .val (.int p1), .val (.int p2), .unset, .unset, .unset, .unset, .unset, .unset, .unset] [(.int q3), (.int (0 : Int32)), (.ref b58), (.ref b58)]))
      obtain ⟨cl60, Ar60, qk60, Sz60, qz60, Ha60, Gf60⟩ := id V58
      obtain ⟨T60, h60, X60, e60, W60, st60⟩ := stI X58 hx hZ e58 Ar60 (inb_of Sz60 ⟨by decide, by decide⟩) (g := (mkF m 116 #[.val (.int q0), .val (.int q1), .val (.int q2), .val (.int q3), .val (.int (1 : Int32)), .val (.int r), .val (.int rv), .val (.int s0), .val (.int s1), .val (.int s2), .val (.int v0), .val (.int v1), .val (.int v2), .val (.int p0), .val (.int p1), .val (.int p2), .unset, .unset, .unset, .unset, .unset, .unset, .unset] [(.int q3), (.int (0 : Int32)), (.ref b58), (.ref b58)])) rfl rfl (hb hby at_116)
      have N60 := Fr.snoc X60 N57 lo_b58
      have V60 : Arv Z h60 b58 cA58 .int (4 : Int32) [(.int q3), (.int (0 : Int32)), (.int (0 : Int32)), (.int (0 : Int32))] (.int (0 : Int32)) := Arv.set Ar60 qk60 Sz60 qz60 Ha60 Gf60 rfl W60 0 (by decide) (by simp)
      refine Goes.st st60 ?_
      have Z60 : n0 ≤ h60.size := by have := W60.size; have := Z58; omega
      show Goes p e below s _ _ _ (T60.setTop (mkF m 117 #[.val (.int q0), .val (.int q1), .val (.int q2), .val (.int q3), .val (.int (1 : Int32)), .val (.int r), .val (.int rv), .val (.int s0), .val (.int s1), .val (.int s2), .val (.int v0), .val (.int v1), .val (.int v2), .val (.int p0), .val (.int p1), .val (.int p2), .unset, .unset, .unset, .unset, .unset, .unset, .unset] [(.ref b58)]))
      refine Goes.st (fun t k => XS.dup X60.here hx rfl (hb hby at_117) rfl rfl k) ?_
      show Goes p e below s _ _ _ (T60.setTop (mkF m 118 #[.val (.int q0), .val (.int q1), .val (.int q2), .val (.int q3), .val (.int (1 : Int32)), .val (.int r), .val (.int rv), .val (.int s0), .val (.int s1), .val (.int s2), .val (.int v0), .val (.int v1), .val (.int v2), .val (.int p0), .val (.int p1), .val (.int p2), .unset, .unset, .unset, .unset, .unset, .unset, .unset] [(.ref b58), (.ref b58)]))
      refine Goes.st (fun t k => XS.iconst X60.here hx rfl (hb hby at_118) k) ?_
      show Goes p e below s _ _ _ (T60.setTop (mkF m 119 #[.val (.int q0), .val (.int q1), .val (.int q2), .val (.int q3), .val (.int (1 : Int32)), .val (.int r), .val (.int rv), .val (.int s0), .val (.int s1), .val (.int s2), .val (.int v0), .val (.int v1), .val (.int v2), .val (.int p0), .val (.int p1), .val (.int p2), .unset, .unset, .unset, .unset, .unset, .unset, .unset] [(.int (1 : Int32)), (.ref b58), (.ref b58)]))
      refine Goes.st (fun t k => XS.iloadN X60.here hx rfl (hb hby at_119) rfl k) ?_
      show Goes p e below s _ _ _ (T60.setTop (mkF m 120 #[.val (.int q0), .val (.int q1), .val (.int q2), .val (.int q3), .val (.int (1 : Int32)), .val (.int r), .val (.int rv), .val (.int s0), .val (.int s1), .val (.int s2), .val (.int v0), .val (.int v1), .val (.int v2), .val (.int p0), .val (.int p1), .val (.int p2), .unset, .unset, .unset, .unset, .unset, .unset, .unset] [(.int q3), (.int (1 : Int32)), (.ref b58), (.ref b58)]))
      obtain ⟨cl62, Ar62, qk62, Sz62, qz62, Ha62, Gf62⟩ := id V60
      obtain ⟨T62, h62, X62, e62, W62, st62⟩ := stI X60 hx hZ e60 Ar62 (inb_of Sz62 ⟨by decide, by decide⟩) (g := (mkF m 120 #[.val (.int q0), .val (.int q1), .val (.int q2), .val (.int q3), .val (.int (1 : Int32)), .val (.int r), .val (.int rv), .val (.int s0), .val (.int s1), .val (.int s2), .val (.int v0), .val (.int v1), .val (.int v2), .val (.int p0), .val (.int p1), .val (.int p2), .unset, .unset, .unset, .unset, .unset, .unset, .unset] [(.int q3), (.int (1 : Int32)), (.ref b58), (.ref b58)])) rfl rfl (hb hby at_120)
      have N62 := Fr.snoc X62 N60 lo_b58
      have V62 : Arv Z h62 b58 cA58 .int (4 : Int32) [(.int q3), (.int q3), (.int (0 : Int32)), (.int (0 : Int32))] (.int (0 : Int32)) := Arv.set Ar62 qk62 Sz62 qz62 Ha62 Gf62 rfl W62 1 (by decide) (by simp)
      refine Goes.st st62 ?_
      have Z62 : n0 ≤ h62.size := by have := W62.size; have := Z60; omega
      show Goes p e below s _ _ _ (T62.setTop (mkF m 121 #[.val (.int q0), .val (.int q1), .val (.int q2), .val (.int q3), .val (.int (1 : Int32)), .val (.int r), .val (.int rv), .val (.int s0), .val (.int s1), .val (.int s2), .val (.int v0), .val (.int v1), .val (.int v2), .val (.int p0), .val (.int p1), .val (.int p2), .unset, .unset, .unset, .unset, .unset, .unset, .unset] [(.ref b58)]))
      refine Goes.st (fun t k => XS.dup X62.here hx rfl (hb hby at_121) rfl rfl k) ?_
      show Goes p e below s _ _ _ (T62.setTop (mkF m 122 #[.val (.int q0), .val (.int q1), .val (.int q2), .val (.int q3), .val (.int (1 : Int32)), .val (.int r), .val (.int rv), .val (.int s0), .val (.int s1), .val (.int s2), .val (.int v0), .val (.int v1), .val (.int v2), .val (.int p0), .val (.int p1), .val (.int p2), .unset, .unset, .unset, .unset, .unset, .unset, .unset] [(.ref b58), (.ref b58)]))
      refine Goes.st (fun t k => XS.iconst X62.here hx rfl (hb hby at_122) k) ?_
      show Goes p e below s _ _ _ (T62.setTop (mkF m 123 #[.val (.int q0), .val (.int q1), .val (.int q2), .val (.int q3), .val (.int (1 : Int32)), .val (.int r), .val (.int rv), .val (.int s0), .val (.int s1), .val (.int s2), .val (.int v0), .val (.int v1), .val (.int v2), .val (.int p0), .val (.int p1), .val (.int p2), .unset, .unset, .unset, .unset, .unset, .unset, .unset] [(.int (2 : Int32)), (.ref b58), (.ref b58)]))
      refine Goes.st (fun t k => XS.iloadN X62.here hx rfl (hb hby at_123) rfl k) ?_
      show Goes p e below s _ _ _ (T62.setTop (mkF m 124 #[.val (.int q0), .val (.int q1), .val (.int q2), .val (.int q3), .val (.int (1 : Int32)), .val (.int r), .val (.int rv), .val (.int s0), .val (.int s1), .val (.int s2), .val (.int v0), .val (.int v1), .val (.int v2), .val (.int p0), .val (.int p1), .val (.int p2), .unset, .unset, .unset, .unset, .unset, .unset, .unset] [(.int q3), (.int (2 : Int32)), (.ref b58), (.ref b58)]))
      obtain ⟨cl64, Ar64, qk64, Sz64, qz64, Ha64, Gf64⟩ := id V62
      obtain ⟨T64, h64, X64, e64, W64, st64⟩ := stI X62 hx hZ e62 Ar64 (inb_of Sz64 ⟨by decide, by decide⟩) (g := (mkF m 124 #[.val (.int q0), .val (.int q1), .val (.int q2), .val (.int q3), .val (.int (1 : Int32)), .val (.int r), .val (.int rv), .val (.int s0), .val (.int s1), .val (.int s2), .val (.int v0), .val (.int v1), .val (.int v2), .val (.int p0), .val (.int p1), .val (.int p2), .unset, .unset, .unset, .unset, .unset, .unset, .unset] [(.int q3), (.int (2 : Int32)), (.ref b58), (.ref b58)])) rfl rfl (hb hby at_124)
      have N64 := Fr.snoc X64 N62 lo_b58
      have V64 : Arv Z h64 b58 cA58 .int (4 : Int32) [(.int q3), (.int q3), (.int q3), (.int (0 : Int32))] (.int (0 : Int32)) := Arv.set Ar64 qk64 Sz64 qz64 Ha64 Gf64 rfl W64 2 (by decide) (by simp)
      refine Goes.st st64 ?_
      have Z64 : n0 ≤ h64.size := by have := W64.size; have := Z62; omega
      show Goes p e below s _ _ _ (T64.setTop (mkF m 125 #[.val (.int q0), .val (.int q1), .val (.int q2), .val (.int q3), .val (.int (1 : Int32)), .val (.int r), .val (.int rv), .val (.int s0), .val (.int s1), .val (.int s2), .val (.int v0), .val (.int v1), .val (.int v2), .val (.int p0), .val (.int p1), .val (.int p2), .unset, .unset, .unset, .unset, .unset, .unset, .unset] [(.ref b58)]))
      refine Goes.st (fun t k => XS.dup X64.here hx rfl (hb hby at_125) rfl rfl k) ?_
      show Goes p e below s _ _ _ (T64.setTop (mkF m 126 #[.val (.int q0), .val (.int q1), .val (.int q2), .val (.int q3), .val (.int (1 : Int32)), .val (.int r), .val (.int rv), .val (.int s0), .val (.int s1), .val (.int s2), .val (.int v0), .val (.int v1), .val (.int v2), .val (.int p0), .val (.int p1), .val (.int p2), .unset, .unset, .unset, .unset, .unset, .unset, .unset] [(.ref b58), (.ref b58)]))
      refine Goes.st (fun t k => XS.iconst X64.here hx rfl (hb hby at_126) k) ?_
      show Goes p e below s _ _ _ (T64.setTop (mkF m 127 #[.val (.int q0), .val (.int q1), .val (.int q2), .val (.int q3), .val (.int (1 : Int32)), .val (.int r), .val (.int rv), .val (.int s0), .val (.int s1), .val (.int s2), .val (.int v0), .val (.int v1), .val (.int v2), .val (.int p0), .val (.int p1), .val (.int p2), .unset, .unset, .unset, .unset, .unset, .unset, .unset] [(.int (3 : Int32)), (.ref b58), (.ref b58)]))
      refine Goes.st (fun t k => XS.iloadN X64.here hx rfl (hb hby at_127) rfl k) ?_
      show Goes p e below s _ _ _ (T64.setTop (mkF m 128 #[.val (.int q0), .val (.int q1), .val (.int q2), .val (.int q3), .val (.int (1 : Int32)), .val (.int r), .val (.int rv), .val (.int s0), .val (.int s1), .val (.int s2), .val (.int v0), .val (.int v1), .val (.int v2), .val (.int p0), .val (.int p1), .val (.int p2), .unset, .unset, .unset, .unset, .unset, .unset, .unset] [(.int q3), (.int (3 : Int32)), (.ref b58), (.ref b58)]))
      obtain ⟨cl66, Ar66, qk66, Sz66, qz66, Ha66, Gf66⟩ := id V64
      obtain ⟨T66, h66, X66, e66, W66, st66⟩ := stI X64 hx hZ e64 Ar66 (inb_of Sz66 ⟨by decide, by decide⟩) (g := (mkF m 128 #[.val (.int q0), .val (.int q1), .val (.int q2), .val (.int q3), .val (.int (1 : Int32)), .val (.int r), .val (.int rv), .val (.int s0), .val (.int s1), .val (.int s2), .val (.int v0), .val (.int v1), .val (.int v2), .val (.int p0), .val (.int p1), .val (.int p2), .unset, .unset, .unset, .unset, .unset, .unset, .unset] [(.int q3), (.int (3 : Int32)), (.ref b58), (.ref b58)])) rfl rfl (hb hby at_128)
      have N66 := Fr.snoc X66 N64 lo_b58
      have V66 : Arv Z h66 b58 cA58 .int (4 : Int32) [(.int q3), (.int q3), (.int q3), (.int q3)] (.int (0 : Int32)) := Arv.set Ar66 qk66 Sz66 qz66 Ha66 Gf66 rfl W66 3 (by decide) (by simp)
      refine Goes.st st66 ?_
      have Z66 : n0 ≤ h66.size := by have := W66.size; have := Z64; omega
      show Goes p e below s _ _ _ (T66.setTop (mkF m 129 #[.val (.int q0), .val (.int q1), .val (.int q2), .val (.int q3), .val (.int (1 : Int32)), .val (.int r), .val (.int rv), .val (.int s0), .val (.int s1), .val (.int s2), .val (.int v0), .val (.int v1), .val (.int v2), .val (.int p0), .val (.int p1), .val (.int p2), .unset, .unset, .unset, .unset, .unset, .unset, .unset] [(.ref b58)]))
      refine Goes.st (fun t k => XS.astore X66.here hx rfl (hb hby at_129) rfl rfl (l' := #[.val (.int q0), .val (.int q1), .val (.int q2), .val (.int q3), .val (.int (1 : Int32)), .val (.int r), .val (.int rv), .val (.int s0), .val (.int s1), .val (.int s2), .val (.int v0), .val (.int v1), .val (.int v2), .val (.int p0), .val (.int p1), .val (.int p2), .val (.ref b58), .unset, .unset, .unset, .unset, .unset, .unset]) rfl k) ?_
      show Goes p e below s _ _ _ (T66.setTop (mkF m 131 #[.val (.int q0), .val (.int q1), .val (.int q2), .val (.int q3), .val (.int (1 : Int32)), .val (.int r), .val (.int rv), .val (.int s0), .val (.int s1), .val (.int s2), .val (.int v0), .val (.int v1), .val (.int v2), .val (.int p0), .val (.int p1), .val (.int p2), .val (.ref b58), .unset, .unset, .unset, .unset, .unset, .unset] []))
      refine Goes.st (fun t k => XS.iload X66.here hx rfl (hb hby at_131) rfl k) ?_
      show Goes p e below s _ _ _ (T66.setTop (mkF m 133 #[.val (.int q0), .val (.int q1), .val (.int q2), .val (.int q3), .val (.int (1 : Int32)), .val (.int r), .val (.int rv), .val (.int s0), .val (.int s1), .val (.int s2), .val (.int v0), .val (.int v1), .val (.int v2), .val (.int p0), .val (.int p1), .val (.int p2), .val (.ref b58), .unset, .unset, .unset, .unset, .unset, .unset] [(.int (1 : Int32))]))
      refine Goes.st (fun t k => XS.iconst X66.here hx rfl (hb hby at_133) k) ?_
      show Goes p e below s _ _ _ (T66.setTop (mkF m 134 #[.val (.int q0), .val (.int q1), .val (.int q2), .val (.int q3), .val (.int (1 : Int32)), .val (.int r), .val (.int rv), .val (.int s0), .val (.int s1), .val (.int s2), .val (.int v0), .val (.int v1), .val (.int v2), .val (.int p0), .val (.int p1), .val (.int p2), .val (.ref b58), .unset, .unset, .unset, .unset, .unset, .unset] [(.int (1 : Int32)), (.int (1 : Int32))]))
      refine Goes.st (fun t k => XS.icmpNo X66.here hx rfl (hb hby at_134) rfl (by decide) k) ?_
      show Goes p e below s _ _ _ (T66.setTop (mkF m 137 #[.val (.int q0), .val (.int q1), .val (.int q2), .val (.int q3), .val (.int (1 : Int32)), .val (.int r), .val (.int rv), .val (.int s0), .val (.int s1), .val (.int s2), .val (.int v0), .val (.int v1), .val (.int v2), .val (.int p0), .val (.int p1), .val (.int p2), .val (.ref b58), .unset, .unset, .unset, .unset, .unset, .unset] []))
      refine Goes.st (fun t k => XS.aload X66.here hx rfl (hb hby at_137) rfl rfl k) ?_
      show Goes p e below s _ _ _ (T66.setTop (mkF m 139 #[.val (.int q0), .val (.int q1), .val (.int q2), .val (.int q3), .val (.int (1 : Int32)), .val (.int r), .val (.int rv), .val (.int s0), .val (.int s1), .val (.int s2), .val (.int v0), .val (.int v1), .val (.int v2), .val (.int p0), .val (.int p1), .val (.int p2), .val (.ref b58), .unset, .unset, .unset, .unset, .unset, .unset] [(.ref b58)]))
      refine Goes.st (fun t k => XS.iload X66.here hx rfl (hb hby at_139) rfl k) ?_
      show Goes p e below s _ _ _ (T66.setTop (mkF m 141 #[.val (.int q0), .val (.int q1), .val (.int q2), .val (.int q3), .val (.int (1 : Int32)), .val (.int r), .val (.int rv), .val (.int s0), .val (.int s1), .val (.int s2), .val (.int v0), .val (.int v1), .val (.int v2), .val (.int p0), .val (.int p1), .val (.int p2), .val (.ref b58), .unset, .unset, .unset, .unset, .unset, .unset] [(.int p0), (.ref b58)]))
      refine Goes.st (fun t k => XS.iload X66.here hx rfl (hb hby at_141) rfl k) ?_
      show Goes p e below s _ _ _ (T66.setTop (mkF m 143 #[.val (.int q0), .val (.int q1), .val (.int q2), .val (.int q3), .val (.int (1 : Int32)), .val (.int r), .val (.int rv), .val (.int s0), .val (.int s1), .val (.int s2), .val (.int v0), .val (.int v1), .val (.int v2), .val (.int p0), .val (.int p1), .val (.int p2), .val (.ref b58), .unset, .unset, .unset, .unset, .unset, .unset] [(.int v0), (.int p0), (.ref b58)]))
      obtain ⟨cl68, Ar68, qk68, Sz68, qz68, Ha68, Gf68⟩ := id V66
      obtain ⟨T68, h68, X68, e68, W68, st68⟩ := stI X66 hx hZ e66 Ar68 (inb_of Sz68 (own_in ip0)) (g := (mkF m 143 #[.val (.int q0), .val (.int q1), .val (.int q2), .val (.int q3), .val (.int (1 : Int32)), .val (.int r), .val (.int rv), .val (.int s0), .val (.int s1), .val (.int s2), .val (.int v0), .val (.int v1), .val (.int v2), .val (.int p0), .val (.int p1), .val (.int p2), .val (.ref b58), .unset, .unset, .unset, .unset, .unset, .unset] [(.int v0), (.int p0), (.ref b58)])) rfl rfl (hb hby at_143)
      have N68 := Fr.snoc X68 N66 lo_b58
      have V68 : Arv Z h68 b58 cA58 .int (4 : Int32) (([(.int q3), (.int q3), (.int q3), (.int q3)] : List Value).set p0.toNatClampNeg (.int v0)) (.int (0 : Int32)) := Arv.set Ar68 qk68 Sz68 qz68 Ha68 Gf68 rfl W68 p0.toNatClampNeg rfl (by simpa using own_ix ip0)
      refine Goes.st st68 ?_
      have Z68 : n0 ≤ h68.size := by have := W68.size; have := Z66; omega
      show Goes p e below s _ _ _ (T68.setTop (mkF m 144 #[.val (.int q0), .val (.int q1), .val (.int q2), .val (.int q3), .val (.int (1 : Int32)), .val (.int r), .val (.int rv), .val (.int s0), .val (.int s1), .val (.int s2), .val (.int v0), .val (.int v1), .val (.int v2), .val (.int p0), .val (.int p1), .val (.int p2), .val (.ref b58), .unset, .unset, .unset, .unset, .unset, .unset] []))
      refine Goes.st (fun t k => XS.iload X68.here hx rfl (hb hby at_144) rfl k) ?_
      show Goes p e below s _ _ _ (T68.setTop (mkF m 146 #[.val (.int q0), .val (.int q1), .val (.int q2), .val (.int q3), .val (.int (1 : Int32)), .val (.int r), .val (.int rv), .val (.int s0), .val (.int s1), .val (.int s2), .val (.int v0), .val (.int v1), .val (.int v2), .val (.int p0), .val (.int p1), .val (.int p2), .val (.ref b58), .unset, .unset, .unset, .unset, .unset, .unset] [(.int (1 : Int32))]))
      refine Goes.st (fun t k => XS.iconst X68.here hx rfl (hb hby at_146) k) ?_
      show Goes p e below s _ _ _ (T68.setTop (mkF m 147 #[.val (.int q0), .val (.int q1), .val (.int q2), .val (.int q3), .val (.int (1 : Int32)), .val (.int r), .val (.int rv), .val (.int s0), .val (.int s1), .val (.int s2), .val (.int v0), .val (.int v1), .val (.int v2), .val (.int p0), .val (.int p1), .val (.int p2), .val (.ref b58), .unset, .unset, .unset, .unset, .unset, .unset] [(.int (2 : Int32)), (.int (1 : Int32))]))
      refine Goes.st (fun t k => XS.icmpYes X68.here hx rfl (pc0 := 147) (pc' := 157) rfl (hb hby at_147) rfl (by decide) (by decide) (by decide) k) ?_
      show Goes p e below s _ _ _ (T68.setTop (mkF m 157 #[.val (.int q0), .val (.int q1), .val (.int q2), .val (.int q3), .val (.int (1 : Int32)), .val (.int r), .val (.int rv), .val (.int s0), .val (.int s1), .val (.int s2), .val (.int v0), .val (.int v1), .val (.int v2), .val (.int p0), .val (.int p1), .val (.int p2), .val (.ref b58), .unset, .unset, .unset, .unset, .unset, .unset] []))
      refine Goes.st (fun t k => XS.iload X68.here hx rfl (hb hby at_157) rfl k) ?_
      show Goes p e below s _ _ _ (T68.setTop (mkF m 159 #[.val (.int q0), .val (.int q1), .val (.int q2), .val (.int q3), .val (.int (1 : Int32)), .val (.int r), .val (.int rv), .val (.int s0), .val (.int s1), .val (.int s2), .val (.int v0), .val (.int v1), .val (.int v2), .val (.int p0), .val (.int p1), .val (.int p2), .val (.ref b58), .unset, .unset, .unset, .unset, .unset, .unset] [(.int (1 : Int32))]))
      refine Goes.st (fun t k => XS.iconst X68.here hx rfl (hb hby at_159) k) ?_
      show Goes p e below s _ _ _ (T68.setTop (mkF m 160 #[.val (.int q0), .val (.int q1), .val (.int q2), .val (.int q3), .val (.int (1 : Int32)), .val (.int r), .val (.int rv), .val (.int s0), .val (.int s1), .val (.int s2), .val (.int v0), .val (.int v1), .val (.int v2), .val (.int p0), .val (.int p1), .val (.int p2), .val (.ref b58), .unset, .unset, .unset, .unset, .unset, .unset] [(.int (3 : Int32)), (.int (1 : Int32))]))
      refine Goes.st (fun t k => XS.icmpYes X68.here hx rfl (pc0 := 160) (pc' := 170) rfl (hb hby at_160) rfl (by decide) (by decide) (by decide) k) ?_
      show Goes p e below s _ _ _ (T68.setTop (mkF m 170 #[.val (.int q0), .val (.int q1), .val (.int q2), .val (.int q3), .val (.int (1 : Int32)), .val (.int r), .val (.int rv), .val (.int s0), .val (.int s1), .val (.int s2), .val (.int v0), .val (.int v1), .val (.int v2), .val (.int p0), .val (.int p1), .val (.int p2), .val (.ref b58), .unset, .unset, .unset, .unset, .unset, .unset] []))
      refine Goes.st (fun t k => XS.iload X68.here hx rfl (hb hby at_170) rfl k) ?_
      show Goes p e below s _ _ _ (T68.setTop (mkF m 172 #[.val (.int q0), .val (.int q1), .val (.int q2), .val (.int q3), .val (.int (1 : Int32)), .val (.int r), .val (.int rv), .val (.int s0), .val (.int s1), .val (.int s2), .val (.int v0), .val (.int v1), .val (.int v2), .val (.int p0), .val (.int p1), .val (.int p2), .val (.ref b58), .unset, .unset, .unset, .unset, .unset, .unset] [(.int (1 : Int32))]))
      refine Goes.st (fun t k => XS.iload X68.here hx rfl (hb hby at_172) rfl k) ?_
      show Goes p e below s _ _ _ (T68.setTop (mkF m 174 #[.val (.int q0), .val (.int q1), .val (.int q2), .val (.int q3), .val (.int (1 : Int32)), .val (.int r), .val (.int rv), .val (.int s0), .val (.int s1), .val (.int s2), .val (.int v0), .val (.int v1), .val (.int v2), .val (.int p0), .val (.int p1), .val (.int p2), .val (.ref b58), .unset, .unset, .unset, .unset, .unset, .unset] [(.int p0), (.int (1 : Int32))]))
      refine Goes.st (fun t k => XS.iload X68.here hx rfl (hb hby at_174) rfl k) ?_
      show Goes p e below s _ _ _ (T68.setTop (mkF m 176 #[.val (.int q0), .val (.int q1), .val (.int q2), .val (.int q3), .val (.int (1 : Int32)), .val (.int r), .val (.int rv), .val (.int s0), .val (.int s1), .val (.int s2), .val (.int v0), .val (.int v1), .val (.int v2), .val (.int p0), .val (.int p1), .val (.int p2), .val (.ref b58), .unset, .unset, .unset, .unset, .unset, .unset] [(.int p1), (.int p0), (.int (1 : Int32))]))
      refine Goes.st (fun t k => XS.iload X68.here hx rfl (hb hby at_176) rfl k) ?_
      show Goes p e below s _ _ _ (T68.setTop (mkF m 178 #[.val (.int q0), .val (.int q1), .val (.int q2), .val (.int q3), .val (.int (1 : Int32)), .val (.int r), .val (.int rv), .val (.int s0), .val (.int s1), .val (.int s2), .val (.int v0), .val (.int v1), .val (.int v2), .val (.int p0), .val (.int p1), .val (.int p2), .val (.ref b58), .unset, .unset, .unset, .unset, .unset, .unset] [(.int p2), (.int p1), (.int p0), (.int (1 : Int32))]))
      have lt70 : b58 < h68.size := V68.lt
      obtain ⟨_, _, ⟨T71, L71, k71, n71⟩, -, X71, ⟨Lc71, hQ71, l71, y71, z71⟩, st71⟩ := Jvm.LawKit.callS X68 hx (y := (⟨"com/example/parley/parley/TableEntryPinLaw", "take", "(IIII)[I"⟩ : MethodName)) hown (mvT hZ (hw _ (List.mem_of_getElem? (i := 5) rfl))) (mvT hZ (hw _ (List.mem_of_getElem? (i := 6) rfl))) (mvT hZ (hw _ (List.mem_of_getElem? (i := 2) rfl))) (mvT hZ (hw _ (List.mem_of_getElem? (i := 7) rfl))) (by decide) (backOf (W := 0) (rmT1 l Z a0 hw [] p0 p1 p2 h68 n0 Z68 ) hZ (hw _ (List.mem_of_getElem? (i := 7) rfl)) (hw _ (List.mem_of_getElem? (i := 2) rfl)) (by decide) (by decide)) (g := (mkF m 178 #[.val (.int q0), .val (.int q1), .val (.int q2), .val (.int q3), .val (.int (1 : Int32)), .val (.int r), .val (.int rv), .val (.int s0), .val (.int s1), .val (.int s2), .val (.int v0), .val (.int v1), .val (.int v2), .val (.int p0), .val (.int p1), .val (.int p2), .val (.ref b58), .unset, .unset, .unset, .unset, .unset, .unset] [(.int p2), (.int p1), (.int p0), (.int (1 : Int32))])) rfl (by rw [hml]; rfl) (argsL := [(.int (1 : Int32)), (.int p0), (.int p1), (.int p2)]) (rest := []) (lenOf pd__IIII__I_1677 rfl) rfl (by show 2 * 0 + _ ≤ _; exact Nat.le_of_eq rfl) (hb hby at_178) (fun _ _ => ⟨rfl, e68, (by decide : 1 + 1 ≤ 24), (by decide : 4 + 1 ≤ 256)⟩)
      dsimp only [Pt.U, Pt.locs, Pt.cells, Pt.slots] at X71 l71 y71 z71 st71 hQ71
      subst l71 y71 z71
      obtain ⟨b71, kA71, rfl, N71q, K71, szq71, loq71, V71⟩ := hQ71
      have ne_b58_b71 : b58 ≠ b71 := Nat.ne_of_lt (Nat.lt_of_lt_of_le lt70 szq71)
      have Z71 : n0 ≤ T71.heap.size := Nat.le_trans Z68 K71.1
      have N71 := Fr.app N68 N71q
      refine Goes.st st71 ?_
      show Goes p e below s _ _ _ (T71.setTop (mkF m 181 #[.val (.int q0), .val (.int q1), .val (.int q2), .val (.int q3), .val (.int (1 : Int32)), .val (.int r), .val (.int rv), .val (.int s0), .val (.int s1), .val (.int s2), .val (.int v0), .val (.int v1), .val (.int v2), .val (.int p0), .val (.int p1), .val (.int p2), .val (.ref b58), .unset, .unset, .unset, .unset, .unset, .unset] [(.ref b71)]))
      refine Goes.st (fun t k => XS.astore X71.here hx rfl (hb hby at_181) rfl rfl (l' := #[.val (.int q0), .val (.int q1), .val (.int q2), .val (.int q3), .val (.int (1 : Int32)), .val (.int r), .val (.int rv), .val (.int s0), .val (.int s1), .val (.int s2), .val (.int v0), .val (.int v1), .val (.int v2), .val (.int p0), .val (.int p1), .val (.int p2), .val (.ref b58), .val (.ref b71), .unset, .unset, .unset, .unset, .unset]) rfl k) ?_
      show Goes p e below s _ _ _ (T71.setTop (mkF m 183 #[.val (.int q0), .val (.int q1), .val (.int q2), .val (.int q3), .val (.int (1 : Int32)), .val (.int r), .val (.int rv), .val (.int s0), .val (.int s1), .val (.int s2), .val (.int v0), .val (.int v1), .val (.int v2), .val (.int p0), .val (.int p1), .val (.int p2), .val (.ref b58), .val (.ref b71), .unset, .unset, .unset, .unset, .unset] []))
      refine Goes.st (fun t k => XS.iload X71.here hx rfl (hb hby at_183) rfl k) ?_
      show Goes p e below s _ _ _ (T71.setTop (mkF m 185 #[.val (.int q0), .val (.int q1), .val (.int q2), .val (.int q3), .val (.int (1 : Int32)), .val (.int r), .val (.int rv), .val (.int s0), .val (.int s1), .val (.int s2), .val (.int v0), .val (.int v1), .val (.int v2), .val (.int p0), .val (.int p1), .val (.int p2), .val (.ref b58), .val (.ref b71), .unset, .unset, .unset, .unset, .unset] [(.int (1 : Int32))]))
      refine Goes.st (fun t k => XS.iload X71.here hx rfl (hb hby at_185) rfl k) ?_
      show Goes p e below s _ _ _ (T71.setTop (mkF m 187 #[.val (.int q0), .val (.int q1), .val (.int q2), .val (.int q3), .val (.int (1 : Int32)), .val (.int r), .val (.int rv), .val (.int s0), .val (.int s1), .val (.int s2), .val (.int v0), .val (.int v1), .val (.int v2), .val (.int p0), .val (.int p1), .val (.int p2), .val (.ref b58), .val (.ref b71), .unset, .unset, .unset, .unset, .unset] [(.int s0), (.int (1 : Int32))]))
      refine Goes.st (fun t k => XS.iload X71.here hx rfl (hb hby at_187) rfl k) ?_
      show Goes p e below s _ _ _ (T71.setTop (mkF m 189 #[.val (.int q0), .val (.int q1), .val (.int q2), .val (.int q3), .val (.int (1 : Int32)), .val (.int r), .val (.int rv), .val (.int s0), .val (.int s1), .val (.int s2), .val (.int v0), .val (.int v1), .val (.int v2), .val (.int p0), .val (.int p1), .val (.int p2), .val (.ref b58), .val (.ref b71), .unset, .unset, .unset, .unset, .unset] [(.int s1), (.int s0), (.int (1 : Int32))]))
      refine Goes.st (fun t k => XS.iload X71.here hx rfl (hb hby at_189) rfl k) ?_
      show Goes p e below s _ _ _ (T71.setTop (mkF m 191 #[.val (.int q0), .val (.int q1), .val (.int q2), .val (.int q3), .val (.int (1 : Int32)), .val (.int r), .val (.int rv), .val (.int s0), .val (.int s1), .val (.int s2), .val (.int v0), .val (.int v1), .val (.int v2), .val (.int p0), .val (.int p1), .val (.int p2), .val (.ref b58), .val (.ref b71), .unset, .unset, .unset, .unset, .unset] [(.int s2), (.int s1), (.int s0), (.int (1 : Int32))]))
      have f74 := (V68.keep K71 nin0)
      have lt73 : b58 < T71.heap.size := f74.lt
      have lt75 : b71 < T71.heap.size := V71.lt
      obtain ⟨_, _, ⟨T76, L76, k76, n76⟩, -, X76, ⟨Lc76, hQ76, l76, y76, z76⟩, st76⟩ := Jvm.LawKit.callS X71 hx (y := (⟨"com/example/parley/parley/TableEntryPinLaw", "take", "(IIII)[I"⟩ : MethodName)) hown (mvT hZ (hw _ (List.mem_of_getElem? (i := 5) rfl))) (mvT hZ (hw _ (List.mem_of_getElem? (i := 6) rfl))) (mvT hZ (hw _ (List.mem_of_getElem? (i := 2) rfl))) (mvT hZ (hw _ (List.mem_of_getElem? (i := 7) rfl))) (by decide) (backOf (W := 0) (rmT1 l Z a0 hw [] s0 s1 s2 T71.heap n0 Z71 ) hZ (hw _ (List.mem_of_getElem? (i := 7) rfl)) (hw _ (List.mem_of_getElem? (i := 2) rfl)) (by decide) (by decide)) (g := (mkF m 191 #[.val (.int q0), .val (.int q1), .val (.int q2), .val (.int q3), .val (.int (1 : Int32)), .val (.int r), .val (.int rv), .val (.int s0), .val (.int s1), .val (.int s2), .val (.int v0), .val (.int v1), .val (.int v2), .val (.int p0), .val (.int p1), .val (.int p2), .val (.ref b58), .val (.ref b71), .unset, .unset, .unset, .unset, .unset] [(.int s2), (.int s1), (.int s0), (.int (1 : Int32))])) rfl (by rw [hml]; rfl) (argsL := [(.int (1 : Int32)), (.int s0), (.int s1), (.int s2)]) (rest := []) (lenOf pd__IIII__I_1677 rfl) rfl (by show 2 * 0 + _ ≤ _; exact Nat.le_of_eq rfl) (hb hby at_191) (fun _ _ => ⟨rfl, rfl, (by decide : 2 + 1 ≤ 24), (by decide : 5 + 1 ≤ 256)⟩)
      dsimp only [Pt.U, Pt.locs, Pt.cells, Pt.slots] at X76 l76 y76 z76 st76 hQ76
      subst l76 y76 z76
      obtain ⟨b76, kA76, rfl, N76q, K76, szq76, loq76, V76⟩ := hQ76
      have ne_b58_b76 : b58 ≠ b76 := Nat.ne_of_lt (Nat.lt_of_lt_of_le lt73 szq76)
      have ne_b71_b76 : b71 ≠ b76 := Nat.ne_of_lt (Nat.lt_of_lt_of_le lt75 szq76)
      have Z76 : n0 ≤ T76.heap.size := Nat.le_trans Z71 K76.1
      have N76 := Fr.app N71 N76q
      refine Goes.st st76 ?_
      show Goes p e below s _ _ _ (T76.setTop (mkF m 194 #[.val (.int q0), .val (.int q1), .val (.int q2), .val (.int q3), .val (.int (1 : Int32)), .val (.int r), .val (.int rv), .val (.int s0), .val (.int s1), .val (.int s2), .val (.int v0), .val (.int v1), .val (.int v2), .val (.int p0), .val (.int p1), .val (.int p2), .val (.ref b58), .val (.ref b71), .unset, .unset, .unset, .unset, .unset] [(.ref b76)]))
      refine Goes.st (fun t k => XS.astore X76.here hx rfl (hb hby at_194) rfl rfl (l' := #[.val (.int q0), .val (.int q1), .val (.int q2), .val (.int q3), .val (.int (1 : Int32)), .val (.int r), .val (.int rv), .val (.int s0), .val (.int s1), .val (.int s2), .val (.int v0), .val (.int v1), .val (.int v2), .val (.int p0), .val (.int p1), .val (.int p2), .val (.ref b58), .val (.ref b71), .val (.ref b76), .unset, .unset, .unset, .unset]) rfl k) ?_
      show Goes p e below s _ _ _ (T76.setTop (mkF m 196 #[.val (.int q0), .val (.int q1), .val (.int q2), .val (.int q3), .val (.int (1 : Int32)), .val (.int r), .val (.int rv), .val (.int s0), .val (.int s1), .val (.int s2), .val (.int v0), .val (.int v1), .val (.int v2), .val (.int p0), .val (.int p1), .val (.int p2), .val (.ref b58), .val (.ref b71), .val (.ref b76), .unset, .unset, .unset, .unset] []))
      refine Goes.st (fun t k => XS.iload X76.here hx rfl (hb hby at_196) rfl k) ?_
      show Goes p e below s _ _ _ (T76.setTop (mkF m 198 #[.val (.int q0), .val (.int q1), .val (.int q2), .val (.int q3), .val (.int (1 : Int32)), .val (.int r), .val (.int rv), .val (.int s0), .val (.int s1), .val (.int s2), .val (.int v0), .val (.int v1), .val (.int v2), .val (.int p0), .val (.int p1), .val (.int p2), .val (.ref b58), .val (.ref b71), .val (.ref b76), .unset, .unset, .unset, .unset] [(.int (1 : Int32))]))
      refine Goes.st (fun t k => XS.iconst X76.here hx rfl (hb hby at_198) k) ?_
      show Goes p e below s _ _ _ (T76.setTop (mkF m 199 #[.val (.int q0), .val (.int q1), .val (.int q2), .val (.int q3), .val (.int (1 : Int32)), .val (.int r), .val (.int rv), .val (.int s0), .val (.int s1), .val (.int s2), .val (.int v0), .val (.int v1), .val (.int v2), .val (.int p0), .val (.int p1), .val (.int p2), .val (.ref b58), .val (.ref b71), .val (.ref b76), .unset, .unset, .unset, .unset] [(.int (0 : Int32)), (.int (1 : Int32))]))
      refine Goes.st (fun t k => XS.iconst X76.here hx rfl (hb hby at_199) k) ?_
      show Goes p e below s _ _ _ (T76.setTop (mkF m 200 #[.val (.int q0), .val (.int q1), .val (.int q2), .val (.int q3), .val (.int (1 : Int32)), .val (.int r), .val (.int rv), .val (.int s0), .val (.int s1), .val (.int s2), .val (.int v0), .val (.int v1), .val (.int v2), .val (.int p0), .val (.int p1), .val (.int p2), .val (.ref b58), .val (.ref b71), .val (.ref b76), .unset, .unset, .unset, .unset] [(.int (1 : Int32)), (.int (0 : Int32)), (.int (1 : Int32))]))
      refine Goes.st (fun t k => XS.iconst X76.here hx rfl (hb hby at_200) k) ?_
      show Goes p e below s _ _ _ (T76.setTop (mkF m 201 #[.val (.int q0), .val (.int q1), .val (.int q2), .val (.int q3), .val (.int (1 : Int32)), .val (.int r), .val (.int rv), .val (.int s0), .val (.int s1), .val (.int s2), .val (.int v0), .val (.int v1), .val (.int v2), .val (.int p0), .val (.int p1), .val (.int p2), .val (.ref b58), .val (.ref b71), .val (.ref b76), .unset, .unset, .unset, .unset] [(.int (2 : Int32)), (.int (1 : Int32)), (.int (0 : Int32)), (.int (1 : Int32))]))
      have f79 := (f74.keep K76 nin0)
      have lt78 : b58 < T76.heap.size := f79.lt
      have f81 := (V71.keep K76 nin0)
      have lt80 : b71 < T76.heap.size := f81.lt
      have lt82 : b76 < T76.heap.size := V76.lt
      obtain ⟨_, _, ⟨T83, L83, k83, n83⟩, -, X83, ⟨Lc83, hQ83, l83, y83, z83⟩, st83⟩ := Jvm.LawKit.callS X76 hx (y := (⟨"com/example/parley/parley/TableEntryPinLaw", "take", "(IIII)[I"⟩ : MethodName)) hown (mvT hZ (hw _ (List.mem_of_getElem? (i := 5) rfl))) (mvT hZ (hw _ (List.mem_of_getElem? (i := 6) rfl))) (mvT hZ (hw _ (List.mem_of_getElem? (i := 2) rfl))) (mvT hZ (hw _ (List.mem_of_getElem? (i := 7) rfl))) (by decide) (backOf (W := 0) (rmT1 l Z a0 hw [] (0 : Int32) (1 : Int32) (2 : Int32) T76.heap n0 Z76 ) hZ (hw _ (List.mem_of_getElem? (i := 7) rfl)) (hw _ (List.mem_of_getElem? (i := 2) rfl)) (by decide) (by decide)) (g := (mkF m 201 #[.val (.int q0), .val (.int q1), .val (.int q2), .val (.int q3), .val (.int (1 : Int32)), .val (.int r), .val (.int rv), .val (.int s0), .val (.int s1), .val (.int s2), .val (.int v0), .val (.int v1), .val (.int v2), .val (.int p0), .val (.int p1), .val (.int p2), .val (.ref b58), .val (.ref b71), .val (.ref b76), .unset, .unset, .unset, .unset] [(.int (2 : Int32)), (.int (1 : Int32)), (.int (0 : Int32)), (.int (1 : Int32))])) rfl (by rw [hml]; rfl) (argsL := [(.int (1 : Int32)), (.int (0 : Int32)), (.int (1 : Int32)), (.int (2 : Int32))]) (rest := []) (lenOf pd__IIII__I_1677 rfl) rfl (by show 2 * 0 + _ ≤ _; exact Nat.le_of_eq rfl) (hb hby at_201) (fun _ _ => ⟨rfl, rfl, (by decide : 3 + 1 ≤ 24), (by decide : 6 + 1 ≤ 256)⟩)
      dsimp only [Pt.U, Pt.locs, Pt.cells, Pt.slots] at X83 l83 y83 z83 st83 hQ83
      subst l83 y83 z83
      obtain ⟨b83, kA83, rfl, N83q, K83, szq83, loq83, V83⟩ := hQ83
      have ne_b58_b83 : b58 ≠ b83 := Nat.ne_of_lt (Nat.lt_of_lt_of_le lt78 szq83)
      have ne_b71_b83 : b71 ≠ b83 := Nat.ne_of_lt (Nat.lt_of_lt_of_le lt80 szq83)
      have ne_b76_b83 : b76 ≠ b83 := Nat.ne_of_lt (Nat.lt_of_lt_of_le lt82 szq83)
      have Z83 : n0 ≤ T83.heap.size := Nat.le_trans Z76 K83.1
      have N83 := Fr.app N76 N83q
      refine Goes.st st83 ?_
      show Goes p e below s _ _ _ (T83.setTop (mkF m 204 #[.val (.int q0), .val (.int q1), .val (.int q2), .val (.int q3), .val (.int (1 : Int32)), .val (.int r), .val (.int rv), .val (.int s0), .val (.int s1), .val (.int s2), .val (.int v0), .val (.int v1), .val (.int v2), .val (.int p0), .val (.int p1), .val (.int p2), .val (.ref b58), .val (.ref b71), .val (.ref b76), .unset, .unset, .unset, .unset] [(.ref b83)]))
      refine Goes.st (fun t k => XS.astore X83.here hx rfl (hb hby at_204) rfl rfl (l' := #[.val (.int q0), .val (.int q1), .val (.int q2), .val (.int q3), .val (.int (1 : Int32)), .val (.int r), .val (.int rv), .val (.int s0), .val (.int s1), .val (.int s2), .val (.int v0), .val (.int v1), .val (.int v2), .val (.int p0), .val (.int p1), .val (.int p2), .val (.ref b58), .val (.ref b71), .val (.ref b76), .val (.ref b83), .unset, .unset, .unset]) rfl k) ?_
      show Goes p e below s _ _ _ (T83.setTop (mkF m 206 #[.val (.int q0), .val (.int q1), .val (.int q2), .val (.int q3), .val (.int (1 : Int32)), .val (.int r), .val (.int rv), .val (.int s0), .val (.int s1), .val (.int s2), .val (.int v0), .val (.int v1), .val (.int v2), .val (.int p0), .val (.int p1), .val (.int p2), .val (.ref b58), .val (.ref b71), .val (.ref b76), .val (.ref b83), .unset, .unset, .unset] []))
      have f86 := (f79.keep K83 nin0)
      have lt85 : b58 < T83.heap.size := f86.lt
      have f88 := (f81.keep K83 nin0)
      have lt87 : b71 < T83.heap.size := f88.lt
      have f90 := (V76.keep K83 nin0)
      have lt89 : b76 < T83.heap.size := f90.lt
      have lt91 : b83 < T83.heap.size := V83.lt
      refine fill Z a0 hw hx hby hlk hret hml hown hnm hZ #[.val (.int q0), .val (.int q1), .val (.int q2), .val (.int q3), .val (.int (1 : Int32)), .val (.int r), .val (.int rv), .val (.int s0), .val (.int s1), .val (.int s2), .val (.int v0), .val (.int v1), .val (.int v2), .val (.int p0), .val (.int p1), .val (.int p2), .val (.ref b58), .val (.ref b71), .val (.ref b76), .val (.ref b83), .unset, .unset, .unset] _ _ (by decide) (by decide) h0 T83.heap n0 T83 _ X83 rfl N83 Z83 ?_
      intro T92 h92 b92 kE92 locs92 X92 e92 N92 Z92 K92 szq92 loq92 V92
      have ne_b58_b92 : b58 ≠ b92 := Nat.ne_of_lt (Nat.lt_of_lt_of_le lt85 szq92)
      have ne_b71_b92 : b71 ≠ b92 := Nat.ne_of_lt (Nat.lt_of_lt_of_le lt87 szq92)
      have ne_b76_b92 : b76 ≠ b92 := Nat.ne_of_lt (Nat.lt_of_lt_of_le lt89 szq92)
      have ne_b83_b92 : b83 ≠ b92 := Nat.ne_of_lt (Nat.lt_of_lt_of_le lt91 szq92)
      show Goes p e below s _ _ _ (T92.setTop (mkF m 648 #[.val (.int q0), .val (.int q1), .val (.int q2), .val (.int q3), .val (.int (1 : Int32)), .val (.int r), .val (.int rv), .val (.int s0), .val (.int s1), .val (.int s2), .val (.int v0), .val (.int v1), .val (.int v2), .val (.int p0), .val (.int p1), .val (.int p2), .val (.ref b58), .val (.ref b71), .val (.ref b76), .val (.ref b83), .unset, .unset, .unset] [(.ref b92)]))
      refine Goes.st (fun t k => XS.astore X92.here hx rfl (hb hby at_648) rfl rfl (l' := #[.val (.int q0), .val (.int q1), .val (.int q2), .val (.int q3), .val (.int (1 : Int32)), .val (.int r), .val (.int rv), .val (.int s0), .val (.int s1), .val (.int s2), .val (.int v0), .val (.int v1), .val (.int v2), .val (.int p0), .val (.int p1), .val (.int p2), .val (.ref b58), .val (.ref b71), .val (.ref b76), .val (.ref b83), .val (.ref b92), .unset, .unset]) rfl k) ?_
      show Goes p e below s _ _ _ (T92.setTop (mkF m 650 #[.val (.int q0), .val (.int q1), .val (.int q2), .val (.int q3), .val (.int (1 : Int32)), .val (.int r), .val (.int rv), .val (.int s0), .val (.int s1), .val (.int s2), .val (.int v0), .val (.int v1), .val (.int v2), .val (.int p0), .val (.int p1), .val (.int p2), .val (.ref b58), .val (.ref b71), .val (.ref b76), .val (.ref b83), .val (.ref b92), .unset, .unset] []))
      obtain ⟨T94, h94, X94, e94, E94, A94, D94, -, st94⟩ := newO X92 hx hZ hown (hw _ (List.mem_of_getElem? (i := 71) rfl)) (hw _ (List.mem_of_getElem? (i := 72) rfl)) (hw _ (List.mem_of_getElem? (i := 73) rfl)) e92 (g := (mkF m 650 #[.val (.int q0), .val (.int q1), .val (.int q2), .val (.int q3), .val (.int (1 : Int32)), .val (.int r), .val (.int rv), .val (.int s0), .val (.int s1), .val (.int s2), .val (.int v0), .val (.int v1), .val (.int v2), .val (.int p0), .val (.int p1), .val (.int p2), .val (.ref b58), .val (.ref b71), .val (.ref b76), .val (.ref b83), .val (.ref b92), .unset, .unset] [])) rfl (hb hby at_650) (by decide) (by decide)
      obtain ⟨b94, g94⟩ : ∃ z, z = h92.size := ⟨_, rfl⟩
      rw [← g94] at A94 D94 st94
      have f95 := (f86.keep K92 nin0)
      have ne_b58_b94 : b58 ≠ b94 := Nat.ne_of_lt (Nat.lt_of_lt_of_le f95.lt (Nat.le_of_eq g94.symm))
      have f96 := (f88.keep K92 nin0)
      have ne_b71_b94 : b71 ≠ b94 := Nat.ne_of_lt (Nat.lt_of_lt_of_le f96.lt (Nat.le_of_eq g94.symm))
      have f97 := (f90.keep K92 nin0)
      have ne_b76_b94 : b76 ≠ b94 := Nat.ne_of_lt (Nat.lt_of_lt_of_le f97.lt (Nat.le_of_eq g94.symm))
      have f98 := (V83.keep K92 nin0)
      have ne_b83_b94 : b83 ≠ b94 := Nat.ne_of_lt (Nat.lt_of_lt_of_le f98.lt (Nat.le_of_eq g94.symm))
      have ne_b92_b94 : b92 ≠ b94 := Nat.ne_of_lt (Nat.lt_of_lt_of_le V92.lt (Nat.le_of_eq g94.symm))
      have lo_b94 : n0 ≤ b94 := by have := Z92; omega
      refine Goes.st st94 ?_
      have Z94 : n0 ≤ h94.size := Nat.le_trans Z92 E94.1
      have F94_variables : Fld Z h94 b94 "com/example/parley/parley/Table" "variables" "[I" .null := D94 (Or.inr (hw _ (List.mem_of_getElem? (i := 86) rfl))) (ty := (.array .int)) (by decide)
      have F94_sizes : Fld Z h94 b94 "com/example/parley/parley/Table" "sizes" "[I" .null := D94 (Or.inr (hw _ (List.mem_of_getElem? (i := 88) rfl))) (ty := (.array .int)) (by decide)
      have F94_entries : Fld Z h94 b94 "com/example/parley/parley/Table" "entries" "[D" .null := D94 (Or.inr (hw _ (List.mem_of_getElem? (i := 90) rfl))) (ty := (.array .double)) (by decide)
      show Goes p e below s _ _ _ (T94.setTop (mkF m 653 #[.val (.int q0), .val (.int q1), .val (.int q2), .val (.int q3), .val (.int (1 : Int32)), .val (.int r), .val (.int rv), .val (.int s0), .val (.int s1), .val (.int s2), .val (.int v0), .val (.int v1), .val (.int v2), .val (.int p0), .val (.int p1), .val (.int p2), .val (.ref b58), .val (.ref b71), .val (.ref b76), .val (.ref b83), .val (.ref b92), .unset, .unset] [(.ref b94)]))
      refine Goes.st (fun t k => XS.dup X94.here hx rfl (hb hby at_653) rfl rfl k) ?_
      show Goes p e below s _ _ _ (T94.setTop (mkF m 654 #[.val (.int q0), .val (.int q1), .val (.int q2), .val (.int q3), .val (.int (1 : Int32)), .val (.int r), .val (.int rv), .val (.int s0), .val (.int s1), .val (.int s2), .val (.int v0), .val (.int v1), .val (.int v2), .val (.int p0), .val (.int p1), .val (.int p2), .val (.ref b58), .val (.ref b71), .val (.ref b76), .val (.ref b83), .val (.ref b92), .unset, .unset] [(.ref b94), (.ref b94)]))
      refine Goes.st (fun t k => XS.aload X94.here hx rfl (hb hby at_654) rfl rfl k) ?_
      show Goes p e below s _ _ _ (T94.setTop (mkF m 656 #[.val (.int q0), .val (.int q1), .val (.int q2), .val (.int q3), .val (.int (1 : Int32)), .val (.int r), .val (.int rv), .val (.int s0), .val (.int s1), .val (.int s2), .val (.int v0), .val (.int v1), .val (.int v2), .val (.int p0), .val (.int p1), .val (.int p2), .val (.ref b58), .val (.ref b71), .val (.ref b76), .val (.ref b83), .val (.ref b92), .unset, .unset] [(.ref b83), (.ref b94), (.ref b94)]))
      refine Goes.st (fun t k => XS.aload X94.here hx rfl (hb hby at_656) rfl rfl k) ?_
      show Goes p e below s _ _ _ (T94.setTop (mkF m 658 #[.val (.int q0), .val (.int q1), .val (.int q2), .val (.int q3), .val (.int (1 : Int32)), .val (.int r), .val (.int rv), .val (.int s0), .val (.int s1), .val (.int s2), .val (.int v0), .val (.int v1), .val (.int v2), .val (.int p0), .val (.int p1), .val (.int p2), .val (.ref b58), .val (.ref b71), .val (.ref b76), .val (.ref b83), .val (.ref b92), .unset, .unset] [(.ref b76), (.ref b83), (.ref b94), (.ref b94)]))
      refine Goes.st (fun t k => XS.aload X94.here hx rfl (hb hby at_658) rfl rfl k) ?_
      show Goes p e below s _ _ _ (T94.setTop (mkF m 660 #[.val (.int q0), .val (.int q1), .val (.int q2), .val (.int q3), .val (.int (1 : Int32)), .val (.int r), .val (.int rv), .val (.int s0), .val (.int s1), .val (.int s2), .val (.int v0), .val (.int v1), .val (.int v2), .val (.int p0), .val (.int p1), .val (.int p2), .val (.ref b58), .val (.ref b71), .val (.ref b76), .val (.ref b83), .val (.ref b92), .unset, .unset] [(.ref b92), (.ref b76), (.ref b83), (.ref b94), (.ref b94)]))
      obtain ⟨_, _, ⟨T100, L100, k100, n100⟩, -, X100, ⟨Lc100, hQ100, l100, y100, z100⟩, st100⟩ := X94.specialBack hx (y := (⟨"com/example/parley/parley/Table", "<init>", "([I[I[D)V"⟩ : MethodName)) rfl hown (mvT hZ (hw _ (List.mem_of_getElem? (i := 74) rfl))) (mvT hZ (hw _ (List.mem_of_getElem? (i := 75) rfl))) (mvT hZ (hw _ (List.mem_of_getElem? (i := 76) rfl))) (by decide) (backOf (W := 1) (rmC l Z a0 hw [] b94 b83 b76 b92 .null .null .null h94 n0 Z94 A94 lo_b94 F94_variables F94_sizes F94_entries) hZ (hw _ (List.mem_of_getElem? (i := 76) rfl)) (hw _ (List.mem_of_getElem? (i := 73) rfl)) (by decide) (by decide)) (g := (mkF m 660 #[.val (.int q0), .val (.int q1), .val (.int q2), .val (.int q3), .val (.int (1 : Int32)), .val (.int r), .val (.int rv), .val (.int s0), .val (.int s1), .val (.int s2), .val (.int v0), .val (.int v1), .val (.int v2), .val (.int p0), .val (.int p1), .val (.int p2), .val (.ref b58), .val (.ref b71), .val (.ref b76), .val (.ref b83), .val (.ref b92), .unset, .unset] [(.ref b92), (.ref b76), (.ref b83), (.ref b94), (.ref b94)])) rfl (by rw [hml]; rfl) (Steps.refl _) (a := b94) (argsL := [(.ref b83), (.ref b76), (.ref b92)]) (rest := [(.ref b94)]) (lenOf pd___I_I_D_V_1c32 rfl) rfl (by show 2 * 0 + _ ≤ _; exact Nat.le_of_eq rfl) (hb hby at_660) (fun _ _ => ⟨rfl, e94, (by decide : 6 + 0 ≤ 24), (by decide : 74 + 0 ≤ 256)⟩)
      dsimp only [Pt.U, Pt.locs, Pt.cells, Pt.slots] at X100 l100 y100 z100 st100 hQ100
      subst l100 y100 z100
      obtain ⟨rfl, N100q, K100, R100_0, R100_1, R100_2⟩ := hQ100
      have Z100 : n0 ≤ T100.heap.size := Nat.le_trans Z94 K100.1
      have N100 := Fr.app N92 N100q
      refine Goes.sts st100 ?_
      show Goes p e below s _ _ _ (T100.setTop (mkF m 663 #[.val (.int q0), .val (.int q1), .val (.int q2), .val (.int q3), .val (.int (1 : Int32)), .val (.int r), .val (.int rv), .val (.int s0), .val (.int s1), .val (.int s2), .val (.int v0), .val (.int v1), .val (.int v2), .val (.int p0), .val (.int p1), .val (.int p2), .val (.ref b58), .val (.ref b71), .val (.ref b76), .val (.ref b83), .val (.ref b92), .unset, .unset] [(.ref b94)]))
      refine Goes.st (fun t k => XS.astore X100.here hx rfl (hb hby at_663) rfl rfl (l' := #[.val (.int q0), .val (.int q1), .val (.int q2), .val (.int q3), .val (.int (1 : Int32)), .val (.int r), .val (.int rv), .val (.int s0), .val (.int s1), .val (.int s2), .val (.int v0), .val (.int v1), .val (.int v2), .val (.int p0), .val (.int p1), .val (.int p2), .val (.ref b58), .val (.ref b71), .val (.ref b76), .val (.ref b83), .val (.ref b92), .val (.ref b94), .unset]) rfl k) ?_
      show Goes p e below s _ _ _ (T100.setTop (mkF m 665 #[.val (.int q0), .val (.int q1), .val (.int q2), .val (.int q3), .val (.int (1 : Int32)), .val (.int r), .val (.int rv), .val (.int s0), .val (.int s1), .val (.int s2), .val (.int v0), .val (.int v1), .val (.int v2), .val (.int p0), .val (.int p1), .val (.int p2), .val (.ref b58), .val (.ref b71), .val (.ref b76), .val (.ref b83), .val (.ref b92), .val (.ref b94), .unset] []))
      refine Goes.st (fun t k => XS.iload X100.here hx rfl (hb hby at_665) rfl k) ?_
      show Goes p e below s _ _ _ (T100.setTop (mkF m 667 #[.val (.int q0), .val (.int q1), .val (.int q2), .val (.int q3), .val (.int (1 : Int32)), .val (.int r), .val (.int rv), .val (.int s0), .val (.int s1), .val (.int s2), .val (.int v0), .val (.int v1), .val (.int v2), .val (.int p0), .val (.int p1), .val (.int p2), .val (.ref b58), .val (.ref b71), .val (.ref b76), .val (.ref b83), .val (.ref b92), .val (.ref b94), .unset] [(.int (1 : Int32))]))
      refine Goes.st (fun t k => XS.ifYes X100.here hx rfl (pc0 := 667) (pc' := 676) rfl (hb hby at_667) rfl (by decide) (by decide) (by decide) k) ?_
      show Goes p e below s _ _ _ (T100.setTop (mkF m 676 #[.val (.int q0), .val (.int q1), .val (.int q2), .val (.int q3), .val (.int (1 : Int32)), .val (.int r), .val (.int rv), .val (.int s0), .val (.int s1), .val (.int s2), .val (.int v0), .val (.int v1), .val (.int v2), .val (.int p0), .val (.int p1), .val (.int p2), .val (.ref b58), .val (.ref b71), .val (.ref b76), .val (.ref b83), .val (.ref b92), .val (.ref b94), .unset] []))
      refine Goes.st (fun t k => XS.iload X100.here hx rfl (hb hby at_676) rfl k) ?_
      show Goes p e below s _ _ _ (T100.setTop (mkF m 678 #[.val (.int q0), .val (.int q1), .val (.int q2), .val (.int q3), .val (.int (1 : Int32)), .val (.int r), .val (.int rv), .val (.int s0), .val (.int s1), .val (.int s2), .val (.int v0), .val (.int v1), .val (.int v2), .val (.int p0), .val (.int p1), .val (.int p2), .val (.ref b58), .val (.ref b71), .val (.ref b76), .val (.ref b83), .val (.ref b92), .val (.ref b94), .unset] [(.int (1 : Int32))]))
      refine Goes.st (fun t k => XS.iconst X100.here hx rfl (hb hby at_678) k) ?_
      show Goes p e below s _ _ _ (T100.setTop (mkF m 679 #[.val (.int q0), .val (.int q1), .val (.int q2), .val (.int q3), .val (.int (1 : Int32)), .val (.int r), .val (.int rv), .val (.int s0), .val (.int s1), .val (.int s2), .val (.int v0), .val (.int v1), .val (.int v2), .val (.int p0), .val (.int p1), .val (.int p2), .val (.ref b58), .val (.ref b71), .val (.ref b76), .val (.ref b83), .val (.ref b92), .val (.ref b94), .unset] [(.int (1 : Int32)), (.int (1 : Int32))]))
      refine Goes.st (fun t k => XS.icmpNo X100.here hx rfl (hb hby at_679) rfl (by decide) k) ?_
      show Goes p e below s _ _ _ (T100.setTop (mkF m 682 #[.val (.int q0), .val (.int q1), .val (.int q2), .val (.int q3), .val (.int (1 : Int32)), .val (.int r), .val (.int rv), .val (.int s0), .val (.int s1), .val (.int s2), .val (.int v0), .val (.int v1), .val (.int v2), .val (.int p0), .val (.int p1), .val (.int p2), .val (.ref b58), .val (.ref b71), .val (.ref b76), .val (.ref b83), .val (.ref b92), .val (.ref b94), .unset] []))
      refine Goes.st (fun t k => XS.iload X100.here hx rfl (hb hby at_682) rfl k) ?_
      show Goes p e below s _ _ _ (T100.setTop (mkF m 684 #[.val (.int q0), .val (.int q1), .val (.int q2), .val (.int q3), .val (.int (1 : Int32)), .val (.int r), .val (.int rv), .val (.int s0), .val (.int s1), .val (.int s2), .val (.int v0), .val (.int v1), .val (.int v2), .val (.int p0), .val (.int p1), .val (.int p2), .val (.ref b58), .val (.ref b71), .val (.ref b76), .val (.ref b83), .val (.ref b92), .val (.ref b94), .unset] [(.int v0)]))
      refine Goes.st (fun t k => XS.istore X100.here hx rfl (hb hby at_684) rfl (l' := #[.val (.int q0), .val (.int q1), .val (.int q2), .val (.int q3), .val (.int (1 : Int32)), .val (.int r), .val (.int rv), .val (.int s0), .val (.int s1), .val (.int s2), .val (.int v0), .val (.int v1), .val (.int v2), .val (.int p0), .val (.int p1), .val (.int p2), .val (.ref b58), .val (.ref b71), .val (.ref b76), .val (.ref b83), .val (.ref b92), .val (.ref b94), .val (.int v0)]) rfl k) ?_
      show Goes p e below s _ _ _ (T100.setTop (mkF m 686 #[.val (.int q0), .val (.int q1), .val (.int q2), .val (.int q3), .val (.int (1 : Int32)), .val (.int r), .val (.int rv), .val (.int s0), .val (.int s1), .val (.int s2), .val (.int v0), .val (.int v1), .val (.int v2), .val (.int p0), .val (.int p1), .val (.int p2), .val (.ref b58), .val (.ref b71), .val (.ref b76), .val (.ref b83), .val (.ref b92), .val (.ref b94), .val (.int v0)] []))
      refine Goes.st (fun t k => XS.goto X100.here hx rfl (pc0 := 686) (pc' := 727) rfl (hb hby at_686) (by decide) (by decide) k) ?_
      show Goes p e below s _ _ _ (T100.setTop (mkF m 727 #[.val (.int q0), .val (.int q1), .val (.int q2), .val (.int q3), .val (.int (1 : Int32)), .val (.int r), .val (.int rv), .val (.int s0), .val (.int s1), .val (.int s2), .val (.int v0), .val (.int v1), .val (.int v2), .val (.int p0), .val (.int p1), .val (.int p2), .val (.ref b58), .val (.ref b71), .val (.ref b76), .val (.ref b83), .val (.ref b92), .val (.ref b94), .val (.int v0)] []))
      refine Goes.st (fun t k => XS.aload X100.here hx rfl (hb hby at_727) rfl rfl k) ?_
      show Goes p e below s _ _ _ (T100.setTop (mkF m 729 #[.val (.int q0), .val (.int q1), .val (.int q2), .val (.int q3), .val (.int (1 : Int32)), .val (.int r), .val (.int rv), .val (.int s0), .val (.int s1), .val (.int s2), .val (.int v0), .val (.int v1), .val (.int v2), .val (.int p0), .val (.int p1), .val (.int p2), .val (.ref b58), .val (.ref b71), .val (.ref b76), .val (.ref b83), .val (.ref b92), .val (.ref b94), .val (.int v0)] [(.ref b94)]))
      refine Goes.st (fun t k => XS.aload X100.here hx rfl (hb hby at_729) rfl rfl k) ?_
      show Goes p e below s _ _ _ (T100.setTop (mkF m 731 #[.val (.int q0), .val (.int q1), .val (.int q2), .val (.int q3), .val (.int (1 : Int32)), .val (.int r), .val (.int rv), .val (.int s0), .val (.int s1), .val (.int s2), .val (.int v0), .val (.int v1), .val (.int v2), .val (.int p0), .val (.int p1), .val (.int p2), .val (.ref b58), .val (.ref b71), .val (.ref b76), .val (.ref b83), .val (.ref b92), .val (.ref b94), .val (.int v0)] [(.ref b58), (.ref b94)]))
      refine Goes.st (fun t k => XS.aload X100.here hx rfl (hb hby at_731) rfl rfl k) ?_
      show Goes p e below s _ _ _ (T100.setTop (mkF m 733 #[.val (.int q0), .val (.int q1), .val (.int q2), .val (.int q3), .val (.int (1 : Int32)), .val (.int r), .val (.int rv), .val (.int s0), .val (.int s1), .val (.int s2), .val (.int v0), .val (.int v1), .val (.int v2), .val (.int p0), .val (.int p1), .val (.int p2), .val (.ref b58), .val (.ref b71), .val (.ref b76), .val (.ref b83), .val (.ref b92), .val (.ref b94), .val (.int v0)] [(.ref b71), (.ref b58), (.ref b94)]))
      have f102 := ((f96.ext E94).keep K100 (ninS ne_b71_b94 nin0))
      have f103 := ((f97.ext E94).keep K100 (ninS ne_b76_b94 nin0))
      have f104 := ((f95.ext E94).keep K100 (ninS ne_b58_b94 nin0))
      have f105 := ((V92.ext E94).keep K100 (ninS ne_b92_b94 nin0))
      have hg0 : ((([(.int q3), (.int q3), (.int q3), (.int q3)] : List Value).set p0.toNatClampNeg (.int v0))).getD p0.toNatClampNeg (.int (0 : Int32)) = .int v0 := own_get (by simpa using own_ix ip0)
      have hix : (((0 : Int32) * s0) + v0) = v0 := by simp only [Int32.zero_mul, Int32.zero_add, Int32.add_mul]
      have hI : Ix (((0 : Int32) * s0) + v0) := by rw [hix]; exact own_i1 iv0
      have he := own_ent hI
      rw [hix] at he
      have f107 := (A94.keep K100)
      obtain ⟨cq106, kq106, qa106, qb106, qc106⟩ := isOf hZ rfl f107
      obtain ⟨_, _, ⟨T106, L106, k106, n106⟩, -, X106, ⟨Lc106, hQ106, l106, y106, z106⟩, st106⟩ := X100.virtualBack hx (y := (⟨"com/example/parley/parley/Table", "entry", "([I[I)D"⟩ : MethodName)) (z := (⟨"com/example/parley/parley/Table", "entry", "([I[I)D"⟩ : MethodName)) hown (mvT hZ (hw _ (List.mem_of_getElem? (i := 91) rfl))) (mvT hZ (hw _ (List.mem_of_getElem? (i := 92) rfl))) (notFace_of_selects (args := #[]) (mvT hZ (hw _ (List.mem_of_getElem? (i := 94) rfl)))) (mvT hZ (hw _ (List.mem_of_getElem? (i := 94) rfl))) (mvT hZ (hw _ (List.mem_of_getElem? (i := 93) rfl))) (by decide) (backOf (W := 0) (rmE1 l Z a0 hw [] b94 b58 b71 b76 b92 kA71 kA76 cA58 kE92 ((([(.int q3), (.int q3), (.int q3), (.int q3)] : List Value).set p0.toNatClampNeg (.int v0))) entsL (FP.i2d v0) p0 s0 v0 T100.heap n0 Z100 R100_1 R100_2 f102 f103 f104 f105 (own_in ip0) hg0 (own_ix64 hI) (by rw [hix]; exact he)) hZ (hw _ (List.mem_of_getElem? (i := 95) rfl)) (hw _ (List.mem_of_getElem? (i := 73) rfl)) (by decide) (by decide)) qa106 qc106 (g := (mkF m 733 #[.val (.int q0), .val (.int q1), .val (.int q2), .val (.int q3), .val (.int (1 : Int32)), .val (.int r), .val (.int rv), .val (.int s0), .val (.int s1), .val (.int s2), .val (.int v0), .val (.int v1), .val (.int v2), .val (.int p0), .val (.int p1), .val (.int p2), .val (.ref b58), .val (.ref b71), .val (.ref b76), .val (.ref b83), .val (.ref b92), .val (.ref b94), .val (.int v0)] [(.ref b71), (.ref b58), (.ref b94)])) rfl (by rw [hml]; rfl) (Steps.refl _) (argsL := [(.ref b58), (.ref b71)]) (rest := []) (lenOf pd___I_I_D_1292 rfl) rfl (by show 2 * 0 + _ ≤ _; exact Nat.le_of_eq rfl) (hb hby at_733) (fun _ _ => ⟨rfl, rfl, (by decide : 6 + 0 ≤ 24), (by decide : 74 + 0 ≤ 256)⟩)
      dsimp only [Pt.U, Pt.locs, Pt.cells, Pt.slots] at X106 l106 y106 z106 st106 hQ106
      subst l106 y106 z106
      obtain ⟨rfl, N106q, eh106⟩ := hQ106
      have N106 := Fr.app N100 N106q
      refine Goes.sts st106 ?_
      show Goes p e below s _ _ _ (T106.setTop (mkF m 736 #[.val (.int q0), .val (.int q1), .val (.int q2), .val (.int q3), .val (.int (1 : Int32)), .val (.int r), .val (.int rv), .val (.int s0), .val (.int s1), .val (.int s2), .val (.int v0), .val (.int v1), .val (.int v2), .val (.int p0), .val (.int p1), .val (.int p2), .val (.ref b58), .val (.ref b71), .val (.ref b76), .val (.ref b83), .val (.ref b92), .val (.ref b94), .val (.int v0)] [(.double (FP.i2d v0))]))
      refine Goes.st (fun t k => XS.iload X106.here hx rfl (hb hby at_736) rfl k) ?_
      show Goes p e below s _ _ _ (T106.setTop (mkF m 738 #[.val (.int q0), .val (.int q1), .val (.int q2), .val (.int q3), .val (.int (1 : Int32)), .val (.int r), .val (.int rv), .val (.int s0), .val (.int s1), .val (.int s2), .val (.int v0), .val (.int v1), .val (.int v2), .val (.int p0), .val (.int p1), .val (.int p2), .val (.ref b58), .val (.ref b71), .val (.ref b76), .val (.ref b83), .val (.ref b92), .val (.ref b94), .val (.int v0)] [(.int v0), (.double (FP.i2d v0))]))
      refine Goes.st (fun t k => XS.i2dS X106.here hx rfl (hb hby at_738) rfl (v := (FP.i2d v0)) rfl k) ?_
      show Goes p e below s _ _ _ (T106.setTop (mkF m 739 #[.val (.int q0), .val (.int q1), .val (.int q2), .val (.int q3), .val (.int (1 : Int32)), .val (.int r), .val (.int rv), .val (.int s0), .val (.int s1), .val (.int s2), .val (.int v0), .val (.int v1), .val (.int v2), .val (.int p0), .val (.int p1), .val (.int p2), .val (.ref b58), .val (.ref b71), .val (.ref b76), .val (.ref b83), .val (.ref b92), .val (.ref b94), .val (.int v0)] [(.double (FP.i2d v0)), (.double (FP.i2d v0))]))
      refine Goes.st (fun t k => XS.dcmpS X106.here hx rfl (hb hby at_739) rfl (v := (cmpValue (FP.dcmp (FP.i2d v0) (FP.i2d v0)) .l)) rfl k) ?_
      show Goes p e below s _ _ _ (T106.setTop (mkF m 740 #[.val (.int q0), .val (.int q1), .val (.int q2), .val (.int q3), .val (.int (1 : Int32)), .val (.int r), .val (.int rv), .val (.int s0), .val (.int s1), .val (.int s2), .val (.int v0), .val (.int v1), .val (.int v2), .val (.int p0), .val (.int p1), .val (.int p2), .val (.ref b58), .val (.ref b71), .val (.ref b76), .val (.ref b83), .val (.ref b92), .val (.ref b94), .val (.int v0)] [(.int (cmpValue (FP.dcmp (FP.i2d v0) (FP.i2d v0)) .l))]))
      refine Goes.st (fun t k => XS.ifNo X106.here hx rfl (hb hby at_740) rfl ((if0 _ _).trans (teq (dcmpV_self (i2d_fin _).noNaN _)).2) k) ?_
      show Goes p e below s _ _ _ (T106.setTop (mkF m 743 #[.val (.int q0), .val (.int q1), .val (.int q2), .val (.int q3), .val (.int (1 : Int32)), .val (.int r), .val (.int rv), .val (.int s0), .val (.int s1), .val (.int s2), .val (.int v0), .val (.int v1), .val (.int v2), .val (.int p0), .val (.int p1), .val (.int p2), .val (.ref b58), .val (.ref b71), .val (.ref b76), .val (.ref b83), .val (.ref b92), .val (.ref b94), .val (.int v0)] []))
      refine Goes.st (fun t k => XS.iconst X106.here hx rfl (hb hby at_743) k) ?_
      show Goes p e below s _ _ _ (T106.setTop (mkF m 744 #[.val (.int q0), .val (.int q1), .val (.int q2), .val (.int q3), .val (.int (1 : Int32)), .val (.int r), .val (.int rv), .val (.int s0), .val (.int s1), .val (.int s2), .val (.int v0), .val (.int v1), .val (.int v2), .val (.int p0), .val (.int p1), .val (.int p2), .val (.ref b58), .val (.ref b71), .val (.ref b76), .val (.ref b83), .val (.ref b92), .val (.ref b94), .val (.int v0)] [(.int (1 : Int32))]))
      refine Goes.st (fun t k => XS.goto X106.here hx rfl (pc0 := 744) (pc' := 748) rfl (hb hby at_744) (by decide) (by decide) k) ?_
      show Goes p e below s _ _ _ (T106.setTop (mkF m 748 #[.val (.int q0), .val (.int q1), .val (.int q2), .val (.int q3), .val (.int (1 : Int32)), .val (.int r), .val (.int rv), .val (.int s0), .val (.int s1), .val (.int s2), .val (.int v0), .val (.int v1), .val (.int v2), .val (.int p0), .val (.int p1), .val (.int p2), .val (.ref b58), .val (.ref b71), .val (.ref b76), .val (.ref b83), .val (.ref b92), .val (.ref b94), .val (.int v0)] [(.int (1 : Int32))]))
      refine Goes.retN X106 hx hlk hret (by simp) (hb hby at_748) (by decide) ?_ (by decide) (by decide)
      rw [eh106]
      exact ⟨rfl, N106⟩
    by_cases c108 : ((XT.ushr q0 (4 : Int32)) &&& (1 : Int32)) = (0 : Int32)
    · refine Goes.st (fun t k => XS.ifYes X0.here hx rfl (pc0 := 17) (pc' := 24) rfl (hb hby at_17) rfl ((if0 _ _).trans (teq c108).1) (by decide) (by decide) k) ?_
      show Goes p e below s _ _ _ (s₁.setTop (mkF m 24 #[.val (.int q0), .val (.int q1), .val (.int q2), .val (.int q3), .val (.int (1 : Int32)), .val (.int r), .unset, .unset, .unset, .unset, .unset, .unset, .unset, .unset, .unset, .unset, .unset, .unset, .unset, .unset, .unset, .unset, .unset] []))
      refine Goes.st (fun t k => XS.iconst X0.here hx rfl (hb hby at_24) k) ?_
      show Goes p e below s _ _ _ (s₁.setTop (mkF m 25 #[.val (.int q0), .val (.int q1), .val (.int q2), .val (.int q3), .val (.int (1 : Int32)), .val (.int r), .unset, .unset, .unset, .unset, .unset, .unset, .unset, .unset, .unset, .unset, .unset, .unset, .unset, .unset, .unset, .unset, .unset] [(.int (0 : Int32))]))
      exact J54 _
    · refine Goes.st (fun t k => XS.ifNo X0.here hx rfl (hb hby at_17) rfl ((if0 _ _).trans (feq c108).1) k) ?_
      show Goes p e below s _ _ _ (s₁.setTop (mkF m 20 #[.val (.int q0), .val (.int q1), .val (.int q2), .val (.int q3), .val (.int (1 : Int32)), .val (.int r), .unset, .unset, .unset, .unset, .unset, .unset, .unset, .unset, .unset, .unset, .unset, .unset, .unset, .unset, .unset, .unset, .unset] []))
      refine Goes.st (fun t k => XS.iconst X0.here hx rfl (hb hby at_20) k) ?_
      show Goes p e below s _ _ _ (s₁.setTop (mkF m 21 #[.val (.int q0), .val (.int q1), .val (.int q2), .val (.int q3), .val (.int (1 : Int32)), .val (.int r), .unset, .unset, .unset, .unset, .unset, .unset, .unset, .unset, .unset, .unset, .unset, .unset, .unset, .unset, .unset, .unset, .unset] [(.int (1 : Int32))]))
      refine Goes.st (fun t k => XS.goto X0.here hx rfl (pc0 := 21) (pc' := 25) rfl (hb hby at_21) (by decide) (by decide) k) ?_
      show Goes p e below s _ _ _ (s₁.setTop (mkF m 25 #[.val (.int q0), .val (.int q1), .val (.int q2), .val (.int q3), .val (.int (1 : Int32)), .val (.int r), .unset, .unset, .unset, .unset, .unset, .unset, .unset, .unset, .unset, .unset, .unset, .unset, .unset, .unset, .unset, .unset, .unset] [(.int (1 : Int32))]))
      exact J54 _
  · rw [hn]
    show Goes p e below s _ _ _ (s₁.setTop (mkF m 3 #[.val (.int q0), .val (.int q1), .val (.int q2), .val (.int q3), .unset, .unset, .unset, .unset, .unset, .unset, .unset, .unset, .unset, .unset, .unset, .unset, .unset, .unset, .unset, .unset, .unset, .unset, .unset] [(.int (2 : Int32))]))
    refine Goes.st (fun t k => XS.istore X0.here hx rfl (hb hby at_3) rfl (l' := #[.val (.int q0), .val (.int q1), .val (.int q2), .val (.int q3), .val (.int (2 : Int32)), .unset, .unset, .unset, .unset, .unset, .unset, .unset, .unset, .unset, .unset, .unset, .unset, .unset, .unset, .unset, .unset, .unset, .unset]) rfl k) ?_
    show Goes p e below s _ _ _ (s₁.setTop (mkF m 5 #[.val (.int q0), .val (.int q1), .val (.int q2), .val (.int q3), .val (.int (2 : Int32)), .unset, .unset, .unset, .unset, .unset, .unset, .unset, .unset, .unset, .unset, .unset, .unset, .unset, .unset, .unset, .unset, .unset, .unset] []))
    refine Goes.st (fun t k => XS.iloadN X0.here hx rfl (hb hby at_5) rfl k) ?_
    show Goes p e below s _ _ _ (s₁.setTop (mkF m 6 #[.val (.int q0), .val (.int q1), .val (.int q2), .val (.int q3), .val (.int (2 : Int32)), .unset, .unset, .unset, .unset, .unset, .unset, .unset, .unset, .unset, .unset, .unset, .unset, .unset, .unset, .unset, .unset, .unset, .unset] [(.int q0)]))
    refine Goes.st (fun t k => XS.iconst X0.here hx rfl (hb hby at_6) k) ?_
    show Goes p e below s _ _ _ (s₁.setTop (mkF m 7 #[.val (.int q0), .val (.int q1), .val (.int q2), .val (.int q3), .val (.int (2 : Int32)), .unset, .unset, .unset, .unset, .unset, .unset, .unset, .unset, .unset, .unset, .unset, .unset, .unset, .unset, .unset, .unset, .unset, .unset] [(.int (2 : Int32)), (.int q0)]))
    refine Goes.st (fun t k => XT.iushr X0.here hx rfl (hb hby at_7) rfl k) ?_
    show Goes p e below s _ _ _ (s₁.setTop (mkF m 8 #[.val (.int q0), .val (.int q1), .val (.int q2), .val (.int q3), .val (.int (2 : Int32)), .unset, .unset, .unset, .unset, .unset, .unset, .unset, .unset, .unset, .unset, .unset, .unset, .unset, .unset, .unset, .unset, .unset, .unset] [(.int (XT.ushr q0 (2 : Int32)))]))
    refine Goes.st (fun t k => XS.iconst X0.here hx rfl (hb hby at_8) k) ?_
    show Goes p e below s _ _ _ (s₁.setTop (mkF m 9 #[.val (.int q0), .val (.int q1), .val (.int q2), .val (.int q3), .val (.int (2 : Int32)), .unset, .unset, .unset, .unset, .unset, .unset, .unset, .unset, .unset, .unset, .unset, .unset, .unset, .unset, .unset, .unset, .unset, .unset] [(.int (3 : Int32)), (.int (XT.ushr q0 (2 : Int32)))]))
    refine Goes.st (fun t k => XS.iand X0.here hx rfl (hb hby at_9) rfl k) ?_
    show Goes p e below s _ _ _ (s₁.setTop (mkF m 10 #[.val (.int q0), .val (.int q1), .val (.int q2), .val (.int q3), .val (.int (2 : Int32)), .unset, .unset, .unset, .unset, .unset, .unset, .unset, .unset, .unset, .unset, .unset, .unset, .unset, .unset, .unset, .unset, .unset, .unset] [(.int ((XT.ushr q0 (2 : Int32)) &&& (3 : Int32)))]))
    obtain ⟨r, r_eq⟩ : ∃ z : Int32, z = ((XT.ushr q0 (2 : Int32)) &&& (3 : Int32)) := ⟨_, rfl⟩
    rw [← r_eq]
    show Goes p e below s _ _ _ (s₁.setTop (mkF m 10 #[.val (.int q0), .val (.int q1), .val (.int q2), .val (.int q3), .val (.int (2 : Int32)), .unset, .unset, .unset, .unset, .unset, .unset, .unset, .unset, .unset, .unset, .unset, .unset, .unset, .unset, .unset, .unset, .unset, .unset] [(.int r)]))
    have ir : In4 r := by rw [r_eq]; exact own_and3 _
    refine Goes.st (fun t k => XS.istore X0.here hx rfl (hb hby at_10) rfl (l' := #[.val (.int q0), .val (.int q1), .val (.int q2), .val (.int q3), .val (.int (2 : Int32)), .val (.int r), .unset, .unset, .unset, .unset, .unset, .unset, .unset, .unset, .unset, .unset, .unset, .unset, .unset, .unset, .unset, .unset, .unset]) rfl k) ?_
    show Goes p e below s _ _ _ (s₁.setTop (mkF m 12 #[.val (.int q0), .val (.int q1), .val (.int q2), .val (.int q3), .val (.int (2 : Int32)), .val (.int r), .unset, .unset, .unset, .unset, .unset, .unset, .unset, .unset, .unset, .unset, .unset, .unset, .unset, .unset, .unset, .unset, .unset] []))
    refine Goes.st (fun t k => XS.iloadN X0.here hx rfl (hb hby at_12) rfl k) ?_
    show Goes p e below s _ _ _ (s₁.setTop (mkF m 13 #[.val (.int q0), .val (.int q1), .val (.int q2), .val (.int q3), .val (.int (2 : Int32)), .val (.int r), .unset, .unset, .unset, .unset, .unset, .unset, .unset, .unset, .unset, .unset, .unset, .unset, .unset, .unset, .unset, .unset, .unset] [(.int q0)]))
    refine Goes.st (fun t k => XS.iconst X0.here hx rfl (hb hby at_13) k) ?_
    show Goes p e below s _ _ _ (s₁.setTop (mkF m 14 #[.val (.int q0), .val (.int q1), .val (.int q2), .val (.int q3), .val (.int (2 : Int32)), .val (.int r), .unset, .unset, .unset, .unset, .unset, .unset, .unset, .unset, .unset, .unset, .unset, .unset, .unset, .unset, .unset, .unset, .unset] [(.int (4 : Int32)), (.int q0)]))
    refine Goes.st (fun t k => XT.iushr X0.here hx rfl (hb hby at_14) rfl k) ?_
    show Goes p e below s _ _ _ (s₁.setTop (mkF m 15 #[.val (.int q0), .val (.int q1), .val (.int q2), .val (.int q3), .val (.int (2 : Int32)), .val (.int r), .unset, .unset, .unset, .unset, .unset, .unset, .unset, .unset, .unset, .unset, .unset, .unset, .unset, .unset, .unset, .unset, .unset] [(.int (XT.ushr q0 (4 : Int32)))]))
    refine Goes.st (fun t k => XS.iconst X0.here hx rfl (hb hby at_15) k) ?_
    show Goes p e below s _ _ _ (s₁.setTop (mkF m 16 #[.val (.int q0), .val (.int q1), .val (.int q2), .val (.int q3), .val (.int (2 : Int32)), .val (.int r), .unset, .unset, .unset, .unset, .unset, .unset, .unset, .unset, .unset, .unset, .unset, .unset, .unset, .unset, .unset, .unset, .unset] [(.int (1 : Int32)), (.int (XT.ushr q0 (4 : Int32)))]))
    refine Goes.st (fun t k => XS.iand X0.here hx rfl (hb hby at_16) rfl k) ?_
    show Goes p e below s _ _ _ (s₁.setTop (mkF m 17 #[.val (.int q0), .val (.int q1), .val (.int q2), .val (.int q3), .val (.int (2 : Int32)), .val (.int r), .unset, .unset, .unset, .unset, .unset, .unset, .unset, .unset, .unset, .unset, .unset, .unset, .unset, .unset, .unset, .unset, .unset] [(.int ((XT.ushr q0 (4 : Int32)) &&& (1 : Int32)))]))
    have J109 : ∀ (rv : Int32), Goes p e below s (Q0 Z q0 q1 q2 q3 h0 n0) 24 256 (s₁.setTop (mkF m 25 #[.val (.int q0), .val (.int q1), .val (.int q2), .val (.int q3), .val (.int (2 : Int32)), .val (.int r), .unset, .unset, .unset, .unset, .unset, .unset, .unset, .unset, .unset, .unset, .unset, .unset, .unset, .unset, .unset, .unset, .unset] [(.int rv)])) := by
      intro rv
      refine Goes.st (fun t k => XS.istore X0.here hx rfl (hb hby at_25) rfl (l' := #[.val (.int q0), .val (.int q1), .val (.int q2), .val (.int q3), .val (.int (2 : Int32)), .val (.int r), .val (.int rv), .unset, .unset, .unset, .unset, .unset, .unset, .unset, .unset, .unset, .unset, .unset, .unset, .unset, .unset, .unset, .unset]) rfl k) ?_
      show Goes p e below s _ _ _ (s₁.setTop (mkF m 27 #[.val (.int q0), .val (.int q1), .val (.int q2), .val (.int q3), .val (.int (2 : Int32)), .val (.int r), .val (.int rv), .unset, .unset, .unset, .unset, .unset, .unset, .unset, .unset, .unset, .unset, .unset, .unset, .unset, .unset, .unset, .unset] []))
      refine Goes.st (fun t k => XS.iconst X0.here hx rfl (hb hby at_27) k) ?_
      show Goes p e below s _ _ _ (s₁.setTop (mkF m 28 #[.val (.int q0), .val (.int q1), .val (.int q2), .val (.int q3), .val (.int (2 : Int32)), .val (.int r), .val (.int rv), .unset, .unset, .unset, .unset, .unset, .unset, .unset, .unset, .unset, .unset, .unset, .unset, .unset, .unset, .unset, .unset] [(.int (1 : Int32))]))
      refine Goes.st (fun t k => XS.iloadN X0.here hx rfl (hb hby at_28) rfl k) ?_
      show Goes p e below s _ _ _ (s₁.setTop (mkF m 29 #[.val (.int q0), .val (.int q1), .val (.int q2), .val (.int q3), .val (.int (2 : Int32)), .val (.int r), .val (.int rv), .unset, .unset, .unset, .unset, .unset, .unset, .unset, .unset, .unset, .unset, .unset, .unset, .unset, .unset, .unset, .unset] [(.int q1), (.int (1 : Int32))]))
      refine Goes.st (fun t k => XS.iconst X0.here hx rfl (hb hby at_29) k) ?_
      show Goes p e below s _ _ _ (s₁.setTop (mkF m 30 #[.val (.int q0), .val (.int q1), .val (.int q2), .val (.int q3), .val (.int (2 : Int32)), .val (.int r), .val (.int rv), .unset, .unset, .unset, .unset, .unset, .unset, .unset, .unset, .unset, .unset, .unset, .unset, .unset, .unset, .unset, .unset] [(.int (3 : Int32)), (.int q1), (.int (1 : Int32))]))
      refine Goes.st (fun t k => XS.iand X0.here hx rfl (hb hby at_30) rfl k) ?_
      show Goes p e below s _ _ _ (s₁.setTop (mkF m 31 #[.val (.int q0), .val (.int q1), .val (.int q2), .val (.int q3), .val (.int (2 : Int32)), .val (.int r), .val (.int rv), .unset, .unset, .unset, .unset, .unset, .unset, .unset, .unset, .unset, .unset, .unset, .unset, .unset, .unset, .unset, .unset] [(.int (q1 &&& (3 : Int32))), (.int (1 : Int32))]))
      refine Goes.st (fun t k => XS.iadd X0.here hx rfl (hb hby at_31) rfl k) ?_
      show Goes p e below s _ _ _ (s₁.setTop (mkF m 32 #[.val (.int q0), .val (.int q1), .val (.int q2), .val (.int q3), .val (.int (2 : Int32)), .val (.int r), .val (.int rv), .unset, .unset, .unset, .unset, .unset, .unset, .unset, .unset, .unset, .unset, .unset, .unset, .unset, .unset, .unset, .unset] [(.int ((1 : Int32) + (q1 &&& (3 : Int32))))]))
      obtain ⟨s0, s0_eq⟩ : ∃ z : Int32, z = ((1 : Int32) + (q1 &&& (3 : Int32))) := ⟨_, rfl⟩
      rw [← s0_eq]
      show Goes p e below s _ _ _ (s₁.setTop (mkF m 32 #[.val (.int q0), .val (.int q1), .val (.int q2), .val (.int q3), .val (.int (2 : Int32)), .val (.int r), .val (.int rv), .unset, .unset, .unset, .unset, .unset, .unset, .unset, .unset, .unset, .unset, .unset, .unset, .unset, .unset, .unset, .unset] [(.int s0)]))
      have is0 : Sz4 s0 := by rw [s0_eq]; exact own_sz _
      refine Goes.st (fun t k => XS.istore X0.here hx rfl (hb hby at_32) rfl (l' := #[.val (.int q0), .val (.int q1), .val (.int q2), .val (.int q3), .val (.int (2 : Int32)), .val (.int r), .val (.int rv), .val (.int s0), .unset, .unset, .unset, .unset, .unset, .unset, .unset, .unset, .unset, .unset, .unset, .unset, .unset, .unset, .unset]) rfl k) ?_
      show Goes p e below s _ _ _ (s₁.setTop (mkF m 34 #[.val (.int q0), .val (.int q1), .val (.int q2), .val (.int q3), .val (.int (2 : Int32)), .val (.int r), .val (.int rv), .val (.int s0), .unset, .unset, .unset, .unset, .unset, .unset, .unset, .unset, .unset, .unset, .unset, .unset, .unset, .unset, .unset] []))
      refine Goes.st (fun t k => XS.iconst X0.here hx rfl (hb hby at_34) k) ?_
      show Goes p e below s _ _ _ (s₁.setTop (mkF m 35 #[.val (.int q0), .val (.int q1), .val (.int q2), .val (.int q3), .val (.int (2 : Int32)), .val (.int r), .val (.int rv), .val (.int s0), .unset, .unset, .unset, .unset, .unset, .unset, .unset, .unset, .unset, .unset, .unset, .unset, .unset, .unset, .unset] [(.int (1 : Int32))]))
      refine Goes.st (fun t k => XS.iloadN X0.here hx rfl (hb hby at_35) rfl k) ?_
      show Goes p e below s _ _ _ (s₁.setTop (mkF m 36 #[.val (.int q0), .val (.int q1), .val (.int q2), .val (.int q3), .val (.int (2 : Int32)), .val (.int r), .val (.int rv), .val (.int s0), .unset, .unset, .unset, .unset, .unset, .unset, .unset, .unset, .unset, .unset, .unset, .unset, .unset, .unset, .unset] [(.int q1), (.int (1 : Int32))]))
      refine Goes.st (fun t k => XS.iconst X0.here hx rfl (hb hby at_36) k) ?_
      show Goes p e below s _ _ _ (s₁.setTop (mkF m 37 #[.val (.int q0), .val (.int q1), .val (.int q2), .val (.int q3), .val (.int (2 : Int32)), .val (.int r), .val (.int rv), .val (.int s0), .unset, .unset, .unset, .unset, .unset, .unset, .unset, .unset, .unset, .unset, .unset, .unset, .unset, .unset, .unset] [(.int (2 : Int32)), (.int q1), (.int (1 : Int32))]))
      refine Goes.st (fun t k => XT.iushr X0.here hx rfl (hb hby at_37) rfl k) ?_
      show Goes p e below s _ _ _ (s₁.setTop (mkF m 38 #[.val (.int q0), .val (.int q1), .val (.int q2), .val (.int q3), .val (.int (2 : Int32)), .val (.int r), .val (.int rv), .val (.int s0), .unset, .unset, .unset, .unset, .unset, .unset, .unset, .unset, .unset, .unset, .unset, .unset, .unset, .unset, .unset] [(.int (XT.ushr q1 (2 : Int32))), (.int (1 : Int32))]))
      refine Goes.st (fun t k => XS.iconst X0.here hx rfl (hb hby at_38) k) ?_
      show Goes p e below s _ _ _ (s₁.setTop (mkF m 39 #[.val (.int q0), .val (.int q1), .val (.int q2), .val (.int q3), .val (.int (2 : Int32)), .val (.int r), .val (.int rv), .val (.int s0), .unset, .unset, .unset, .unset, .unset, .unset, .unset, .unset, .unset, .unset, .unset, .unset, .unset, .unset, .unset] [(.int (3 : Int32)), (.int (XT.ushr q1 (2 : Int32))), (.int (1 : Int32))]))
      refine Goes.st (fun t k => XS.iand X0.here hx rfl (hb hby at_39) rfl k) ?_
      show Goes p e below s _ _ _ (s₁.setTop (mkF m 40 #[.val (.int q0), .val (.int q1), .val (.int q2), .val (.int q3), .val (.int (2 : Int32)), .val (.int r), .val (.int rv), .val (.int s0), .unset, .unset, .unset, .unset, .unset, .unset, .unset, .unset, .unset, .unset, .unset, .unset, .unset, .unset, .unset] [(.int ((XT.ushr q1 (2 : Int32)) &&& (3 : Int32))), (.int (1 : Int32))]))
      refine Goes.st (fun t k => XS.iadd X0.here hx rfl (hb hby at_40) rfl k) ?_
      show Goes p e below s _ _ _ (s₁.setTop (mkF m 41 #[.val (.int q0), .val (.int q1), .val (.int q2), .val (.int q3), .val (.int (2 : Int32)), .val (.int r), .val (.int rv), .val (.int s0), .unset, .unset, .unset, .unset, .unset, .unset, .unset, .unset, .unset, .unset, .unset, .unset, .unset, .unset, .unset] [(.int ((1 : Int32) + ((XT.ushr q1 (2 : Int32)) &&& (3 : Int32))))]))
      obtain ⟨s1, s1_eq⟩ : ∃ z : Int32, z = ((1 : Int32) + ((XT.ushr q1 (2 : Int32)) &&& (3 : Int32))) := ⟨_, rfl⟩
      rw [← s1_eq]
      show Goes p e below s _ _ _ (s₁.setTop (mkF m 41 #[.val (.int q0), .val (.int q1), .val (.int q2), .val (.int q3), .val (.int (2 : Int32)), .val (.int r), .val (.int rv), .val (.int s0), .unset, .unset, .unset, .unset, .unset, .unset, .unset, .unset, .unset, .unset, .unset, .unset, .unset, .unset, .unset] [(.int s1)]))
      have is1 : Sz4 s1 := by rw [s1_eq]; exact own_sz _
      refine Goes.st (fun t k => XS.istore X0.here hx rfl (hb hby at_41) rfl (l' := #[.val (.int q0), .val (.int q1), .val (.int q2), .val (.int q3), .val (.int (2 : Int32)), .val (.int r), .val (.int rv), .val (.int s0), .val (.int s1), .unset, .unset, .unset, .unset, .unset, .unset, .unset, .unset, .unset, .unset, .unset, .unset, .unset, .unset]) rfl k) ?_
      show Goes p e below s _ _ _ (s₁.setTop (mkF m 43 #[.val (.int q0), .val (.int q1), .val (.int q2), .val (.int q3), .val (.int (2 : Int32)), .val (.int r), .val (.int rv), .val (.int s0), .val (.int s1), .unset, .unset, .unset, .unset, .unset, .unset, .unset, .unset, .unset, .unset, .unset, .unset, .unset, .unset] []))
      refine Goes.st (fun t k => XS.iconst X0.here hx rfl (hb hby at_43) k) ?_
      show Goes p e below s _ _ _ (s₁.setTop (mkF m 44 #[.val (.int q0), .val (.int q1), .val (.int q2), .val (.int q3), .val (.int (2 : Int32)), .val (.int r), .val (.int rv), .val (.int s0), .val (.int s1), .unset, .unset, .unset, .unset, .unset, .unset, .unset, .unset, .unset, .unset, .unset, .unset, .unset, .unset] [(.int (1 : Int32))]))
      refine Goes.st (fun t k => XS.iloadN X0.here hx rfl (hb hby at_44) rfl k) ?_
      show Goes p e below s _ _ _ (s₁.setTop (mkF m 45 #[.val (.int q0), .val (.int q1), .val (.int q2), .val (.int q3), .val (.int (2 : Int32)), .val (.int r), .val (.int rv), .val (.int s0), .val (.int s1), .unset, .unset, .unset, .unset, .unset, .unset, .unset, .unset, .unset, .unset, .unset, .unset, .unset, .unset] [(.int q1), (.int (1 : Int32))]))
      refine Goes.st (fun t k => XS.iconst X0.here hx rfl (hb hby at_45) k) ?_
      show Goes p e below s _ _ _ (s₁.setTop (mkF m 46 #[.val (.int q0), .val (.int q1), .val (.int q2), .val (.int q3), .val (.int (2 : Int32)), .val (.int r), .val (.int rv), .val (.int s0), .val (.int s1), .unset, .unset, .unset, .unset, .unset, .unset, .unset, .unset, .unset, .unset, .unset, .unset, .unset, .unset] [(.int (4 : Int32)), (.int q1), (.int (1 : Int32))]))
      refine Goes.st (fun t k => XT.iushr X0.here hx rfl (hb hby at_46) rfl k) ?_
      show Goes p e below s _ _ _ (s₁.setTop (mkF m 47 #[.val (.int q0), .val (.int q1), .val (.int q2), .val (.int q3), .val (.int (2 : Int32)), .val (.int r), .val (.int rv), .val (.int s0), .val (.int s1), .unset, .unset, .unset, .unset, .unset, .unset, .unset, .unset, .unset, .unset, .unset, .unset, .unset, .unset] [(.int (XT.ushr q1 (4 : Int32))), (.int (1 : Int32))]))
      refine Goes.st (fun t k => XS.iconst X0.here hx rfl (hb hby at_47) k) ?_
      show Goes p e below s _ _ _ (s₁.setTop (mkF m 48 #[.val (.int q0), .val (.int q1), .val (.int q2), .val (.int q3), .val (.int (2 : Int32)), .val (.int r), .val (.int rv), .val (.int s0), .val (.int s1), .unset, .unset, .unset, .unset, .unset, .unset, .unset, .unset, .unset, .unset, .unset, .unset, .unset, .unset] [(.int (3 : Int32)), (.int (XT.ushr q1 (4 : Int32))), (.int (1 : Int32))]))
      refine Goes.st (fun t k => XS.iand X0.here hx rfl (hb hby at_48) rfl k) ?_
      show Goes p e below s _ _ _ (s₁.setTop (mkF m 49 #[.val (.int q0), .val (.int q1), .val (.int q2), .val (.int q3), .val (.int (2 : Int32)), .val (.int r), .val (.int rv), .val (.int s0), .val (.int s1), .unset, .unset, .unset, .unset, .unset, .unset, .unset, .unset, .unset, .unset, .unset, .unset, .unset, .unset] [(.int ((XT.ushr q1 (4 : Int32)) &&& (3 : Int32))), (.int (1 : Int32))]))
      refine Goes.st (fun t k => XS.iadd X0.here hx rfl (hb hby at_49) rfl k) ?_
      show Goes p e below s _ _ _ (s₁.setTop (mkF m 50 #[.val (.int q0), .val (.int q1), .val (.int q2), .val (.int q3), .val (.int (2 : Int32)), .val (.int r), .val (.int rv), .val (.int s0), .val (.int s1), .unset, .unset, .unset, .unset, .unset, .unset, .unset, .unset, .unset, .unset, .unset, .unset, .unset, .unset] [(.int ((1 : Int32) + ((XT.ushr q1 (4 : Int32)) &&& (3 : Int32))))]))
      obtain ⟨s2, s2_eq⟩ : ∃ z : Int32, z = ((1 : Int32) + ((XT.ushr q1 (4 : Int32)) &&& (3 : Int32))) := ⟨_, rfl⟩
      rw [← s2_eq]
      show Goes p e below s _ _ _ (s₁.setTop (mkF m 50 #[.val (.int q0), .val (.int q1), .val (.int q2), .val (.int q3), .val (.int (2 : Int32)), .val (.int r), .val (.int rv), .val (.int s0), .val (.int s1), .unset, .unset, .unset, .unset, .unset, .unset, .unset, .unset, .unset, .unset, .unset, .unset, .unset, .unset] [(.int s2)]))
      have is2 : Sz4 s2 := by rw [s2_eq]; exact own_sz _
      refine Goes.st (fun t k => XS.istore X0.here hx rfl (hb hby at_50) rfl (l' := #[.val (.int q0), .val (.int q1), .val (.int q2), .val (.int q3), .val (.int (2 : Int32)), .val (.int r), .val (.int rv), .val (.int s0), .val (.int s1), .val (.int s2), .unset, .unset, .unset, .unset, .unset, .unset, .unset, .unset, .unset, .unset, .unset, .unset, .unset]) rfl k) ?_
      show Goes p e below s _ _ _ (s₁.setTop (mkF m 52 #[.val (.int q0), .val (.int q1), .val (.int q2), .val (.int q3), .val (.int (2 : Int32)), .val (.int r), .val (.int rv), .val (.int s0), .val (.int s1), .val (.int s2), .unset, .unset, .unset, .unset, .unset, .unset, .unset, .unset, .unset, .unset, .unset, .unset, .unset] []))
      refine Goes.st (fun t k => XS.iloadN X0.here hx rfl (hb hby at_52) rfl k) ?_
      show Goes p e below s _ _ _ (s₁.setTop (mkF m 53 #[.val (.int q0), .val (.int q1), .val (.int q2), .val (.int q3), .val (.int (2 : Int32)), .val (.int r), .val (.int rv), .val (.int s0), .val (.int s1), .val (.int s2), .unset, .unset, .unset, .unset, .unset, .unset, .unset, .unset, .unset, .unset, .unset, .unset, .unset] [(.int q2)]))
      refine Goes.st (fun t k => XS.iconst X0.here hx rfl (hb hby at_53) k) ?_
      show Goes p e below s _ _ _ (s₁.setTop (mkF m 54 #[.val (.int q0), .val (.int q1), .val (.int q2), .val (.int q3), .val (.int (2 : Int32)), .val (.int r), .val (.int rv), .val (.int s0), .val (.int s1), .val (.int s2), .unset, .unset, .unset, .unset, .unset, .unset, .unset, .unset, .unset, .unset, .unset, .unset, .unset] [(.int (3 : Int32)), (.int q2)]))
      refine Goes.st (fun t k => XS.iand X0.here hx rfl (hb hby at_54) rfl k) ?_
      show Goes p e below s _ _ _ (s₁.setTop (mkF m 55 #[.val (.int q0), .val (.int q1), .val (.int q2), .val (.int q3), .val (.int (2 : Int32)), .val (.int r), .val (.int rv), .val (.int s0), .val (.int s1), .val (.int s2), .unset, .unset, .unset, .unset, .unset, .unset, .unset, .unset, .unset, .unset, .unset, .unset, .unset] [(.int (q2 &&& (3 : Int32)))]))
      refine Goes.st (fun t k => XS.iload X0.here hx rfl (hb hby at_55) rfl k) ?_
      show Goes p e below s _ _ _ (s₁.setTop (mkF m 57 #[.val (.int q0), .val (.int q1), .val (.int q2), .val (.int q3), .val (.int (2 : Int32)), .val (.int r), .val (.int rv), .val (.int s0), .val (.int s1), .val (.int s2), .unset, .unset, .unset, .unset, .unset, .unset, .unset, .unset, .unset, .unset, .unset, .unset, .unset] [(.int s0), (.int (q2 &&& (3 : Int32)))]))
      refine Goes.st (fun t k => iremM X0 hx rfl (hb hby at_57) rfl (own_sz0 is0) k) ?_
      show Goes p e below s _ _ _ (s₁.setTop (mkF m 58 #[.val (.int q0), .val (.int q1), .val (.int q2), .val (.int q3), .val (.int (2 : Int32)), .val (.int r), .val (.int rv), .val (.int s0), .val (.int s1), .val (.int s2), .unset, .unset, .unset, .unset, .unset, .unset, .unset, .unset, .unset, .unset, .unset, .unset, .unset] [(.int ((q2 &&& (3 : Int32)) % s0))]))
      obtain ⟨v0, v0_eq⟩ : ∃ z : Int32, z = ((q2 &&& (3 : Int32)) % s0) := ⟨_, rfl⟩
      rw [← v0_eq]
      show Goes p e below s _ _ _ (s₁.setTop (mkF m 58 #[.val (.int q0), .val (.int q1), .val (.int q2), .val (.int q3), .val (.int (2 : Int32)), .val (.int r), .val (.int rv), .val (.int s0), .val (.int s1), .val (.int s2), .unset, .unset, .unset, .unset, .unset, .unset, .unset, .unset, .unset, .unset, .unset, .unset, .unset] [(.int v0)]))
      have iv0 : In4 v0 := by rw [v0_eq]; exact own_rem (own_and3 _) is0
      refine Goes.st (fun t k => XS.istore X0.here hx rfl (hb hby at_58) rfl (l' := #[.val (.int q0), .val (.int q1), .val (.int q2), .val (.int q3), .val (.int (2 : Int32)), .val (.int r), .val (.int rv), .val (.int s0), .val (.int s1), .val (.int s2), .val (.int v0), .unset, .unset, .unset, .unset, .unset, .unset, .unset, .unset, .unset, .unset, .unset, .unset]) rfl k) ?_
      show Goes p e below s _ _ _ (s₁.setTop (mkF m 60 #[.val (.int q0), .val (.int q1), .val (.int q2), .val (.int q3), .val (.int (2 : Int32)), .val (.int r), .val (.int rv), .val (.int s0), .val (.int s1), .val (.int s2), .val (.int v0), .unset, .unset, .unset, .unset, .unset, .unset, .unset, .unset, .unset, .unset, .unset, .unset] []))
      refine Goes.st (fun t k => XS.iloadN X0.here hx rfl (hb hby at_60) rfl k) ?_
      show Goes p e below s _ _ _ (s₁.setTop (mkF m 61 #[.val (.int q0), .val (.int q1), .val (.int q2), .val (.int q3), .val (.int (2 : Int32)), .val (.int r), .val (.int rv), .val (.int s0), .val (.int s1), .val (.int s2), .val (.int v0), .unset, .unset, .unset, .unset, .unset, .unset, .unset, .unset, .unset, .unset, .unset, .unset] [(.int q2)]))
      refine Goes.st (fun t k => XS.iconst X0.here hx rfl (hb hby at_61) k) ?_
      show Goes p e below s _ _ _ (s₁.setTop (mkF m 62 #[.val (.int q0), .val (.int q1), .val (.int q2), .val (.int q3), .val (.int (2 : Int32)), .val (.int r), .val (.int rv), .val (.int s0), .val (.int s1), .val (.int s2), .val (.int v0), .unset, .unset, .unset, .unset, .unset, .unset, .unset, .unset, .unset, .unset, .unset, .unset] [(.int (2 : Int32)), (.int q2)]))
      refine Goes.st (fun t k => XT.iushr X0.here hx rfl (hb hby at_62) rfl k) ?_
      show Goes p e below s _ _ _ (s₁.setTop (mkF m 63 #[.val (.int q0), .val (.int q1), .val (.int q2), .val (.int q3), .val (.int (2 : Int32)), .val (.int r), .val (.int rv), .val (.int s0), .val (.int s1), .val (.int s2), .val (.int v0), .unset, .unset, .unset, .unset, .unset, .unset, .unset, .unset, .unset, .unset, .unset, .unset] [(.int (XT.ushr q2 (2 : Int32)))]))
      refine Goes.st (fun t k => XS.iconst X0.here hx rfl (hb hby at_63) k) ?_
      show Goes p e below s _ _ _ (s₁.setTop (mkF m 64 #[.val (.int q0), .val (.int q1), .val (.int q2), .val (.int q3), .val (.int (2 : Int32)), .val (.int r), .val (.int rv), .val (.int s0), .val (.int s1), .val (.int s2), .val (.int v0), .unset, .unset, .unset, .unset, .unset, .unset, .unset, .unset, .unset, .unset, .unset, .unset] [(.int (3 : Int32)), (.int (XT.ushr q2 (2 : Int32)))]))
      refine Goes.st (fun t k => XS.iand X0.here hx rfl (hb hby at_64) rfl k) ?_
      show Goes p e below s _ _ _ (s₁.setTop (mkF m 65 #[.val (.int q0), .val (.int q1), .val (.int q2), .val (.int q3), .val (.int (2 : Int32)), .val (.int r), .val (.int rv), .val (.int s0), .val (.int s1), .val (.int s2), .val (.int v0), .unset, .unset, .unset, .unset, .unset, .unset, .unset, .unset, .unset, .unset, .unset, .unset] [(.int ((XT.ushr q2 (2 : Int32)) &&& (3 : Int32)))]))
      refine Goes.st (fun t k => XS.iload X0.here hx rfl (hb hby at_65) rfl k) ?_
      show Goes p e below s _ _ _ (s₁.setTop (mkF m 67 #[.val (.int q0), .val (.int q1), .val (.int q2), .val (.int q3), .val (.int (2 : Int32)), .val (.int r), .val (.int rv), .val (.int s0), .val (.int s1), .val (.int s2), .val (.int v0), .unset, .unset, .unset, .unset, .unset, .unset, .unset, .unset, .unset, .unset, .unset, .unset] [(.int s1), (.int ((XT.ushr q2 (2 : Int32)) &&& (3 : Int32)))]))
      refine Goes.st (fun t k => iremM X0 hx rfl (hb hby at_67) rfl (own_sz0 is1) k) ?_
      show Goes p e below s _ _ _ (s₁.setTop (mkF m 68 #[.val (.int q0), .val (.int q1), .val (.int q2), .val (.int q3), .val (.int (2 : Int32)), .val (.int r), .val (.int rv), .val (.int s0), .val (.int s1), .val (.int s2), .val (.int v0), .unset, .unset, .unset, .unset, .unset, .unset, .unset, .unset, .unset, .unset, .unset, .unset] [(.int (((XT.ushr q2 (2 : Int32)) &&& (3 : Int32)) % s1))]))
      obtain ⟨v1, v1_eq⟩ : ∃ z : Int32, z = (((XT.ushr q2 (2 : Int32)) &&& (3 : Int32)) % s1) := ⟨_, rfl⟩
      rw [← v1_eq]
      show Goes p e below s _ _ _ (s₁.setTop (mkF m 68 #[.val (.int q0), .val (.int q1), .val (.int q2), .val (.int q3), .val (.int (2 : Int32)), .val (.int r), .val (.int rv), .val (.int s0), .val (.int s1), .val (.int s2), .val (.int v0), .unset, .unset, .unset, .unset, .unset, .unset, .unset, .unset, .unset, .unset, .unset, .unset] [(.int v1)]))
      have iv1 : In4 v1 := by rw [v1_eq]; exact own_rem (own_and3 _) is1
      refine Goes.st (fun t k => XS.istore X0.here hx rfl (hb hby at_68) rfl (l' := #[.val (.int q0), .val (.int q1), .val (.int q2), .val (.int q3), .val (.int (2 : Int32)), .val (.int r), .val (.int rv), .val (.int s0), .val (.int s1), .val (.int s2), .val (.int v0), .val (.int v1), .unset, .unset, .unset, .unset, .unset, .unset, .unset, .unset, .unset, .unset, .unset]) rfl k) ?_
      show Goes p e below s _ _ _ (s₁.setTop (mkF m 70 #[.val (.int q0), .val (.int q1), .val (.int q2), .val (.int q3), .val (.int (2 : Int32)), .val (.int r), .val (.int rv), .val (.int s0), .val (.int s1), .val (.int s2), .val (.int v0), .val (.int v1), .unset, .unset, .unset, .unset, .unset, .unset, .unset, .unset, .unset, .unset, .unset] []))
      refine Goes.st (fun t k => XS.iloadN X0.here hx rfl (hb hby at_70) rfl k) ?_
      show Goes p e below s _ _ _ (s₁.setTop (mkF m 71 #[.val (.int q0), .val (.int q1), .val (.int q2), .val (.int q3), .val (.int (2 : Int32)), .val (.int r), .val (.int rv), .val (.int s0), .val (.int s1), .val (.int s2), .val (.int v0), .val (.int v1), .unset, .unset, .unset, .unset, .unset, .unset, .unset, .unset, .unset, .unset, .unset] [(.int q2)]))
      refine Goes.st (fun t k => XS.iconst X0.here hx rfl (hb hby at_71) k) ?_
      show Goes p e below s _ _ _ (s₁.setTop (mkF m 72 #[.val (.int q0), .val (.int q1), .val (.int q2), .val (.int q3), .val (.int (2 : Int32)), .val (.int r), .val (.int rv), .val (.int s0), .val (.int s1), .val (.int s2), .val (.int v0), .val (.int v1), .unset, .unset, .unset, .unset, .unset, .unset, .unset, .unset, .unset, .unset, .unset] [(.int (4 : Int32)), (.int q2)]))
      refine Goes.st (fun t k => XT.iushr X0.here hx rfl (hb hby at_72) rfl k) ?_
      show Goes p e below s _ _ _ (s₁.setTop (mkF m 73 #[.val (.int q0), .val (.int q1), .val (.int q2), .val (.int q3), .val (.int (2 : Int32)), .val (.int r), .val (.int rv), .val (.int s0), .val (.int s1), .val (.int s2), .val (.int v0), .val (.int v1), .unset, .unset, .unset, .unset, .unset, .unset, .unset, .unset, .unset, .unset, .unset] [(.int (XT.ushr q2 (4 : Int32)))]))
      refine Goes.st (fun t k => XS.iconst X0.here hx rfl (hb hby at_73) k) ?_
      show Goes p e below s _ _ _ (s₁.setTop (mkF m 74 #[.val (.int q0), .val (.int q1), .val (.int q2), .val (.int q3), .val (.int (2 : Int32)), .val (.int r), .val (.int rv), .val (.int s0), .val (.int s1), .val (.int s2), .val (.int v0), .val (.int v1), .unset, .unset, .unset, .unset, .unset, .unset, .unset, .unset, .unset, .unset, .unset] [(.int (3 : Int32)), (.int (XT.ushr q2 (4 : Int32)))]))
      refine Goes.st (fun t k => XS.iand X0.here hx rfl (hb hby at_74) rfl k) ?_
      show Goes p e below s _ _ _ (s₁.setTop (mkF m 75 #[.val (.int q0), .val (.int q1), .val (.int q2), .val (.int q3), .val (.int (2 : Int32)), .val (.int r), .val (.int rv), .val (.int s0), .val (.int s1), .val (.int s2), .val (.int v0), .val (.int v1), .unset, .unset, .unset, .unset, .unset, .unset, .unset, .unset, .unset, .unset, .unset] [(.int ((XT.ushr q2 (4 : Int32)) &&& (3 : Int32)))]))
      refine Goes.st (fun t k => XS.iload X0.here hx rfl (hb hby at_75) rfl k) ?_
      show Goes p e below s _ _ _ (s₁.setTop (mkF m 77 #[.val (.int q0), .val (.int q1), .val (.int q2), .val (.int q3), .val (.int (2 : Int32)), .val (.int r), .val (.int rv), .val (.int s0), .val (.int s1), .val (.int s2), .val (.int v0), .val (.int v1), .unset, .unset, .unset, .unset, .unset, .unset, .unset, .unset, .unset, .unset, .unset] [(.int s2), (.int ((XT.ushr q2 (4 : Int32)) &&& (3 : Int32)))]))
      refine Goes.st (fun t k => iremM X0 hx rfl (hb hby at_77) rfl (own_sz0 is2) k) ?_
      show Goes p e below s _ _ _ (s₁.setTop (mkF m 78 #[.val (.int q0), .val (.int q1), .val (.int q2), .val (.int q3), .val (.int (2 : Int32)), .val (.int r), .val (.int rv), .val (.int s0), .val (.int s1), .val (.int s2), .val (.int v0), .val (.int v1), .unset, .unset, .unset, .unset, .unset, .unset, .unset, .unset, .unset, .unset, .unset] [(.int (((XT.ushr q2 (4 : Int32)) &&& (3 : Int32)) % s2))]))
      obtain ⟨v2, v2_eq⟩ : ∃ z : Int32, z = (((XT.ushr q2 (4 : Int32)) &&& (3 : Int32)) % s2) := ⟨_, rfl⟩
      rw [← v2_eq]
      show Goes p e below s _ _ _ (s₁.setTop (mkF m 78 #[.val (.int q0), .val (.int q1), .val (.int q2), .val (.int q3), .val (.int (2 : Int32)), .val (.int r), .val (.int rv), .val (.int s0), .val (.int s1), .val (.int s2), .val (.int v0), .val (.int v1), .unset, .unset, .unset, .unset, .unset, .unset, .unset, .unset, .unset, .unset, .unset] [(.int v2)]))
      have iv2 : In4 v2 := by rw [v2_eq]; exact own_rem (own_and3 _) is2
      refine Goes.st (fun t k => XS.istore X0.here hx rfl (hb hby at_78) rfl (l' := #[.val (.int q0), .val (.int q1), .val (.int q2), .val (.int q3), .val (.int (2 : Int32)), .val (.int r), .val (.int rv), .val (.int s0), .val (.int s1), .val (.int s2), .val (.int v0), .val (.int v1), .val (.int v2), .unset, .unset, .unset, .unset, .unset, .unset, .unset, .unset, .unset, .unset]) rfl k) ?_
      show Goes p e below s _ _ _ (s₁.setTop (mkF m 80 #[.val (.int q0), .val (.int q1), .val (.int q2), .val (.int q3), .val (.int (2 : Int32)), .val (.int r), .val (.int rv), .val (.int s0), .val (.int s1), .val (.int s2), .val (.int v0), .val (.int v1), .val (.int v2), .unset, .unset, .unset, .unset, .unset, .unset, .unset, .unset, .unset, .unset] []))
      refine Goes.st (fun t k => XS.iload X0.here hx rfl (hb hby at_80) rfl k) ?_
      show Goes p e below s _ _ _ (s₁.setTop (mkF m 82 #[.val (.int q0), .val (.int q1), .val (.int q2), .val (.int q3), .val (.int (2 : Int32)), .val (.int r), .val (.int rv), .val (.int s0), .val (.int s1), .val (.int s2), .val (.int v0), .val (.int v1), .val (.int v2), .unset, .unset, .unset, .unset, .unset, .unset, .unset, .unset, .unset, .unset] [(.int r)]))
      refine Goes.st (fun t k => XS.iconst X0.here hx rfl (hb hby at_82) k) ?_
      show Goes p e below s _ _ _ (s₁.setTop (mkF m 83 #[.val (.int q0), .val (.int q1), .val (.int q2), .val (.int q3), .val (.int (2 : Int32)), .val (.int r), .val (.int rv), .val (.int s0), .val (.int s1), .val (.int s2), .val (.int v0), .val (.int v1), .val (.int v2), .unset, .unset, .unset, .unset, .unset, .unset, .unset, .unset, .unset, .unset] [(.int (0 : Int32)), (.int r)]))
      refine Goes.st (fun t k => XS.iload X0.here hx rfl (hb hby at_83) rfl k) ?_
      show Goes p e below s _ _ _ (s₁.setTop (mkF m 85 #[.val (.int q0), .val (.int q1), .val (.int q2), .val (.int q3), .val (.int (2 : Int32)), .val (.int r), .val (.int rv), .val (.int s0), .val (.int s1), .val (.int s2), .val (.int v0), .val (.int v1), .val (.int v2), .unset, .unset, .unset, .unset, .unset, .unset, .unset, .unset, .unset, .unset] [(.int rv), (.int (0 : Int32)), (.int r)]))
      obtain ⟨_, _, ⟨T110, L110, k110, n110⟩, -, X110, ⟨Lc110, hQ110, l110, y110, z110⟩, st110⟩ := Jvm.LawKit.callS X0 hx (y := (⟨"com/example/parley/parley/TableEntryPinLaw", "slot", "(IIZ)I"⟩ : MethodName)) hown (mvT hZ (hw _ (List.mem_of_getElem? (i := 0) rfl))) (mvT hZ (hw _ (List.mem_of_getElem? (i := 1) rfl))) (mvT hZ (hw _ (List.mem_of_getElem? (i := 2) rfl))) (mvT hZ (hw _ (List.mem_of_getElem? (i := 3) rfl))) (by decide) (backOf (W := 0) (rmS l Z a0 hw [] r (0 : Int32) rv h0 n0 Z0 ) hZ (hw _ (List.mem_of_getElem? (i := 3) rfl)) (hw _ (List.mem_of_getElem? (i := 2) rfl)) (by decide) (by decide)) (g := (mkF m 85 #[.val (.int q0), .val (.int q1), .val (.int q2), .val (.int q3), .val (.int (2 : Int32)), .val (.int r), .val (.int rv), .val (.int s0), .val (.int s1), .val (.int s2), .val (.int v0), .val (.int v1), .val (.int v2), .unset, .unset, .unset, .unset, .unset, .unset, .unset, .unset, .unset, .unset] [(.int rv), (.int (0 : Int32)), (.int r)])) rfl (by rw [hml]; rfl) (argsL := [(.int r), (.int (0 : Int32)), (.int rv)]) (rest := []) (lenOf pd__IIZ_I_ea4 rfl) rfl (by show 2 * 0 + _ ≤ _; exact Nat.le_of_eq rfl) (hb hby at_85) (fun _ _ => ⟨rfl, e0, (by decide : 0 + 0 ≤ 24), (by decide : 0 + 0 ≤ 256)⟩)
      dsimp only [Pt.U, Pt.locs, Pt.cells, Pt.slots] at X110 l110 y110 z110 st110 hQ110
      subst l110 y110 z110
      obtain ⟨rfl, N110q, eh110⟩ := hQ110
      have N110 := Fr.app N0 N110q
      refine Goes.st st110 ?_
      show Goes p e below s _ _ _ (T110.setTop (mkF m 88 #[.val (.int q0), .val (.int q1), .val (.int q2), .val (.int q3), .val (.int (2 : Int32)), .val (.int r), .val (.int rv), .val (.int s0), .val (.int s1), .val (.int s2), .val (.int v0), .val (.int v1), .val (.int v2), .unset, .unset, .unset, .unset, .unset, .unset, .unset, .unset, .unset, .unset] [(.int (slF r (0 : Int32) rv))]))
      obtain ⟨p0x, p0x_eq⟩ : ∃ z : Int32, z = (slF r (0 : Int32) rv) := ⟨_, rfl⟩
      rw [← p0x_eq]
      show Goes p e below s _ _ _ (T110.setTop (mkF m 88 #[.val (.int q0), .val (.int q1), .val (.int q2), .val (.int q3), .val (.int (2 : Int32)), .val (.int r), .val (.int rv), .val (.int s0), .val (.int s1), .val (.int s2), .val (.int v0), .val (.int v1), .val (.int v2), .unset, .unset, .unset, .unset, .unset, .unset, .unset, .unset, .unset, .unset] [(.int p0x)]))
      obtain ⟨p0, p0_e⟩ : ∃ z : Int32, z = p0x := ⟨_, rfl⟩
      rw [← p0_e]
      show Goes p e below s _ _ _ (T110.setTop (mkF m 88 #[.val (.int q0), .val (.int q1), .val (.int q2), .val (.int q3), .val (.int (2 : Int32)), .val (.int r), .val (.int rv), .val (.int s0), .val (.int s1), .val (.int s2), .val (.int v0), .val (.int v1), .val (.int v2), .unset, .unset, .unset, .unset, .unset, .unset, .unset, .unset, .unset, .unset] [(.int p0)]))
      refine Goes.st (fun t k => XS.istore X110.here hx rfl (hb hby at_88) rfl (l' := #[.val (.int q0), .val (.int q1), .val (.int q2), .val (.int q3), .val (.int (2 : Int32)), .val (.int r), .val (.int rv), .val (.int s0), .val (.int s1), .val (.int s2), .val (.int v0), .val (.int v1), .val (.int v2), .val (.int p0), .unset, .unset, .unset, .unset, .unset, .unset, .unset, .unset, .unset]) rfl k) ?_
      show Goes p e below s _ _ _ (T110.setTop (mkF m 90 #[.val (.int q0), .val (.int q1), .val (.int q2), .val (.int q3), .val (.int (2 : Int32)), .val (.int r), .val (.int rv), .val (.int s0), .val (.int s1), .val (.int s2), .val (.int v0), .val (.int v1), .val (.int v2), .val (.int p0), .unset, .unset, .unset, .unset, .unset, .unset, .unset, .unset, .unset] []))
      refine Goes.st (fun t k => XS.iload X110.here hx rfl (hb hby at_90) rfl k) ?_
      show Goes p e below s _ _ _ (T110.setTop (mkF m 92 #[.val (.int q0), .val (.int q1), .val (.int q2), .val (.int q3), .val (.int (2 : Int32)), .val (.int r), .val (.int rv), .val (.int s0), .val (.int s1), .val (.int s2), .val (.int v0), .val (.int v1), .val (.int v2), .val (.int p0), .unset, .unset, .unset, .unset, .unset, .unset, .unset, .unset, .unset] [(.int r)]))
      refine Goes.st (fun t k => XS.iconst X110.here hx rfl (hb hby at_92) k) ?_
      show Goes p e below s _ _ _ (T110.setTop (mkF m 93 #[.val (.int q0), .val (.int q1), .val (.int q2), .val (.int q3), .val (.int (2 : Int32)), .val (.int r), .val (.int rv), .val (.int s0), .val (.int s1), .val (.int s2), .val (.int v0), .val (.int v1), .val (.int v2), .val (.int p0), .unset, .unset, .unset, .unset, .unset, .unset, .unset, .unset, .unset] [(.int (1 : Int32)), (.int r)]))
      refine Goes.st (fun t k => XS.iload X110.here hx rfl (hb hby at_93) rfl k) ?_
      show Goes p e below s _ _ _ (T110.setTop (mkF m 95 #[.val (.int q0), .val (.int q1), .val (.int q2), .val (.int q3), .val (.int (2 : Int32)), .val (.int r), .val (.int rv), .val (.int s0), .val (.int s1), .val (.int s2), .val (.int v0), .val (.int v1), .val (.int v2), .val (.int p0), .unset, .unset, .unset, .unset, .unset, .unset, .unset, .unset, .unset] [(.int rv), (.int (1 : Int32)), (.int r)]))
      obtain ⟨_, _, ⟨T111, L111, k111, n111⟩, -, X111, ⟨Lc111, hQ111, l111, y111, z111⟩, st111⟩ := Jvm.LawKit.callS X110 hx (y := (⟨"com/example/parley/parley/TableEntryPinLaw", "slot", "(IIZ)I"⟩ : MethodName)) hown (mvT hZ (hw _ (List.mem_of_getElem? (i := 0) rfl))) (mvT hZ (hw _ (List.mem_of_getElem? (i := 1) rfl))) (mvT hZ (hw _ (List.mem_of_getElem? (i := 2) rfl))) (mvT hZ (hw _ (List.mem_of_getElem? (i := 3) rfl))) (by decide) (backOf (W := 0) (rmS l Z a0 hw [] r (1 : Int32) rv h0 n0 Z0 ) hZ (hw _ (List.mem_of_getElem? (i := 3) rfl)) (hw _ (List.mem_of_getElem? (i := 2) rfl)) (by decide) (by decide)) (g := (mkF m 95 #[.val (.int q0), .val (.int q1), .val (.int q2), .val (.int q3), .val (.int (2 : Int32)), .val (.int r), .val (.int rv), .val (.int s0), .val (.int s1), .val (.int s2), .val (.int v0), .val (.int v1), .val (.int v2), .val (.int p0), .unset, .unset, .unset, .unset, .unset, .unset, .unset, .unset, .unset] [(.int rv), (.int (1 : Int32)), (.int r)])) rfl (by rw [hml]; rfl) (argsL := [(.int r), (.int (1 : Int32)), (.int rv)]) (rest := []) (lenOf pd__IIZ_I_ea4 rfl) rfl (by show 2 * 0 + _ ≤ _; exact Nat.le_of_eq rfl) (hb hby at_95) (fun _ _ => ⟨rfl, eh110, (by decide : 0 + 0 ≤ 24), (by decide : 0 + 0 ≤ 256)⟩)
      dsimp only [Pt.U, Pt.locs, Pt.cells, Pt.slots] at X111 l111 y111 z111 st111 hQ111
      subst l111 y111 z111
      obtain ⟨rfl, N111q, eh111⟩ := hQ111
      have N111 := Fr.app N110 N111q
      refine Goes.st st111 ?_
      show Goes p e below s _ _ _ (T111.setTop (mkF m 98 #[.val (.int q0), .val (.int q1), .val (.int q2), .val (.int q3), .val (.int (2 : Int32)), .val (.int r), .val (.int rv), .val (.int s0), .val (.int s1), .val (.int s2), .val (.int v0), .val (.int v1), .val (.int v2), .val (.int p0), .unset, .unset, .unset, .unset, .unset, .unset, .unset, .unset, .unset] [(.int (slF r (1 : Int32) rv))]))
      obtain ⟨p1x, p1x_eq⟩ : ∃ z : Int32, z = (slF r (1 : Int32) rv) := ⟨_, rfl⟩
      rw [← p1x_eq]
      show Goes p e below s _ _ _ (T111.setTop (mkF m 98 #[.val (.int q0), .val (.int q1), .val (.int q2), .val (.int q3), .val (.int (2 : Int32)), .val (.int r), .val (.int rv), .val (.int s0), .val (.int s1), .val (.int s2), .val (.int v0), .val (.int v1), .val (.int v2), .val (.int p0), .unset, .unset, .unset, .unset, .unset, .unset, .unset, .unset, .unset] [(.int p1x)]))
      obtain ⟨p1, p1_e⟩ : ∃ z : Int32, z = p1x := ⟨_, rfl⟩
      rw [← p1_e]
      show Goes p e below s _ _ _ (T111.setTop (mkF m 98 #[.val (.int q0), .val (.int q1), .val (.int q2), .val (.int q3), .val (.int (2 : Int32)), .val (.int r), .val (.int rv), .val (.int s0), .val (.int s1), .val (.int s2), .val (.int v0), .val (.int v1), .val (.int v2), .val (.int p0), .unset, .unset, .unset, .unset, .unset, .unset, .unset, .unset, .unset] [(.int p1)]))
      refine Goes.st (fun t k => XS.istore X111.here hx rfl (hb hby at_98) rfl (l' := #[.val (.int q0), .val (.int q1), .val (.int q2), .val (.int q3), .val (.int (2 : Int32)), .val (.int r), .val (.int rv), .val (.int s0), .val (.int s1), .val (.int s2), .val (.int v0), .val (.int v1), .val (.int v2), .val (.int p0), .val (.int p1), .unset, .unset, .unset, .unset, .unset, .unset, .unset, .unset]) rfl k) ?_
      show Goes p e below s _ _ _ (T111.setTop (mkF m 100 #[.val (.int q0), .val (.int q1), .val (.int q2), .val (.int q3), .val (.int (2 : Int32)), .val (.int r), .val (.int rv), .val (.int s0), .val (.int s1), .val (.int s2), .val (.int v0), .val (.int v1), .val (.int v2), .val (.int p0), .val (.int p1), .unset, .unset, .unset, .unset, .unset, .unset, .unset, .unset] []))
      refine Goes.st (fun t k => XS.iload X111.here hx rfl (hb hby at_100) rfl k) ?_
      show Goes p e below s _ _ _ (T111.setTop (mkF m 102 #[.val (.int q0), .val (.int q1), .val (.int q2), .val (.int q3), .val (.int (2 : Int32)), .val (.int r), .val (.int rv), .val (.int s0), .val (.int s1), .val (.int s2), .val (.int v0), .val (.int v1), .val (.int v2), .val (.int p0), .val (.int p1), .unset, .unset, .unset, .unset, .unset, .unset, .unset, .unset] [(.int r)]))
      refine Goes.st (fun t k => XS.iconst X111.here hx rfl (hb hby at_102) k) ?_
      show Goes p e below s _ _ _ (T111.setTop (mkF m 103 #[.val (.int q0), .val (.int q1), .val (.int q2), .val (.int q3), .val (.int (2 : Int32)), .val (.int r), .val (.int rv), .val (.int s0), .val (.int s1), .val (.int s2), .val (.int v0), .val (.int v1), .val (.int v2), .val (.int p0), .val (.int p1), .unset, .unset, .unset, .unset, .unset, .unset, .unset, .unset] [(.int (2 : Int32)), (.int r)]))
      refine Goes.st (fun t k => XS.iload X111.here hx rfl (hb hby at_103) rfl k) ?_
      show Goes p e below s _ _ _ (T111.setTop (mkF m 105 #[.val (.int q0), .val (.int q1), .val (.int q2), .val (.int q3), .val (.int (2 : Int32)), .val (.int r), .val (.int rv), .val (.int s0), .val (.int s1), .val (.int s2), .val (.int v0), .val (.int v1), .val (.int v2), .val (.int p0), .val (.int p1), .unset, .unset, .unset, .unset, .unset, .unset, .unset, .unset] [(.int rv), (.int (2 : Int32)), (.int r)]))
      obtain ⟨_, _, ⟨T112, L112, k112, n112⟩, -, X112, ⟨Lc112, hQ112, l112, y112, z112⟩, st112⟩ := Jvm.LawKit.callS X111 hx (y := (⟨"com/example/parley/parley/TableEntryPinLaw", "slot", "(IIZ)I"⟩ : MethodName)) hown (mvT hZ (hw _ (List.mem_of_getElem? (i := 0) rfl))) (mvT hZ (hw _ (List.mem_of_getElem? (i := 1) rfl))) (mvT hZ (hw _ (List.mem_of_getElem? (i := 2) rfl))) (mvT hZ (hw _ (List.mem_of_getElem? (i := 3) rfl))) (by decide) (backOf (W := 0) (rmS l Z a0 hw [] r (2 : Int32) rv h0 n0 Z0 ) hZ (hw _ (List.mem_of_getElem? (i := 3) rfl)) (hw _ (List.mem_of_getElem? (i := 2) rfl)) (by decide) (by decide)) (g := (mkF m 105 #[.val (.int q0), .val (.int q1), .val (.int q2), .val (.int q3), .val (.int (2 : Int32)), .val (.int r), .val (.int rv), .val (.int s0), .val (.int s1), .val (.int s2), .val (.int v0), .val (.int v1), .val (.int v2), .val (.int p0), .val (.int p1), .unset, .unset, .unset, .unset, .unset, .unset, .unset, .unset] [(.int rv), (.int (2 : Int32)), (.int r)])) rfl (by rw [hml]; rfl) (argsL := [(.int r), (.int (2 : Int32)), (.int rv)]) (rest := []) (lenOf pd__IIZ_I_ea4 rfl) rfl (by show 2 * 0 + _ ≤ _; exact Nat.le_of_eq rfl) (hb hby at_105) (fun _ _ => ⟨rfl, eh111, (by decide : 0 + 0 ≤ 24), (by decide : 0 + 0 ≤ 256)⟩)
      dsimp only [Pt.U, Pt.locs, Pt.cells, Pt.slots] at X112 l112 y112 z112 st112 hQ112
      subst l112 y112 z112
      obtain ⟨rfl, N112q, eh112⟩ := hQ112
      have N112 := Fr.app N111 N112q
      refine Goes.st st112 ?_
      show Goes p e below s _ _ _ (T112.setTop (mkF m 108 #[.val (.int q0), .val (.int q1), .val (.int q2), .val (.int q3), .val (.int (2 : Int32)), .val (.int r), .val (.int rv), .val (.int s0), .val (.int s1), .val (.int s2), .val (.int v0), .val (.int v1), .val (.int v2), .val (.int p0), .val (.int p1), .unset, .unset, .unset, .unset, .unset, .unset, .unset, .unset] [(.int (slF r (2 : Int32) rv))]))
      obtain ⟨p2x, p2x_eq⟩ : ∃ z : Int32, z = (slF r (2 : Int32) rv) := ⟨_, rfl⟩
      rw [← p2x_eq]
      show Goes p e below s _ _ _ (T112.setTop (mkF m 108 #[.val (.int q0), .val (.int q1), .val (.int q2), .val (.int q3), .val (.int (2 : Int32)), .val (.int r), .val (.int rv), .val (.int s0), .val (.int s1), .val (.int s2), .val (.int v0), .val (.int v1), .val (.int v2), .val (.int p0), .val (.int p1), .unset, .unset, .unset, .unset, .unset, .unset, .unset, .unset] [(.int p2x)]))
      obtain ⟨p2, p2_e⟩ : ∃ z : Int32, z = p2x := ⟨_, rfl⟩
      rw [← p2_e]
      show Goes p e below s _ _ _ (T112.setTop (mkF m 108 #[.val (.int q0), .val (.int q1), .val (.int q2), .val (.int q3), .val (.int (2 : Int32)), .val (.int r), .val (.int rv), .val (.int s0), .val (.int s1), .val (.int s2), .val (.int v0), .val (.int v1), .val (.int v2), .val (.int p0), .val (.int p1), .unset, .unset, .unset, .unset, .unset, .unset, .unset, .unset] [(.int p2)]))
      obtain ⟨ip0, ip1, ip2, hne01, hne02, hne12⟩ := own_sl ir rv
      rw [← p0x_eq, ← p0_e] at ip0 hne01 hne02
      rw [← p1x_eq, ← p1_e] at ip1 hne01 hne12
      rw [← p2x_eq, ← p2_e] at ip2 hne02 hne12
      refine Goes.st (fun t k => XS.istore X112.here hx rfl (hb hby at_108) rfl (l' := #[.val (.int q0), .val (.int q1), .val (.int q2), .val (.int q3), .val (.int (2 : Int32)), .val (.int r), .val (.int rv), .val (.int s0), .val (.int s1), .val (.int s2), .val (.int v0), .val (.int v1), .val (.int v2), .val (.int p0), .val (.int p1), .val (.int p2), .unset, .unset, .unset, .unset, .unset, .unset, .unset]) rfl k) ?_
      show Goes p e below s _ _ _ (T112.setTop (mkF m 110 #[.val (.int q0), .val (.int q1), .val (.int q2), .val (.int q3), .val (.int (2 : Int32)), .val (.int r), .val (.int rv), .val (.int s0), .val (.int s1), .val (.int s2), .val (.int v0), .val (.int v1), .val (.int v2), .val (.int p0), .val (.int p1), .val (.int p2), .unset, .unset, .unset, .unset, .unset, .unset, .unset] []))
      refine Goes.st (fun t k => XS.iconst X112.here hx rfl (hb hby at_110) k) ?_
      show Goes p e below s _ _ _ (T112.setTop (mkF m 111 #[.val (.int q0), .val (.int q1), .val (.int q2), .val (.int q3), .val (.int (2 : Int32)), .val (.int r), .val (.int rv), .val (.int s0), .val (.int s1), .val (.int s2), .val (.int v0), .val (.int v1), .val (.int v2), .val (.int p0), .val (.int p1), .val (.int p2), .unset, .unset, .unset, .unset, .unset, .unset, .unset] [(.int (4 : Int32))]))
      obtain ⟨T113, h113, cA113, X113, e113, E113, A113, st113⟩ := newP X112 hx hZ (hw _ (List.mem_of_getElem? (i := 4) rfl)) eh112 (g := (mkF m 111 #[.val (.int q0), .val (.int q1), .val (.int q2), .val (.int q3), .val (.int (2 : Int32)), .val (.int r), .val (.int rv), .val (.int s0), .val (.int s1), .val (.int s2), .val (.int v0), .val (.int v1), .val (.int v2), .val (.int p0), .val (.int p1), .val (.int p2), .unset, .unset, .unset, .unset, .unset, .unset, .unset] [(.int (4 : Int32))])) rfl (hb hby at_111) rfl (by decide) (cap := 4) (by decide) (by decide) (by decide) (by decide)
      obtain ⟨b113, g113⟩ : ∃ z, z = h0.size := ⟨_, rfl⟩
      rw [← g113] at A113 st113
      have lo_b113 : n0 ≤ b113 := by have := Z0; omega
      have V113 : Arv Z h113 b113 cA113 .int (4 : Int32) [(.int (0 : Int32)), (.int (0 : Int32)), (.int (0 : Int32)), (.int (0 : Int32))] (.int (0 : Int32)) := (Arv.new A113 (by decide)).pad (pad_rep [] _ 4)
      refine Goes.st st113 ?_
      have Z113 : n0 ≤ h113.size := Nat.le_trans Z0 E113.1
      show Goes p e below s _ _ _ (T113.setTop (mkF m 113 #[.val (.int q0), .val (.int q1), .val (.int q2), .val (.int q3), .val (.int (2 : Int32)), .val (.int r), .val (.int rv), .val (.int s0), .val (.int s1), .val (.int s2), .val (.int v0), .val (.int v1), .val (.int v2), .val (.int p0), .val (.int p1), .val (.int p2), .unset, .unset, .unset, .unset, .unset, .unset, .unset] [(.ref b113)]))
      refine Goes.st (fun t k => XS.dup X113.here hx rfl (hb hby at_113) rfl rfl k) ?_
      show Goes p e below s _ _ _ (T113.setTop (mkF m 114 #[.val (.int q0), .val (.int q1), .val (.int q2), .val (.int q3), .val (.int (2 : Int32)), .val (.int r), .val (.int rv), .val (.int s0), .val (.int s1), .val (.int s2), .val (.int v0), .val (.int v1), .val (.int v2), .val (.int p0), .val (.int p1), .val (.int p2), .unset, .unset, .unset, .unset, .unset, .unset, .unset] [(.ref b113), (.ref b113)]))
      refine Goes.st (fun t k => XS.iconst X113.here hx rfl (hb hby at_114) k) ?_
      show Goes p e below s _ _ _ (T113.setTop (mkF m 115 #[.val (.int q0), .val (.int q1), .val (.int q2), .val (.int q3), .val (.int (2 : Int32)), .val (.int r), .val (.int rv), .val (.int s0), .val (.int s1), .val (.int s2), .val (.int v0), .val (.int v1), .val (.int v2), .val (.int p0), .val (.int p1), .val (.int p2), .unset, .unset, .unset, .unset, .unset, .unset, .unset] [(.int (0 : Int32)), (.ref b113), (.ref b113)]))
      refine Goes.st (fun t k => XS.iloadN X113.here hx rfl (hb hby at_115) rfl k) ?_
      show Goes p e below s _ _ _ (T113.setTop (mkF m 116 #[.val (.int q0), .val (.int q1), .val (.int q2), .val (.int q3), .val (.int (2 : Int32)), .val (.int r), .val (.int rv), .val (.int s0), .val (.int s1), .val (.int s2), .val (.int v0), .val (.int v1), .val (.int v2), .val (.int p0), .val (.int p1), .val (.int p2), .unset, .unset, .unset, .unset, .unset, .unset, .unset] [(.int q3), (.int (0 : Int32)), (.ref b113), (.ref b113)]))
      obtain ⟨cl115, Ar115, qk115, Sz115, qz115, Ha115, Gf115⟩ := id V113
      obtain ⟨T115, h115, X115, e115, W115, st115⟩ := stI X113 hx hZ e113 Ar115 (inb_of Sz115 ⟨by decide, by decide⟩) (g := (mkF m 116 #[.val (.int q0), .val (.int q1), .val (.int q2), .val (.int q3), .val (.int (2 : Int32)), .val (.int r), .val (.int rv), .val (.int s0), .val (.int s1), .val (.int s2), .val (.int v0), .val (.int v1), .val (.int v2), .val (.int p0), .val (.int p1), .val (.int p2), .unset, .unset, .unset, .unset, .unset, .unset, .unset] [(.int q3), (.int (0 : Int32)), (.ref b113), (.ref b113)])) rfl rfl (hb hby at_116)
      have N115 := Fr.snoc X115 N112 lo_b113
      have V115 : Arv Z h115 b113 cA113 .int (4 : Int32) [(.int q3), (.int (0 : Int32)), (.int (0 : Int32)), (.int (0 : Int32))] (.int (0 : Int32)) := Arv.set Ar115 qk115 Sz115 qz115 Ha115 Gf115 rfl W115 0 (by decide) (by simp)
      refine Goes.st st115 ?_
      have Z115 : n0 ≤ h115.size := by have := W115.size; have := Z113; omega
      show Goes p e below s _ _ _ (T115.setTop (mkF m 117 #[.val (.int q0), .val (.int q1), .val (.int q2), .val (.int q3), .val (.int (2 : Int32)), .val (.int r), .val (.int rv), .val (.int s0), .val (.int s1), .val (.int s2), .val (.int v0), .val (.int v1), .val (.int v2), .val (.int p0), .val (.int p1), .val (.int p2), .unset, .unset, .unset, .unset, .unset, .unset, .unset] [(.ref b113)]))
      refine Goes.st (fun t k => XS.dup X115.here hx rfl (hb hby at_117) rfl rfl k) ?_
      show Goes p e below s _ _ _ (T115.setTop (mkF m 118 #[.val (.int q0), .val (.int q1), .val (.int q2), .val (.int q3), .val (.int (2 : Int32)), .val (.int r), .val (.int rv), .val (.int s0), .val (.int s1), .val (.int s2), .val (.int v0), .val (.int v1), .val (.int v2), .val (.int p0), .val (.int p1), .val (.int p2), .unset, .unset, .unset, .unset, .unset, .unset, .unset] [(.ref b113), (.ref b113)]))
      refine Goes.st (fun t k => XS.iconst X115.here hx rfl (hb hby at_118) k) ?_
      show Goes p e below s _ _ _ (T115.setTop (mkF m 119 #[.val (.int q0), .val (.int q1), .val (.int q2), .val (.int q3), .val (.int (2 : Int32)), .val (.int r), .val (.int rv), .val (.int s0), .val (.int s1), .val (.int s2), .val (.int v0), .val (.int v1), .val (.int v2), .val (.int p0), .val (.int p1), .val (.int p2), .unset, .unset, .unset, .unset, .unset, .unset, .unset] [(.int (1 : Int32)), (.ref b113), (.ref b113)]))
      refine Goes.st (fun t k => XS.iloadN X115.here hx rfl (hb hby at_119) rfl k) ?_
      show Goes p e below s _ _ _ (T115.setTop (mkF m 120 #[.val (.int q0), .val (.int q1), .val (.int q2), .val (.int q3), .val (.int (2 : Int32)), .val (.int r), .val (.int rv), .val (.int s0), .val (.int s1), .val (.int s2), .val (.int v0), .val (.int v1), .val (.int v2), .val (.int p0), .val (.int p1), .val (.int p2), .unset, .unset, .unset, .unset, .unset, .unset, .unset] [(.int q3), (.int (1 : Int32)), (.ref b113), (.ref b113)]))
      obtain ⟨cl117, Ar117, qk117, Sz117, qz117, Ha117, Gf117⟩ := id V115
      obtain ⟨T117, h117, X117, e117, W117, st117⟩ := stI X115 hx hZ e115 Ar117 (inb_of Sz117 ⟨by decide, by decide⟩) (g := (mkF m 120 #[.val (.int q0), .val (.int q1), .val (.int q2), .val (.int q3), .val (.int (2 : Int32)), .val (.int r), .val (.int rv), .val (.int s0), .val (.int s1), .val (.int s2), .val (.int v0), .val (.int v1), .val (.int v2), .val (.int p0), .val (.int p1), .val (.int p2), .unset, .unset, .unset, .unset, .unset, .unset, .unset] [(.int q3), (.int (1 : Int32)), (.ref b113), (.ref b113)])) rfl rfl (hb hby at_120)
      have N117 := Fr.snoc X117 N115 lo_b113
      have V117 : Arv Z h117 b113 cA113 .int (4 : Int32) [(.int q3), (.int q3), (.int (0 : Int32)), (.int (0 : Int32))] (.int (0 : Int32)) := Arv.set Ar117 qk117 Sz117 qz117 Ha117 Gf117 rfl W117 1 (by decide) (by simp)
      refine Goes.st st117 ?_
      have Z117 : n0 ≤ h117.size := by have := W117.size; have := Z115; omega
      show Goes p e below s _ _ _ (T117.setTop (mkF m 121 #[.val (.int q0), .val (.int q1), .val (.int q2), .val (.int q3), .val (.int (2 : Int32)), .val (.int r), .val (.int rv), .val (.int s0), .val (.int s1), .val (.int s2), .val (.int v0), .val (.int v1), .val (.int v2), .val (.int p0), .val (.int p1), .val (.int p2), .unset, .unset, .unset, .unset, .unset, .unset, .unset] [(.ref b113)]))
      refine Goes.st (fun t k => XS.dup X117.here hx rfl (hb hby at_121) rfl rfl k) ?_
      show Goes p e below s _ _ _ (T117.setTop (mkF m 122 #[.val (.int q0), .val (.int q1), .val (.int q2), .val (.int q3), .val (.int (2 : Int32)), .val (.int r), .val (.int rv), .val (.int s0), .val (.int s1), .val (.int s2), .val (.int v0), .val (.int v1), .val (.int v2), .val (.int p0), .val (.int p1), .val (.int p2), .unset, .unset, .unset, .unset, .unset, .unset, .unset] [(.ref b113), (.ref b113)]))
      refine Goes.st (fun t k => XS.iconst X117.here hx rfl (hb hby at_122) k) ?_
      show Goes p e below s _ _ _ (T117.setTop (mkF m 123 #[.val (.int q0), .val (.int q1), .val (.int q2), .val (.int q3), .val (.int (2 : Int32)), .val (.int r), .val (.int rv), .val (.int s0), .val (.int s1), .val (.int s2), .val (.int v0), .val (.int v1), .val (.int v2), .val (.int p0), .val (.int p1), .val (.int p2), .unset, .unset, .unset, .unset, .unset, .unset, .unset] [(.int (2 : Int32)), (.ref b113), (.ref b113)]))
      refine Goes.st (fun t k => XS.iloadN X117.here hx rfl (hb hby at_123) rfl k) ?_
      show Goes p e below s _ _ _ (T117.setTop (mkF m 124 #[.val (.int q0), .val (.int q1), .val (.int q2), .val (.int q3), .val (.int (2 : Int32)), .val (.int r), .val (.int rv), .val (.int s0), .val (.int s1), .val (.int s2), .val (.int v0), .val (.int v1), .val (.int v2), .val (.int p0), .val (.int p1), .val (.int p2), .unset, .unset, .unset, .unset, .unset, .unset, .unset] [(.int q3), (.int (2 : Int32)), (.ref b113), (.ref b113)]))
      obtain ⟨cl119, Ar119, qk119, Sz119, qz119, Ha119, Gf119⟩ := id V117
      obtain ⟨T119, h119, X119, e119, W119, st119⟩ := stI X117 hx hZ e117 Ar119 (inb_of Sz119 ⟨by decide, by decide⟩) (g := (mkF m 124 #[.val (.int q0), .val (.int q1), .val (.int q2), .val (.int q3), .val (.int (2 : Int32)), .val (.int r), .val (.int rv), .val (.int s0), .val (.int s1), .val (.int s2), .val (.int v0), .val (.int v1), .val (.int v2), .val (.int p0), .val (.int p1), .val (.int p2), .unset, .unset, .unset, .unset, .unset, .unset, .unset] [(.int q3), (.int (2 : Int32)), (.ref b113), (.ref b113)])) rfl rfl (hb hby at_124)
      have N119 := Fr.snoc X119 N117 lo_b113
      have V119 : Arv Z h119 b113 cA113 .int (4 : Int32) [(.int q3), (.int q3), (.int q3), (.int (0 : Int32))] (.int (0 : Int32)) := Arv.set Ar119 qk119 Sz119 qz119 Ha119 Gf119 rfl W119 2 (by decide) (by simp)
      refine Goes.st st119 ?_
      have Z119 : n0 ≤ h119.size := by have := W119.size; have := Z117; omega
      show Goes p e below s _ _ _ (T119.setTop (mkF m 125 #[.val (.int q0), .val (.int q1), .val (.int q2), .val (.int q3), .val (.int (2 : Int32)), .val (.int r), .val (.int rv), .val (.int s0), .val (.int s1), .val (.int s2), .val (.int v0), .val (.int v1), .val (.int v2), .val (.int p0), .val (.int p1), .val (.int p2), .unset, .unset, .unset, .unset, .unset, .unset, .unset] [(.ref b113)]))
      refine Goes.st (fun t k => XS.dup X119.here hx rfl (hb hby at_125) rfl rfl k) ?_
      show Goes p e below s _ _ _ (T119.setTop (mkF m 126 #[.val (.int q0), .val (.int q1), .val (.int q2), .val (.int q3), .val (.int (2 : Int32)), .val (.int r), .val (.int rv), .val (.int s0), .val (.int s1), .val (.int s2), .val (.int v0), .val (.int v1), .val (.int v2), .val (.int p0), .val (.int p1), .val (.int p2), .unset, .unset, .unset, .unset, .unset, .unset, .unset] [(.ref b113), (.ref b113)]))
      refine Goes.st (fun t k => XS.iconst X119.here hx rfl (hb hby at_126) k) ?_
      show Goes p e below s _ _ _ (T119.setTop (mkF m 127 #[.val (.int q0), .val (.int q1), .val (.int q2), .val (.int q3), .val (.int (2 : Int32)), .val (.int r), .val (.int rv), .val (.int s0), .val (.int s1), .val (.int s2), .val (.int v0), .val (.int v1), .val (.int v2), .val (.int p0), .val (.int p1), .val (.int p2), .unset, .unset, .unset, .unset, .unset, .unset, .unset] [(.int (3 : Int32)), (.ref b113), (.ref b113)]))
      refine Goes.st (fun t k => XS.iloadN X119.here hx rfl (hb hby at_127) rfl k) ?_
      show Goes p e below s _ _ _ (T119.setTop (mkF m 128 #[.val (.int q0), .val (.int q1), .val (.int q2), .val (.int q3), .val (.int (2 : Int32)), .val (.int r), .val (.int rv), .val (.int s0), .val (.int s1), .val (.int s2), .val (.int v0), .val (.int v1), .val (.int v2), .val (.int p0), .val (.int p1), .val (.int p2), .unset, .unset, .unset, .unset, .unset, .unset, .unset] [(.int q3), (.int (3 : Int32)), (.ref b113), (.ref b113)]))
      obtain ⟨cl121, Ar121, qk121, Sz121, qz121, Ha121, Gf121⟩ := id V119
      obtain ⟨T121, h121, X121, e121, W121, st121⟩ := stI X119 hx hZ e119 Ar121 (inb_of Sz121 ⟨by decide, by decide⟩) (g := (mkF m 128 #[.val (.int q0), .val (.int q1), .val (.int q2), .val (.int q3), .val (.int (2 : Int32)), .val (.int r), .val (.int rv), .val (.int s0), .val (.int s1), .val (.int s2), .val (.int v0), .val (.int v1), .val (.int v2), .val (.int p0), .val (.int p1), .val (.int p2), .unset, .unset, .unset, .unset, .unset, .unset, .unset] [(.int q3), (.int (3 : Int32)), (.ref b113), (.ref b113)])) rfl rfl (hb hby at_128)
      have N121 := Fr.snoc X121 N119 lo_b113
      have V121 : Arv Z h121 b113 cA113 .int (4 : Int32) [(.int q3), (.int q3), (.int q3), (.int q3)] (.int (0 : Int32)) := Arv.set Ar121 qk121 Sz121 qz121 Ha121 Gf121 rfl W121 3 (by decide) (by simp)
      refine Goes.st st121 ?_
      have Z121 : n0 ≤ h121.size := by have := W121.size; have := Z119; omega
      show Goes p e below s _ _ _ (T121.setTop (mkF m 129 #[.val (.int q0), .val (.int q1), .val (.int q2), .val (.int q3), .val (.int (2 : Int32)), .val (.int r), .val (.int rv), .val (.int s0), .val (.int s1), .val (.int s2), .val (.int v0), .val (.int v1), .val (.int v2), .val (.int p0), .val (.int p1), .val (.int p2), .unset, .unset, .unset, .unset, .unset, .unset, .unset] [(.ref b113)]))
      refine Goes.st (fun t k => XS.astore X121.here hx rfl (hb hby at_129) rfl rfl (l' := #[.val (.int q0), .val (.int q1), .val (.int q2), .val (.int q3), .val (.int (2 : Int32)), .val (.int r), .val (.int rv), .val (.int s0), .val (.int s1), .val (.int s2), .val (.int v0), .val (.int v1), .val (.int v2), .val (.int p0), .val (.int p1), .val (.int p2), .val (.ref b113), .unset, .unset, .unset, .unset, .unset, .unset]) rfl k) ?_
      show Goes p e below s _ _ _ (T121.setTop (mkF m 131 #[.val (.int q0), .val (.int q1), .val (.int q2), .val (.int q3), .val (.int (2 : Int32)), .val (.int r), .val (.int rv), .val (.int s0), .val (.int s1), .val (.int s2), .val (.int v0), .val (.int v1), .val (.int v2), .val (.int p0), .val (.int p1), .val (.int p2), .val (.ref b113), .unset, .unset, .unset, .unset, .unset, .unset] []))
      refine Goes.st (fun t k => XS.iload X121.here hx rfl (hb hby at_131) rfl k) ?_
      show Goes p e below s _ _ _ (T121.setTop (mkF m 133 #[.val (.int q0), .val (.int q1), .val (.int q2), .val (.int q3), .val (.int (2 : Int32)), .val (.int r), .val (.int rv), .val (.int s0), .val (.int s1), .val (.int s2), .val (.int v0), .val (.int v1), .val (.int v2), .val (.int p0), .val (.int p1), .val (.int p2), .val (.ref b113), .unset, .unset, .unset, .unset, .unset, .unset] [(.int (2 : Int32))]))
      refine Goes.st (fun t k => XS.iconst X121.here hx rfl (hb hby at_133) k) ?_
      show Goes p e below s _ _ _ (T121.setTop (mkF m 134 #[.val (.int q0), .val (.int q1), .val (.int q2), .val (.int q3), .val (.int (2 : Int32)), .val (.int r), .val (.int rv), .val (.int s0), .val (.int s1), .val (.int s2), .val (.int v0), .val (.int v1), .val (.int v2), .val (.int p0), .val (.int p1), .val (.int p2), .val (.ref b113), .unset, .unset, .unset, .unset, .unset, .unset] [(.int (1 : Int32)), (.int (2 : Int32))]))
      refine Goes.st (fun t k => XS.icmpNo X121.here hx rfl (hb hby at_134) rfl (by decide) k) ?_
      show Goes p e below s _ _ _ (T121.setTop (mkF m 137 #[.val (.int q0), .val (.int q1), .val (.int q2), .val (.int q3), .val (.int (2 : Int32)), .val (.int r), .val (.int rv), .val (.int s0), .val (.int s1), .val (.int s2), .val (.int v0), .val (.int v1), .val (.int v2), .val (.int p0), .val (.int p1), .val (.int p2), .val (.ref b113), .unset, .unset, .unset, .unset, .unset, .unset] []))
      refine Goes.st (fun t k => XS.aload X121.here hx rfl (hb hby at_137) rfl rfl k) ?_
      show Goes p e below s _ _ _ (T121.setTop (mkF m 139 #[.val (.int q0), .val (.int q1), .val (.int q2), .val (.int q3), .val (.int (2 : Int32)), .val (.int r), .val (.int rv), .val (.int s0), .val (.int s1), .val (.int s2), .val (.int v0), .val (.int v1), .val (.int v2), .val (.int p0), .val (.int p1), .val (.int p2), .val (.ref b113), .unset, .unset, .unset, .unset, .unset, .unset] [(.ref b113)]))
      refine Goes.st (fun t k => XS.iload X121.here hx rfl (hb hby at_139) rfl k) ?_
      show Goes p e below s _ _ _ (T121.setTop (mkF m 141 #[.val (.int q0), .val (.int q1), .val (.int q2), .val (.int q3), .val (.int (2 : Int32)), .val (.int r), .val (.int rv), .val (.int s0), .val (.int s1), .val (.int s2), .val (.int v0), .val (.int v1), .val (.int v2), .val (.int p0), .val (.int p1), .val (.int p2), .val (.ref b113), .unset, .unset, .unset, .unset, .unset, .unset] [(.int p0), (.ref b113)]))
      refine Goes.st (fun t k => XS.iload X121.here hx rfl (hb hby at_141) rfl k) ?_
      show Goes p e below s _ _ _ (T121.setTop (mkF m 143 #[.val (.int q0), .val (.int q1), .val (.int q2), .val (.int q3), .val (.int (2 : Int32)), .val (.int r), .val (.int rv), .val (.int s0), .val (.int s1), .val (.int s2), .val (.int v0), .val (.int v1), .val (.int v2), .val (.int p0), .val (.int p1), .val (.int p2), .val (.ref b113), .unset, .unset, .unset, .unset, .unset, .unset] [(.int v0), (.int p0), (.ref b113)]))
      obtain ⟨cl123, Ar123, qk123, Sz123, qz123, Ha123, Gf123⟩ := id V121
      obtain ⟨T123, h123, X123, e123, W123, st123⟩ := stI X121 hx hZ e121 Ar123 (inb_of Sz123 (own_in ip0)) (g := (mkF m 143 #[.val (.int q0), .val (.int q1), .val (.int q2), .val (.int q3), .val (.int (2 : Int32)), .val (.int r), .val (.int rv), .val (.int s0), .val (.int s1), .val (.int s2), .val (.int v0), .val (.int v1), .val (.int v2), .val (.int p0), .val (.int p1), .val (.int p2), .val (.ref b113), .unset, .unset, .unset, .unset, .unset, .unset] [(.int v0), (.int p0), (.ref b113)])) rfl rfl (hb hby at_143)
      have N123 := Fr.snoc X123 N121 lo_b113
      have V123 : Arv Z h123 b113 cA113 .int (4 : Int32) (([(.int q3), (.int q3), (.int q3), (.int q3)] : List Value).set p0.toNatClampNeg (.int v0)) (.int (0 : Int32)) := Arv.set Ar123 qk123 Sz123 qz123 Ha123 Gf123 rfl W123 p0.toNatClampNeg rfl (by simpa using own_ix ip0)
      refine Goes.st st123 ?_
      have Z123 : n0 ≤ h123.size := by have := W123.size; have := Z121; omega
      show Goes p e below s _ _ _ (T123.setTop (mkF m 144 #[.val (.int q0), .val (.int q1), .val (.int q2), .val (.int q3), .val (.int (2 : Int32)), .val (.int r), .val (.int rv), .val (.int s0), .val (.int s1), .val (.int s2), .val (.int v0), .val (.int v1), .val (.int v2), .val (.int p0), .val (.int p1), .val (.int p2), .val (.ref b113), .unset, .unset, .unset, .unset, .unset, .unset] []))
      refine Goes.st (fun t k => XS.iload X123.here hx rfl (hb hby at_144) rfl k) ?_
      show Goes p e below s _ _ _ (T123.setTop (mkF m 146 #[.val (.int q0), .val (.int q1), .val (.int q2), .val (.int q3), .val (.int (2 : Int32)), .val (.int r), .val (.int rv), .val (.int s0), .val (.int s1), .val (.int s2), .val (.int v0), .val (.int v1), .val (.int v2), .val (.int p0), .val (.int p1), .val (.int p2), .val (.ref b113), .unset, .unset, .unset, .unset, .unset, .unset] [(.int (2 : Int32))]))
      refine Goes.st (fun t k => XS.iconst X123.here hx rfl (hb hby at_146) k) ?_
      show Goes p e below s _ _ _ (T123.setTop (mkF m 147 #[.val (.int q0), .val (.int q1), .val (.int q2), .val (.int q3), .val (.int (2 : Int32)), .val (.int r), .val (.int rv), .val (.int s0), .val (.int s1), .val (.int s2), .val (.int v0), .val (.int v1), .val (.int v2), .val (.int p0), .val (.int p1), .val (.int p2), .val (.ref b113), .unset, .unset, .unset, .unset, .unset, .unset] [(.int (2 : Int32)), (.int (2 : Int32))]))
      refine Goes.st (fun t k => XS.icmpNo X123.here hx rfl (hb hby at_147) rfl (by decide) k) ?_
      show Goes p e below s _ _ _ (T123.setTop (mkF m 150 #[.val (.int q0), .val (.int q1), .val (.int q2), .val (.int q3), .val (.int (2 : Int32)), .val (.int r), .val (.int rv), .val (.int s0), .val (.int s1), .val (.int s2), .val (.int v0), .val (.int v1), .val (.int v2), .val (.int p0), .val (.int p1), .val (.int p2), .val (.ref b113), .unset, .unset, .unset, .unset, .unset, .unset] []))
      refine Goes.st (fun t k => XS.aload X123.here hx rfl (hb hby at_150) rfl rfl k) ?_
      show Goes p e below s _ _ _ (T123.setTop (mkF m 152 #[.val (.int q0), .val (.int q1), .val (.int q2), .val (.int q3), .val (.int (2 : Int32)), .val (.int r), .val (.int rv), .val (.int s0), .val (.int s1), .val (.int s2), .val (.int v0), .val (.int v1), .val (.int v2), .val (.int p0), .val (.int p1), .val (.int p2), .val (.ref b113), .unset, .unset, .unset, .unset, .unset, .unset] [(.ref b113)]))
      refine Goes.st (fun t k => XS.iload X123.here hx rfl (hb hby at_152) rfl k) ?_
      show Goes p e below s _ _ _ (T123.setTop (mkF m 154 #[.val (.int q0), .val (.int q1), .val (.int q2), .val (.int q3), .val (.int (2 : Int32)), .val (.int r), .val (.int rv), .val (.int s0), .val (.int s1), .val (.int s2), .val (.int v0), .val (.int v1), .val (.int v2), .val (.int p0), .val (.int p1), .val (.int p2), .val (.ref b113), .unset, .unset, .unset, .unset, .unset, .unset] [(.int p1), (.ref b113)]))
      refine Goes.st (fun t k => XS.iload X123.here hx rfl (hb hby at_154) rfl k) ?_
      show Goes p e below s _ _ _ (T123.setTop (mkF m 156 #[.val (.int q0), .val (.int q1), .val (.int q2), .val (.int q3), .val (.int (2 : Int32)), .val (.int r), .val (.int rv), .val (.int s0), .val (.int s1), .val (.int s2), .val (.int v0), .val (.int v1), .val (.int v2), .val (.int p0), .val (.int p1), .val (.int p2), .val (.ref b113), .unset, .unset, .unset, .unset, .unset, .unset] [(.int v1), (.int p1), (.ref b113)]))
      obtain ⟨cl125, Ar125, qk125, Sz125, qz125, Ha125, Gf125⟩ := id V123
      obtain ⟨T125, h125, X125, e125, W125, st125⟩ := stI X123 hx hZ e123 Ar125 (inb_of Sz125 (own_in ip1)) (g := (mkF m 156 #[.val (.int q0), .val (.int q1), .val (.int q2), .val (.int q3), .val (.int (2 : Int32)), .val (.int r), .val (.int rv), .val (.int s0), .val (.int s1), .val (.int s2), .val (.int v0), .val (.int v1), .val (.int v2), .val (.int p0), .val (.int p1), .val (.int p2), .val (.ref b113), .unset, .unset, .unset, .unset, .unset, .unset] [(.int v1), (.int p1), (.ref b113)])) rfl rfl (hb hby at_156)
      have N125 := Fr.snoc X125 N123 lo_b113
      have V125 : Arv Z h125 b113 cA113 .int (4 : Int32) ((([(.int q3), (.int q3), (.int q3), (.int q3)] : List Value).set p0.toNatClampNeg (.int v0)).set p1.toNatClampNeg (.int v1)) (.int (0 : Int32)) := Arv.set Ar125 qk125 Sz125 qz125 Ha125 Gf125 rfl W125 p1.toNatClampNeg rfl (by simpa using own_ix ip1)
      refine Goes.st st125 ?_
      have Z125 : n0 ≤ h125.size := by have := W125.size; have := Z123; omega
      show Goes p e below s _ _ _ (T125.setTop (mkF m 157 #[.val (.int q0), .val (.int q1), .val (.int q2), .val (.int q3), .val (.int (2 : Int32)), .val (.int r), .val (.int rv), .val (.int s0), .val (.int s1), .val (.int s2), .val (.int v0), .val (.int v1), .val (.int v2), .val (.int p0), .val (.int p1), .val (.int p2), .val (.ref b113), .unset, .unset, .unset, .unset, .unset, .unset] []))
      refine Goes.st (fun t k => XS.iload X125.here hx rfl (hb hby at_157) rfl k) ?_
      show Goes p e below s _ _ _ (T125.setTop (mkF m 159 #[.val (.int q0), .val (.int q1), .val (.int q2), .val (.int q3), .val (.int (2 : Int32)), .val (.int r), .val (.int rv), .val (.int s0), .val (.int s1), .val (.int s2), .val (.int v0), .val (.int v1), .val (.int v2), .val (.int p0), .val (.int p1), .val (.int p2), .val (.ref b113), .unset, .unset, .unset, .unset, .unset, .unset] [(.int (2 : Int32))]))
      refine Goes.st (fun t k => XS.iconst X125.here hx rfl (hb hby at_159) k) ?_
      show Goes p e below s _ _ _ (T125.setTop (mkF m 160 #[.val (.int q0), .val (.int q1), .val (.int q2), .val (.int q3), .val (.int (2 : Int32)), .val (.int r), .val (.int rv), .val (.int s0), .val (.int s1), .val (.int s2), .val (.int v0), .val (.int v1), .val (.int v2), .val (.int p0), .val (.int p1), .val (.int p2), .val (.ref b113), .unset, .unset, .unset, .unset, .unset, .unset] [(.int (3 : Int32)), (.int (2 : Int32))]))
      refine Goes.st (fun t k => XS.icmpYes X125.here hx rfl (pc0 := 160) (pc' := 170) rfl (hb hby at_160) rfl (by decide) (by decide) (by decide) k) ?_
      show Goes p e below s _ _ _ (T125.setTop (mkF m 170 #[.val (.int q0), .val (.int q1), .val (.int q2), .val (.int q3), .val (.int (2 : Int32)), .val (.int r), .val (.int rv), .val (.int s0), .val (.int s1), .val (.int s2), .val (.int v0), .val (.int v1), .val (.int v2), .val (.int p0), .val (.int p1), .val (.int p2), .val (.ref b113), .unset, .unset, .unset, .unset, .unset, .unset] []))
      refine Goes.st (fun t k => XS.iload X125.here hx rfl (hb hby at_170) rfl k) ?_
      show Goes p e below s _ _ _ (T125.setTop (mkF m 172 #[.val (.int q0), .val (.int q1), .val (.int q2), .val (.int q3), .val (.int (2 : Int32)), .val (.int r), .val (.int rv), .val (.int s0), .val (.int s1), .val (.int s2), .val (.int v0), .val (.int v1), .val (.int v2), .val (.int p0), .val (.int p1), .val (.int p2), .val (.ref b113), .unset, .unset, .unset, .unset, .unset, .unset] [(.int (2 : Int32))]))
      refine Goes.st (fun t k => XS.iload X125.here hx rfl (hb hby at_172) rfl k) ?_
      show Goes p e below s _ _ _ (T125.setTop (mkF m 174 #[.val (.int q0), .val (.int q1), .val (.int q2), .val (.int q3), .val (.int (2 : Int32)), .val (.int r), .val (.int rv), .val (.int s0), .val (.int s1), .val (.int s2), .val (.int v0), .val (.int v1), .val (.int v2), .val (.int p0), .val (.int p1), .val (.int p2), .val (.ref b113), .unset, .unset, .unset, .unset, .unset, .unset] [(.int p0), (.int (2 : Int32))]))
      refine Goes.st (fun t k => XS.iload X125.here hx rfl (hb hby at_174) rfl k) ?_
      show Goes p e below s _ _ _ (T125.setTop (mkF m 176 #[.val (.int q0), .val (.int q1), .val (.int q2), .val (.int q3), .val (.int (2 : Int32)), .val (.int r), .val (.int rv), .val (.int s0), .val (.int s1), .val (.int s2), .val (.int v0), .val (.int v1), .val (.int v2), .val (.int p0), .val (.int p1), .val (.int p2), .val (.ref b113), .unset, .unset, .unset, .unset, .unset, .unset] [(.int p1), (.int p0), (.int (2 : Int32))]))
      refine Goes.st (fun t k => XS.iload X125.here hx rfl (hb hby at_176) rfl k) ?_
      show Goes p e below s _ _ _ (T125.setTop (mkF m 178 #[.val (.int q0), .val (.int q1), .val (.int q2), .val (.int q3), .val (.int (2 : Int32)), .val (.int r), .val (.int rv), .val (.int s0), .val (.int s1), .val (.int s2), .val (.int v0), .val (.int v1), .val (.int v2), .val (.int p0), .val (.int p1), .val (.int p2), .val (.ref b113), .unset, .unset, .unset, .unset, .unset, .unset] [(.int p2), (.int p1), (.int p0), (.int (2 : Int32))]))
      have lt127 : b113 < h125.size := V125.lt
      obtain ⟨_, _, ⟨T128, L128, k128, n128⟩, -, X128, ⟨Lc128, hQ128, l128, y128, z128⟩, st128⟩ := Jvm.LawKit.callS X125 hx (y := (⟨"com/example/parley/parley/TableEntryPinLaw", "take", "(IIII)[I"⟩ : MethodName)) hown (mvT hZ (hw _ (List.mem_of_getElem? (i := 5) rfl))) (mvT hZ (hw _ (List.mem_of_getElem? (i := 6) rfl))) (mvT hZ (hw _ (List.mem_of_getElem? (i := 2) rfl))) (mvT hZ (hw _ (List.mem_of_getElem? (i := 7) rfl))) (by decide) (backOf (W := 0) (rmT2 l Z a0 hw [] p0 p1 p2 h125 n0 Z125 ) hZ (hw _ (List.mem_of_getElem? (i := 7) rfl)) (hw _ (List.mem_of_getElem? (i := 2) rfl)) (by decide) (by decide)) (g := (mkF m 178 #[.val (.int q0), .val (.int q1), .val (.int q2), .val (.int q3), .val (.int (2 : Int32)), .val (.int r), .val (.int rv), .val (.int s0), .val (.int s1), .val (.int s2), .val (.int v0), .val (.int v1), .val (.int v2), .val (.int p0), .val (.int p1), .val (.int p2), .val (.ref b113), .unset, .unset, .unset, .unset, .unset, .unset] [(.int p2), (.int p1), (.int p0), (.int (2 : Int32))])) rfl (by rw [hml]; rfl) (argsL := [(.int (2 : Int32)), (.int p0), (.int p1), (.int p2)]) (rest := []) (lenOf pd__IIII__I_1677 rfl) rfl (by show 2 * 0 + _ ≤ _; exact Nat.le_of_eq rfl) (hb hby at_178) (fun _ _ => ⟨rfl, e125, (by decide : 1 + 1 ≤ 24), (by decide : 4 + 2 ≤ 256)⟩)
      dsimp only [Pt.U, Pt.locs, Pt.cells, Pt.slots] at X128 l128 y128 z128 st128 hQ128
      subst l128 y128 z128
      obtain ⟨b128, kA128, rfl, N128q, K128, szq128, loq128, V128⟩ := hQ128
      have ne_b113_b128 : b113 ≠ b128 := Nat.ne_of_lt (Nat.lt_of_lt_of_le lt127 szq128)
      have Z128 : n0 ≤ T128.heap.size := Nat.le_trans Z125 K128.1
      have N128 := Fr.app N125 N128q
      refine Goes.st st128 ?_
      show Goes p e below s _ _ _ (T128.setTop (mkF m 181 #[.val (.int q0), .val (.int q1), .val (.int q2), .val (.int q3), .val (.int (2 : Int32)), .val (.int r), .val (.int rv), .val (.int s0), .val (.int s1), .val (.int s2), .val (.int v0), .val (.int v1), .val (.int v2), .val (.int p0), .val (.int p1), .val (.int p2), .val (.ref b113), .unset, .unset, .unset, .unset, .unset, .unset] [(.ref b128)]))
      refine Goes.st (fun t k => XS.astore X128.here hx rfl (hb hby at_181) rfl rfl (l' := #[.val (.int q0), .val (.int q1), .val (.int q2), .val (.int q3), .val (.int (2 : Int32)), .val (.int r), .val (.int rv), .val (.int s0), .val (.int s1), .val (.int s2), .val (.int v0), .val (.int v1), .val (.int v2), .val (.int p0), .val (.int p1), .val (.int p2), .val (.ref b113), .val (.ref b128), .unset, .unset, .unset, .unset, .unset]) rfl k) ?_
      show Goes p e below s _ _ _ (T128.setTop (mkF m 183 #[.val (.int q0), .val (.int q1), .val (.int q2), .val (.int q3), .val (.int (2 : Int32)), .val (.int r), .val (.int rv), .val (.int s0), .val (.int s1), .val (.int s2), .val (.int v0), .val (.int v1), .val (.int v2), .val (.int p0), .val (.int p1), .val (.int p2), .val (.ref b113), .val (.ref b128), .unset, .unset, .unset, .unset, .unset] []))
      refine Goes.st (fun t k => XS.iload X128.here hx rfl (hb hby at_183) rfl k) ?_
      show Goes p e below s _ _ _ (T128.setTop (mkF m 185 #[.val (.int q0), .val (.int q1), .val (.int q2), .val (.int q3), .val (.int (2 : Int32)), .val (.int r), .val (.int rv), .val (.int s0), .val (.int s1), .val (.int s2), .val (.int v0), .val (.int v1), .val (.int v2), .val (.int p0), .val (.int p1), .val (.int p2), .val (.ref b113), .val (.ref b128), .unset, .unset, .unset, .unset, .unset] [(.int (2 : Int32))]))
      refine Goes.st (fun t k => XS.iload X128.here hx rfl (hb hby at_185) rfl k) ?_
      show Goes p e below s _ _ _ (T128.setTop (mkF m 187 #[.val (.int q0), .val (.int q1), .val (.int q2), .val (.int q3), .val (.int (2 : Int32)), .val (.int r), .val (.int rv), .val (.int s0), .val (.int s1), .val (.int s2), .val (.int v0), .val (.int v1), .val (.int v2), .val (.int p0), .val (.int p1), .val (.int p2), .val (.ref b113), .val (.ref b128), .unset, .unset, .unset, .unset, .unset] [(.int s0), (.int (2 : Int32))]))
      refine Goes.st (fun t k => XS.iload X128.here hx rfl (hb hby at_187) rfl k) ?_
      show Goes p e below s _ _ _ (T128.setTop (mkF m 189 #[.val (.int q0), .val (.int q1), .val (.int q2), .val (.int q3), .val (.int (2 : Int32)), .val (.int r), .val (.int rv), .val (.int s0), .val (.int s1), .val (.int s2), .val (.int v0), .val (.int v1), .val (.int v2), .val (.int p0), .val (.int p1), .val (.int p2), .val (.ref b113), .val (.ref b128), .unset, .unset, .unset, .unset, .unset] [(.int s1), (.int s0), (.int (2 : Int32))]))
      refine Goes.st (fun t k => XS.iload X128.here hx rfl (hb hby at_189) rfl k) ?_
      show Goes p e below s _ _ _ (T128.setTop (mkF m 191 #[.val (.int q0), .val (.int q1), .val (.int q2), .val (.int q3), .val (.int (2 : Int32)), .val (.int r), .val (.int rv), .val (.int s0), .val (.int s1), .val (.int s2), .val (.int v0), .val (.int v1), .val (.int v2), .val (.int p0), .val (.int p1), .val (.int p2), .val (.ref b113), .val (.ref b128), .unset, .unset, .unset, .unset, .unset] [(.int s2), (.int s1), (.int s0), (.int (2 : Int32))]))
      have f131 := (V125.keep K128 nin0)
      have lt130 : b113 < T128.heap.size := f131.lt
      have lt132 : b128 < T128.heap.size := V128.lt
      obtain ⟨_, _, ⟨T133, L133, k133, n133⟩, -, X133, ⟨Lc133, hQ133, l133, y133, z133⟩, st133⟩ := Jvm.LawKit.callS X128 hx (y := (⟨"com/example/parley/parley/TableEntryPinLaw", "take", "(IIII)[I"⟩ : MethodName)) hown (mvT hZ (hw _ (List.mem_of_getElem? (i := 5) rfl))) (mvT hZ (hw _ (List.mem_of_getElem? (i := 6) rfl))) (mvT hZ (hw _ (List.mem_of_getElem? (i := 2) rfl))) (mvT hZ (hw _ (List.mem_of_getElem? (i := 7) rfl))) (by decide) (backOf (W := 0) (rmT2 l Z a0 hw [] s0 s1 s2 T128.heap n0 Z128 ) hZ (hw _ (List.mem_of_getElem? (i := 7) rfl)) (hw _ (List.mem_of_getElem? (i := 2) rfl)) (by decide) (by decide)) (g := (mkF m 191 #[.val (.int q0), .val (.int q1), .val (.int q2), .val (.int q3), .val (.int (2 : Int32)), .val (.int r), .val (.int rv), .val (.int s0), .val (.int s1), .val (.int s2), .val (.int v0), .val (.int v1), .val (.int v2), .val (.int p0), .val (.int p1), .val (.int p2), .val (.ref b113), .val (.ref b128), .unset, .unset, .unset, .unset, .unset] [(.int s2), (.int s1), (.int s0), (.int (2 : Int32))])) rfl (by rw [hml]; rfl) (argsL := [(.int (2 : Int32)), (.int s0), (.int s1), (.int s2)]) (rest := []) (lenOf pd__IIII__I_1677 rfl) rfl (by show 2 * 0 + _ ≤ _; exact Nat.le_of_eq rfl) (hb hby at_191) (fun _ _ => ⟨rfl, rfl, (by decide : 2 + 1 ≤ 24), (by decide : 6 + 2 ≤ 256)⟩)
      dsimp only [Pt.U, Pt.locs, Pt.cells, Pt.slots] at X133 l133 y133 z133 st133 hQ133
      subst l133 y133 z133
      obtain ⟨b133, kA133, rfl, N133q, K133, szq133, loq133, V133⟩ := hQ133
      have ne_b113_b133 : b113 ≠ b133 := Nat.ne_of_lt (Nat.lt_of_lt_of_le lt130 szq133)
      have ne_b128_b133 : b128 ≠ b133 := Nat.ne_of_lt (Nat.lt_of_lt_of_le lt132 szq133)
      have Z133 : n0 ≤ T133.heap.size := Nat.le_trans Z128 K133.1
      have N133 := Fr.app N128 N133q
      refine Goes.st st133 ?_
      show Goes p e below s _ _ _ (T133.setTop (mkF m 194 #[.val (.int q0), .val (.int q1), .val (.int q2), .val (.int q3), .val (.int (2 : Int32)), .val (.int r), .val (.int rv), .val (.int s0), .val (.int s1), .val (.int s2), .val (.int v0), .val (.int v1), .val (.int v2), .val (.int p0), .val (.int p1), .val (.int p2), .val (.ref b113), .val (.ref b128), .unset, .unset, .unset, .unset, .unset] [(.ref b133)]))
      refine Goes.st (fun t k => XS.astore X133.here hx rfl (hb hby at_194) rfl rfl (l' := #[.val (.int q0), .val (.int q1), .val (.int q2), .val (.int q3), .val (.int (2 : Int32)), .val (.int r), .val (.int rv), .val (.int s0), .val (.int s1), .val (.int s2), .val (.int v0), .val (.int v1), .val (.int v2), .val (.int p0), .val (.int p1), .val (.int p2), .val (.ref b113), .val (.ref b128), .val (.ref b133), .unset, .unset, .unset, .unset]) rfl k) ?_
      show Goes p e below s _ _ _ (T133.setTop (mkF m 196 #[.val (.int q0), .val (.int q1), .val (.int q2), .val (.int q3), .val (.int (2 : Int32)), .val (.int r), .val (.int rv), .val (.int s0), .val (.int s1), .val (.int s2), .val (.int v0), .val (.int v1), .val (.int v2), .val (.int p0), .val (.int p1), .val (.int p2), .val (.ref b113), .val (.ref b128), .val (.ref b133), .unset, .unset, .unset, .unset] []))
      refine Goes.st (fun t k => XS.iload X133.here hx rfl (hb hby at_196) rfl k) ?_
      show Goes p e below s _ _ _ (T133.setTop (mkF m 198 #[.val (.int q0), .val (.int q1), .val (.int q2), .val (.int q3), .val (.int (2 : Int32)), .val (.int r), .val (.int rv), .val (.int s0), .val (.int s1), .val (.int s2), .val (.int v0), .val (.int v1), .val (.int v2), .val (.int p0), .val (.int p1), .val (.int p2), .val (.ref b113), .val (.ref b128), .val (.ref b133), .unset, .unset, .unset, .unset] [(.int (2 : Int32))]))
      refine Goes.st (fun t k => XS.iconst X133.here hx rfl (hb hby at_198) k) ?_
      show Goes p e below s _ _ _ (T133.setTop (mkF m 199 #[.val (.int q0), .val (.int q1), .val (.int q2), .val (.int q3), .val (.int (2 : Int32)), .val (.int r), .val (.int rv), .val (.int s0), .val (.int s1), .val (.int s2), .val (.int v0), .val (.int v1), .val (.int v2), .val (.int p0), .val (.int p1), .val (.int p2), .val (.ref b113), .val (.ref b128), .val (.ref b133), .unset, .unset, .unset, .unset] [(.int (0 : Int32)), (.int (2 : Int32))]))
      refine Goes.st (fun t k => XS.iconst X133.here hx rfl (hb hby at_199) k) ?_
      show Goes p e below s _ _ _ (T133.setTop (mkF m 200 #[.val (.int q0), .val (.int q1), .val (.int q2), .val (.int q3), .val (.int (2 : Int32)), .val (.int r), .val (.int rv), .val (.int s0), .val (.int s1), .val (.int s2), .val (.int v0), .val (.int v1), .val (.int v2), .val (.int p0), .val (.int p1), .val (.int p2), .val (.ref b113), .val (.ref b128), .val (.ref b133), .unset, .unset, .unset, .unset] [(.int (1 : Int32)), (.int (0 : Int32)), (.int (2 : Int32))]))
      refine Goes.st (fun t k => XS.iconst X133.here hx rfl (hb hby at_200) k) ?_
      show Goes p e below s _ _ _ (T133.setTop (mkF m 201 #[.val (.int q0), .val (.int q1), .val (.int q2), .val (.int q3), .val (.int (2 : Int32)), .val (.int r), .val (.int rv), .val (.int s0), .val (.int s1), .val (.int s2), .val (.int v0), .val (.int v1), .val (.int v2), .val (.int p0), .val (.int p1), .val (.int p2), .val (.ref b113), .val (.ref b128), .val (.ref b133), .unset, .unset, .unset, .unset] [(.int (2 : Int32)), (.int (1 : Int32)), (.int (0 : Int32)), (.int (2 : Int32))]))
      have f136 := (f131.keep K133 nin0)
      have lt135 : b113 < T133.heap.size := f136.lt
      have f138 := (V128.keep K133 nin0)
      have lt137 : b128 < T133.heap.size := f138.lt
      have lt139 : b133 < T133.heap.size := V133.lt
      obtain ⟨_, _, ⟨T140, L140, k140, n140⟩, -, X140, ⟨Lc140, hQ140, l140, y140, z140⟩, st140⟩ := Jvm.LawKit.callS X133 hx (y := (⟨"com/example/parley/parley/TableEntryPinLaw", "take", "(IIII)[I"⟩ : MethodName)) hown (mvT hZ (hw _ (List.mem_of_getElem? (i := 5) rfl))) (mvT hZ (hw _ (List.mem_of_getElem? (i := 6) rfl))) (mvT hZ (hw _ (List.mem_of_getElem? (i := 2) rfl))) (mvT hZ (hw _ (List.mem_of_getElem? (i := 7) rfl))) (by decide) (backOf (W := 0) (rmT2 l Z a0 hw [] (0 : Int32) (1 : Int32) (2 : Int32) T133.heap n0 Z133 ) hZ (hw _ (List.mem_of_getElem? (i := 7) rfl)) (hw _ (List.mem_of_getElem? (i := 2) rfl)) (by decide) (by decide)) (g := (mkF m 201 #[.val (.int q0), .val (.int q1), .val (.int q2), .val (.int q3), .val (.int (2 : Int32)), .val (.int r), .val (.int rv), .val (.int s0), .val (.int s1), .val (.int s2), .val (.int v0), .val (.int v1), .val (.int v2), .val (.int p0), .val (.int p1), .val (.int p2), .val (.ref b113), .val (.ref b128), .val (.ref b133), .unset, .unset, .unset, .unset] [(.int (2 : Int32)), (.int (1 : Int32)), (.int (0 : Int32)), (.int (2 : Int32))])) rfl (by rw [hml]; rfl) (argsL := [(.int (2 : Int32)), (.int (0 : Int32)), (.int (1 : Int32)), (.int (2 : Int32))]) (rest := []) (lenOf pd__IIII__I_1677 rfl) rfl (by show 2 * 0 + _ ≤ _; exact Nat.le_of_eq rfl) (hb hby at_201) (fun _ _ => ⟨rfl, rfl, (by decide : 3 + 1 ≤ 24), (by decide : 8 + 2 ≤ 256)⟩)
      dsimp only [Pt.U, Pt.locs, Pt.cells, Pt.slots] at X140 l140 y140 z140 st140 hQ140
      subst l140 y140 z140
      obtain ⟨b140, kA140, rfl, N140q, K140, szq140, loq140, V140⟩ := hQ140
      have ne_b113_b140 : b113 ≠ b140 := Nat.ne_of_lt (Nat.lt_of_lt_of_le lt135 szq140)
      have ne_b128_b140 : b128 ≠ b140 := Nat.ne_of_lt (Nat.lt_of_lt_of_le lt137 szq140)
      have ne_b133_b140 : b133 ≠ b140 := Nat.ne_of_lt (Nat.lt_of_lt_of_le lt139 szq140)
      have Z140 : n0 ≤ T140.heap.size := Nat.le_trans Z133 K140.1
      have N140 := Fr.app N133 N140q
      refine Goes.st st140 ?_
      show Goes p e below s _ _ _ (T140.setTop (mkF m 204 #[.val (.int q0), .val (.int q1), .val (.int q2), .val (.int q3), .val (.int (2 : Int32)), .val (.int r), .val (.int rv), .val (.int s0), .val (.int s1), .val (.int s2), .val (.int v0), .val (.int v1), .val (.int v2), .val (.int p0), .val (.int p1), .val (.int p2), .val (.ref b113), .val (.ref b128), .val (.ref b133), .unset, .unset, .unset, .unset] [(.ref b140)]))
      refine Goes.st (fun t k => XS.astore X140.here hx rfl (hb hby at_204) rfl rfl (l' := #[.val (.int q0), .val (.int q1), .val (.int q2), .val (.int q3), .val (.int (2 : Int32)), .val (.int r), .val (.int rv), .val (.int s0), .val (.int s1), .val (.int s2), .val (.int v0), .val (.int v1), .val (.int v2), .val (.int p0), .val (.int p1), .val (.int p2), .val (.ref b113), .val (.ref b128), .val (.ref b133), .val (.ref b140), .unset, .unset, .unset]) rfl k) ?_
      show Goes p e below s _ _ _ (T140.setTop (mkF m 206 #[.val (.int q0), .val (.int q1), .val (.int q2), .val (.int q3), .val (.int (2 : Int32)), .val (.int r), .val (.int rv), .val (.int s0), .val (.int s1), .val (.int s2), .val (.int v0), .val (.int v1), .val (.int v2), .val (.int p0), .val (.int p1), .val (.int p2), .val (.ref b113), .val (.ref b128), .val (.ref b133), .val (.ref b140), .unset, .unset, .unset] []))
      have f143 := (f136.keep K140 nin0)
      have lt142 : b113 < T140.heap.size := f143.lt
      have f145 := (f138.keep K140 nin0)
      have lt144 : b128 < T140.heap.size := f145.lt
      have f147 := (V133.keep K140 nin0)
      have lt146 : b133 < T140.heap.size := f147.lt
      have lt148 : b140 < T140.heap.size := V140.lt
      refine fill Z a0 hw hx hby hlk hret hml hown hnm hZ #[.val (.int q0), .val (.int q1), .val (.int q2), .val (.int q3), .val (.int (2 : Int32)), .val (.int r), .val (.int rv), .val (.int s0), .val (.int s1), .val (.int s2), .val (.int v0), .val (.int v1), .val (.int v2), .val (.int p0), .val (.int p1), .val (.int p2), .val (.ref b113), .val (.ref b128), .val (.ref b133), .val (.ref b140), .unset, .unset, .unset] _ _ (by decide) (by decide) h0 T140.heap n0 T140 _ X140 rfl N140 Z140 ?_
      intro T149 h149 b149 kE149 locs149 X149 e149 N149 Z149 K149 szq149 loq149 V149
      have ne_b113_b149 : b113 ≠ b149 := Nat.ne_of_lt (Nat.lt_of_lt_of_le lt142 szq149)
      have ne_b128_b149 : b128 ≠ b149 := Nat.ne_of_lt (Nat.lt_of_lt_of_le lt144 szq149)
      have ne_b133_b149 : b133 ≠ b149 := Nat.ne_of_lt (Nat.lt_of_lt_of_le lt146 szq149)
      have ne_b140_b149 : b140 ≠ b149 := Nat.ne_of_lt (Nat.lt_of_lt_of_le lt148 szq149)
      show Goes p e below s _ _ _ (T149.setTop (mkF m 648 #[.val (.int q0), .val (.int q1), .val (.int q2), .val (.int q3), .val (.int (2 : Int32)), .val (.int r), .val (.int rv), .val (.int s0), .val (.int s1), .val (.int s2), .val (.int v0), .val (.int v1), .val (.int v2), .val (.int p0), .val (.int p1), .val (.int p2), .val (.ref b113), .val (.ref b128), .val (.ref b133), .val (.ref b140), .unset, .unset, .unset] [(.ref b149)]))
      refine Goes.st (fun t k => XS.astore X149.here hx rfl (hb hby at_648) rfl rfl (l' := #[.val (.int q0), .val (.int q1), .val (.int q2), .val (.int q3), .val (.int (2 : Int32)), .val (.int r), .val (.int rv), .val (.int s0), .val (.int s1), .val (.int s2), .val (.int v0), .val (.int v1), .val (.int v2), .val (.int p0), .val (.int p1), .val (.int p2), .val (.ref b113), .val (.ref b128), .val (.ref b133), .val (.ref b140), .val (.ref b149), .unset, .unset]) rfl k) ?_
      show Goes p e below s _ _ _ (T149.setTop (mkF m 650 #[.val (.int q0), .val (.int q1), .val (.int q2), .val (.int q3), .val (.int (2 : Int32)), .val (.int r), .val (.int rv), .val (.int s0), .val (.int s1), .val (.int s2), .val (.int v0), .val (.int v1), .val (.int v2), .val (.int p0), .val (.int p1), .val (.int p2), .val (.ref b113), .val (.ref b128), .val (.ref b133), .val (.ref b140), .val (.ref b149), .unset, .unset] []))
      obtain ⟨T151, h151, X151, e151, E151, A151, D151, -, st151⟩ := newO X149 hx hZ hown (hw _ (List.mem_of_getElem? (i := 71) rfl)) (hw _ (List.mem_of_getElem? (i := 72) rfl)) (hw _ (List.mem_of_getElem? (i := 73) rfl)) e149 (g := (mkF m 650 #[.val (.int q0), .val (.int q1), .val (.int q2), .val (.int q3), .val (.int (2 : Int32)), .val (.int r), .val (.int rv), .val (.int s0), .val (.int s1), .val (.int s2), .val (.int v0), .val (.int v1), .val (.int v2), .val (.int p0), .val (.int p1), .val (.int p2), .val (.ref b113), .val (.ref b128), .val (.ref b133), .val (.ref b140), .val (.ref b149), .unset, .unset] [])) rfl (hb hby at_650) (by decide) (by decide)
      obtain ⟨b151, g151⟩ : ∃ z, z = h149.size := ⟨_, rfl⟩
      rw [← g151] at A151 D151 st151
      have f152 := (f143.keep K149 nin0)
      have ne_b113_b151 : b113 ≠ b151 := Nat.ne_of_lt (Nat.lt_of_lt_of_le f152.lt (Nat.le_of_eq g151.symm))
      have f153 := (f145.keep K149 nin0)
      have ne_b128_b151 : b128 ≠ b151 := Nat.ne_of_lt (Nat.lt_of_lt_of_le f153.lt (Nat.le_of_eq g151.symm))
      have f154 := (f147.keep K149 nin0)
      have ne_b133_b151 : b133 ≠ b151 := Nat.ne_of_lt (Nat.lt_of_lt_of_le f154.lt (Nat.le_of_eq g151.symm))
      have f155 := (V140.keep K149 nin0)
      have ne_b140_b151 : b140 ≠ b151 := Nat.ne_of_lt (Nat.lt_of_lt_of_le f155.lt (Nat.le_of_eq g151.symm))
      have ne_b149_b151 : b149 ≠ b151 := Nat.ne_of_lt (Nat.lt_of_lt_of_le V149.lt (Nat.le_of_eq g151.symm))
      have lo_b151 : n0 ≤ b151 := by have := Z149; omega
      refine Goes.st st151 ?_
      have Z151 : n0 ≤ h151.size := Nat.le_trans Z149 E151.1
      have F151_variables : Fld Z h151 b151 "com/example/parley/parley/Table" "variables" "[I" .null := D151 (Or.inr (hw _ (List.mem_of_getElem? (i := 86) rfl))) (ty := (.array .int)) (by decide)
      have F151_sizes : Fld Z h151 b151 "com/example/parley/parley/Table" "sizes" "[I" .null := D151 (Or.inr (hw _ (List.mem_of_getElem? (i := 88) rfl))) (ty := (.array .int)) (by decide)
      have F151_entries : Fld Z h151 b151 "com/example/parley/parley/Table" "entries" "[D" .null := D151 (Or.inr (hw _ (List.mem_of_getElem? (i := 90) rfl))) (ty := (.array .double)) (by decide)
      show Goes p e below s _ _ _ (T151.setTop (mkF m 653 #[.val (.int q0), .val (.int q1), .val (.int q2), .val (.int q3), .val (.int (2 : Int32)), .val (.int r), .val (.int rv), .val (.int s0), .val (.int s1), .val (.int s2), .val (.int v0), .val (.int v1), .val (.int v2), .val (.int p0), .val (.int p1), .val (.int p2), .val (.ref b113), .val (.ref b128), .val (.ref b133), .val (.ref b140), .val (.ref b149), .unset, .unset] [(.ref b151)]))
      refine Goes.st (fun t k => XS.dup X151.here hx rfl (hb hby at_653) rfl rfl k) ?_
      show Goes p e below s _ _ _ (T151.setTop (mkF m 654 #[.val (.int q0), .val (.int q1), .val (.int q2), .val (.int q3), .val (.int (2 : Int32)), .val (.int r), .val (.int rv), .val (.int s0), .val (.int s1), .val (.int s2), .val (.int v0), .val (.int v1), .val (.int v2), .val (.int p0), .val (.int p1), .val (.int p2), .val (.ref b113), .val (.ref b128), .val (.ref b133), .val (.ref b140), .val (.ref b149), .unset, .unset] [(.ref b151), (.ref b151)]))
      refine Goes.st (fun t k => XS.aload X151.here hx rfl (hb hby at_654) rfl rfl k) ?_
      show Goes p e below s _ _ _ (T151.setTop (mkF m 656 #[.val (.int q0), .val (.int q1), .val (.int q2), .val (.int q3), .val (.int (2 : Int32)), .val (.int r), .val (.int rv), .val (.int s0), .val (.int s1), .val (.int s2), .val (.int v0), .val (.int v1), .val (.int v2), .val (.int p0), .val (.int p1), .val (.int p2), .val (.ref b113), .val (.ref b128), .val (.ref b133), .val (.ref b140), .val (.ref b149), .unset, .unset] [(.ref b140), (.ref b151), (.ref b151)]))
      refine Goes.st (fun t k => XS.aload X151.here hx rfl (hb hby at_656) rfl rfl k) ?_
      show Goes p e below s _ _ _ (T151.setTop (mkF m 658 #[.val (.int q0), .val (.int q1), .val (.int q2), .val (.int q3), .val (.int (2 : Int32)), .val (.int r), .val (.int rv), .val (.int s0), .val (.int s1), .val (.int s2), .val (.int v0), .val (.int v1), .val (.int v2), .val (.int p0), .val (.int p1), .val (.int p2), .val (.ref b113), .val (.ref b128), .val (.ref b133), .val (.ref b140), .val (.ref b149), .unset, .unset] [(.ref b133), (.ref b140), (.ref b151), (.ref b151)]))
      refine Goes.st (fun t k => XS.aload X151.here hx rfl (hb hby at_658) rfl rfl k) ?_
      show Goes p e below s _ _ _ (T151.setTop (mkF m 660 #[.val (.int q0), .val (.int q1), .val (.int q2), .val (.int q3), .val (.int (2 : Int32)), .val (.int r), .val (.int rv), .val (.int s0), .val (.int s1), .val (.int s2), .val (.int v0), .val (.int v1), .val (.int v2), .val (.int p0), .val (.int p1), .val (.int p2), .val (.ref b113), .val (.ref b128), .val (.ref b133), .val (.ref b140), .val (.ref b149), .unset, .unset] [(.ref b149), (.ref b133), (.ref b140), (.ref b151), (.ref b151)]))
      obtain ⟨_, _, ⟨T157, L157, k157, n157⟩, -, X157, ⟨Lc157, hQ157, l157, y157, z157⟩, st157⟩ := X151.specialBack hx (y := (⟨"com/example/parley/parley/Table", "<init>", "([I[I[D)V"⟩ : MethodName)) rfl hown (mvT hZ (hw _ (List.mem_of_getElem? (i := 74) rfl))) (mvT hZ (hw _ (List.mem_of_getElem? (i := 75) rfl))) (mvT hZ (hw _ (List.mem_of_getElem? (i := 76) rfl))) (by decide) (backOf (W := 1) (rmC l Z a0 hw [] b151 b140 b133 b149 .null .null .null h151 n0 Z151 A151 lo_b151 F151_variables F151_sizes F151_entries) hZ (hw _ (List.mem_of_getElem? (i := 76) rfl)) (hw _ (List.mem_of_getElem? (i := 73) rfl)) (by decide) (by decide)) (g := (mkF m 660 #[.val (.int q0), .val (.int q1), .val (.int q2), .val (.int q3), .val (.int (2 : Int32)), .val (.int r), .val (.int rv), .val (.int s0), .val (.int s1), .val (.int s2), .val (.int v0), .val (.int v1), .val (.int v2), .val (.int p0), .val (.int p1), .val (.int p2), .val (.ref b113), .val (.ref b128), .val (.ref b133), .val (.ref b140), .val (.ref b149), .unset, .unset] [(.ref b149), (.ref b133), (.ref b140), (.ref b151), (.ref b151)])) rfl (by rw [hml]; rfl) (Steps.refl _) (a := b151) (argsL := [(.ref b140), (.ref b133), (.ref b149)]) (rest := [(.ref b151)]) (lenOf pd___I_I_D_V_1c32 rfl) rfl (by show 2 * 0 + _ ≤ _; exact Nat.le_of_eq rfl) (hb hby at_660) (fun _ _ => ⟨rfl, e151, (by decide : 6 + 0 ≤ 24), (by decide : 77 + 0 ≤ 256)⟩)
      dsimp only [Pt.U, Pt.locs, Pt.cells, Pt.slots] at X157 l157 y157 z157 st157 hQ157
      subst l157 y157 z157
      obtain ⟨rfl, N157q, K157, R157_0, R157_1, R157_2⟩ := hQ157
      have Z157 : n0 ≤ T157.heap.size := Nat.le_trans Z151 K157.1
      have N157 := Fr.app N149 N157q
      refine Goes.sts st157 ?_
      show Goes p e below s _ _ _ (T157.setTop (mkF m 663 #[.val (.int q0), .val (.int q1), .val (.int q2), .val (.int q3), .val (.int (2 : Int32)), .val (.int r), .val (.int rv), .val (.int s0), .val (.int s1), .val (.int s2), .val (.int v0), .val (.int v1), .val (.int v2), .val (.int p0), .val (.int p1), .val (.int p2), .val (.ref b113), .val (.ref b128), .val (.ref b133), .val (.ref b140), .val (.ref b149), .unset, .unset] [(.ref b151)]))
      refine Goes.st (fun t k => XS.astore X157.here hx rfl (hb hby at_663) rfl rfl (l' := #[.val (.int q0), .val (.int q1), .val (.int q2), .val (.int q3), .val (.int (2 : Int32)), .val (.int r), .val (.int rv), .val (.int s0), .val (.int s1), .val (.int s2), .val (.int v0), .val (.int v1), .val (.int v2), .val (.int p0), .val (.int p1), .val (.int p2), .val (.ref b113), .val (.ref b128), .val (.ref b133), .val (.ref b140), .val (.ref b149), .val (.ref b151), .unset]) rfl k) ?_
      show Goes p e below s _ _ _ (T157.setTop (mkF m 665 #[.val (.int q0), .val (.int q1), .val (.int q2), .val (.int q3), .val (.int (2 : Int32)), .val (.int r), .val (.int rv), .val (.int s0), .val (.int s1), .val (.int s2), .val (.int v0), .val (.int v1), .val (.int v2), .val (.int p0), .val (.int p1), .val (.int p2), .val (.ref b113), .val (.ref b128), .val (.ref b133), .val (.ref b140), .val (.ref b149), .val (.ref b151), .unset] []))
      refine Goes.st (fun t k => XS.iload X157.here hx rfl (hb hby at_665) rfl k) ?_
      show Goes p e below s _ _ _ (T157.setTop (mkF m 667 #[.val (.int q0), .val (.int q1), .val (.int q2), .val (.int q3), .val (.int (2 : Int32)), .val (.int r), .val (.int rv), .val (.int s0), .val (.int s1), .val (.int s2), .val (.int v0), .val (.int v1), .val (.int v2), .val (.int p0), .val (.int p1), .val (.int p2), .val (.ref b113), .val (.ref b128), .val (.ref b133), .val (.ref b140), .val (.ref b149), .val (.ref b151), .unset] [(.int (2 : Int32))]))
      refine Goes.st (fun t k => XS.ifYes X157.here hx rfl (pc0 := 667) (pc' := 676) rfl (hb hby at_667) rfl (by decide) (by decide) (by decide) k) ?_
      show Goes p e below s _ _ _ (T157.setTop (mkF m 676 #[.val (.int q0), .val (.int q1), .val (.int q2), .val (.int q3), .val (.int (2 : Int32)), .val (.int r), .val (.int rv), .val (.int s0), .val (.int s1), .val (.int s2), .val (.int v0), .val (.int v1), .val (.int v2), .val (.int p0), .val (.int p1), .val (.int p2), .val (.ref b113), .val (.ref b128), .val (.ref b133), .val (.ref b140), .val (.ref b149), .val (.ref b151), .unset] []))
      refine Goes.st (fun t k => XS.iload X157.here hx rfl (hb hby at_676) rfl k) ?_
      show Goes p e below s _ _ _ (T157.setTop (mkF m 678 #[.val (.int q0), .val (.int q1), .val (.int q2), .val (.int q3), .val (.int (2 : Int32)), .val (.int r), .val (.int rv), .val (.int s0), .val (.int s1), .val (.int s2), .val (.int v0), .val (.int v1), .val (.int v2), .val (.int p0), .val (.int p1), .val (.int p2), .val (.ref b113), .val (.ref b128), .val (.ref b133), .val (.ref b140), .val (.ref b149), .val (.ref b151), .unset] [(.int (2 : Int32))]))
      refine Goes.st (fun t k => XS.iconst X157.here hx rfl (hb hby at_678) k) ?_
      show Goes p e below s _ _ _ (T157.setTop (mkF m 679 #[.val (.int q0), .val (.int q1), .val (.int q2), .val (.int q3), .val (.int (2 : Int32)), .val (.int r), .val (.int rv), .val (.int s0), .val (.int s1), .val (.int s2), .val (.int v0), .val (.int v1), .val (.int v2), .val (.int p0), .val (.int p1), .val (.int p2), .val (.ref b113), .val (.ref b128), .val (.ref b133), .val (.ref b140), .val (.ref b149), .val (.ref b151), .unset] [(.int (1 : Int32)), (.int (2 : Int32))]))
      refine Goes.st (fun t k => XS.icmpYes X157.here hx rfl (pc0 := 679) (pc' := 689) rfl (hb hby at_679) rfl (by decide) (by decide) (by decide) k) ?_
      show Goes p e below s _ _ _ (T157.setTop (mkF m 689 #[.val (.int q0), .val (.int q1), .val (.int q2), .val (.int q3), .val (.int (2 : Int32)), .val (.int r), .val (.int rv), .val (.int s0), .val (.int s1), .val (.int s2), .val (.int v0), .val (.int v1), .val (.int v2), .val (.int p0), .val (.int p1), .val (.int p2), .val (.ref b113), .val (.ref b128), .val (.ref b133), .val (.ref b140), .val (.ref b149), .val (.ref b151), .unset] []))
      refine Goes.st (fun t k => XS.iload X157.here hx rfl (hb hby at_689) rfl k) ?_
      show Goes p e below s _ _ _ (T157.setTop (mkF m 691 #[.val (.int q0), .val (.int q1), .val (.int q2), .val (.int q3), .val (.int (2 : Int32)), .val (.int r), .val (.int rv), .val (.int s0), .val (.int s1), .val (.int s2), .val (.int v0), .val (.int v1), .val (.int v2), .val (.int p0), .val (.int p1), .val (.int p2), .val (.ref b113), .val (.ref b128), .val (.ref b133), .val (.ref b140), .val (.ref b149), .val (.ref b151), .unset] [(.int (2 : Int32))]))
      refine Goes.st (fun t k => XS.iconst X157.here hx rfl (hb hby at_691) k) ?_
      show Goes p e below s _ _ _ (T157.setTop (mkF m 692 #[.val (.int q0), .val (.int q1), .val (.int q2), .val (.int q3), .val (.int (2 : Int32)), .val (.int r), .val (.int rv), .val (.int s0), .val (.int s1), .val (.int s2), .val (.int v0), .val (.int v1), .val (.int v2), .val (.int p0), .val (.int p1), .val (.int p2), .val (.ref b113), .val (.ref b128), .val (.ref b133), .val (.ref b140), .val (.ref b149), .val (.ref b151), .unset] [(.int (2 : Int32)), (.int (2 : Int32))]))
      refine Goes.st (fun t k => XS.icmpNo X157.here hx rfl (hb hby at_692) rfl (by decide) k) ?_
      show Goes p e below s _ _ _ (T157.setTop (mkF m 695 #[.val (.int q0), .val (.int q1), .val (.int q2), .val (.int q3), .val (.int (2 : Int32)), .val (.int r), .val (.int rv), .val (.int s0), .val (.int s1), .val (.int s2), .val (.int v0), .val (.int v1), .val (.int v2), .val (.int p0), .val (.int p1), .val (.int p2), .val (.ref b113), .val (.ref b128), .val (.ref b133), .val (.ref b140), .val (.ref b149), .val (.ref b151), .unset] []))
      refine Goes.st (fun t k => XS.iload X157.here hx rfl (hb hby at_695) rfl k) ?_
      show Goes p e below s _ _ _ (T157.setTop (mkF m 697 #[.val (.int q0), .val (.int q1), .val (.int q2), .val (.int q3), .val (.int (2 : Int32)), .val (.int r), .val (.int rv), .val (.int s0), .val (.int s1), .val (.int s2), .val (.int v0), .val (.int v1), .val (.int v2), .val (.int p0), .val (.int p1), .val (.int p2), .val (.ref b113), .val (.ref b128), .val (.ref b133), .val (.ref b140), .val (.ref b149), .val (.ref b151), .unset] [(.int v0)]))
      refine Goes.st (fun t k => XS.iload X157.here hx rfl (hb hby at_697) rfl k) ?_
      show Goes p e below s _ _ _ (T157.setTop (mkF m 699 #[.val (.int q0), .val (.int q1), .val (.int q2), .val (.int q3), .val (.int (2 : Int32)), .val (.int r), .val (.int rv), .val (.int s0), .val (.int s1), .val (.int s2), .val (.int v0), .val (.int v1), .val (.int v2), .val (.int p0), .val (.int p1), .val (.int p2), .val (.ref b113), .val (.ref b128), .val (.ref b133), .val (.ref b140), .val (.ref b149), .val (.ref b151), .unset] [(.int s1), (.int v0)]))
      refine Goes.st (fun t k => XS.imul X157.here hx rfl (hb hby at_699) rfl k) ?_
      show Goes p e below s _ _ _ (T157.setTop (mkF m 700 #[.val (.int q0), .val (.int q1), .val (.int q2), .val (.int q3), .val (.int (2 : Int32)), .val (.int r), .val (.int rv), .val (.int s0), .val (.int s1), .val (.int s2), .val (.int v0), .val (.int v1), .val (.int v2), .val (.int p0), .val (.int p1), .val (.int p2), .val (.ref b113), .val (.ref b128), .val (.ref b133), .val (.ref b140), .val (.ref b149), .val (.ref b151), .unset] [(.int (v0 * s1))]))
      refine Goes.st (fun t k => XS.iload X157.here hx rfl (hb hby at_700) rfl k) ?_
      show Goes p e below s _ _ _ (T157.setTop (mkF m 702 #[.val (.int q0), .val (.int q1), .val (.int q2), .val (.int q3), .val (.int (2 : Int32)), .val (.int r), .val (.int rv), .val (.int s0), .val (.int s1), .val (.int s2), .val (.int v0), .val (.int v1), .val (.int v2), .val (.int p0), .val (.int p1), .val (.int p2), .val (.ref b113), .val (.ref b128), .val (.ref b133), .val (.ref b140), .val (.ref b149), .val (.ref b151), .unset] [(.int v1), (.int (v0 * s1))]))
      refine Goes.st (fun t k => XS.iadd X157.here hx rfl (hb hby at_702) rfl k) ?_
      show Goes p e below s _ _ _ (T157.setTop (mkF m 703 #[.val (.int q0), .val (.int q1), .val (.int q2), .val (.int q3), .val (.int (2 : Int32)), .val (.int r), .val (.int rv), .val (.int s0), .val (.int s1), .val (.int s2), .val (.int v0), .val (.int v1), .val (.int v2), .val (.int p0), .val (.int p1), .val (.int p2), .val (.ref b113), .val (.ref b128), .val (.ref b133), .val (.ref b140), .val (.ref b149), .val (.ref b151), .unset] [(.int ((v0 * s1) + v1))]))
      refine Goes.st (fun t k => XS.istore X157.here hx rfl (hb hby at_703) rfl (l' := #[.val (.int q0), .val (.int q1), .val (.int q2), .val (.int q3), .val (.int (2 : Int32)), .val (.int r), .val (.int rv), .val (.int s0), .val (.int s1), .val (.int s2), .val (.int v0), .val (.int v1), .val (.int v2), .val (.int p0), .val (.int p1), .val (.int p2), .val (.ref b113), .val (.ref b128), .val (.ref b133), .val (.ref b140), .val (.ref b149), .val (.ref b151), .val (.int ((v0 * s1) + v1))]) rfl k) ?_
      show Goes p e below s _ _ _ (T157.setTop (mkF m 705 #[.val (.int q0), .val (.int q1), .val (.int q2), .val (.int q3), .val (.int (2 : Int32)), .val (.int r), .val (.int rv), .val (.int s0), .val (.int s1), .val (.int s2), .val (.int v0), .val (.int v1), .val (.int v2), .val (.int p0), .val (.int p1), .val (.int p2), .val (.ref b113), .val (.ref b128), .val (.ref b133), .val (.ref b140), .val (.ref b149), .val (.ref b151), .val (.int ((v0 * s1) + v1))] []))
      refine Goes.st (fun t k => XS.goto X157.here hx rfl (pc0 := 705) (pc' := 727) rfl (hb hby at_705) (by decide) (by decide) k) ?_
      show Goes p e below s _ _ _ (T157.setTop (mkF m 727 #[.val (.int q0), .val (.int q1), .val (.int q2), .val (.int q3), .val (.int (2 : Int32)), .val (.int r), .val (.int rv), .val (.int s0), .val (.int s1), .val (.int s2), .val (.int v0), .val (.int v1), .val (.int v2), .val (.int p0), .val (.int p1), .val (.int p2), .val (.ref b113), .val (.ref b128), .val (.ref b133), .val (.ref b140), .val (.ref b149), .val (.ref b151), .val (.int ((v0 * s1) + v1))] []))
      refine Goes.st (fun t k => XS.aload X157.here hx rfl (hb hby at_727) rfl rfl k) ?_
      show Goes p e below s _ _ _ (T157.setTop (mkF m 729 #[.val (.int q0), .val (.int q1), .val (.int q2), .val (.int q3), .val (.int (2 : Int32)), .val (.int r), .val (.int rv), .val (.int s0), .val (.int s1), .val (.int s2), .val (.int v0), .val (.int v1), .val (.int v2), .val (.int p0), .val (.int p1), .val (.int p2), .val (.ref b113), .val (.ref b128), .val (.ref b133), .val (.ref b140), .val (.ref b149), .val (.ref b151), .val (.int ((v0 * s1) + v1))] [(.ref b151)]))
      refine Goes.st (fun t k => XS.aload X157.here hx rfl (hb hby at_729) rfl rfl k) ?_
      show Goes p e below s _ _ _ (T157.setTop (mkF m 731 #[.val (.int q0), .val (.int q1), .val (.int q2), .val (.int q3), .val (.int (2 : Int32)), .val (.int r), .val (.int rv), .val (.int s0), .val (.int s1), .val (.int s2), .val (.int v0), .val (.int v1), .val (.int v2), .val (.int p0), .val (.int p1), .val (.int p2), .val (.ref b113), .val (.ref b128), .val (.ref b133), .val (.ref b140), .val (.ref b149), .val (.ref b151), .val (.int ((v0 * s1) + v1))] [(.ref b113), (.ref b151)]))
      refine Goes.st (fun t k => XS.aload X157.here hx rfl (hb hby at_731) rfl rfl k) ?_
      show Goes p e below s _ _ _ (T157.setTop (mkF m 733 #[.val (.int q0), .val (.int q1), .val (.int q2), .val (.int q3), .val (.int (2 : Int32)), .val (.int r), .val (.int rv), .val (.int s0), .val (.int s1), .val (.int s2), .val (.int v0), .val (.int v1), .val (.int v2), .val (.int p0), .val (.int p1), .val (.int p2), .val (.ref b113), .val (.ref b128), .val (.ref b133), .val (.ref b140), .val (.ref b149), .val (.ref b151), .val (.int ((v0 * s1) + v1))] [(.ref b128), (.ref b113), (.ref b151)]))
      have f159 := ((f153.ext E151).keep K157 (ninS ne_b128_b151 nin0))
      have f160 := ((f154.ext E151).keep K157 (ninS ne_b133_b151 nin0))
      have f161 := ((f152.ext E151).keep K157 (ninS ne_b113_b151 nin0))
      have f162 := ((V149.ext E151).keep K157 (ninS ne_b149_b151 nin0))
      have hg0 : (((([(.int q3), (.int q3), (.int q3), (.int q3)] : List Value).set p0.toNatClampNeg (.int v0)).set p1.toNatClampNeg (.int v1))).getD p0.toNatClampNeg (.int (0 : Int32)) = .int v0 := (own_miss (own_nx ip0 ip1 hne01)).trans (own_get (by simpa using own_ix ip0))
      have hg1 : (((([(.int q3), (.int q3), (.int q3), (.int q3)] : List Value).set p0.toNatClampNeg (.int v0)).set p1.toNatClampNeg (.int v1))).getD p1.toNatClampNeg (.int (0 : Int32)) = .int v1 := own_get (by simpa using own_ix ip1)
      have hix : (((((0 : Int32) * s0) + v0) * s1) + v1) = ((v0 * s1) + v1) := by simp only [Int32.zero_mul, Int32.zero_add, Int32.add_mul]
      have hI : Ix (((((0 : Int32) * s0) + v0) * s1) + v1) := by rw [hix]; exact own_i2 iv0 is1 iv1
      have he := own_ent hI
      rw [hix] at he
      have f164 := (A151.keep K157)
      obtain ⟨cq163, kq163, qa163, qb163, qc163⟩ := isOf hZ rfl f164
      obtain ⟨_, _, ⟨T163, L163, k163, n163⟩, -, X163, ⟨Lc163, hQ163, l163, y163, z163⟩, st163⟩ := X157.virtualBack hx (y := (⟨"com/example/parley/parley/Table", "entry", "([I[I)D"⟩ : MethodName)) (z := (⟨"com/example/parley/parley/Table", "entry", "([I[I)D"⟩ : MethodName)) hown (mvT hZ (hw _ (List.mem_of_getElem? (i := 91) rfl))) (mvT hZ (hw _ (List.mem_of_getElem? (i := 92) rfl))) (notFace_of_selects (args := #[]) (mvT hZ (hw _ (List.mem_of_getElem? (i := 94) rfl)))) (mvT hZ (hw _ (List.mem_of_getElem? (i := 94) rfl))) (mvT hZ (hw _ (List.mem_of_getElem? (i := 93) rfl))) (by decide) (backOf (W := 0) (rmE2 l Z a0 hw [] b151 b113 b128 b133 b149 kA128 kA133 cA113 kE149 (((([(.int q3), (.int q3), (.int q3), (.int q3)] : List Value).set p0.toNatClampNeg (.int v0)).set p1.toNatClampNeg (.int v1))) entsL (FP.i2d ((v0 * s1) + v1)) p0 s0 v0 p1 s1 v1 T157.heap n0 Z157 R157_1 R157_2 f159 f160 f161 f162 (own_in ip0) hg0 (own_in ip1) hg1 (own_ix64 hI) (by rw [hix]; exact he)) hZ (hw _ (List.mem_of_getElem? (i := 95) rfl)) (hw _ (List.mem_of_getElem? (i := 73) rfl)) (by decide) (by decide)) qa163 qc163 (g := (mkF m 733 #[.val (.int q0), .val (.int q1), .val (.int q2), .val (.int q3), .val (.int (2 : Int32)), .val (.int r), .val (.int rv), .val (.int s0), .val (.int s1), .val (.int s2), .val (.int v0), .val (.int v1), .val (.int v2), .val (.int p0), .val (.int p1), .val (.int p2), .val (.ref b113), .val (.ref b128), .val (.ref b133), .val (.ref b140), .val (.ref b149), .val (.ref b151), .val (.int ((v0 * s1) + v1))] [(.ref b128), (.ref b113), (.ref b151)])) rfl (by rw [hml]; rfl) (Steps.refl _) (argsL := [(.ref b113), (.ref b128)]) (rest := []) (lenOf pd___I_I_D_1292 rfl) rfl (by show 2 * 0 + _ ≤ _; exact Nat.le_of_eq rfl) (hb hby at_733) (fun _ _ => ⟨rfl, rfl, (by decide : 6 + 0 ≤ 24), (by decide : 77 + 0 ≤ 256)⟩)
      dsimp only [Pt.U, Pt.locs, Pt.cells, Pt.slots] at X163 l163 y163 z163 st163 hQ163
      subst l163 y163 z163
      obtain ⟨rfl, N163q, eh163⟩ := hQ163
      have N163 := Fr.app N157 N163q
      refine Goes.sts st163 ?_
      show Goes p e below s _ _ _ (T163.setTop (mkF m 736 #[.val (.int q0), .val (.int q1), .val (.int q2), .val (.int q3), .val (.int (2 : Int32)), .val (.int r), .val (.int rv), .val (.int s0), .val (.int s1), .val (.int s2), .val (.int v0), .val (.int v1), .val (.int v2), .val (.int p0), .val (.int p1), .val (.int p2), .val (.ref b113), .val (.ref b128), .val (.ref b133), .val (.ref b140), .val (.ref b149), .val (.ref b151), .val (.int ((v0 * s1) + v1))] [(.double (FP.i2d ((v0 * s1) + v1)))]))
      refine Goes.st (fun t k => XS.iload X163.here hx rfl (hb hby at_736) rfl k) ?_
      show Goes p e below s _ _ _ (T163.setTop (mkF m 738 #[.val (.int q0), .val (.int q1), .val (.int q2), .val (.int q3), .val (.int (2 : Int32)), .val (.int r), .val (.int rv), .val (.int s0), .val (.int s1), .val (.int s2), .val (.int v0), .val (.int v1), .val (.int v2), .val (.int p0), .val (.int p1), .val (.int p2), .val (.ref b113), .val (.ref b128), .val (.ref b133), .val (.ref b140), .val (.ref b149), .val (.ref b151), .val (.int ((v0 * s1) + v1))] [(.int ((v0 * s1) + v1)), (.double (FP.i2d ((v0 * s1) + v1)))]))
      refine Goes.st (fun t k => XS.i2dS X163.here hx rfl (hb hby at_738) rfl (v := (FP.i2d ((v0 * s1) + v1))) rfl k) ?_
      show Goes p e below s _ _ _ (T163.setTop (mkF m 739 #[.val (.int q0), .val (.int q1), .val (.int q2), .val (.int q3), .val (.int (2 : Int32)), .val (.int r), .val (.int rv), .val (.int s0), .val (.int s1), .val (.int s2), .val (.int v0), .val (.int v1), .val (.int v2), .val (.int p0), .val (.int p1), .val (.int p2), .val (.ref b113), .val (.ref b128), .val (.ref b133), .val (.ref b140), .val (.ref b149), .val (.ref b151), .val (.int ((v0 * s1) + v1))] [(.double (FP.i2d ((v0 * s1) + v1))), (.double (FP.i2d ((v0 * s1) + v1)))]))
      refine Goes.st (fun t k => XS.dcmpS X163.here hx rfl (hb hby at_739) rfl (v := (cmpValue (FP.dcmp (FP.i2d ((v0 * s1) + v1)) (FP.i2d ((v0 * s1) + v1))) .l)) rfl k) ?_
      show Goes p e below s _ _ _ (T163.setTop (mkF m 740 #[.val (.int q0), .val (.int q1), .val (.int q2), .val (.int q3), .val (.int (2 : Int32)), .val (.int r), .val (.int rv), .val (.int s0), .val (.int s1), .val (.int s2), .val (.int v0), .val (.int v1), .val (.int v2), .val (.int p0), .val (.int p1), .val (.int p2), .val (.ref b113), .val (.ref b128), .val (.ref b133), .val (.ref b140), .val (.ref b149), .val (.ref b151), .val (.int ((v0 * s1) + v1))] [(.int (cmpValue (FP.dcmp (FP.i2d ((v0 * s1) + v1)) (FP.i2d ((v0 * s1) + v1))) .l))]))
      refine Goes.st (fun t k => XS.ifNo X163.here hx rfl (hb hby at_740) rfl ((if0 _ _).trans (teq (dcmpV_self (i2d_fin _).noNaN _)).2) k) ?_
      show Goes p e below s _ _ _ (T163.setTop (mkF m 743 #[.val (.int q0), .val (.int q1), .val (.int q2), .val (.int q3), .val (.int (2 : Int32)), .val (.int r), .val (.int rv), .val (.int s0), .val (.int s1), .val (.int s2), .val (.int v0), .val (.int v1), .val (.int v2), .val (.int p0), .val (.int p1), .val (.int p2), .val (.ref b113), .val (.ref b128), .val (.ref b133), .val (.ref b140), .val (.ref b149), .val (.ref b151), .val (.int ((v0 * s1) + v1))] []))
      refine Goes.st (fun t k => XS.iconst X163.here hx rfl (hb hby at_743) k) ?_
      show Goes p e below s _ _ _ (T163.setTop (mkF m 744 #[.val (.int q0), .val (.int q1), .val (.int q2), .val (.int q3), .val (.int (2 : Int32)), .val (.int r), .val (.int rv), .val (.int s0), .val (.int s1), .val (.int s2), .val (.int v0), .val (.int v1), .val (.int v2), .val (.int p0), .val (.int p1), .val (.int p2), .val (.ref b113), .val (.ref b128), .val (.ref b133), .val (.ref b140), .val (.ref b149), .val (.ref b151), .val (.int ((v0 * s1) + v1))] [(.int (1 : Int32))]))
      refine Goes.st (fun t k => XS.goto X163.here hx rfl (pc0 := 744) (pc' := 748) rfl (hb hby at_744) (by decide) (by decide) k) ?_
      show Goes p e below s _ _ _ (T163.setTop (mkF m 748 #[.val (.int q0), .val (.int q1), .val (.int q2), .val (.int q3), .val (.int (2 : Int32)), .val (.int r), .val (.int rv), .val (.int s0), .val (.int s1), .val (.int s2), .val (.int v0), .val (.int v1), .val (.int v2), .val (.int p0), .val (.int p1), .val (.int p2), .val (.ref b113), .val (.ref b128), .val (.ref b133), .val (.ref b140), .val (.ref b149), .val (.ref b151), .val (.int ((v0 * s1) + v1))] [(.int (1 : Int32))]))
      refine Goes.retN X163 hx hlk hret (by simp) (hb hby at_748) (by decide) ?_ (by decide) (by decide)
      rw [eh163]
      exact ⟨rfl, N163⟩
    by_cases c165 : ((XT.ushr q0 (4 : Int32)) &&& (1 : Int32)) = (0 : Int32)
    · refine Goes.st (fun t k => XS.ifYes X0.here hx rfl (pc0 := 17) (pc' := 24) rfl (hb hby at_17) rfl ((if0 _ _).trans (teq c165).1) (by decide) (by decide) k) ?_
      show Goes p e below s _ _ _ (s₁.setTop (mkF m 24 #[.val (.int q0), .val (.int q1), .val (.int q2), .val (.int q3), .val (.int (2 : Int32)), .val (.int r), .unset, .unset, .unset, .unset, .unset, .unset, .unset, .unset, .unset, .unset, .unset, .unset, .unset, .unset, .unset, .unset, .unset] []))
      refine Goes.st (fun t k => XS.iconst X0.here hx rfl (hb hby at_24) k) ?_
      show Goes p e below s _ _ _ (s₁.setTop (mkF m 25 #[.val (.int q0), .val (.int q1), .val (.int q2), .val (.int q3), .val (.int (2 : Int32)), .val (.int r), .unset, .unset, .unset, .unset, .unset, .unset, .unset, .unset, .unset, .unset, .unset, .unset, .unset, .unset, .unset, .unset, .unset] [(.int (0 : Int32))]))
      exact J109 _
    · refine Goes.st (fun t k => XS.ifNo X0.here hx rfl (hb hby at_17) rfl ((if0 _ _).trans (feq c165).1) k) ?_
      show Goes p e below s _ _ _ (s₁.setTop (mkF m 20 #[.val (.int q0), .val (.int q1), .val (.int q2), .val (.int q3), .val (.int (2 : Int32)), .val (.int r), .unset, .unset, .unset, .unset, .unset, .unset, .unset, .unset, .unset, .unset, .unset, .unset, .unset, .unset, .unset, .unset, .unset] []))
      refine Goes.st (fun t k => XS.iconst X0.here hx rfl (hb hby at_20) k) ?_
      show Goes p e below s _ _ _ (s₁.setTop (mkF m 21 #[.val (.int q0), .val (.int q1), .val (.int q2), .val (.int q3), .val (.int (2 : Int32)), .val (.int r), .unset, .unset, .unset, .unset, .unset, .unset, .unset, .unset, .unset, .unset, .unset, .unset, .unset, .unset, .unset, .unset, .unset] [(.int (1 : Int32))]))
      refine Goes.st (fun t k => XS.goto X0.here hx rfl (pc0 := 21) (pc' := 25) rfl (hb hby at_21) (by decide) (by decide) k) ?_
      show Goes p e below s _ _ _ (s₁.setTop (mkF m 25 #[.val (.int q0), .val (.int q1), .val (.int q2), .val (.int q3), .val (.int (2 : Int32)), .val (.int r), .unset, .unset, .unset, .unset, .unset, .unset, .unset, .unset, .unset, .unset, .unset, .unset, .unset, .unset, .unset, .unset, .unset] [(.int (1 : Int32))]))
      exact J109 _
  · rw [hn]
    show Goes p e below s _ _ _ (s₁.setTop (mkF m 3 #[.val (.int q0), .val (.int q1), .val (.int q2), .val (.int q3), .unset, .unset, .unset, .unset, .unset, .unset, .unset, .unset, .unset, .unset, .unset, .unset, .unset, .unset, .unset, .unset, .unset, .unset, .unset] [(.int (3 : Int32))]))
    refine Goes.st (fun t k => XS.istore X0.here hx rfl (hb hby at_3) rfl (l' := #[.val (.int q0), .val (.int q1), .val (.int q2), .val (.int q3), .val (.int (3 : Int32)), .unset, .unset, .unset, .unset, .unset, .unset, .unset, .unset, .unset, .unset, .unset, .unset, .unset, .unset, .unset, .unset, .unset, .unset]) rfl k) ?_
    show Goes p e below s _ _ _ (s₁.setTop (mkF m 5 #[.val (.int q0), .val (.int q1), .val (.int q2), .val (.int q3), .val (.int (3 : Int32)), .unset, .unset, .unset, .unset, .unset, .unset, .unset, .unset, .unset, .unset, .unset, .unset, .unset, .unset, .unset, .unset, .unset, .unset] []))
    refine Goes.st (fun t k => XS.iloadN X0.here hx rfl (hb hby at_5) rfl k) ?_
    show Goes p e below s _ _ _ (s₁.setTop (mkF m 6 #[.val (.int q0), .val (.int q1), .val (.int q2), .val (.int q3), .val (.int (3 : Int32)), .unset, .unset, .unset, .unset, .unset, .unset, .unset, .unset, .unset, .unset, .unset, .unset, .unset, .unset, .unset, .unset, .unset, .unset] [(.int q0)]))
    refine Goes.st (fun t k => XS.iconst X0.here hx rfl (hb hby at_6) k) ?_
    show Goes p e below s _ _ _ (s₁.setTop (mkF m 7 #[.val (.int q0), .val (.int q1), .val (.int q2), .val (.int q3), .val (.int (3 : Int32)), .unset, .unset, .unset, .unset, .unset, .unset, .unset, .unset, .unset, .unset, .unset, .unset, .unset, .unset, .unset, .unset, .unset, .unset] [(.int (2 : Int32)), (.int q0)]))
    refine Goes.st (fun t k => XT.iushr X0.here hx rfl (hb hby at_7) rfl k) ?_
    show Goes p e below s _ _ _ (s₁.setTop (mkF m 8 #[.val (.int q0), .val (.int q1), .val (.int q2), .val (.int q3), .val (.int (3 : Int32)), .unset, .unset, .unset, .unset, .unset, .unset, .unset, .unset, .unset, .unset, .unset, .unset, .unset, .unset, .unset, .unset, .unset, .unset] [(.int (XT.ushr q0 (2 : Int32)))]))
    refine Goes.st (fun t k => XS.iconst X0.here hx rfl (hb hby at_8) k) ?_
    show Goes p e below s _ _ _ (s₁.setTop (mkF m 9 #[.val (.int q0), .val (.int q1), .val (.int q2), .val (.int q3), .val (.int (3 : Int32)), .unset, .unset, .unset, .unset, .unset, .unset, .unset, .unset, .unset, .unset, .unset, .unset, .unset, .unset, .unset, .unset, .unset, .unset] [(.int (3 : Int32)), (.int (XT.ushr q0 (2 : Int32)))]))
    refine Goes.st (fun t k => XS.iand X0.here hx rfl (hb hby at_9) rfl k) ?_
    show Goes p e below s _ _ _ (s₁.setTop (mkF m 10 #[.val (.int q0), .val (.int q1), .val (.int q2), .val (.int q3), .val (.int (3 : Int32)), .unset, .unset, .unset, .unset, .unset, .unset, .unset, .unset, .unset, .unset, .unset, .unset, .unset, .unset, .unset, .unset, .unset, .unset] [(.int ((XT.ushr q0 (2 : Int32)) &&& (3 : Int32)))]))
    obtain ⟨r, r_eq⟩ : ∃ z : Int32, z = ((XT.ushr q0 (2 : Int32)) &&& (3 : Int32)) := ⟨_, rfl⟩
    rw [← r_eq]
    show Goes p e below s _ _ _ (s₁.setTop (mkF m 10 #[.val (.int q0), .val (.int q1), .val (.int q2), .val (.int q3), .val (.int (3 : Int32)), .unset, .unset, .unset, .unset, .unset, .unset, .unset, .unset, .unset, .unset, .unset, .unset, .unset, .unset, .unset, .unset, .unset, .unset] [(.int r)]))
    have ir : In4 r := by rw [r_eq]; exact own_and3 _
    refine Goes.st (fun t k => XS.istore X0.here hx rfl (hb hby at_10) rfl (l' := #[.val (.int q0), .val (.int q1), .val (.int q2), .val (.int q3), .val (.int (3 : Int32)), .val (.int r), .unset, .unset, .unset, .unset, .unset, .unset, .unset, .unset, .unset, .unset, .unset, .unset, .unset, .unset, .unset, .unset, .unset]) rfl k) ?_
    show Goes p e below s _ _ _ (s₁.setTop (mkF m 12 #[.val (.int q0), .val (.int q1), .val (.int q2), .val (.int q3), .val (.int (3 : Int32)), .val (.int r), .unset, .unset, .unset, .unset, .unset, .unset, .unset, .unset, .unset, .unset, .unset, .unset, .unset, .unset, .unset, .unset, .unset] []))
    refine Goes.st (fun t k => XS.iloadN X0.here hx rfl (hb hby at_12) rfl k) ?_
    show Goes p e below s _ _ _ (s₁.setTop (mkF m 13 #[.val (.int q0), .val (.int q1), .val (.int q2), .val (.int q3), .val (.int (3 : Int32)), .val (.int r), .unset, .unset, .unset, .unset, .unset, .unset, .unset, .unset, .unset, .unset, .unset, .unset, .unset, .unset, .unset, .unset, .unset] [(.int q0)]))
    refine Goes.st (fun t k => XS.iconst X0.here hx rfl (hb hby at_13) k) ?_
    show Goes p e below s _ _ _ (s₁.setTop (mkF m 14 #[.val (.int q0), .val (.int q1), .val (.int q2), .val (.int q3), .val (.int (3 : Int32)), .val (.int r), .unset, .unset, .unset, .unset, .unset, .unset, .unset, .unset, .unset, .unset, .unset, .unset, .unset, .unset, .unset, .unset, .unset] [(.int (4 : Int32)), (.int q0)]))
    refine Goes.st (fun t k => XT.iushr X0.here hx rfl (hb hby at_14) rfl k) ?_
    show Goes p e below s _ _ _ (s₁.setTop (mkF m 15 #[.val (.int q0), .val (.int q1), .val (.int q2), .val (.int q3), .val (.int (3 : Int32)), .val (.int r), .unset, .unset, .unset, .unset, .unset, .unset, .unset, .unset, .unset, .unset, .unset, .unset, .unset, .unset, .unset, .unset, .unset] [(.int (XT.ushr q0 (4 : Int32)))]))
    refine Goes.st (fun t k => XS.iconst X0.here hx rfl (hb hby at_15) k) ?_
    show Goes p e below s _ _ _ (s₁.setTop (mkF m 16 #[.val (.int q0), .val (.int q1), .val (.int q2), .val (.int q3), .val (.int (3 : Int32)), .val (.int r), .unset, .unset, .unset, .unset, .unset, .unset, .unset, .unset, .unset, .unset, .unset, .unset, .unset, .unset, .unset, .unset, .unset] [(.int (1 : Int32)), (.int (XT.ushr q0 (4 : Int32)))]))
    refine Goes.st (fun t k => XS.iand X0.here hx rfl (hb hby at_16) rfl k) ?_
    show Goes p e below s _ _ _ (s₁.setTop (mkF m 17 #[.val (.int q0), .val (.int q1), .val (.int q2), .val (.int q3), .val (.int (3 : Int32)), .val (.int r), .unset, .unset, .unset, .unset, .unset, .unset, .unset, .unset, .unset, .unset, .unset, .unset, .unset, .unset, .unset, .unset, .unset] [(.int ((XT.ushr q0 (4 : Int32)) &&& (1 : Int32)))]))
    have J166 : ∀ (rv : Int32), Goes p e below s (Q0 Z q0 q1 q2 q3 h0 n0) 24 256 (s₁.setTop (mkF m 25 #[.val (.int q0), .val (.int q1), .val (.int q2), .val (.int q3), .val (.int (3 : Int32)), .val (.int r), .unset, .unset, .unset, .unset, .unset, .unset, .unset, .unset, .unset, .unset, .unset, .unset, .unset, .unset, .unset, .unset, .unset] [(.int rv)])) := by
      intro rv
      refine Goes.st (fun t k => XS.istore X0.here hx rfl (hb hby at_25) rfl (l' := #[.val (.int q0), .val (.int q1), .val (.int q2), .val (.int q3), .val (.int (3 : Int32)), .val (.int r), .val (.int rv), .unset, .unset, .unset, .unset, .unset, .unset, .unset, .unset, .unset, .unset, .unset, .unset, .unset, .unset, .unset, .unset]) rfl k) ?_
      show Goes p e below s _ _ _ (s₁.setTop (mkF m 27 #[.val (.int q0), .val (.int q1), .val (.int q2), .val (.int q3), .val (.int (3 : Int32)), .val (.int r), .val (.int rv), .unset, .unset, .unset, .unset, .unset, .unset, .unset, .unset, .unset, .unset, .unset, .unset, .unset, .unset, .unset, .unset] []))
      refine Goes.st (fun t k => XS.iconst X0.here hx rfl (hb hby at_27) k) ?_
      show Goes p e below s _ _ _ (s₁.setTop (mkF m 28 #[.val (.int q0), .val (.int q1), .val (.int q2), .val (.int q3), .val (.int (3 : Int32)), .val (.int r), .val (.int rv), .unset, .unset, .unset, .unset, .unset, .unset, .unset, .unset, .unset, .unset, .unset, .unset, .unset, .unset, .unset, .unset] [(.int (1 : Int32))]))
      refine Goes.st (fun t k => XS.iloadN X0.here hx rfl (hb hby at_28) rfl k) ?_
      show Goes p e below s _ _ _ (s₁.setTop (mkF m 29 #[.val (.int q0), .val (.int q1), .val (.int q2), .val (.int q3), .val (.int (3 : Int32)), .val (.int r), .val (.int rv), .unset, .unset, .unset, .unset, .unset, .unset, .unset, .unset, .unset, .unset, .unset, .unset, .unset, .unset, .unset, .unset] [(.int q1), (.int (1 : Int32))]))
      refine Goes.st (fun t k => XS.iconst X0.here hx rfl (hb hby at_29) k) ?_
      show Goes p e below s _ _ _ (s₁.setTop (mkF m 30 #[.val (.int q0), .val (.int q1), .val (.int q2), .val (.int q3), .val (.int (3 : Int32)), .val (.int r), .val (.int rv), .unset, .unset, .unset, .unset, .unset, .unset, .unset, .unset, .unset, .unset, .unset, .unset, .unset, .unset, .unset, .unset] [(.int (3 : Int32)), (.int q1), (.int (1 : Int32))]))
      refine Goes.st (fun t k => XS.iand X0.here hx rfl (hb hby at_30) rfl k) ?_
      show Goes p e below s _ _ _ (s₁.setTop (mkF m 31 #[.val (.int q0), .val (.int q1), .val (.int q2), .val (.int q3), .val (.int (3 : Int32)), .val (.int r), .val (.int rv), .unset, .unset, .unset, .unset, .unset, .unset, .unset, .unset, .unset, .unset, .unset, .unset, .unset, .unset, .unset, .unset] [(.int (q1 &&& (3 : Int32))), (.int (1 : Int32))]))
      refine Goes.st (fun t k => XS.iadd X0.here hx rfl (hb hby at_31) rfl k) ?_
      show Goes p e below s _ _ _ (s₁.setTop (mkF m 32 #[.val (.int q0), .val (.int q1), .val (.int q2), .val (.int q3), .val (.int (3 : Int32)), .val (.int r), .val (.int rv), .unset, .unset, .unset, .unset, .unset, .unset, .unset, .unset, .unset, .unset, .unset, .unset, .unset, .unset, .unset, .unset] [(.int ((1 : Int32) + (q1 &&& (3 : Int32))))]))
      obtain ⟨s0, s0_eq⟩ : ∃ z : Int32, z = ((1 : Int32) + (q1 &&& (3 : Int32))) := ⟨_, rfl⟩
      rw [← s0_eq]
      show Goes p e below s _ _ _ (s₁.setTop (mkF m 32 #[.val (.int q0), .val (.int q1), .val (.int q2), .val (.int q3), .val (.int (3 : Int32)), .val (.int r), .val (.int rv), .unset, .unset, .unset, .unset, .unset, .unset, .unset, .unset, .unset, .unset, .unset, .unset, .unset, .unset, .unset, .unset] [(.int s0)]))
      have is0 : Sz4 s0 := by rw [s0_eq]; exact own_sz _
      refine Goes.st (fun t k => XS.istore X0.here hx rfl (hb hby at_32) rfl (l' := #[.val (.int q0), .val (.int q1), .val (.int q2), .val (.int q3), .val (.int (3 : Int32)), .val (.int r), .val (.int rv), .val (.int s0), .unset, .unset, .unset, .unset, .unset, .unset, .unset, .unset, .unset, .unset, .unset, .unset, .unset, .unset, .unset]) rfl k) ?_
      show Goes p e below s _ _ _ (s₁.setTop (mkF m 34 #[.val (.int q0), .val (.int q1), .val (.int q2), .val (.int q3), .val (.int (3 : Int32)), .val (.int r), .val (.int rv), .val (.int s0), .unset, .unset, .unset, .unset, .unset, .unset, .unset, .unset, .unset, .unset, .unset, .unset, .unset, .unset, .unset] []))
      refine Goes.st (fun t k => XS.iconst X0.here hx rfl (hb hby at_34) k) ?_
      show Goes p e below s _ _ _ (s₁.setTop (mkF m 35 #[.val (.int q0), .val (.int q1), .val (.int q2), .val (.int q3), .val (.int (3 : Int32)), .val (.int r), .val (.int rv), .val (.int s0), .unset, .unset, .unset, .unset, .unset, .unset, .unset, .unset, .unset, .unset, .unset, .unset, .unset, .unset, .unset] [(.int (1 : Int32))]))
      refine Goes.st (fun t k => XS.iloadN X0.here hx rfl (hb hby at_35) rfl k) ?_
      show Goes p e below s _ _ _ (s₁.setTop (mkF m 36 #[.val (.int q0), .val (.int q1), .val (.int q2), .val (.int q3), .val (.int (3 : Int32)), .val (.int r), .val (.int rv), .val (.int s0), .unset, .unset, .unset, .unset, .unset, .unset, .unset, .unset, .unset, .unset, .unset, .unset, .unset, .unset, .unset] [(.int q1), (.int (1 : Int32))]))
      refine Goes.st (fun t k => XS.iconst X0.here hx rfl (hb hby at_36) k) ?_
      show Goes p e below s _ _ _ (s₁.setTop (mkF m 37 #[.val (.int q0), .val (.int q1), .val (.int q2), .val (.int q3), .val (.int (3 : Int32)), .val (.int r), .val (.int rv), .val (.int s0), .unset, .unset, .unset, .unset, .unset, .unset, .unset, .unset, .unset, .unset, .unset, .unset, .unset, .unset, .unset] [(.int (2 : Int32)), (.int q1), (.int (1 : Int32))]))
      refine Goes.st (fun t k => XT.iushr X0.here hx rfl (hb hby at_37) rfl k) ?_
      show Goes p e below s _ _ _ (s₁.setTop (mkF m 38 #[.val (.int q0), .val (.int q1), .val (.int q2), .val (.int q3), .val (.int (3 : Int32)), .val (.int r), .val (.int rv), .val (.int s0), .unset, .unset, .unset, .unset, .unset, .unset, .unset, .unset, .unset, .unset, .unset, .unset, .unset, .unset, .unset] [(.int (XT.ushr q1 (2 : Int32))), (.int (1 : Int32))]))
      refine Goes.st (fun t k => XS.iconst X0.here hx rfl (hb hby at_38) k) ?_
      show Goes p e below s _ _ _ (s₁.setTop (mkF m 39 #[.val (.int q0), .val (.int q1), .val (.int q2), .val (.int q3), .val (.int (3 : Int32)), .val (.int r), .val (.int rv), .val (.int s0), .unset, .unset, .unset, .unset, .unset, .unset, .unset, .unset, .unset, .unset, .unset, .unset, .unset, .unset, .unset] [(.int (3 : Int32)), (.int (XT.ushr q1 (2 : Int32))), (.int (1 : Int32))]))
      refine Goes.st (fun t k => XS.iand X0.here hx rfl (hb hby at_39) rfl k) ?_
      show Goes p e below s _ _ _ (s₁.setTop (mkF m 40 #[.val (.int q0), .val (.int q1), .val (.int q2), .val (.int q3), .val (.int (3 : Int32)), .val (.int r), .val (.int rv), .val (.int s0), .unset, .unset, .unset, .unset, .unset, .unset, .unset, .unset, .unset, .unset, .unset, .unset, .unset, .unset, .unset] [(.int ((XT.ushr q1 (2 : Int32)) &&& (3 : Int32))), (.int (1 : Int32))]))
      refine Goes.st (fun t k => XS.iadd X0.here hx rfl (hb hby at_40) rfl k) ?_
      show Goes p e below s _ _ _ (s₁.setTop (mkF m 41 #[.val (.int q0), .val (.int q1), .val (.int q2), .val (.int q3), .val (.int (3 : Int32)), .val (.int r), .val (.int rv), .val (.int s0), .unset, .unset, .unset, .unset, .unset, .unset, .unset, .unset, .unset, .unset, .unset, .unset, .unset, .unset, .unset] [(.int ((1 : Int32) + ((XT.ushr q1 (2 : Int32)) &&& (3 : Int32))))]))
      obtain ⟨s1, s1_eq⟩ : ∃ z : Int32, z = ((1 : Int32) + ((XT.ushr q1 (2 : Int32)) &&& (3 : Int32))) := ⟨_, rfl⟩
      rw [← s1_eq]
      show Goes p e below s _ _ _ (s₁.setTop (mkF m 41 #[.val (.int q0), .val (.int q1), .val (.int q2), .val (.int q3), .val (.int (3 : Int32)), .val (.int r), .val (.int rv), .val (.int s0), .unset, .unset, .unset, .unset, .unset, .unset, .unset, .unset, .unset, .unset, .unset, .unset, .unset, .unset, .unset] [(.int s1)]))
      have is1 : Sz4 s1 := by rw [s1_eq]; exact own_sz _
      refine Goes.st (fun t k => XS.istore X0.here hx rfl (hb hby at_41) rfl (l' := #[.val (.int q0), .val (.int q1), .val (.int q2), .val (.int q3), .val (.int (3 : Int32)), .val (.int r), .val (.int rv), .val (.int s0), .val (.int s1), .unset, .unset, .unset, .unset, .unset, .unset, .unset, .unset, .unset, .unset, .unset, .unset, .unset, .unset]) rfl k) ?_
      show Goes p e below s _ _ _ (s₁.setTop (mkF m 43 #[.val (.int q0), .val (.int q1), .val (.int q2), .val (.int q3), .val (.int (3 : Int32)), .val (.int r), .val (.int rv), .val (.int s0), .val (.int s1), .unset, .unset, .unset, .unset, .unset, .unset, .unset, .unset, .unset, .unset, .unset, .unset, .unset, .unset] []))
      refine Goes.st (fun t k => XS.iconst X0.here hx rfl (hb hby at_43) k) ?_
      show Goes p e below s _ _ _ (s₁.setTop (mkF m 44 #[.val (.int q0), .val (.int q1), .val (.int q2), .val (.int q3), .val (.int (3 : Int32)), .val (.int r), .val (.int rv), .val (.int s0), .val (.int s1), .unset, .unset, .unset, .unset, .unset, .unset, .unset, .unset, .unset, .unset, .unset, .unset, .unset, .unset] [(.int (1 : Int32))]))
      refine Goes.st (fun t k => XS.iloadN X0.here hx rfl (hb hby at_44) rfl k) ?_
      show Goes p e below s _ _ _ (s₁.setTop (mkF m 45 #[.val (.int q0), .val (.int q1), .val (.int q2), .val (.int q3), .val (.int (3 : Int32)), .val (.int r), .val (.int rv), .val (.int s0), .val (.int s1), .unset, .unset, .unset, .unset, .unset, .unset, .unset, .unset, .unset, .unset, .unset, .unset, .unset, .unset] [(.int q1), (.int (1 : Int32))]))
      refine Goes.st (fun t k => XS.iconst X0.here hx rfl (hb hby at_45) k) ?_
      show Goes p e below s _ _ _ (s₁.setTop (mkF m 46 #[.val (.int q0), .val (.int q1), .val (.int q2), .val (.int q3), .val (.int (3 : Int32)), .val (.int r), .val (.int rv), .val (.int s0), .val (.int s1), .unset, .unset, .unset, .unset, .unset, .unset, .unset, .unset, .unset, .unset, .unset, .unset, .unset, .unset] [(.int (4 : Int32)), (.int q1), (.int (1 : Int32))]))
      refine Goes.st (fun t k => XT.iushr X0.here hx rfl (hb hby at_46) rfl k) ?_
      show Goes p e below s _ _ _ (s₁.setTop (mkF m 47 #[.val (.int q0), .val (.int q1), .val (.int q2), .val (.int q3), .val (.int (3 : Int32)), .val (.int r), .val (.int rv), .val (.int s0), .val (.int s1), .unset, .unset, .unset, .unset, .unset, .unset, .unset, .unset, .unset, .unset, .unset, .unset, .unset, .unset] [(.int (XT.ushr q1 (4 : Int32))), (.int (1 : Int32))]))
      refine Goes.st (fun t k => XS.iconst X0.here hx rfl (hb hby at_47) k) ?_
      show Goes p e below s _ _ _ (s₁.setTop (mkF m 48 #[.val (.int q0), .val (.int q1), .val (.int q2), .val (.int q3), .val (.int (3 : Int32)), .val (.int r), .val (.int rv), .val (.int s0), .val (.int s1), .unset, .unset, .unset, .unset, .unset, .unset, .unset, .unset, .unset, .unset, .unset, .unset, .unset, .unset] [(.int (3 : Int32)), (.int (XT.ushr q1 (4 : Int32))), (.int (1 : Int32))]))
      refine Goes.st (fun t k => XS.iand X0.here hx rfl (hb hby at_48) rfl k) ?_
      show Goes p e below s _ _ _ (s₁.setTop (mkF m 49 #[.val (.int q0), .val (.int q1), .val (.int q2), .val (.int q3), .val (.int (3 : Int32)), .val (.int r), .val (.int rv), .val (.int s0), .val (.int s1), .unset, .unset, .unset, .unset, .unset, .unset, .unset, .unset, .unset, .unset, .unset, .unset, .unset, .unset] [(.int ((XT.ushr q1 (4 : Int32)) &&& (3 : Int32))), (.int (1 : Int32))]))
      refine Goes.st (fun t k => XS.iadd X0.here hx rfl (hb hby at_49) rfl k) ?_
      show Goes p e below s _ _ _ (s₁.setTop (mkF m 50 #[.val (.int q0), .val (.int q1), .val (.int q2), .val (.int q3), .val (.int (3 : Int32)), .val (.int r), .val (.int rv), .val (.int s0), .val (.int s1), .unset, .unset, .unset, .unset, .unset, .unset, .unset, .unset, .unset, .unset, .unset, .unset, .unset, .unset] [(.int ((1 : Int32) + ((XT.ushr q1 (4 : Int32)) &&& (3 : Int32))))]))
      obtain ⟨s2, s2_eq⟩ : ∃ z : Int32, z = ((1 : Int32) + ((XT.ushr q1 (4 : Int32)) &&& (3 : Int32))) := ⟨_, rfl⟩
      rw [← s2_eq]
      show Goes p e below s _ _ _ (s₁.setTop (mkF m 50 #[.val (.int q0), .val (.int q1), .val (.int q2), .val (.int q3), .val (.int (3 : Int32)), .val (.int r), .val (.int rv), .val (.int s0), .val (.int s1), .unset, .unset, .unset, .unset, .unset, .unset, .unset, .unset, .unset, .unset, .unset, .unset, .unset, .unset] [(.int s2)]))
      have is2 : Sz4 s2 := by rw [s2_eq]; exact own_sz _
      refine Goes.st (fun t k => XS.istore X0.here hx rfl (hb hby at_50) rfl (l' := #[.val (.int q0), .val (.int q1), .val (.int q2), .val (.int q3), .val (.int (3 : Int32)), .val (.int r), .val (.int rv), .val (.int s0), .val (.int s1), .val (.int s2), .unset, .unset, .unset, .unset, .unset, .unset, .unset, .unset, .unset, .unset, .unset, .unset, .unset]) rfl k) ?_
      show Goes p e below s _ _ _ (s₁.setTop (mkF m 52 #[.val (.int q0), .val (.int q1), .val (.int q2), .val (.int q3), .val (.int (3 : Int32)), .val (.int r), .val (.int rv), .val (.int s0), .val (.int s1), .val (.int s2), .unset, .unset, .unset, .unset, .unset, .unset, .unset, .unset, .unset, .unset, .unset, .unset, .unset] []))
      refine Goes.st (fun t k => XS.iloadN X0.here hx rfl (hb hby at_52) rfl k) ?_
      show Goes p e below s _ _ _ (s₁.setTop (mkF m 53 #[.val (.int q0), .val (.int q1), .val (.int q2), .val (.int q3), .val (.int (3 : Int32)), .val (.int r), .val (.int rv), .val (.int s0), .val (.int s1), .val (.int s2), .unset, .unset, .unset, .unset, .unset, .unset, .unset, .unset, .unset, .unset, .unset, .unset, .unset] [(.int q2)]))
      refine Goes.st (fun t k => XS.iconst X0.here hx rfl (hb hby at_53) k) ?_
      show Goes p e below s _ _ _ (s₁.setTop (mkF m 54 #[.val (.int q0), .val (.int q1), .val (.int q2), .val (.int q3), .val (.int (3 : Int32)), .val (.int r), .val (.int rv), .val (.int s0), .val (.int s1), .val (.int s2), .unset, .unset, .unset, .unset, .unset, .unset, .unset, .unset, .unset, .unset, .unset, .unset, .unset] [(.int (3 : Int32)), (.int q2)]))
      refine Goes.st (fun t k => XS.iand X0.here hx rfl (hb hby at_54) rfl k) ?_
      show Goes p e below s _ _ _ (s₁.setTop (mkF m 55 #[.val (.int q0), .val (.int q1), .val (.int q2), .val (.int q3), .val (.int (3 : Int32)), .val (.int r), .val (.int rv), .val (.int s0), .val (.int s1), .val (.int s2), .unset, .unset, .unset, .unset, .unset, .unset, .unset, .unset, .unset, .unset, .unset, .unset, .unset] [(.int (q2 &&& (3 : Int32)))]))
      refine Goes.st (fun t k => XS.iload X0.here hx rfl (hb hby at_55) rfl k) ?_
      show Goes p e below s _ _ _ (s₁.setTop (mkF m 57 #[.val (.int q0), .val (.int q1), .val (.int q2), .val (.int q3), .val (.int (3 : Int32)), .val (.int r), .val (.int rv), .val (.int s0), .val (.int s1), .val (.int s2), .unset, .unset, .unset, .unset, .unset, .unset, .unset, .unset, .unset, .unset, .unset, .unset, .unset] [(.int s0), (.int (q2 &&& (3 : Int32)))]))
      refine Goes.st (fun t k => iremM X0 hx rfl (hb hby at_57) rfl (own_sz0 is0) k) ?_
      show Goes p e below s _ _ _ (s₁.setTop (mkF m 58 #[.val (.int q0), .val (.int q1), .val (.int q2), .val (.int q3), .val (.int (3 : Int32)), .val (.int r), .val (.int rv), .val (.int s0), .val (.int s1), .val (.int s2), .unset, .unset, .unset, .unset, .unset, .unset, .unset, .unset, .unset, .unset, .unset, .unset, .unset] [(.int ((q2 &&& (3 : Int32)) % s0))]))
      obtain ⟨v0, v0_eq⟩ : ∃ z : Int32, z = ((q2 &&& (3 : Int32)) % s0) := ⟨_, rfl⟩
      rw [← v0_eq]
      show Goes p e below s _ _ _ (s₁.setTop (mkF m 58 #[.val (.int q0), .val (.int q1), .val (.int q2), .val (.int q3), .val (.int (3 : Int32)), .val (.int r), .val (.int rv), .val (.int s0), .val (.int s1), .val (.int s2), .unset, .unset, .unset, .unset, .unset, .unset, .unset, .unset, .unset, .unset, .unset, .unset, .unset] [(.int v0)]))
      have iv0 : In4 v0 := by rw [v0_eq]; exact own_rem (own_and3 _) is0
      refine Goes.st (fun t k => XS.istore X0.here hx rfl (hb hby at_58) rfl (l' := #[.val (.int q0), .val (.int q1), .val (.int q2), .val (.int q3), .val (.int (3 : Int32)), .val (.int r), .val (.int rv), .val (.int s0), .val (.int s1), .val (.int s2), .val (.int v0), .unset, .unset, .unset, .unset, .unset, .unset, .unset, .unset, .unset, .unset, .unset, .unset]) rfl k) ?_
      show Goes p e below s _ _ _ (s₁.setTop (mkF m 60 #[.val (.int q0), .val (.int q1), .val (.int q2), .val (.int q3), .val (.int (3 : Int32)), .val (.int r), .val (.int rv), .val (.int s0), .val (.int s1), .val (.int s2), .val (.int v0), .unset, .unset, .unset, .unset, .unset, .unset, .unset, .unset, .unset, .unset, .unset, .unset] []))
      refine Goes.st (fun t k => XS.iloadN X0.here hx rfl (hb hby at_60) rfl k) ?_
      show Goes p e below s _ _ _ (s₁.setTop (mkF m 61 #[.val (.int q0), .val (.int q1), .val (.int q2), .val (.int q3), .val (.int (3 : Int32)), .val (.int r), .val (.int rv), .val (.int s0), .val (.int s1), .val (.int s2), .val (.int v0), .unset, .unset, .unset, .unset, .unset, .unset, .unset, .unset, .unset, .unset, .unset, .unset] [(.int q2)]))
      refine Goes.st (fun t k => XS.iconst X0.here hx rfl (hb hby at_61) k) ?_
      show Goes p e below s _ _ _ (s₁.setTop (mkF m 62 #[.val (.int q0), .val (.int q1), .val (.int q2), .val (.int q3), .val (.int (3 : Int32)), .val (.int r), .val (.int rv), .val (.int s0), .val (.int s1), .val (.int s2), .val (.int v0), .unset, .unset, .unset, .unset, .unset, .unset, .unset, .unset, .unset, .unset, .unset, .unset] [(.int (2 : Int32)), (.int q2)]))
      refine Goes.st (fun t k => XT.iushr X0.here hx rfl (hb hby at_62) rfl k) ?_
      show Goes p e below s _ _ _ (s₁.setTop (mkF m 63 #[.val (.int q0), .val (.int q1), .val (.int q2), .val (.int q3), .val (.int (3 : Int32)), .val (.int r), .val (.int rv), .val (.int s0), .val (.int s1), .val (.int s2), .val (.int v0), .unset, .unset, .unset, .unset, .unset, .unset, .unset, .unset, .unset, .unset, .unset, .unset] [(.int (XT.ushr q2 (2 : Int32)))]))
      refine Goes.st (fun t k => XS.iconst X0.here hx rfl (hb hby at_63) k) ?_
      show Goes p e below s _ _ _ (s₁.setTop (mkF m 64 #[.val (.int q0), .val (.int q1), .val (.int q2), .val (.int q3), .val (.int (3 : Int32)), .val (.int r), .val (.int rv), .val (.int s0), .val (.int s1), .val (.int s2), .val (.int v0), .unset, .unset, .unset, .unset, .unset, .unset, .unset, .unset, .unset, .unset, .unset, .unset] [(.int (3 : Int32)), (.int (XT.ushr q2 (2 : Int32)))]))
      refine Goes.st (fun t k => XS.iand X0.here hx rfl (hb hby at_64) rfl k) ?_
      show Goes p e below s _ _ _ (s₁.setTop (mkF m 65 #[.val (.int q0), .val (.int q1), .val (.int q2), .val (.int q3), .val (.int (3 : Int32)), .val (.int r), .val (.int rv), .val (.int s0), .val (.int s1), .val (.int s2), .val (.int v0), .unset, .unset, .unset, .unset, .unset, .unset, .unset, .unset, .unset, .unset, .unset, .unset] [(.int ((XT.ushr q2 (2 : Int32)) &&& (3 : Int32)))]))
      refine Goes.st (fun t k => XS.iload X0.here hx rfl (hb hby at_65) rfl k) ?_
      show Goes p e below s _ _ _ (s₁.setTop (mkF m 67 #[.val (.int q0), .val (.int q1), .val (.int q2), .val (.int q3), .val (.int (3 : Int32)), .val (.int r), .val (.int rv), .val (.int s0), .val (.int s1), .val (.int s2), .val (.int v0), .unset, .unset, .unset, .unset, .unset, .unset, .unset, .unset, .unset, .unset, .unset, .unset] [(.int s1), (.int ((XT.ushr q2 (2 : Int32)) &&& (3 : Int32)))]))
      refine Goes.st (fun t k => iremM X0 hx rfl (hb hby at_67) rfl (own_sz0 is1) k) ?_
      show Goes p e below s _ _ _ (s₁.setTop (mkF m 68 #[.val (.int q0), .val (.int q1), .val (.int q2), .val (.int q3), .val (.int (3 : Int32)), .val (.int r), .val (.int rv), .val (.int s0), .val (.int s1), .val (.int s2), .val (.int v0), .unset, .unset, .unset, .unset, .unset, .unset, .unset, .unset, .unset, .unset, .unset, .unset] [(.int (((XT.ushr q2 (2 : Int32)) &&& (3 : Int32)) % s1))]))
      obtain ⟨v1, v1_eq⟩ : ∃ z : Int32, z = (((XT.ushr q2 (2 : Int32)) &&& (3 : Int32)) % s1) := ⟨_, rfl⟩
      rw [← v1_eq]
      show Goes p e below s _ _ _ (s₁.setTop (mkF m 68 #[.val (.int q0), .val (.int q1), .val (.int q2), .val (.int q3), .val (.int (3 : Int32)), .val (.int r), .val (.int rv), .val (.int s0), .val (.int s1), .val (.int s2), .val (.int v0), .unset, .unset, .unset, .unset, .unset, .unset, .unset, .unset, .unset, .unset, .unset, .unset] [(.int v1)]))
      have iv1 : In4 v1 := by rw [v1_eq]; exact own_rem (own_and3 _) is1
      refine Goes.st (fun t k => XS.istore X0.here hx rfl (hb hby at_68) rfl (l' := #[.val (.int q0), .val (.int q1), .val (.int q2), .val (.int q3), .val (.int (3 : Int32)), .val (.int r), .val (.int rv), .val (.int s0), .val (.int s1), .val (.int s2), .val (.int v0), .val (.int v1), .unset, .unset, .unset, .unset, .unset, .unset, .unset, .unset, .unset, .unset, .unset]) rfl k) ?_
      show Goes p e below s _ _ _ (s₁.setTop (mkF m 70 #[.val (.int q0), .val (.int q1), .val (.int q2), .val (.int q3), .val (.int (3 : Int32)), .val (.int r), .val (.int rv), .val (.int s0), .val (.int s1), .val (.int s2), .val (.int v0), .val (.int v1), .unset, .unset, .unset, .unset, .unset, .unset, .unset, .unset, .unset, .unset, .unset] []))
      refine Goes.st (fun t k => XS.iloadN X0.here hx rfl (hb hby at_70) rfl k) ?_
      show Goes p e below s _ _ _ (s₁.setTop (mkF m 71 #[.val (.int q0), .val (.int q1), .val (.int q2), .val (.int q3), .val (.int (3 : Int32)), .val (.int r), .val (.int rv), .val (.int s0), .val (.int s1), .val (.int s2), .val (.int v0), .val (.int v1), .unset, .unset, .unset, .unset, .unset, .unset, .unset, .unset, .unset, .unset, .unset] [(.int q2)]))
      refine Goes.st (fun t k => XS.iconst X0.here hx rfl (hb hby at_71) k) ?_
      show Goes p e below s _ _ _ (s₁.setTop (mkF m 72 #[.val (.int q0), .val (.int q1), .val (.int q2), .val (.int q3), .val (.int (3 : Int32)), .val (.int r), .val (.int rv), .val (.int s0), .val (.int s1), .val (.int s2), .val (.int v0), .val (.int v1), .unset, .unset, .unset, .unset, .unset, .unset, .unset, .unset, .unset, .unset, .unset] [(.int (4 : Int32)), (.int q2)]))
      refine Goes.st (fun t k => XT.iushr X0.here hx rfl (hb hby at_72) rfl k) ?_
      show Goes p e below s _ _ _ (s₁.setTop (mkF m 73 #[.val (.int q0), .val (.int q1), .val (.int q2), .val (.int q3), .val (.int (3 : Int32)), .val (.int r), .val (.int rv), .val (.int s0), .val (.int s1), .val (.int s2), .val (.int v0), .val (.int v1), .unset, .unset, .unset, .unset, .unset, .unset, .unset, .unset, .unset, .unset, .unset] [(.int (XT.ushr q2 (4 : Int32)))]))
      refine Goes.st (fun t k => XS.iconst X0.here hx rfl (hb hby at_73) k) ?_
      show Goes p e below s _ _ _ (s₁.setTop (mkF m 74 #[.val (.int q0), .val (.int q1), .val (.int q2), .val (.int q3), .val (.int (3 : Int32)), .val (.int r), .val (.int rv), .val (.int s0), .val (.int s1), .val (.int s2), .val (.int v0), .val (.int v1), .unset, .unset, .unset, .unset, .unset, .unset, .unset, .unset, .unset, .unset, .unset] [(.int (3 : Int32)), (.int (XT.ushr q2 (4 : Int32)))]))
      refine Goes.st (fun t k => XS.iand X0.here hx rfl (hb hby at_74) rfl k) ?_
      show Goes p e below s _ _ _ (s₁.setTop (mkF m 75 #[.val (.int q0), .val (.int q1), .val (.int q2), .val (.int q3), .val (.int (3 : Int32)), .val (.int r), .val (.int rv), .val (.int s0), .val (.int s1), .val (.int s2), .val (.int v0), .val (.int v1), .unset, .unset, .unset, .unset, .unset, .unset, .unset, .unset, .unset, .unset, .unset] [(.int ((XT.ushr q2 (4 : Int32)) &&& (3 : Int32)))]))
      refine Goes.st (fun t k => XS.iload X0.here hx rfl (hb hby at_75) rfl k) ?_
      show Goes p e below s _ _ _ (s₁.setTop (mkF m 77 #[.val (.int q0), .val (.int q1), .val (.int q2), .val (.int q3), .val (.int (3 : Int32)), .val (.int r), .val (.int rv), .val (.int s0), .val (.int s1), .val (.int s2), .val (.int v0), .val (.int v1), .unset, .unset, .unset, .unset, .unset, .unset, .unset, .unset, .unset, .unset, .unset] [(.int s2), (.int ((XT.ushr q2 (4 : Int32)) &&& (3 : Int32)))]))
      refine Goes.st (fun t k => iremM X0 hx rfl (hb hby at_77) rfl (own_sz0 is2) k) ?_
      show Goes p e below s _ _ _ (s₁.setTop (mkF m 78 #[.val (.int q0), .val (.int q1), .val (.int q2), .val (.int q3), .val (.int (3 : Int32)), .val (.int r), .val (.int rv), .val (.int s0), .val (.int s1), .val (.int s2), .val (.int v0), .val (.int v1), .unset, .unset, .unset, .unset, .unset, .unset, .unset, .unset, .unset, .unset, .unset] [(.int (((XT.ushr q2 (4 : Int32)) &&& (3 : Int32)) % s2))]))
      obtain ⟨v2, v2_eq⟩ : ∃ z : Int32, z = (((XT.ushr q2 (4 : Int32)) &&& (3 : Int32)) % s2) := ⟨_, rfl⟩
      rw [← v2_eq]
      show Goes p e below s _ _ _ (s₁.setTop (mkF m 78 #[.val (.int q0), .val (.int q1), .val (.int q2), .val (.int q3), .val (.int (3 : Int32)), .val (.int r), .val (.int rv), .val (.int s0), .val (.int s1), .val (.int s2), .val (.int v0), .val (.int v1), .unset, .unset, .unset, .unset, .unset, .unset, .unset, .unset, .unset, .unset, .unset] [(.int v2)]))
      have iv2 : In4 v2 := by rw [v2_eq]; exact own_rem (own_and3 _) is2
      refine Goes.st (fun t k => XS.istore X0.here hx rfl (hb hby at_78) rfl (l' := #[.val (.int q0), .val (.int q1), .val (.int q2), .val (.int q3), .val (.int (3 : Int32)), .val (.int r), .val (.int rv), .val (.int s0), .val (.int s1), .val (.int s2), .val (.int v0), .val (.int v1), .val (.int v2), .unset, .unset, .unset, .unset, .unset, .unset, .unset, .unset, .unset, .unset]) rfl k) ?_
      show Goes p e below s _ _ _ (s₁.setTop (mkF m 80 #[.val (.int q0), .val (.int q1), .val (.int q2), .val (.int q3), .val (.int (3 : Int32)), .val (.int r), .val (.int rv), .val (.int s0), .val (.int s1), .val (.int s2), .val (.int v0), .val (.int v1), .val (.int v2), .unset, .unset, .unset, .unset, .unset, .unset, .unset, .unset, .unset, .unset] []))
      refine Goes.st (fun t k => XS.iload X0.here hx rfl (hb hby at_80) rfl k) ?_
      show Goes p e below s _ _ _ (s₁.setTop (mkF m 82 #[.val (.int q0), .val (.int q1), .val (.int q2), .val (.int q3), .val (.int (3 : Int32)), .val (.int r), .val (.int rv), .val (.int s0), .val (.int s1), .val (.int s2), .val (.int v0), .val (.int v1), .val (.int v2), .unset, .unset, .unset, .unset, .unset, .unset, .unset, .unset, .unset, .unset] [(.int r)]))
      refine Goes.st (fun t k => XS.iconst X0.here hx rfl (hb hby at_82) k) ?_
      show Goes p e below s _ _ _ (s₁.setTop (mkF m 83 #[.val (.int q0), .val (.int q1), .val (.int q2), .val (.int q3), .val (.int (3 : Int32)), .val (.int r), .val (.int rv), .val (.int s0), .val (.int s1), .val (.int s2), .val (.int v0), .val (.int v1), .val (.int v2), .unset, .unset, .unset, .unset, .unset, .unset, .unset, .unset, .unset, .unset] [(.int (0 : Int32)), (.int r)]))
      refine Goes.st (fun t k => XS.iload X0.here hx rfl (hb hby at_83) rfl k) ?_
      show Goes p e below s _ _ _ (s₁.setTop (mkF m 85 #[.val (.int q0), .val (.int q1), .val (.int q2), .val (.int q3), .val (.int (3 : Int32)), .val (.int r), .val (.int rv), .val (.int s0), .val (.int s1), .val (.int s2), .val (.int v0), .val (.int v1), .val (.int v2), .unset, .unset, .unset, .unset, .unset, .unset, .unset, .unset, .unset, .unset] [(.int rv), (.int (0 : Int32)), (.int r)]))
      obtain ⟨_, _, ⟨T167, L167, k167, n167⟩, -, X167, ⟨Lc167, hQ167, l167, y167, z167⟩, st167⟩ := Jvm.LawKit.callS X0 hx (y := (⟨"com/example/parley/parley/TableEntryPinLaw", "slot", "(IIZ)I"⟩ : MethodName)) hown (mvT hZ (hw _ (List.mem_of_getElem? (i := 0) rfl))) (mvT hZ (hw _ (List.mem_of_getElem? (i := 1) rfl))) (mvT hZ (hw _ (List.mem_of_getElem? (i := 2) rfl))) (mvT hZ (hw _ (List.mem_of_getElem? (i := 3) rfl))) (by decide) (backOf (W := 0) (rmS l Z a0 hw [] r (0 : Int32) rv h0 n0 Z0 ) hZ (hw _ (List.mem_of_getElem? (i := 3) rfl)) (hw _ (List.mem_of_getElem? (i := 2) rfl)) (by decide) (by decide)) (g := (mkF m 85 #[.val (.int q0), .val (.int q1), .val (.int q2), .val (.int q3), .val (.int (3 : Int32)), .val (.int r), .val (.int rv), .val (.int s0), .val (.int s1), .val (.int s2), .val (.int v0), .val (.int v1), .val (.int v2), .unset, .unset, .unset, .unset, .unset, .unset, .unset, .unset, .unset, .unset] [(.int rv), (.int (0 : Int32)), (.int r)])) rfl (by rw [hml]; rfl) (argsL := [(.int r), (.int (0 : Int32)), (.int rv)]) (rest := []) (lenOf pd__IIZ_I_ea4 rfl) rfl (by show 2 * 0 + _ ≤ _; exact Nat.le_of_eq rfl) (hb hby at_85) (fun _ _ => ⟨rfl, e0, (by decide : 0 + 0 ≤ 24), (by decide : 0 + 0 ≤ 256)⟩)
      dsimp only [Pt.U, Pt.locs, Pt.cells, Pt.slots] at X167 l167 y167 z167 st167 hQ167
      subst l167 y167 z167
      obtain ⟨rfl, N167q, eh167⟩ := hQ167
      have N167 := Fr.app N0 N167q
      refine Goes.st st167 ?_
      show Goes p e below s _ _ _ (T167.setTop (mkF m 88 #[.val (.int q0), .val (.int q1), .val (.int q2), .val (.int q3), .val (.int (3 : Int32)), .val (.int r), .val (.int rv), .val (.int s0), .val (.int s1), .val (.int s2), .val (.int v0), .val (.int v1), .val (.int v2), .unset, .unset, .unset, .unset, .unset, .unset, .unset, .unset, .unset, .unset] [(.int (slF r (0 : Int32) rv))]))
      obtain ⟨p0x, p0x_eq⟩ : ∃ z : Int32, z = (slF r (0 : Int32) rv) := ⟨_, rfl⟩
      rw [← p0x_eq]
      show Goes p e below s _ _ _ (T167.setTop (mkF m 88 #[.val (.int q0), .val (.int q1), .val (.int q2), .val (.int q3), .val (.int (3 : Int32)), .val (.int r), .val (.int rv), .val (.int s0), .val (.int s1), .val (.int s2), .val (.int v0), .val (.int v1), .val (.int v2), .unset, .unset, .unset, .unset, .unset, .unset, .unset, .unset, .unset, .unset] [(.int p0x)]))
      obtain ⟨p0, p0_e⟩ : ∃ z : Int32, z = p0x := ⟨_, rfl⟩
      rw [← p0_e]
      show Goes p e below s _ _ _ (T167.setTop (mkF m 88 #[.val (.int q0), .val (.int q1), .val (.int q2), .val (.int q3), .val (.int (3 : Int32)), .val (.int r), .val (.int rv), .val (.int s0), .val (.int s1), .val (.int s2), .val (.int v0), .val (.int v1), .val (.int v2), .unset, .unset, .unset, .unset, .unset, .unset, .unset, .unset, .unset, .unset] [(.int p0)]))
      refine Goes.st (fun t k => XS.istore X167.here hx rfl (hb hby at_88) rfl (l' := #[.val (.int q0), .val (.int q1), .val (.int q2), .val (.int q3), .val (.int (3 : Int32)), .val (.int r), .val (.int rv), .val (.int s0), .val (.int s1), .val (.int s2), .val (.int v0), .val (.int v1), .val (.int v2), .val (.int p0), .unset, .unset, .unset, .unset, .unset, .unset, .unset, .unset, .unset]) rfl k) ?_
      show Goes p e below s _ _ _ (T167.setTop (mkF m 90 #[.val (.int q0), .val (.int q1), .val (.int q2), .val (.int q3), .val (.int (3 : Int32)), .val (.int r), .val (.int rv), .val (.int s0), .val (.int s1), .val (.int s2), .val (.int v0), .val (.int v1), .val (.int v2), .val (.int p0), .unset, .unset, .unset, .unset, .unset, .unset, .unset, .unset, .unset] []))
      refine Goes.st (fun t k => XS.iload X167.here hx rfl (hb hby at_90) rfl k) ?_
      show Goes p e below s _ _ _ (T167.setTop (mkF m 92 #[.val (.int q0), .val (.int q1), .val (.int q2), .val (.int q3), .val (.int (3 : Int32)), .val (.int r), .val (.int rv), .val (.int s0), .val (.int s1), .val (.int s2), .val (.int v0), .val (.int v1), .val (.int v2), .val (.int p0), .unset, .unset, .unset, .unset, .unset, .unset, .unset, .unset, .unset] [(.int r)]))
      refine Goes.st (fun t k => XS.iconst X167.here hx rfl (hb hby at_92) k) ?_
      show Goes p e below s _ _ _ (T167.setTop (mkF m 93 #[.val (.int q0), .val (.int q1), .val (.int q2), .val (.int q3), .val (.int (3 : Int32)), .val (.int r), .val (.int rv), .val (.int s0), .val (.int s1), .val (.int s2), .val (.int v0), .val (.int v1), .val (.int v2), .val (.int p0), .unset, .unset, .unset, .unset, .unset, .unset, .unset, .unset, .unset] [(.int (1 : Int32)), (.int r)]))
      refine Goes.st (fun t k => XS.iload X167.here hx rfl (hb hby at_93) rfl k) ?_
      show Goes p e below s _ _ _ (T167.setTop (mkF m 95 #[.val (.int q0), .val (.int q1), .val (.int q2), .val (.int q3), .val (.int (3 : Int32)), .val (.int r), .val (.int rv), .val (.int s0), .val (.int s1), .val (.int s2), .val (.int v0), .val (.int v1), .val (.int v2), .val (.int p0), .unset, .unset, .unset, .unset, .unset, .unset, .unset, .unset, .unset] [(.int rv), (.int (1 : Int32)), (.int r)]))
      obtain ⟨_, _, ⟨T168, L168, k168, n168⟩, -, X168, ⟨Lc168, hQ168, l168, y168, z168⟩, st168⟩ := Jvm.LawKit.callS X167 hx (y := (⟨"com/example/parley/parley/TableEntryPinLaw", "slot", "(IIZ)I"⟩ : MethodName)) hown (mvT hZ (hw _ (List.mem_of_getElem? (i := 0) rfl))) (mvT hZ (hw _ (List.mem_of_getElem? (i := 1) rfl))) (mvT hZ (hw _ (List.mem_of_getElem? (i := 2) rfl))) (mvT hZ (hw _ (List.mem_of_getElem? (i := 3) rfl))) (by decide) (backOf (W := 0) (rmS l Z a0 hw [] r (1 : Int32) rv h0 n0 Z0 ) hZ (hw _ (List.mem_of_getElem? (i := 3) rfl)) (hw _ (List.mem_of_getElem? (i := 2) rfl)) (by decide) (by decide)) (g := (mkF m 95 #[.val (.int q0), .val (.int q1), .val (.int q2), .val (.int q3), .val (.int (3 : Int32)), .val (.int r), .val (.int rv), .val (.int s0), .val (.int s1), .val (.int s2), .val (.int v0), .val (.int v1), .val (.int v2), .val (.int p0), .unset, .unset, .unset, .unset, .unset, .unset, .unset, .unset, .unset] [(.int rv), (.int (1 : Int32)), (.int r)])) rfl (by rw [hml]; rfl) (argsL := [(.int r), (.int (1 : Int32)), (.int rv)]) (rest := []) (lenOf pd__IIZ_I_ea4 rfl) rfl (by show 2 * 0 + _ ≤ _; exact Nat.le_of_eq rfl) (hb hby at_95) (fun _ _ => ⟨rfl, eh167, (by decide : 0 + 0 ≤ 24), (by decide : 0 + 0 ≤ 256)⟩)
      dsimp only [Pt.U, Pt.locs, Pt.cells, Pt.slots] at X168 l168 y168 z168 st168 hQ168
      subst l168 y168 z168
      obtain ⟨rfl, N168q, eh168⟩ := hQ168
      have N168 := Fr.app N167 N168q
      refine Goes.st st168 ?_
      show Goes p e below s _ _ _ (T168.setTop (mkF m 98 #[.val (.int q0), .val (.int q1), .val (.int q2), .val (.int q3), .val (.int (3 : Int32)), .val (.int r), .val (.int rv), .val (.int s0), .val (.int s1), .val (.int s2), .val (.int v0), .val (.int v1), .val (.int v2), .val (.int p0), .unset, .unset, .unset, .unset, .unset, .unset, .unset, .unset, .unset] [(.int (slF r (1 : Int32) rv))]))
      obtain ⟨p1x, p1x_eq⟩ : ∃ z : Int32, z = (slF r (1 : Int32) rv) := ⟨_, rfl⟩
      rw [← p1x_eq]
      show Goes p e below s _ _ _ (T168.setTop (mkF m 98 #[.val (.int q0), .val (.int q1), .val (.int q2), .val (.int q3), .val (.int (3 : Int32)), .val (.int r), .val (.int rv), .val (.int s0), .val (.int s1), .val (.int s2), .val (.int v0), .val (.int v1), .val (.int v2), .val (.int p0), .unset, .unset, .unset, .unset, .unset, .unset, .unset, .unset, .unset] [(.int p1x)]))
      obtain ⟨p1, p1_e⟩ : ∃ z : Int32, z = p1x := ⟨_, rfl⟩
      rw [← p1_e]
      show Goes p e below s _ _ _ (T168.setTop (mkF m 98 #[.val (.int q0), .val (.int q1), .val (.int q2), .val (.int q3), .val (.int (3 : Int32)), .val (.int r), .val (.int rv), .val (.int s0), .val (.int s1), .val (.int s2), .val (.int v0), .val (.int v1), .val (.int v2), .val (.int p0), .unset, .unset, .unset, .unset, .unset, .unset, .unset, .unset, .unset] [(.int p1)]))
      refine Goes.st (fun t k => XS.istore X168.here hx rfl (hb hby at_98) rfl (l' := #[.val (.int q0), .val (.int q1), .val (.int q2), .val (.int q3), .val (.int (3 : Int32)), .val (.int r), .val (.int rv), .val (.int s0), .val (.int s1), .val (.int s2), .val (.int v0), .val (.int v1), .val (.int v2), .val (.int p0), .val (.int p1), .unset, .unset, .unset, .unset, .unset, .unset, .unset, .unset]) rfl k) ?_
      show Goes p e below s _ _ _ (T168.setTop (mkF m 100 #[.val (.int q0), .val (.int q1), .val (.int q2), .val (.int q3), .val (.int (3 : Int32)), .val (.int r), .val (.int rv), .val (.int s0), .val (.int s1), .val (.int s2), .val (.int v0), .val (.int v1), .val (.int v2), .val (.int p0), .val (.int p1), .unset, .unset, .unset, .unset, .unset, .unset, .unset, .unset] []))
      refine Goes.st (fun t k => XS.iload X168.here hx rfl (hb hby at_100) rfl k) ?_
      show Goes p e below s _ _ _ (T168.setTop (mkF m 102 #[.val (.int q0), .val (.int q1), .val (.int q2), .val (.int q3), .val (.int (3 : Int32)), .val (.int r), .val (.int rv), .val (.int s0), .val (.int s1), .val (.int s2), .val (.int v0), .val (.int v1), .val (.int v2), .val (.int p0), .val (.int p1), .unset, .unset, .unset, .unset, .unset, .unset, .unset, .unset] [(.int r)]))
      refine Goes.st (fun t k => XS.iconst X168.here hx rfl (hb hby at_102) k) ?_
      show Goes p e below s _ _ _ (T168.setTop (mkF m 103 #[.val (.int q0), .val (.int q1), .val (.int q2), .val (.int q3), .val (.int (3 : Int32)), .val (.int r), .val (.int rv), .val (.int s0), .val (.int s1), .val (.int s2), .val (.int v0), .val (.int v1), .val (.int v2), .val (.int p0), .val (.int p1), .unset, .unset, .unset, .unset, .unset, .unset, .unset, .unset] [(.int (2 : Int32)), (.int r)]))
      refine Goes.st (fun t k => XS.iload X168.here hx rfl (hb hby at_103) rfl k) ?_
      show Goes p e below s _ _ _ (T168.setTop (mkF m 105 #[.val (.int q0), .val (.int q1), .val (.int q2), .val (.int q3), .val (.int (3 : Int32)), .val (.int r), .val (.int rv), .val (.int s0), .val (.int s1), .val (.int s2), .val (.int v0), .val (.int v1), .val (.int v2), .val (.int p0), .val (.int p1), .unset, .unset, .unset, .unset, .unset, .unset, .unset, .unset] [(.int rv), (.int (2 : Int32)), (.int r)]))
      obtain ⟨_, _, ⟨T169, L169, k169, n169⟩, -, X169, ⟨Lc169, hQ169, l169, y169, z169⟩, st169⟩ := Jvm.LawKit.callS X168 hx (y := (⟨"com/example/parley/parley/TableEntryPinLaw", "slot", "(IIZ)I"⟩ : MethodName)) hown (mvT hZ (hw _ (List.mem_of_getElem? (i := 0) rfl))) (mvT hZ (hw _ (List.mem_of_getElem? (i := 1) rfl))) (mvT hZ (hw _ (List.mem_of_getElem? (i := 2) rfl))) (mvT hZ (hw _ (List.mem_of_getElem? (i := 3) rfl))) (by decide) (backOf (W := 0) (rmS l Z a0 hw [] r (2 : Int32) rv h0 n0 Z0 ) hZ (hw _ (List.mem_of_getElem? (i := 3) rfl)) (hw _ (List.mem_of_getElem? (i := 2) rfl)) (by decide) (by decide)) (g := (mkF m 105 #[.val (.int q0), .val (.int q1), .val (.int q2), .val (.int q3), .val (.int (3 : Int32)), .val (.int r), .val (.int rv), .val (.int s0), .val (.int s1), .val (.int s2), .val (.int v0), .val (.int v1), .val (.int v2), .val (.int p0), .val (.int p1), .unset, .unset, .unset, .unset, .unset, .unset, .unset, .unset] [(.int rv), (.int (2 : Int32)), (.int r)])) rfl (by rw [hml]; rfl) (argsL := [(.int r), (.int (2 : Int32)), (.int rv)]) (rest := []) (lenOf pd__IIZ_I_ea4 rfl) rfl (by show 2 * 0 + _ ≤ _; exact Nat.le_of_eq rfl) (hb hby at_105) (fun _ _ => ⟨rfl, eh168, (by decide : 0 + 0 ≤ 24), (by decide : 0 + 0 ≤ 256)⟩)
      dsimp only [Pt.U, Pt.locs, Pt.cells, Pt.slots] at X169 l169 y169 z169 st169 hQ169
      subst l169 y169 z169
      obtain ⟨rfl, N169q, eh169⟩ := hQ169
      have N169 := Fr.app N168 N169q
      refine Goes.st st169 ?_
      show Goes p e below s _ _ _ (T169.setTop (mkF m 108 #[.val (.int q0), .val (.int q1), .val (.int q2), .val (.int q3), .val (.int (3 : Int32)), .val (.int r), .val (.int rv), .val (.int s0), .val (.int s1), .val (.int s2), .val (.int v0), .val (.int v1), .val (.int v2), .val (.int p0), .val (.int p1), .unset, .unset, .unset, .unset, .unset, .unset, .unset, .unset] [(.int (slF r (2 : Int32) rv))]))
      obtain ⟨p2x, p2x_eq⟩ : ∃ z : Int32, z = (slF r (2 : Int32) rv) := ⟨_, rfl⟩
      rw [← p2x_eq]
      show Goes p e below s _ _ _ (T169.setTop (mkF m 108 #[.val (.int q0), .val (.int q1), .val (.int q2), .val (.int q3), .val (.int (3 : Int32)), .val (.int r), .val (.int rv), .val (.int s0), .val (.int s1), .val (.int s2), .val (.int v0), .val (.int v1), .val (.int v2), .val (.int p0), .val (.int p1), .unset, .unset, .unset, .unset, .unset, .unset, .unset, .unset] [(.int p2x)]))
      obtain ⟨p2, p2_e⟩ : ∃ z : Int32, z = p2x := ⟨_, rfl⟩
      rw [← p2_e]
      show Goes p e below s _ _ _ (T169.setTop (mkF m 108 #[.val (.int q0), .val (.int q1), .val (.int q2), .val (.int q3), .val (.int (3 : Int32)), .val (.int r), .val (.int rv), .val (.int s0), .val (.int s1), .val (.int s2), .val (.int v0), .val (.int v1), .val (.int v2), .val (.int p0), .val (.int p1), .unset, .unset, .unset, .unset, .unset, .unset, .unset, .unset] [(.int p2)]))
      obtain ⟨ip0, ip1, ip2, hne01, hne02, hne12⟩ := own_sl ir rv
      rw [← p0x_eq, ← p0_e] at ip0 hne01 hne02
      rw [← p1x_eq, ← p1_e] at ip1 hne01 hne12
      rw [← p2x_eq, ← p2_e] at ip2 hne02 hne12
      refine Goes.st (fun t k => XS.istore X169.here hx rfl (hb hby at_108) rfl (l' := #[.val (.int q0), .val (.int q1), .val (.int q2), .val (.int q3), .val (.int (3 : Int32)), .val (.int r), .val (.int rv), .val (.int s0), .val (.int s1), .val (.int s2), .val (.int v0), .val (.int v1), .val (.int v2), .val (.int p0), .val (.int p1), .val (.int p2), .unset, .unset, .unset, .unset, .unset, .unset, .unset]) rfl k) ?_
      show Goes p e below s _ _ _ (T169.setTop (mkF m 110 #[.val (.int q0), .val (.int q1), .val (.int q2), .val (.int q3), .val (.int (3 : Int32)), .val (.int r), .val (.int rv), .val (.int s0), .val (.int s1), .val (.int s2), .val (.int v0), .val (.int v1), .val (.int v2), .val (.int p0), .val (.int p1), .val (.int p2), .unset, .unset, .unset, .unset, .unset, .unset, .unset] []))
      refine Goes.st (fun t k => XS.iconst X169.here hx rfl (hb hby at_110) k) ?_
      show Goes p e below s _ _ _ (T169.setTop (mkF m 111 #[.val (.int q0), .val (.int q1), .val (.int q2), .val (.int q3), .val (.int (3 : Int32)), .val (.int r), .val (.int rv), .val (.int s0), .val (.int s1), .val (.int s2), .val (.int v0), .val (.int v1), .val (.int v2), .val (.int p0), .val (.int p1), .val (.int p2), .unset, .unset, .unset, .unset, .unset, .unset, .unset] [(.int (4 : Int32))]))
      obtain ⟨T170, h170, cA170, X170, e170, E170, A170, st170⟩ := newP X169 hx hZ (hw _ (List.mem_of_getElem? (i := 4) rfl)) eh169 (g := (mkF m 111 #[.val (.int q0), .val (.int q1), .val (.int q2), .val (.int q3), .val (.int (3 : Int32)), .val (.int r), .val (.int rv), .val (.int s0), .val (.int s1), .val (.int s2), .val (.int v0), .val (.int v1), .val (.int v2), .val (.int p0), .val (.int p1), .val (.int p2), .unset, .unset, .unset, .unset, .unset, .unset, .unset] [(.int (4 : Int32))])) rfl (hb hby at_111) rfl (by decide) (cap := 4) (by decide) (by decide) (by decide) (by decide)
      obtain ⟨b170, g170⟩ : ∃ z, z = h0.size := ⟨_, rfl⟩
      rw [← g170] at A170 st170
      have lo_b170 : n0 ≤ b170 := by have := Z0; omega
      have V170 : Arv Z h170 b170 cA170 .int (4 : Int32) [(.int (0 : Int32)), (.int (0 : Int32)), (.int (0 : Int32)), (.int (0 : Int32))] (.int (0 : Int32)) := (Arv.new A170 (by decide)).pad (pad_rep [] _ 4)
      refine Goes.st st170 ?_
      have Z170 : n0 ≤ h170.size := Nat.le_trans Z0 E170.1
      show Goes p e below s _ _ _ (T170.setTop (mkF m 113 #[.val (.int q0), .val (.int q1), .val (.int q2), .val (.int q3), .val (.int (3 : Int32)), .val (.int r), .val (.int rv), .val (.int s0), .val (.int s1), .val (.int s2), .val (.int v0), .val (.int v1), .val (.int v2), .val (.int p0), .val (.int p1), .val (.int p2), .unset, .unset, .unset, .unset, .unset, .unset, .unset] [(.ref b170)]))
      refine Goes.st (fun t k => XS.dup X170.here hx rfl (hb hby at_113) rfl rfl k) ?_
      show Goes p e below s _ _ _ (T170.setTop (mkF m 114 #[.val (.int q0), .val (.int q1), .val (.int q2), .val (.int q3), .val (.int (3 : Int32)), .val (.int r), .val (.int rv), .val (.int s0), .val (.int s1), .val (.int s2), .val (.int v0), .val (.int v1), .val (.int v2), .val (.int p0), .val (.int p1), .val (.int p2), .unset, .unset, .unset, .unset, .unset, .unset, .unset] [(.ref b170), (.ref b170)]))
      refine Goes.st (fun t k => XS.iconst X170.here hx rfl (hb hby at_114) k) ?_
      show Goes p e below s _ _ _ (T170.setTop (mkF m 115 #[.val (.int q0), .val (.int q1), .val (.int q2), .val (.int q3), .val (.int (3 : Int32)), .val (.int r), .val (.int rv), .val (.int s0), .val (.int s1), .val (.int s2), .val (.int v0), .val (.int v1), .val (.int v2), .val (.int p0), .val (.int p1), .val (.int p2), .unset, .unset, .unset, .unset, .unset, .unset, .unset] [(.int (0 : Int32)), (.ref b170), (.ref b170)]))
      refine Goes.st (fun t k => XS.iloadN X170.here hx rfl (hb hby at_115) rfl k) ?_
      show Goes p e below s _ _ _ (T170.setTop (mkF m 116 #[.val (.int q0), .val (.int q1), .val (.int q2), .val (.int q3), .val (.int (3 : Int32)), .val (.int r), .val (.int rv), .val (.int s0), .val (.int s1), .val (.int s2), .val (.int v0), .val (.int v1), .val (.int v2), .val (.int p0), .val (.int p1), .val (.int p2), .unset, .unset, .unset, .unset, .unset, .unset, .unset] [(.int q3), (.int (0 : Int32)), (.ref b170), (.ref b170)]))
      obtain ⟨cl172, Ar172, qk172, Sz172, qz172, Ha172, Gf172⟩ := id V170
      obtain ⟨T172, h172, X172, e172, W172, st172⟩ := stI X170 hx hZ e170 Ar172 (inb_of Sz172 ⟨by decide, by decide⟩) (g := (mkF m 116 #[.val (.int q0), .val (.int q1), .val (.int q2), .val (.int q3), .val (.int (3 : Int32)), .val (.int r), .val (.int rv), .val (.int s0), .val (.int s1), .val (.int s2), .val (.int v0), .val (.int v1), .val (.int v2), .val (.int p0), .val (.int p1), .val (.int p2), .unset, .unset, .unset, .unset, .unset, .unset, .unset] [(.int q3), (.int (0 : Int32)), (.ref b170), (.ref b170)])) rfl rfl (hb hby at_116)
      have N172 := Fr.snoc X172 N169 lo_b170
      have V172 : Arv Z h172 b170 cA170 .int (4 : Int32) [(.int q3), (.int (0 : Int32)), (.int (0 : Int32)), (.int (0 : Int32))] (.int (0 : Int32)) := Arv.set Ar172 qk172 Sz172 qz172 Ha172 Gf172 rfl W172 0 (by decide) (by simp)
      refine Goes.st st172 ?_
      have Z172 : n0 ≤ h172.size := by have := W172.size; have := Z170; omega
      show Goes p e below s _ _ _ (T172.setTop (mkF m 117 #[.val (.int q0), .val (.int q1), .val (.int q2), .val (.int q3), .val (.int (3 : Int32)), .val (.int r), .val (.int rv), .val (.int s0), .val (.int s1), .val (.int s2), .val (.int v0), .val (.int v1), .val (.int v2), .val (.int p0), .val (.int p1), .val (.int p2), .unset, .unset, .unset, .unset, .unset, .unset, .unset] [(.ref b170)]))
      refine Goes.st (fun t k => XS.dup X172.here hx rfl (hb hby at_117) rfl rfl k) ?_
      show Goes p e below s _ _ _ (T172.setTop (mkF m 118 #[.val (.int q0), .val (.int q1), .val (.int q2), .val (.int q3), .val (.int (3 : Int32)), .val (.int r), .val (.int rv), .val (.int s0), .val (.int s1), .val (.int s2), .val (.int v0), .val (.int v1), .val (.int v2), .val (.int p0), .val (.int p1), .val (.int p2), .unset, .unset, .unset, .unset, .unset, .unset, .unset] [(.ref b170), (.ref b170)]))
      refine Goes.st (fun t k => XS.iconst X172.here hx rfl (hb hby at_118) k) ?_
      show Goes p e below s _ _ _ (T172.setTop (mkF m 119 #[.val (.int q0), .val (.int q1), .val (.int q2), .val (.int q3), .val (.int (3 : Int32)), .val (.int r), .val (.int rv), .val (.int s0), .val (.int s1), .val (.int s2), .val (.int v0), .val (.int v1), .val (.int v2), .val (.int p0), .val (.int p1), .val (.int p2), .unset, .unset, .unset, .unset, .unset, .unset, .unset] [(.int (1 : Int32)), (.ref b170), (.ref b170)]))
      refine Goes.st (fun t k => XS.iloadN X172.here hx rfl (hb hby at_119) rfl k) ?_
      show Goes p e below s _ _ _ (T172.setTop (mkF m 120 #[.val (.int q0), .val (.int q1), .val (.int q2), .val (.int q3), .val (.int (3 : Int32)), .val (.int r), .val (.int rv), .val (.int s0), .val (.int s1), .val (.int s2), .val (.int v0), .val (.int v1), .val (.int v2), .val (.int p0), .val (.int p1), .val (.int p2), .unset, .unset, .unset, .unset, .unset, .unset, .unset] [(.int q3), (.int (1 : Int32)), (.ref b170), (.ref b170)]))
      obtain ⟨cl174, Ar174, qk174, Sz174, qz174, Ha174, Gf174⟩ := id V172
      obtain ⟨T174, h174, X174, e174, W174, st174⟩ := stI X172 hx hZ e172 Ar174 (inb_of Sz174 ⟨by decide, by decide⟩) (g := (mkF m 120 #[.val (.int q0), .val (.int q1), .val (.int q2), .val (.int q3), .val (.int (3 : Int32)), .val (.int r), .val (.int rv), .val (.int s0), .val (.int s1), .val (.int s2), .val (.int v0), .val (.int v1), .val (.int v2), .val (.int p0), .val (.int p1), .val (.int p2), .unset, .unset, .unset, .unset, .unset, .unset, .unset] [(.int q3), (.int (1 : Int32)), (.ref b170), (.ref b170)])) rfl rfl (hb hby at_120)
      have N174 := Fr.snoc X174 N172 lo_b170
      have V174 : Arv Z h174 b170 cA170 .int (4 : Int32) [(.int q3), (.int q3), (.int (0 : Int32)), (.int (0 : Int32))] (.int (0 : Int32)) := Arv.set Ar174 qk174 Sz174 qz174 Ha174 Gf174 rfl W174 1 (by decide) (by simp)
      refine Goes.st st174 ?_
      have Z174 : n0 ≤ h174.size := by have := W174.size; have := Z172; omega
      show Goes p e below s _ _ _ (T174.setTop (mkF m 121 #[.val (.int q0), .val (.int q1), .val (.int q2), .val (.int q3), .val (.int (3 : Int32)), .val (.int r), .val (.int rv), .val (.int s0), .val (.int s1), .val (.int s2), .val (.int v0), .val (.int v1), .val (.int v2), .val (.int p0), .val (.int p1), .val (.int p2), .unset, .unset, .unset, .unset, .unset, .unset, .unset] [(.ref b170)]))
      refine Goes.st (fun t k => XS.dup X174.here hx rfl (hb hby at_121) rfl rfl k) ?_
      show Goes p e below s _ _ _ (T174.setTop (mkF m 122 #[.val (.int q0), .val (.int q1), .val (.int q2), .val (.int q3), .val (.int (3 : Int32)), .val (.int r), .val (.int rv), .val (.int s0), .val (.int s1), .val (.int s2), .val (.int v0), .val (.int v1), .val (.int v2), .val (.int p0), .val (.int p1), .val (.int p2), .unset, .unset, .unset, .unset, .unset, .unset, .unset] [(.ref b170), (.ref b170)]))
      refine Goes.st (fun t k => XS.iconst X174.here hx rfl (hb hby at_122) k) ?_
      show Goes p e below s _ _ _ (T174.setTop (mkF m 123 #[.val (.int q0), .val (.int q1), .val (.int q2), .val (.int q3), .val (.int (3 : Int32)), .val (.int r), .val (.int rv), .val (.int s0), .val (.int s1), .val (.int s2), .val (.int v0), .val (.int v1), .val (.int v2), .val (.int p0), .val (.int p1), .val (.int p2), .unset, .unset, .unset, .unset, .unset, .unset, .unset] [(.int (2 : Int32)), (.ref b170), (.ref b170)]))
      refine Goes.st (fun t k => XS.iloadN X174.here hx rfl (hb hby at_123) rfl k) ?_
      show Goes p e below s _ _ _ (T174.setTop (mkF m 124 #[.val (.int q0), .val (.int q1), .val (.int q2), .val (.int q3), .val (.int (3 : Int32)), .val (.int r), .val (.int rv), .val (.int s0), .val (.int s1), .val (.int s2), .val (.int v0), .val (.int v1), .val (.int v2), .val (.int p0), .val (.int p1), .val (.int p2), .unset, .unset, .unset, .unset, .unset, .unset, .unset] [(.int q3), (.int (2 : Int32)), (.ref b170), (.ref b170)]))
      obtain ⟨cl176, Ar176, qk176, Sz176, qz176, Ha176, Gf176⟩ := id V174
      obtain ⟨T176, h176, X176, e176, W176, st176⟩ := stI X174 hx hZ e174 Ar176 (inb_of Sz176 ⟨by decide, by decide⟩) (g := (mkF m 124 #[.val (.int q0), .val (.int q1), .val (.int q2), .val (.int q3), .val (.int (3 : Int32)), .val (.int r), .val (.int rv), .val (.int s0), .val (.int s1), .val (.int s2), .val (.int v0), .val (.int v1), .val (.int v2), .val (.int p0), .val (.int p1), .val (.int p2), .unset, .unset, .unset, .unset, .unset, .unset, .unset] [(.int q3), (.int (2 : Int32)), (.ref b170), (.ref b170)])) rfl rfl (hb hby at_124)
      have N176 := Fr.snoc X176 N174 lo_b170
      have V176 : Arv Z h176 b170 cA170 .int (4 : Int32) [(.int q3), (.int q3), (.int q3), (.int (0 : Int32))] (.int (0 : Int32)) := Arv.set Ar176 qk176 Sz176 qz176 Ha176 Gf176 rfl W176 2 (by decide) (by simp)
      refine Goes.st st176 ?_
      have Z176 : n0 ≤ h176.size := by have := W176.size; have := Z174; omega
      show Goes p e below s _ _ _ (T176.setTop (mkF m 125 #[.val (.int q0), .val (.int q1), .val (.int q2), .val (.int q3), .val (.int (3 : Int32)), .val (.int r), .val (.int rv), .val (.int s0), .val (.int s1), .val (.int s2), .val (.int v0), .val (.int v1), .val (.int v2), .val (.int p0), .val (.int p1), .val (.int p2), .unset, .unset, .unset, .unset, .unset, .unset, .unset] [(.ref b170)]))
      refine Goes.st (fun t k => XS.dup X176.here hx rfl (hb hby at_125) rfl rfl k) ?_
      show Goes p e below s _ _ _ (T176.setTop (mkF m 126 #[.val (.int q0), .val (.int q1), .val (.int q2), .val (.int q3), .val (.int (3 : Int32)), .val (.int r), .val (.int rv), .val (.int s0), .val (.int s1), .val (.int s2), .val (.int v0), .val (.int v1), .val (.int v2), .val (.int p0), .val (.int p1), .val (.int p2), .unset, .unset, .unset, .unset, .unset, .unset, .unset] [(.ref b170), (.ref b170)]))
      refine Goes.st (fun t k => XS.iconst X176.here hx rfl (hb hby at_126) k) ?_
      show Goes p e below s _ _ _ (T176.setTop (mkF m 127 #[.val (.int q0), .val (.int q1), .val (.int q2), .val (.int q3), .val (.int (3 : Int32)), .val (.int r), .val (.int rv), .val (.int s0), .val (.int s1), .val (.int s2), .val (.int v0), .val (.int v1), .val (.int v2), .val (.int p0), .val (.int p1), .val (.int p2), .unset, .unset, .unset, .unset, .unset, .unset, .unset] [(.int (3 : Int32)), (.ref b170), (.ref b170)]))
      refine Goes.st (fun t k => XS.iloadN X176.here hx rfl (hb hby at_127) rfl k) ?_
      show Goes p e below s _ _ _ (T176.setTop (mkF m 128 #[.val (.int q0), .val (.int q1), .val (.int q2), .val (.int q3), .val (.int (3 : Int32)), .val (.int r), .val (.int rv), .val (.int s0), .val (.int s1), .val (.int s2), .val (.int v0), .val (.int v1), .val (.int v2), .val (.int p0), .val (.int p1), .val (.int p2), .unset, .unset, .unset, .unset, .unset, .unset, .unset] [(.int q3), (.int (3 : Int32)), (.ref b170), (.ref b170)]))
      obtain ⟨cl178, Ar178, qk178, Sz178, qz178, Ha178, Gf178⟩ := id V176
      obtain ⟨T178, h178, X178, e178, W178, st178⟩ := stI X176 hx hZ e176 Ar178 (inb_of Sz178 ⟨by decide, by decide⟩) (g := (mkF m 128 #[.val (.int q0), .val (.int q1), .val (.int q2), .val (.int q3), .val (.int (3 : Int32)), .val (.int r), .val (.int rv), .val (.int s0), .val (.int s1), .val (.int s2), .val (.int v0), .val (.int v1), .val (.int v2), .val (.int p0), .val (.int p1), .val (.int p2), .unset, .unset, .unset, .unset, .unset, .unset, .unset] [(.int q3), (.int (3 : Int32)), (.ref b170), (.ref b170)])) rfl rfl (hb hby at_128)
      have N178 := Fr.snoc X178 N176 lo_b170
      have V178 : Arv Z h178 b170 cA170 .int (4 : Int32) [(.int q3), (.int q3), (.int q3), (.int q3)] (.int (0 : Int32)) := Arv.set Ar178 qk178 Sz178 qz178 Ha178 Gf178 rfl W178 3 (by decide) (by simp)
      refine Goes.st st178 ?_
      have Z178 : n0 ≤ h178.size := by have := W178.size; have := Z176; omega
      show Goes p e below s _ _ _ (T178.setTop (mkF m 129 #[.val (.int q0), .val (.int q1), .val (.int q2), .val (.int q3), .val (.int (3 : Int32)), .val (.int r), .val (.int rv), .val (.int s0), .val (.int s1), .val (.int s2), .val (.int v0), .val (.int v1), .val (.int v2), .val (.int p0), .val (.int p1), .val (.int p2), .unset, .unset, .unset, .unset, .unset, .unset, .unset] [(.ref b170)]))
      refine Goes.st (fun t k => XS.astore X178.here hx rfl (hb hby at_129) rfl rfl (l' := #[.val (.int q0), .val (.int q1), .val (.int q2), .val (.int q3), .val (.int (3 : Int32)), .val (.int r), .val (.int rv), .val (.int s0), .val (.int s1), .val (.int s2), .val (.int v0), .val (.int v1), .val (.int v2), .val (.int p0), .val (.int p1), .val (.int p2), .val (.ref b170), .unset, .unset, .unset, .unset, .unset, .unset]) rfl k) ?_
      show Goes p e below s _ _ _ (T178.setTop (mkF m 131 #[.val (.int q0), .val (.int q1), .val (.int q2), .val (.int q3), .val (.int (3 : Int32)), .val (.int r), .val (.int rv), .val (.int s0), .val (.int s1), .val (.int s2), .val (.int v0), .val (.int v1), .val (.int v2), .val (.int p0), .val (.int p1), .val (.int p2), .val (.ref b170), .unset, .unset, .unset, .unset, .unset, .unset] []))
      refine Goes.st (fun t k => XS.iload X178.here hx rfl (hb hby at_131) rfl k) ?_
      show Goes p e below s _ _ _ (T178.setTop (mkF m 133 #[.val (.int q0), .val (.int q1), .val (.int q2), .val (.int q3), .val (.int (3 : Int32)), .val (.int r), .val (.int rv), .val (.int s0), .val (.int s1), .val (.int s2), .val (.int v0), .val (.int v1), .val (.int v2), .val (.int p0), .val (.int p1), .val (.int p2), .val (.ref b170), .unset, .unset, .unset, .unset, .unset, .unset] [(.int (3 : Int32))]))
      refine Goes.st (fun t k => XS.iconst X178.here hx rfl (hb hby at_133) k) ?_
      show Goes p e below s _ _ _ (T178.setTop (mkF m 134 #[.val (.int q0), .val (.int q1), .val (.int q2), .val (.int q3), .val (.int (3 : Int32)), .val (.int r), .val (.int rv), .val (.int s0), .val (.int s1), .val (.int s2), .val (.int v0), .val (.int v1), .val (.int v2), .val (.int p0), .val (.int p1), .val (.int p2), .val (.ref b170), .unset, .unset, .unset, .unset, .unset, .unset] [(.int (1 : Int32)), (.int (3 : Int32))]))
      refine Goes.st (fun t k => XS.icmpNo X178.here hx rfl (hb hby at_134) rfl (by decide) k) ?_
      show Goes p e below s _ _ _ (T178.setTop (mkF m 137 #[.val (.int q0), .val (.int q1), .val (.int q2), .val (.int q3), .val (.int (3 : Int32)), .val (.int r), .val (.int rv), .val (.int s0), .val (.int s1), .val (.int s2), .val (.int v0), .val (.int v1), .val (.int v2), .val (.int p0), .val (.int p1), .val (.int p2), .val (.ref b170), .unset, .unset, .unset, .unset, .unset, .unset] []))
      refine Goes.st (fun t k => XS.aload X178.here hx rfl (hb hby at_137) rfl rfl k) ?_
      show Goes p e below s _ _ _ (T178.setTop (mkF m 139 #[.val (.int q0), .val (.int q1), .val (.int q2), .val (.int q3), .val (.int (3 : Int32)), .val (.int r), .val (.int rv), .val (.int s0), .val (.int s1), .val (.int s2), .val (.int v0), .val (.int v1), .val (.int v2), .val (.int p0), .val (.int p1), .val (.int p2), .val (.ref b170), .unset, .unset, .unset, .unset, .unset, .unset] [(.ref b170)]))
      refine Goes.st (fun t k => XS.iload X178.here hx rfl (hb hby at_139) rfl k) ?_
      show Goes p e below s _ _ _ (T178.setTop (mkF m 141 #[.val (.int q0), .val (.int q1), .val (.int q2), .val (.int q3), .val (.int (3 : Int32)), .val (.int r), .val (.int rv), .val (.int s0), .val (.int s1), .val (.int s2), .val (.int v0), .val (.int v1), .val (.int v2), .val (.int p0), .val (.int p1), .val (.int p2), .val (.ref b170), .unset, .unset, .unset, .unset, .unset, .unset] [(.int p0), (.ref b170)]))
      refine Goes.st (fun t k => XS.iload X178.here hx rfl (hb hby at_141) rfl k) ?_
      show Goes p e below s _ _ _ (T178.setTop (mkF m 143 #[.val (.int q0), .val (.int q1), .val (.int q2), .val (.int q3), .val (.int (3 : Int32)), .val (.int r), .val (.int rv), .val (.int s0), .val (.int s1), .val (.int s2), .val (.int v0), .val (.int v1), .val (.int v2), .val (.int p0), .val (.int p1), .val (.int p2), .val (.ref b170), .unset, .unset, .unset, .unset, .unset, .unset] [(.int v0), (.int p0), (.ref b170)]))
      obtain ⟨cl180, Ar180, qk180, Sz180, qz180, Ha180, Gf180⟩ := id V178
      obtain ⟨T180, h180, X180, e180, W180, st180⟩ := stI X178 hx hZ e178 Ar180 (inb_of Sz180 (own_in ip0)) (g := (mkF m 143 #[.val (.int q0), .val (.int q1), .val (.int q2), .val (.int q3), .val (.int (3 : Int32)), .val (.int r), .val (.int rv), .val (.int s0), .val (.int s1), .val (.int s2), .val (.int v0), .val (.int v1), .val (.int v2), .val (.int p0), .val (.int p1), .val (.int p2), .val (.ref b170), .unset, .unset, .unset, .unset, .unset, .unset] [(.int v0), (.int p0), (.ref b170)])) rfl rfl (hb hby at_143)
      have N180 := Fr.snoc X180 N178 lo_b170
      have V180 : Arv Z h180 b170 cA170 .int (4 : Int32) (([(.int q3), (.int q3), (.int q3), (.int q3)] : List Value).set p0.toNatClampNeg (.int v0)) (.int (0 : Int32)) := Arv.set Ar180 qk180 Sz180 qz180 Ha180 Gf180 rfl W180 p0.toNatClampNeg rfl (by simpa using own_ix ip0)
      refine Goes.st st180 ?_
      have Z180 : n0 ≤ h180.size := by have := W180.size; have := Z178; omega
      show Goes p e below s _ _ _ (T180.setTop (mkF m 144 #[.val (.int q0), .val (.int q1), .val (.int q2), .val (.int q3), .val (.int (3 : Int32)), .val (.int r), .val (.int rv), .val (.int s0), .val (.int s1), .val (.int s2), .val (.int v0), .val (.int v1), .val (.int v2), .val (.int p0), .val (.int p1), .val (.int p2), .val (.ref b170), .unset, .unset, .unset, .unset, .unset, .unset] []))
      refine Goes.st (fun t k => XS.iload X180.here hx rfl (hb hby at_144) rfl k) ?_
      show Goes p e below s _ _ _ (T180.setTop (mkF m 146 #[.val (.int q0), .val (.int q1), .val (.int q2), .val (.int q3), .val (.int (3 : Int32)), .val (.int r), .val (.int rv), .val (.int s0), .val (.int s1), .val (.int s2), .val (.int v0), .val (.int v1), .val (.int v2), .val (.int p0), .val (.int p1), .val (.int p2), .val (.ref b170), .unset, .unset, .unset, .unset, .unset, .unset] [(.int (3 : Int32))]))
      refine Goes.st (fun t k => XS.iconst X180.here hx rfl (hb hby at_146) k) ?_
      show Goes p e below s _ _ _ (T180.setTop (mkF m 147 #[.val (.int q0), .val (.int q1), .val (.int q2), .val (.int q3), .val (.int (3 : Int32)), .val (.int r), .val (.int rv), .val (.int s0), .val (.int s1), .val (.int s2), .val (.int v0), .val (.int v1), .val (.int v2), .val (.int p0), .val (.int p1), .val (.int p2), .val (.ref b170), .unset, .unset, .unset, .unset, .unset, .unset] [(.int (2 : Int32)), (.int (3 : Int32))]))
      refine Goes.st (fun t k => XS.icmpNo X180.here hx rfl (hb hby at_147) rfl (by decide) k) ?_
      show Goes p e below s _ _ _ (T180.setTop (mkF m 150 #[.val (.int q0), .val (.int q1), .val (.int q2), .val (.int q3), .val (.int (3 : Int32)), .val (.int r), .val (.int rv), .val (.int s0), .val (.int s1), .val (.int s2), .val (.int v0), .val (.int v1), .val (.int v2), .val (.int p0), .val (.int p1), .val (.int p2), .val (.ref b170), .unset, .unset, .unset, .unset, .unset, .unset] []))
      refine Goes.st (fun t k => XS.aload X180.here hx rfl (hb hby at_150) rfl rfl k) ?_
      show Goes p e below s _ _ _ (T180.setTop (mkF m 152 #[.val (.int q0), .val (.int q1), .val (.int q2), .val (.int q3), .val (.int (3 : Int32)), .val (.int r), .val (.int rv), .val (.int s0), .val (.int s1), .val (.int s2), .val (.int v0), .val (.int v1), .val (.int v2), .val (.int p0), .val (.int p1), .val (.int p2), .val (.ref b170), .unset, .unset, .unset, .unset, .unset, .unset] [(.ref b170)]))
      refine Goes.st (fun t k => XS.iload X180.here hx rfl (hb hby at_152) rfl k) ?_
      show Goes p e below s _ _ _ (T180.setTop (mkF m 154 #[.val (.int q0), .val (.int q1), .val (.int q2), .val (.int q3), .val (.int (3 : Int32)), .val (.int r), .val (.int rv), .val (.int s0), .val (.int s1), .val (.int s2), .val (.int v0), .val (.int v1), .val (.int v2), .val (.int p0), .val (.int p1), .val (.int p2), .val (.ref b170), .unset, .unset, .unset, .unset, .unset, .unset] [(.int p1), (.ref b170)]))
      refine Goes.st (fun t k => XS.iload X180.here hx rfl (hb hby at_154) rfl k) ?_
      show Goes p e below s _ _ _ (T180.setTop (mkF m 156 #[.val (.int q0), .val (.int q1), .val (.int q2), .val (.int q3), .val (.int (3 : Int32)), .val (.int r), .val (.int rv), .val (.int s0), .val (.int s1), .val (.int s2), .val (.int v0), .val (.int v1), .val (.int v2), .val (.int p0), .val (.int p1), .val (.int p2), .val (.ref b170), .unset, .unset, .unset, .unset, .unset, .unset] [(.int v1), (.int p1), (.ref b170)]))
      obtain ⟨cl182, Ar182, qk182, Sz182, qz182, Ha182, Gf182⟩ := id V180
      obtain ⟨T182, h182, X182, e182, W182, st182⟩ := stI X180 hx hZ e180 Ar182 (inb_of Sz182 (own_in ip1)) (g := (mkF m 156 #[.val (.int q0), .val (.int q1), .val (.int q2), .val (.int q3), .val (.int (3 : Int32)), .val (.int r), .val (.int rv), .val (.int s0), .val (.int s1), .val (.int s2), .val (.int v0), .val (.int v1), .val (.int v2), .val (.int p0), .val (.int p1), .val (.int p2), .val (.ref b170), .unset, .unset, .unset, .unset, .unset, .unset] [(.int v1), (.int p1), (.ref b170)])) rfl rfl (hb hby at_156)
      have N182 := Fr.snoc X182 N180 lo_b170
      have V182 : Arv Z h182 b170 cA170 .int (4 : Int32) ((([(.int q3), (.int q3), (.int q3), (.int q3)] : List Value).set p0.toNatClampNeg (.int v0)).set p1.toNatClampNeg (.int v1)) (.int (0 : Int32)) := Arv.set Ar182 qk182 Sz182 qz182 Ha182 Gf182 rfl W182 p1.toNatClampNeg rfl (by simpa using own_ix ip1)
      refine Goes.st st182 ?_
      have Z182 : n0 ≤ h182.size := by have := W182.size; have := Z180; omega
      show Goes p e below s _ _ _ (T182.setTop (mkF m 157 #[.val (.int q0), .val (.int q1), .val (.int q2), .val (.int q3), .val (.int (3 : Int32)), .val (.int r), .val (.int rv), .val (.int s0), .val (.int s1), .val (.int s2), .val (.int v0), .val (.int v1), .val (.int v2), .val (.int p0), .val (.int p1), .val (.int p2), .val (.ref b170), .unset, .unset, .unset, .unset, .unset, .unset] []))
      refine Goes.st (fun t k => XS.iload X182.here hx rfl (hb hby at_157) rfl k) ?_
      show Goes p e below s _ _ _ (T182.setTop (mkF m 159 #[.val (.int q0), .val (.int q1), .val (.int q2), .val (.int q3), .val (.int (3 : Int32)), .val (.int r), .val (.int rv), .val (.int s0), .val (.int s1), .val (.int s2), .val (.int v0), .val (.int v1), .val (.int v2), .val (.int p0), .val (.int p1), .val (.int p2), .val (.ref b170), .unset, .unset, .unset, .unset, .unset, .unset] [(.int (3 : Int32))]))
      refine Goes.st (fun t k => XS.iconst X182.here hx rfl (hb hby at_159) k) ?_
      show Goes p e below s _ _ _ (T182.setTop (mkF m 160 #[.val (.int q0), .val (.int q1), .val (.int q2), .val (.int q3), .val (.int (3 : Int32)), .val (.int r), .val (.int rv), .val (.int s0), .val (.int s1), .val (.int s2), .val (.int v0), .val (.int v1), .val (.int v2), .val (.int p0), .val (.int p1), .val (.int p2), .val (.ref b170), .unset, .unset, .unset, .unset, .unset, .unset] [(.int (3 : Int32)), (.int (3 : Int32))]))
      refine Goes.st (fun t k => XS.icmpNo X182.here hx rfl (hb hby at_160) rfl (by decide) k) ?_
      show Goes p e below s _ _ _ (T182.setTop (mkF m 163 #[.val (.int q0), .val (.int q1), .val (.int q2), .val (.int q3), .val (.int (3 : Int32)), .val (.int r), .val (.int rv), .val (.int s0), .val (.int s1), .val (.int s2), .val (.int v0), .val (.int v1), .val (.int v2), .val (.int p0), .val (.int p1), .val (.int p2), .val (.ref b170), .unset, .unset, .unset, .unset, .unset, .unset] []))
      refine Goes.st (fun t k => XS.aload X182.here hx rfl (hb hby at_163) rfl rfl k) ?_
      show Goes p e below s _ _ _ (T182.setTop (mkF m 165 #[.val (.int q0), .val (.int q1), .val (.int q2), .val (.int q3), .val (.int (3 : Int32)), .val (.int r), .val (.int rv), .val (.int s0), .val (.int s1), .val (.int s2), .val (.int v0), .val (.int v1), .val (.int v2), .val (.int p0), .val (.int p1), .val (.int p2), .val (.ref b170), .unset, .unset, .unset, .unset, .unset, .unset] [(.ref b170)]))
      refine Goes.st (fun t k => XS.iload X182.here hx rfl (hb hby at_165) rfl k) ?_
      show Goes p e below s _ _ _ (T182.setTop (mkF m 167 #[.val (.int q0), .val (.int q1), .val (.int q2), .val (.int q3), .val (.int (3 : Int32)), .val (.int r), .val (.int rv), .val (.int s0), .val (.int s1), .val (.int s2), .val (.int v0), .val (.int v1), .val (.int v2), .val (.int p0), .val (.int p1), .val (.int p2), .val (.ref b170), .unset, .unset, .unset, .unset, .unset, .unset] [(.int p2), (.ref b170)]))
      refine Goes.st (fun t k => XS.iload X182.here hx rfl (hb hby at_167) rfl k) ?_
      show Goes p e below s _ _ _ (T182.setTop (mkF m 169 #[.val (.int q0), .val (.int q1), .val (.int q2), .val (.int q3), .val (.int (3 : Int32)), .val (.int r), .val (.int rv), .val (.int s0), .val (.int s1), .val (.int s2), .val (.int v0), .val (.int v1), .val (.int v2), .val (.int p0), .val (.int p1), .val (.int p2), .val (.ref b170), .unset, .unset, .unset, .unset, .unset, .unset] [(.int v2), (.int p2), (.ref b170)]))
      obtain ⟨cl184, Ar184, qk184, Sz184, qz184, Ha184, Gf184⟩ := id V182
      obtain ⟨T184, h184, X184, e184, W184, st184⟩ := stI X182 hx hZ e182 Ar184 (inb_of Sz184 (own_in ip2)) (g := (mkF m 169 #[.val (.int q0), .val (.int q1), .val (.int q2), .val (.int q3), .val (.int (3 : Int32)), .val (.int r), .val (.int rv), .val (.int s0), .val (.int s1), .val (.int s2), .val (.int v0), .val (.int v1), .val (.int v2), .val (.int p0), .val (.int p1), .val (.int p2), .val (.ref b170), .unset, .unset, .unset, .unset, .unset, .unset] [(.int v2), (.int p2), (.ref b170)])) rfl rfl (hb hby at_169)
      have N184 := Fr.snoc X184 N182 lo_b170
      have V184 : Arv Z h184 b170 cA170 .int (4 : Int32) (((([(.int q3), (.int q3), (.int q3), (.int q3)] : List Value).set p0.toNatClampNeg (.int v0)).set p1.toNatClampNeg (.int v1)).set p2.toNatClampNeg (.int v2)) (.int (0 : Int32)) := Arv.set Ar184 qk184 Sz184 qz184 Ha184 Gf184 rfl W184 p2.toNatClampNeg rfl (by simpa using own_ix ip2)
      refine Goes.st st184 ?_
      have Z184 : n0 ≤ h184.size := by have := W184.size; have := Z182; omega
      show Goes p e below s _ _ _ (T184.setTop (mkF m 170 #[.val (.int q0), .val (.int q1), .val (.int q2), .val (.int q3), .val (.int (3 : Int32)), .val (.int r), .val (.int rv), .val (.int s0), .val (.int s1), .val (.int s2), .val (.int v0), .val (.int v1), .val (.int v2), .val (.int p0), .val (.int p1), .val (.int p2), .val (.ref b170), .unset, .unset, .unset, .unset, .unset, .unset] []))
      refine Goes.st (fun t k => XS.iload X184.here hx rfl (hb hby at_170) rfl k) ?_
      show Goes p e below s _ _ _ (T184.setTop (mkF m 172 #[.val (.int q0), .val (.int q1), .val (.int q2), .val (.int q3), .val (.int (3 : Int32)), .val (.int r), .val (.int rv), .val (.int s0), .val (.int s1), .val (.int s2), .val (.int v0), .val (.int v1), .val (.int v2), .val (.int p0), .val (.int p1), .val (.int p2), .val (.ref b170), .unset, .unset, .unset, .unset, .unset, .unset] [(.int (3 : Int32))]))
      refine Goes.st (fun t k => XS.iload X184.here hx rfl (hb hby at_172) rfl k) ?_
      show Goes p e below s _ _ _ (T184.setTop (mkF m 174 #[.val (.int q0), .val (.int q1), .val (.int q2), .val (.int q3), .val (.int (3 : Int32)), .val (.int r), .val (.int rv), .val (.int s0), .val (.int s1), .val (.int s2), .val (.int v0), .val (.int v1), .val (.int v2), .val (.int p0), .val (.int p1), .val (.int p2), .val (.ref b170), .unset, .unset, .unset, .unset, .unset, .unset] [(.int p0), (.int (3 : Int32))]))
      refine Goes.st (fun t k => XS.iload X184.here hx rfl (hb hby at_174) rfl k) ?_
      show Goes p e below s _ _ _ (T184.setTop (mkF m 176 #[.val (.int q0), .val (.int q1), .val (.int q2), .val (.int q3), .val (.int (3 : Int32)), .val (.int r), .val (.int rv), .val (.int s0), .val (.int s1), .val (.int s2), .val (.int v0), .val (.int v1), .val (.int v2), .val (.int p0), .val (.int p1), .val (.int p2), .val (.ref b170), .unset, .unset, .unset, .unset, .unset, .unset] [(.int p1), (.int p0), (.int (3 : Int32))]))
      refine Goes.st (fun t k => XS.iload X184.here hx rfl (hb hby at_176) rfl k) ?_
      show Goes p e below s _ _ _ (T184.setTop (mkF m 178 #[.val (.int q0), .val (.int q1), .val (.int q2), .val (.int q3), .val (.int (3 : Int32)), .val (.int r), .val (.int rv), .val (.int s0), .val (.int s1), .val (.int s2), .val (.int v0), .val (.int v1), .val (.int v2), .val (.int p0), .val (.int p1), .val (.int p2), .val (.ref b170), .unset, .unset, .unset, .unset, .unset, .unset] [(.int p2), (.int p1), (.int p0), (.int (3 : Int32))]))
      have lt186 : b170 < h184.size := V184.lt
      obtain ⟨_, _, ⟨T187, L187, k187, n187⟩, -, X187, ⟨Lc187, hQ187, l187, y187, z187⟩, st187⟩ := Jvm.LawKit.callS X184 hx (y := (⟨"com/example/parley/parley/TableEntryPinLaw", "take", "(IIII)[I"⟩ : MethodName)) hown (mvT hZ (hw _ (List.mem_of_getElem? (i := 5) rfl))) (mvT hZ (hw _ (List.mem_of_getElem? (i := 6) rfl))) (mvT hZ (hw _ (List.mem_of_getElem? (i := 2) rfl))) (mvT hZ (hw _ (List.mem_of_getElem? (i := 7) rfl))) (by decide) (backOf (W := 0) (rmT3 l Z a0 hw [] p0 p1 p2 h184 n0 Z184 ) hZ (hw _ (List.mem_of_getElem? (i := 7) rfl)) (hw _ (List.mem_of_getElem? (i := 2) rfl)) (by decide) (by decide)) (g := (mkF m 178 #[.val (.int q0), .val (.int q1), .val (.int q2), .val (.int q3), .val (.int (3 : Int32)), .val (.int r), .val (.int rv), .val (.int s0), .val (.int s1), .val (.int s2), .val (.int v0), .val (.int v1), .val (.int v2), .val (.int p0), .val (.int p1), .val (.int p2), .val (.ref b170), .unset, .unset, .unset, .unset, .unset, .unset] [(.int p2), (.int p1), (.int p0), (.int (3 : Int32))])) rfl (by rw [hml]; rfl) (argsL := [(.int (3 : Int32)), (.int p0), (.int p1), (.int p2)]) (rest := []) (lenOf pd__IIII__I_1677 rfl) rfl (by show 2 * 0 + _ ≤ _; exact Nat.le_of_eq rfl) (hb hby at_178) (fun _ _ => ⟨rfl, e184, (by decide : 1 + 1 ≤ 24), (by decide : 4 + 3 ≤ 256)⟩)
      dsimp only [Pt.U, Pt.locs, Pt.cells, Pt.slots] at X187 l187 y187 z187 st187 hQ187
      subst l187 y187 z187
      obtain ⟨b187, kA187, rfl, N187q, K187, szq187, loq187, V187⟩ := hQ187
      have ne_b170_b187 : b170 ≠ b187 := Nat.ne_of_lt (Nat.lt_of_lt_of_le lt186 szq187)
      have Z187 : n0 ≤ T187.heap.size := Nat.le_trans Z184 K187.1
      have N187 := Fr.app N184 N187q
      refine Goes.st st187 ?_
      show Goes p e below s _ _ _ (T187.setTop (mkF m 181 #[.val (.int q0), .val (.int q1), .val (.int q2), .val (.int q3), .val (.int (3 : Int32)), .val (.int r), .val (.int rv), .val (.int s0), .val (.int s1), .val (.int s2), .val (.int v0), .val (.int v1), .val (.int v2), .val (.int p0), .val (.int p1), .val (.int p2), .val (.ref b170), .unset, .unset, .unset, .unset, .unset, .unset] [(.ref b187)]))
      refine Goes.st (fun t k => XS.astore X187.here hx rfl (hb hby at_181) rfl rfl (l' := #[.val (.int q0), .val (.int q1), .val (.int q2), .val (.int q3), .val (.int (3 : Int32)), .val (.int r), .val (.int rv), .val (.int s0), .val (.int s1), .val (.int s2), .val (.int v0), .val (.int v1), .val (.int v2), .val (.int p0), .val (.int p1), .val (.int p2), .val (.ref b170), .val (.ref b187), .unset, .unset, .unset, .unset, .unset]) rfl k) ?_
      show Goes p e below s _ _ _ (T187.setTop (mkF m 183 #[.val (.int q0), .val (.int q1), .val (.int q2), .val (.int q3), .val (.int (3 : Int32)), .val (.int r), .val (.int rv), .val (.int s0), .val (.int s1), .val (.int s2), .val (.int v0), .val (.int v1), .val (.int v2), .val (.int p0), .val (.int p1), .val (.int p2), .val (.ref b170), .val (.ref b187), .unset, .unset, .unset, .unset, .unset] []))
      refine Goes.st (fun t k => XS.iload X187.here hx rfl (hb hby at_183) rfl k) ?_
      show Goes p e below s _ _ _ (T187.setTop (mkF m 185 #[.val (.int q0), .val (.int q1), .val (.int q2), .val (.int q3), .val (.int (3 : Int32)), .val (.int r), .val (.int rv), .val (.int s0), .val (.int s1), .val (.int s2), .val (.int v0), .val (.int v1), .val (.int v2), .val (.int p0), .val (.int p1), .val (.int p2), .val (.ref b170), .val (.ref b187), .unset, .unset, .unset, .unset, .unset] [(.int (3 : Int32))]))
      refine Goes.st (fun t k => XS.iload X187.here hx rfl (hb hby at_185) rfl k) ?_
      show Goes p e below s _ _ _ (T187.setTop (mkF m 187 #[.val (.int q0), .val (.int q1), .val (.int q2), .val (.int q3), .val (.int (3 : Int32)), .val (.int r), .val (.int rv), .val (.int s0), .val (.int s1), .val (.int s2), .val (.int v0), .val (.int v1), .val (.int v2), .val (.int p0), .val (.int p1), .val (.int p2), .val (.ref b170), .val (.ref b187), .unset, .unset, .unset, .unset, .unset] [(.int s0), (.int (3 : Int32))]))
      refine Goes.st (fun t k => XS.iload X187.here hx rfl (hb hby at_187) rfl k) ?_
      show Goes p e below s _ _ _ (T187.setTop (mkF m 189 #[.val (.int q0), .val (.int q1), .val (.int q2), .val (.int q3), .val (.int (3 : Int32)), .val (.int r), .val (.int rv), .val (.int s0), .val (.int s1), .val (.int s2), .val (.int v0), .val (.int v1), .val (.int v2), .val (.int p0), .val (.int p1), .val (.int p2), .val (.ref b170), .val (.ref b187), .unset, .unset, .unset, .unset, .unset] [(.int s1), (.int s0), (.int (3 : Int32))]))
      refine Goes.st (fun t k => XS.iload X187.here hx rfl (hb hby at_189) rfl k) ?_
      show Goes p e below s _ _ _ (T187.setTop (mkF m 191 #[.val (.int q0), .val (.int q1), .val (.int q2), .val (.int q3), .val (.int (3 : Int32)), .val (.int r), .val (.int rv), .val (.int s0), .val (.int s1), .val (.int s2), .val (.int v0), .val (.int v1), .val (.int v2), .val (.int p0), .val (.int p1), .val (.int p2), .val (.ref b170), .val (.ref b187), .unset, .unset, .unset, .unset, .unset] [(.int s2), (.int s1), (.int s0), (.int (3 : Int32))]))
      have f190 := (V184.keep K187 nin0)
      have lt189 : b170 < T187.heap.size := f190.lt
      have lt191 : b187 < T187.heap.size := V187.lt
      obtain ⟨_, _, ⟨T192, L192, k192, n192⟩, -, X192, ⟨Lc192, hQ192, l192, y192, z192⟩, st192⟩ := Jvm.LawKit.callS X187 hx (y := (⟨"com/example/parley/parley/TableEntryPinLaw", "take", "(IIII)[I"⟩ : MethodName)) hown (mvT hZ (hw _ (List.mem_of_getElem? (i := 5) rfl))) (mvT hZ (hw _ (List.mem_of_getElem? (i := 6) rfl))) (mvT hZ (hw _ (List.mem_of_getElem? (i := 2) rfl))) (mvT hZ (hw _ (List.mem_of_getElem? (i := 7) rfl))) (by decide) (backOf (W := 0) (rmT3 l Z a0 hw [] s0 s1 s2 T187.heap n0 Z187 ) hZ (hw _ (List.mem_of_getElem? (i := 7) rfl)) (hw _ (List.mem_of_getElem? (i := 2) rfl)) (by decide) (by decide)) (g := (mkF m 191 #[.val (.int q0), .val (.int q1), .val (.int q2), .val (.int q3), .val (.int (3 : Int32)), .val (.int r), .val (.int rv), .val (.int s0), .val (.int s1), .val (.int s2), .val (.int v0), .val (.int v1), .val (.int v2), .val (.int p0), .val (.int p1), .val (.int p2), .val (.ref b170), .val (.ref b187), .unset, .unset, .unset, .unset, .unset] [(.int s2), (.int s1), (.int s0), (.int (3 : Int32))])) rfl (by rw [hml]; rfl) (argsL := [(.int (3 : Int32)), (.int s0), (.int s1), (.int s2)]) (rest := []) (lenOf pd__IIII__I_1677 rfl) rfl (by show 2 * 0 + _ ≤ _; exact Nat.le_of_eq rfl) (hb hby at_191) (fun _ _ => ⟨rfl, rfl, (by decide : 2 + 1 ≤ 24), (by decide : 7 + 3 ≤ 256)⟩)
      dsimp only [Pt.U, Pt.locs, Pt.cells, Pt.slots] at X192 l192 y192 z192 st192 hQ192
      subst l192 y192 z192
      obtain ⟨b192, kA192, rfl, N192q, K192, szq192, loq192, V192⟩ := hQ192
      have ne_b170_b192 : b170 ≠ b192 := Nat.ne_of_lt (Nat.lt_of_lt_of_le lt189 szq192)
      have ne_b187_b192 : b187 ≠ b192 := Nat.ne_of_lt (Nat.lt_of_lt_of_le lt191 szq192)
      have Z192 : n0 ≤ T192.heap.size := Nat.le_trans Z187 K192.1
      have N192 := Fr.app N187 N192q
      refine Goes.st st192 ?_
      show Goes p e below s _ _ _ (T192.setTop (mkF m 194 #[.val (.int q0), .val (.int q1), .val (.int q2), .val (.int q3), .val (.int (3 : Int32)), .val (.int r), .val (.int rv), .val (.int s0), .val (.int s1), .val (.int s2), .val (.int v0), .val (.int v1), .val (.int v2), .val (.int p0), .val (.int p1), .val (.int p2), .val (.ref b170), .val (.ref b187), .unset, .unset, .unset, .unset, .unset] [(.ref b192)]))
      refine Goes.st (fun t k => XS.astore X192.here hx rfl (hb hby at_194) rfl rfl (l' := #[.val (.int q0), .val (.int q1), .val (.int q2), .val (.int q3), .val (.int (3 : Int32)), .val (.int r), .val (.int rv), .val (.int s0), .val (.int s1), .val (.int s2), .val (.int v0), .val (.int v1), .val (.int v2), .val (.int p0), .val (.int p1), .val (.int p2), .val (.ref b170), .val (.ref b187), .val (.ref b192), .unset, .unset, .unset, .unset]) rfl k) ?_
      show Goes p e below s _ _ _ (T192.setTop (mkF m 196 #[.val (.int q0), .val (.int q1), .val (.int q2), .val (.int q3), .val (.int (3 : Int32)), .val (.int r), .val (.int rv), .val (.int s0), .val (.int s1), .val (.int s2), .val (.int v0), .val (.int v1), .val (.int v2), .val (.int p0), .val (.int p1), .val (.int p2), .val (.ref b170), .val (.ref b187), .val (.ref b192), .unset, .unset, .unset, .unset] []))
      refine Goes.st (fun t k => XS.iload X192.here hx rfl (hb hby at_196) rfl k) ?_
      show Goes p e below s _ _ _ (T192.setTop (mkF m 198 #[.val (.int q0), .val (.int q1), .val (.int q2), .val (.int q3), .val (.int (3 : Int32)), .val (.int r), .val (.int rv), .val (.int s0), .val (.int s1), .val (.int s2), .val (.int v0), .val (.int v1), .val (.int v2), .val (.int p0), .val (.int p1), .val (.int p2), .val (.ref b170), .val (.ref b187), .val (.ref b192), .unset, .unset, .unset, .unset] [(.int (3 : Int32))]))
      refine Goes.st (fun t k => XS.iconst X192.here hx rfl (hb hby at_198) k) ?_
      show Goes p e below s _ _ _ (T192.setTop (mkF m 199 #[.val (.int q0), .val (.int q1), .val (.int q2), .val (.int q3), .val (.int (3 : Int32)), .val (.int r), .val (.int rv), .val (.int s0), .val (.int s1), .val (.int s2), .val (.int v0), .val (.int v1), .val (.int v2), .val (.int p0), .val (.int p1), .val (.int p2), .val (.ref b170), .val (.ref b187), .val (.ref b192), .unset, .unset, .unset, .unset] [(.int (0 : Int32)), (.int (3 : Int32))]))
      refine Goes.st (fun t k => XS.iconst X192.here hx rfl (hb hby at_199) k) ?_
      show Goes p e below s _ _ _ (T192.setTop (mkF m 200 #[.val (.int q0), .val (.int q1), .val (.int q2), .val (.int q3), .val (.int (3 : Int32)), .val (.int r), .val (.int rv), .val (.int s0), .val (.int s1), .val (.int s2), .val (.int v0), .val (.int v1), .val (.int v2), .val (.int p0), .val (.int p1), .val (.int p2), .val (.ref b170), .val (.ref b187), .val (.ref b192), .unset, .unset, .unset, .unset] [(.int (1 : Int32)), (.int (0 : Int32)), (.int (3 : Int32))]))
      refine Goes.st (fun t k => XS.iconst X192.here hx rfl (hb hby at_200) k) ?_
      show Goes p e below s _ _ _ (T192.setTop (mkF m 201 #[.val (.int q0), .val (.int q1), .val (.int q2), .val (.int q3), .val (.int (3 : Int32)), .val (.int r), .val (.int rv), .val (.int s0), .val (.int s1), .val (.int s2), .val (.int v0), .val (.int v1), .val (.int v2), .val (.int p0), .val (.int p1), .val (.int p2), .val (.ref b170), .val (.ref b187), .val (.ref b192), .unset, .unset, .unset, .unset] [(.int (2 : Int32)), (.int (1 : Int32)), (.int (0 : Int32)), (.int (3 : Int32))]))
      have f195 := (f190.keep K192 nin0)
      have lt194 : b170 < T192.heap.size := f195.lt
      have f197 := (V187.keep K192 nin0)
      have lt196 : b187 < T192.heap.size := f197.lt
      have lt198 : b192 < T192.heap.size := V192.lt
      obtain ⟨_, _, ⟨T199, L199, k199, n199⟩, -, X199, ⟨Lc199, hQ199, l199, y199, z199⟩, st199⟩ := Jvm.LawKit.callS X192 hx (y := (⟨"com/example/parley/parley/TableEntryPinLaw", "take", "(IIII)[I"⟩ : MethodName)) hown (mvT hZ (hw _ (List.mem_of_getElem? (i := 5) rfl))) (mvT hZ (hw _ (List.mem_of_getElem? (i := 6) rfl))) (mvT hZ (hw _ (List.mem_of_getElem? (i := 2) rfl))) (mvT hZ (hw _ (List.mem_of_getElem? (i := 7) rfl))) (by decide) (backOf (W := 0) (rmT3 l Z a0 hw [] (0 : Int32) (1 : Int32) (2 : Int32) T192.heap n0 Z192 ) hZ (hw _ (List.mem_of_getElem? (i := 7) rfl)) (hw _ (List.mem_of_getElem? (i := 2) rfl)) (by decide) (by decide)) (g := (mkF m 201 #[.val (.int q0), .val (.int q1), .val (.int q2), .val (.int q3), .val (.int (3 : Int32)), .val (.int r), .val (.int rv), .val (.int s0), .val (.int s1), .val (.int s2), .val (.int v0), .val (.int v1), .val (.int v2), .val (.int p0), .val (.int p1), .val (.int p2), .val (.ref b170), .val (.ref b187), .val (.ref b192), .unset, .unset, .unset, .unset] [(.int (2 : Int32)), (.int (1 : Int32)), (.int (0 : Int32)), (.int (3 : Int32))])) rfl (by rw [hml]; rfl) (argsL := [(.int (3 : Int32)), (.int (0 : Int32)), (.int (1 : Int32)), (.int (2 : Int32))]) (rest := []) (lenOf pd__IIII__I_1677 rfl) rfl (by show 2 * 0 + _ ≤ _; exact Nat.le_of_eq rfl) (hb hby at_201) (fun _ _ => ⟨rfl, rfl, (by decide : 3 + 1 ≤ 24), (by decide : 10 + 3 ≤ 256)⟩)
      dsimp only [Pt.U, Pt.locs, Pt.cells, Pt.slots] at X199 l199 y199 z199 st199 hQ199
      subst l199 y199 z199
      obtain ⟨b199, kA199, rfl, N199q, K199, szq199, loq199, V199⟩ := hQ199
      have ne_b170_b199 : b170 ≠ b199 := Nat.ne_of_lt (Nat.lt_of_lt_of_le lt194 szq199)
      have ne_b187_b199 : b187 ≠ b199 := Nat.ne_of_lt (Nat.lt_of_lt_of_le lt196 szq199)
      have ne_b192_b199 : b192 ≠ b199 := Nat.ne_of_lt (Nat.lt_of_lt_of_le lt198 szq199)
      have Z199 : n0 ≤ T199.heap.size := Nat.le_trans Z192 K199.1
      have N199 := Fr.app N192 N199q
      refine Goes.st st199 ?_
      show Goes p e below s _ _ _ (T199.setTop (mkF m 204 #[.val (.int q0), .val (.int q1), .val (.int q2), .val (.int q3), .val (.int (3 : Int32)), .val (.int r), .val (.int rv), .val (.int s0), .val (.int s1), .val (.int s2), .val (.int v0), .val (.int v1), .val (.int v2), .val (.int p0), .val (.int p1), .val (.int p2), .val (.ref b170), .val (.ref b187), .val (.ref b192), .unset, .unset, .unset, .unset] [(.ref b199)]))
      refine Goes.st (fun t k => XS.astore X199.here hx rfl (hb hby at_204) rfl rfl (l' := #[.val (.int q0), .val (.int q1), .val (.int q2), .val (.int q3), .val (.int (3 : Int32)), .val (.int r), .val (.int rv), .val (.int s0), .val (.int s1), .val (.int s2), .val (.int v0), .val (.int v1), .val (.int v2), .val (.int p0), .val (.int p1), .val (.int p2), .val (.ref b170), .val (.ref b187), .val (.ref b192), .val (.ref b199), .unset, .unset, .unset]) rfl k) ?_
      show Goes p e below s _ _ _ (T199.setTop (mkF m 206 #[.val (.int q0), .val (.int q1), .val (.int q2), .val (.int q3), .val (.int (3 : Int32)), .val (.int r), .val (.int rv), .val (.int s0), .val (.int s1), .val (.int s2), .val (.int v0), .val (.int v1), .val (.int v2), .val (.int p0), .val (.int p1), .val (.int p2), .val (.ref b170), .val (.ref b187), .val (.ref b192), .val (.ref b199), .unset, .unset, .unset] []))
      have f202 := (f195.keep K199 nin0)
      have lt201 : b170 < T199.heap.size := f202.lt
      have f204 := (f197.keep K199 nin0)
      have lt203 : b187 < T199.heap.size := f204.lt
      have f206 := (V192.keep K199 nin0)
      have lt205 : b192 < T199.heap.size := f206.lt
      have lt207 : b199 < T199.heap.size := V199.lt
      refine fill Z a0 hw hx hby hlk hret hml hown hnm hZ #[.val (.int q0), .val (.int q1), .val (.int q2), .val (.int q3), .val (.int (3 : Int32)), .val (.int r), .val (.int rv), .val (.int s0), .val (.int s1), .val (.int s2), .val (.int v0), .val (.int v1), .val (.int v2), .val (.int p0), .val (.int p1), .val (.int p2), .val (.ref b170), .val (.ref b187), .val (.ref b192), .val (.ref b199), .unset, .unset, .unset] _ _ (by decide) (by decide) h0 T199.heap n0 T199 _ X199 rfl N199 Z199 ?_
      intro T208 h208 b208 kE208 locs208 X208 e208 N208 Z208 K208 szq208 loq208 V208
      have ne_b170_b208 : b170 ≠ b208 := Nat.ne_of_lt (Nat.lt_of_lt_of_le lt201 szq208)
      have ne_b187_b208 : b187 ≠ b208 := Nat.ne_of_lt (Nat.lt_of_lt_of_le lt203 szq208)
      have ne_b192_b208 : b192 ≠ b208 := Nat.ne_of_lt (Nat.lt_of_lt_of_le lt205 szq208)
      have ne_b199_b208 : b199 ≠ b208 := Nat.ne_of_lt (Nat.lt_of_lt_of_le lt207 szq208)
      show Goes p e below s _ _ _ (T208.setTop (mkF m 648 #[.val (.int q0), .val (.int q1), .val (.int q2), .val (.int q3), .val (.int (3 : Int32)), .val (.int r), .val (.int rv), .val (.int s0), .val (.int s1), .val (.int s2), .val (.int v0), .val (.int v1), .val (.int v2), .val (.int p0), .val (.int p1), .val (.int p2), .val (.ref b170), .val (.ref b187), .val (.ref b192), .val (.ref b199), .unset, .unset, .unset] [(.ref b208)]))
      refine Goes.st (fun t k => XS.astore X208.here hx rfl (hb hby at_648) rfl rfl (l' := #[.val (.int q0), .val (.int q1), .val (.int q2), .val (.int q3), .val (.int (3 : Int32)), .val (.int r), .val (.int rv), .val (.int s0), .val (.int s1), .val (.int s2), .val (.int v0), .val (.int v1), .val (.int v2), .val (.int p0), .val (.int p1), .val (.int p2), .val (.ref b170), .val (.ref b187), .val (.ref b192), .val (.ref b199), .val (.ref b208), .unset, .unset]) rfl k) ?_
      show Goes p e below s _ _ _ (T208.setTop (mkF m 650 #[.val (.int q0), .val (.int q1), .val (.int q2), .val (.int q3), .val (.int (3 : Int32)), .val (.int r), .val (.int rv), .val (.int s0), .val (.int s1), .val (.int s2), .val (.int v0), .val (.int v1), .val (.int v2), .val (.int p0), .val (.int p1), .val (.int p2), .val (.ref b170), .val (.ref b187), .val (.ref b192), .val (.ref b199), .val (.ref b208), .unset, .unset] []))
      obtain ⟨T210, h210, X210, e210, E210, A210, D210, -, st210⟩ := newO X208 hx hZ hown (hw _ (List.mem_of_getElem? (i := 71) rfl)) (hw _ (List.mem_of_getElem? (i := 72) rfl)) (hw _ (List.mem_of_getElem? (i := 73) rfl)) e208 (g := (mkF m 650 #[.val (.int q0), .val (.int q1), .val (.int q2), .val (.int q3), .val (.int (3 : Int32)), .val (.int r), .val (.int rv), .val (.int s0), .val (.int s1), .val (.int s2), .val (.int v0), .val (.int v1), .val (.int v2), .val (.int p0), .val (.int p1), .val (.int p2), .val (.ref b170), .val (.ref b187), .val (.ref b192), .val (.ref b199), .val (.ref b208), .unset, .unset] [])) rfl (hb hby at_650) (by decide) (by decide)
      obtain ⟨b210, g210⟩ : ∃ z, z = h208.size := ⟨_, rfl⟩
      rw [← g210] at A210 D210 st210
      have f211 := (f202.keep K208 nin0)
      have ne_b170_b210 : b170 ≠ b210 := Nat.ne_of_lt (Nat.lt_of_lt_of_le f211.lt (Nat.le_of_eq g210.symm))
      have f212 := (f204.keep K208 nin0)
      have ne_b187_b210 : b187 ≠ b210 := Nat.ne_of_lt (Nat.lt_of_lt_of_le f212.lt (Nat.le_of_eq g210.symm))
      have f213 := (f206.keep K208 nin0)
      have ne_b192_b210 : b192 ≠ b210 := Nat.ne_of_lt (Nat.lt_of_lt_of_le f213.lt (Nat.le_of_eq g210.symm))
      have f214 := (V199.keep K208 nin0)
      have ne_b199_b210 : b199 ≠ b210 := Nat.ne_of_lt (Nat.lt_of_lt_of_le f214.lt (Nat.le_of_eq g210.symm))
      have ne_b208_b210 : b208 ≠ b210 := Nat.ne_of_lt (Nat.lt_of_lt_of_le V208.lt (Nat.le_of_eq g210.symm))
      have lo_b210 : n0 ≤ b210 := by have := Z208; omega
      refine Goes.st st210 ?_
      have Z210 : n0 ≤ h210.size := Nat.le_trans Z208 E210.1
      have F210_variables : Fld Z h210 b210 "com/example/parley/parley/Table" "variables" "[I" .null := D210 (Or.inr (hw _ (List.mem_of_getElem? (i := 86) rfl))) (ty := (.array .int)) (by decide)
      have F210_sizes : Fld Z h210 b210 "com/example/parley/parley/Table" "sizes" "[I" .null := D210 (Or.inr (hw _ (List.mem_of_getElem? (i := 88) rfl))) (ty := (.array .int)) (by decide)
      have F210_entries : Fld Z h210 b210 "com/example/parley/parley/Table" "entries" "[D" .null := D210 (Or.inr (hw _ (List.mem_of_getElem? (i := 90) rfl))) (ty := (.array .double)) (by decide)
      show Goes p e below s _ _ _ (T210.setTop (mkF m 653 #[.val (.int q0), .val (.int q1), .val (.int q2), .val (.int q3), .val (.int (3 : Int32)), .val (.int r), .val (.int rv), .val (.int s0), .val (.int s1), .val (.int s2), .val (.int v0), .val (.int v1), .val (.int v2), .val (.int p0), .val (.int p1), .val (.int p2), .val (.ref b170), .val (.ref b187), .val (.ref b192), .val (.ref b199), .val (.ref b208), .unset, .unset] [(.ref b210)]))
      refine Goes.st (fun t k => XS.dup X210.here hx rfl (hb hby at_653) rfl rfl k) ?_
      show Goes p e below s _ _ _ (T210.setTop (mkF m 654 #[.val (.int q0), .val (.int q1), .val (.int q2), .val (.int q3), .val (.int (3 : Int32)), .val (.int r), .val (.int rv), .val (.int s0), .val (.int s1), .val (.int s2), .val (.int v0), .val (.int v1), .val (.int v2), .val (.int p0), .val (.int p1), .val (.int p2), .val (.ref b170), .val (.ref b187), .val (.ref b192), .val (.ref b199), .val (.ref b208), .unset, .unset] [(.ref b210), (.ref b210)]))
      refine Goes.st (fun t k => XS.aload X210.here hx rfl (hb hby at_654) rfl rfl k) ?_
      show Goes p e below s _ _ _ (T210.setTop (mkF m 656 #[.val (.int q0), .val (.int q1), .val (.int q2), .val (.int q3), .val (.int (3 : Int32)), .val (.int r), .val (.int rv), .val (.int s0), .val (.int s1), .val (.int s2), .val (.int v0), .val (.int v1), .val (.int v2), .val (.int p0), .val (.int p1), .val (.int p2), .val (.ref b170), .val (.ref b187), .val (.ref b192), .val (.ref b199), .val (.ref b208), .unset, .unset] [(.ref b199), (.ref b210), (.ref b210)]))
      refine Goes.st (fun t k => XS.aload X210.here hx rfl (hb hby at_656) rfl rfl k) ?_
      show Goes p e below s _ _ _ (T210.setTop (mkF m 658 #[.val (.int q0), .val (.int q1), .val (.int q2), .val (.int q3), .val (.int (3 : Int32)), .val (.int r), .val (.int rv), .val (.int s0), .val (.int s1), .val (.int s2), .val (.int v0), .val (.int v1), .val (.int v2), .val (.int p0), .val (.int p1), .val (.int p2), .val (.ref b170), .val (.ref b187), .val (.ref b192), .val (.ref b199), .val (.ref b208), .unset, .unset] [(.ref b192), (.ref b199), (.ref b210), (.ref b210)]))
      refine Goes.st (fun t k => XS.aload X210.here hx rfl (hb hby at_658) rfl rfl k) ?_
      show Goes p e below s _ _ _ (T210.setTop (mkF m 660 #[.val (.int q0), .val (.int q1), .val (.int q2), .val (.int q3), .val (.int (3 : Int32)), .val (.int r), .val (.int rv), .val (.int s0), .val (.int s1), .val (.int s2), .val (.int v0), .val (.int v1), .val (.int v2), .val (.int p0), .val (.int p1), .val (.int p2), .val (.ref b170), .val (.ref b187), .val (.ref b192), .val (.ref b199), .val (.ref b208), .unset, .unset] [(.ref b208), (.ref b192), (.ref b199), (.ref b210), (.ref b210)]))
      obtain ⟨_, _, ⟨T216, L216, k216, n216⟩, -, X216, ⟨Lc216, hQ216, l216, y216, z216⟩, st216⟩ := X210.specialBack hx (y := (⟨"com/example/parley/parley/Table", "<init>", "([I[I[D)V"⟩ : MethodName)) rfl hown (mvT hZ (hw _ (List.mem_of_getElem? (i := 74) rfl))) (mvT hZ (hw _ (List.mem_of_getElem? (i := 75) rfl))) (mvT hZ (hw _ (List.mem_of_getElem? (i := 76) rfl))) (by decide) (backOf (W := 1) (rmC l Z a0 hw [] b210 b199 b192 b208 .null .null .null h210 n0 Z210 A210 lo_b210 F210_variables F210_sizes F210_entries) hZ (hw _ (List.mem_of_getElem? (i := 76) rfl)) (hw _ (List.mem_of_getElem? (i := 73) rfl)) (by decide) (by decide)) (g := (mkF m 660 #[.val (.int q0), .val (.int q1), .val (.int q2), .val (.int q3), .val (.int (3 : Int32)), .val (.int r), .val (.int rv), .val (.int s0), .val (.int s1), .val (.int s2), .val (.int v0), .val (.int v1), .val (.int v2), .val (.int p0), .val (.int p1), .val (.int p2), .val (.ref b170), .val (.ref b187), .val (.ref b192), .val (.ref b199), .val (.ref b208), .unset, .unset] [(.ref b208), (.ref b192), (.ref b199), (.ref b210), (.ref b210)])) rfl (by rw [hml]; rfl) (Steps.refl _) (a := b210) (argsL := [(.ref b199), (.ref b192), (.ref b208)]) (rest := [(.ref b210)]) (lenOf pd___I_I_D_V_1c32 rfl) rfl (by show 2 * 0 + _ ≤ _; exact Nat.le_of_eq rfl) (hb hby at_660) (fun _ _ => ⟨rfl, e210, (by decide : 6 + 0 ≤ 24), (by decide : 80 + 0 ≤ 256)⟩)
      dsimp only [Pt.U, Pt.locs, Pt.cells, Pt.slots] at X216 l216 y216 z216 st216 hQ216
      subst l216 y216 z216
      obtain ⟨rfl, N216q, K216, R216_0, R216_1, R216_2⟩ := hQ216
      have Z216 : n0 ≤ T216.heap.size := Nat.le_trans Z210 K216.1
      have N216 := Fr.app N208 N216q
      refine Goes.sts st216 ?_
      show Goes p e below s _ _ _ (T216.setTop (mkF m 663 #[.val (.int q0), .val (.int q1), .val (.int q2), .val (.int q3), .val (.int (3 : Int32)), .val (.int r), .val (.int rv), .val (.int s0), .val (.int s1), .val (.int s2), .val (.int v0), .val (.int v1), .val (.int v2), .val (.int p0), .val (.int p1), .val (.int p2), .val (.ref b170), .val (.ref b187), .val (.ref b192), .val (.ref b199), .val (.ref b208), .unset, .unset] [(.ref b210)]))
      refine Goes.st (fun t k => XS.astore X216.here hx rfl (hb hby at_663) rfl rfl (l' := #[.val (.int q0), .val (.int q1), .val (.int q2), .val (.int q3), .val (.int (3 : Int32)), .val (.int r), .val (.int rv), .val (.int s0), .val (.int s1), .val (.int s2), .val (.int v0), .val (.int v1), .val (.int v2), .val (.int p0), .val (.int p1), .val (.int p2), .val (.ref b170), .val (.ref b187), .val (.ref b192), .val (.ref b199), .val (.ref b208), .val (.ref b210), .unset]) rfl k) ?_
      show Goes p e below s _ _ _ (T216.setTop (mkF m 665 #[.val (.int q0), .val (.int q1), .val (.int q2), .val (.int q3), .val (.int (3 : Int32)), .val (.int r), .val (.int rv), .val (.int s0), .val (.int s1), .val (.int s2), .val (.int v0), .val (.int v1), .val (.int v2), .val (.int p0), .val (.int p1), .val (.int p2), .val (.ref b170), .val (.ref b187), .val (.ref b192), .val (.ref b199), .val (.ref b208), .val (.ref b210), .unset] []))
      refine Goes.st (fun t k => XS.iload X216.here hx rfl (hb hby at_665) rfl k) ?_
      show Goes p e below s _ _ _ (T216.setTop (mkF m 667 #[.val (.int q0), .val (.int q1), .val (.int q2), .val (.int q3), .val (.int (3 : Int32)), .val (.int r), .val (.int rv), .val (.int s0), .val (.int s1), .val (.int s2), .val (.int v0), .val (.int v1), .val (.int v2), .val (.int p0), .val (.int p1), .val (.int p2), .val (.ref b170), .val (.ref b187), .val (.ref b192), .val (.ref b199), .val (.ref b208), .val (.ref b210), .unset] [(.int (3 : Int32))]))
      refine Goes.st (fun t k => XS.ifYes X216.here hx rfl (pc0 := 667) (pc' := 676) rfl (hb hby at_667) rfl (by decide) (by decide) (by decide) k) ?_
      show Goes p e below s _ _ _ (T216.setTop (mkF m 676 #[.val (.int q0), .val (.int q1), .val (.int q2), .val (.int q3), .val (.int (3 : Int32)), .val (.int r), .val (.int rv), .val (.int s0), .val (.int s1), .val (.int s2), .val (.int v0), .val (.int v1), .val (.int v2), .val (.int p0), .val (.int p1), .val (.int p2), .val (.ref b170), .val (.ref b187), .val (.ref b192), .val (.ref b199), .val (.ref b208), .val (.ref b210), .unset] []))
      refine Goes.st (fun t k => XS.iload X216.here hx rfl (hb hby at_676) rfl k) ?_
      show Goes p e below s _ _ _ (T216.setTop (mkF m 678 #[.val (.int q0), .val (.int q1), .val (.int q2), .val (.int q3), .val (.int (3 : Int32)), .val (.int r), .val (.int rv), .val (.int s0), .val (.int s1), .val (.int s2), .val (.int v0), .val (.int v1), .val (.int v2), .val (.int p0), .val (.int p1), .val (.int p2), .val (.ref b170), .val (.ref b187), .val (.ref b192), .val (.ref b199), .val (.ref b208), .val (.ref b210), .unset] [(.int (3 : Int32))]))
      refine Goes.st (fun t k => XS.iconst X216.here hx rfl (hb hby at_678) k) ?_
      show Goes p e below s _ _ _ (T216.setTop (mkF m 679 #[.val (.int q0), .val (.int q1), .val (.int q2), .val (.int q3), .val (.int (3 : Int32)), .val (.int r), .val (.int rv), .val (.int s0), .val (.int s1), .val (.int s2), .val (.int v0), .val (.int v1), .val (.int v2), .val (.int p0), .val (.int p1), .val (.int p2), .val (.ref b170), .val (.ref b187), .val (.ref b192), .val (.ref b199), .val (.ref b208), .val (.ref b210), .unset] [(.int (1 : Int32)), (.int (3 : Int32))]))
      refine Goes.st (fun t k => XS.icmpYes X216.here hx rfl (pc0 := 679) (pc' := 689) rfl (hb hby at_679) rfl (by decide) (by decide) (by decide) k) ?_
      show Goes p e below s _ _ _ (T216.setTop (mkF m 689 #[.val (.int q0), .val (.int q1), .val (.int q2), .val (.int q3), .val (.int (3 : Int32)), .val (.int r), .val (.int rv), .val (.int s0), .val (.int s1), .val (.int s2), .val (.int v0), .val (.int v1), .val (.int v2), .val (.int p0), .val (.int p1), .val (.int p2), .val (.ref b170), .val (.ref b187), .val (.ref b192), .val (.ref b199), .val (.ref b208), .val (.ref b210), .unset] []))
      refine Goes.st (fun t k => XS.iload X216.here hx rfl (hb hby at_689) rfl k) ?_
      show Goes p e below s _ _ _ (T216.setTop (mkF m 691 #[.val (.int q0), .val (.int q1), .val (.int q2), .val (.int q3), .val (.int (3 : Int32)), .val (.int r), .val (.int rv), .val (.int s0), .val (.int s1), .val (.int s2), .val (.int v0), .val (.int v1), .val (.int v2), .val (.int p0), .val (.int p1), .val (.int p2), .val (.ref b170), .val (.ref b187), .val (.ref b192), .val (.ref b199), .val (.ref b208), .val (.ref b210), .unset] [(.int (3 : Int32))]))
      refine Goes.st (fun t k => XS.iconst X216.here hx rfl (hb hby at_691) k) ?_
      show Goes p e below s _ _ _ (T216.setTop (mkF m 692 #[.val (.int q0), .val (.int q1), .val (.int q2), .val (.int q3), .val (.int (3 : Int32)), .val (.int r), .val (.int rv), .val (.int s0), .val (.int s1), .val (.int s2), .val (.int v0), .val (.int v1), .val (.int v2), .val (.int p0), .val (.int p1), .val (.int p2), .val (.ref b170), .val (.ref b187), .val (.ref b192), .val (.ref b199), .val (.ref b208), .val (.ref b210), .unset] [(.int (2 : Int32)), (.int (3 : Int32))]))
      refine Goes.st (fun t k => XS.icmpYes X216.here hx rfl (pc0 := 692) (pc' := 708) rfl (hb hby at_692) rfl (by decide) (by decide) (by decide) k) ?_
      show Goes p e below s _ _ _ (T216.setTop (mkF m 708 #[.val (.int q0), .val (.int q1), .val (.int q2), .val (.int q3), .val (.int (3 : Int32)), .val (.int r), .val (.int rv), .val (.int s0), .val (.int s1), .val (.int s2), .val (.int v0), .val (.int v1), .val (.int v2), .val (.int p0), .val (.int p1), .val (.int p2), .val (.ref b170), .val (.ref b187), .val (.ref b192), .val (.ref b199), .val (.ref b208), .val (.ref b210), .unset] []))
      refine Goes.st (fun t k => XS.iload X216.here hx rfl (hb hby at_708) rfl k) ?_
      show Goes p e below s _ _ _ (T216.setTop (mkF m 710 #[.val (.int q0), .val (.int q1), .val (.int q2), .val (.int q3), .val (.int (3 : Int32)), .val (.int r), .val (.int rv), .val (.int s0), .val (.int s1), .val (.int s2), .val (.int v0), .val (.int v1), .val (.int v2), .val (.int p0), .val (.int p1), .val (.int p2), .val (.ref b170), .val (.ref b187), .val (.ref b192), .val (.ref b199), .val (.ref b208), .val (.ref b210), .unset] [(.int v0)]))
      refine Goes.st (fun t k => XS.iload X216.here hx rfl (hb hby at_710) rfl k) ?_
      show Goes p e below s _ _ _ (T216.setTop (mkF m 712 #[.val (.int q0), .val (.int q1), .val (.int q2), .val (.int q3), .val (.int (3 : Int32)), .val (.int r), .val (.int rv), .val (.int s0), .val (.int s1), .val (.int s2), .val (.int v0), .val (.int v1), .val (.int v2), .val (.int p0), .val (.int p1), .val (.int p2), .val (.ref b170), .val (.ref b187), .val (.ref b192), .val (.ref b199), .val (.ref b208), .val (.ref b210), .unset] [(.int s1), (.int v0)]))
      refine Goes.st (fun t k => XS.imul X216.here hx rfl (hb hby at_712) rfl k) ?_
      show Goes p e below s _ _ _ (T216.setTop (mkF m 713 #[.val (.int q0), .val (.int q1), .val (.int q2), .val (.int q3), .val (.int (3 : Int32)), .val (.int r), .val (.int rv), .val (.int s0), .val (.int s1), .val (.int s2), .val (.int v0), .val (.int v1), .val (.int v2), .val (.int p0), .val (.int p1), .val (.int p2), .val (.ref b170), .val (.ref b187), .val (.ref b192), .val (.ref b199), .val (.ref b208), .val (.ref b210), .unset] [(.int (v0 * s1))]))
      refine Goes.st (fun t k => XS.iload X216.here hx rfl (hb hby at_713) rfl k) ?_
      show Goes p e below s _ _ _ (T216.setTop (mkF m 715 #[.val (.int q0), .val (.int q1), .val (.int q2), .val (.int q3), .val (.int (3 : Int32)), .val (.int r), .val (.int rv), .val (.int s0), .val (.int s1), .val (.int s2), .val (.int v0), .val (.int v1), .val (.int v2), .val (.int p0), .val (.int p1), .val (.int p2), .val (.ref b170), .val (.ref b187), .val (.ref b192), .val (.ref b199), .val (.ref b208), .val (.ref b210), .unset] [(.int s2), (.int (v0 * s1))]))
      refine Goes.st (fun t k => XS.imul X216.here hx rfl (hb hby at_715) rfl k) ?_
      show Goes p e below s _ _ _ (T216.setTop (mkF m 716 #[.val (.int q0), .val (.int q1), .val (.int q2), .val (.int q3), .val (.int (3 : Int32)), .val (.int r), .val (.int rv), .val (.int s0), .val (.int s1), .val (.int s2), .val (.int v0), .val (.int v1), .val (.int v2), .val (.int p0), .val (.int p1), .val (.int p2), .val (.ref b170), .val (.ref b187), .val (.ref b192), .val (.ref b199), .val (.ref b208), .val (.ref b210), .unset] [(.int ((v0 * s1) * s2))]))
      refine Goes.st (fun t k => XS.iload X216.here hx rfl (hb hby at_716) rfl k) ?_
      show Goes p e below s _ _ _ (T216.setTop (mkF m 718 #[.val (.int q0), .val (.int q1), .val (.int q2), .val (.int q3), .val (.int (3 : Int32)), .val (.int r), .val (.int rv), .val (.int s0), .val (.int s1), .val (.int s2), .val (.int v0), .val (.int v1), .val (.int v2), .val (.int p0), .val (.int p1), .val (.int p2), .val (.ref b170), .val (.ref b187), .val (.ref b192), .val (.ref b199), .val (.ref b208), .val (.ref b210), .unset] [(.int v1), (.int ((v0 * s1) * s2))]))
      refine Goes.st (fun t k => XS.iload X216.here hx rfl (hb hby at_718) rfl k) ?_
      show Goes p e below s _ _ _ (T216.setTop (mkF m 720 #[.val (.int q0), .val (.int q1), .val (.int q2), .val (.int q3), .val (.int (3 : Int32)), .val (.int r), .val (.int rv), .val (.int s0), .val (.int s1), .val (.int s2), .val (.int v0), .val (.int v1), .val (.int v2), .val (.int p0), .val (.int p1), .val (.int p2), .val (.ref b170), .val (.ref b187), .val (.ref b192), .val (.ref b199), .val (.ref b208), .val (.ref b210), .unset] [(.int s2), (.int v1), (.int ((v0 * s1) * s2))]))
      refine Goes.st (fun t k => XS.imul X216.here hx rfl (hb hby at_720) rfl k) ?_
      show Goes p e below s _ _ _ (T216.setTop (mkF m 721 #[.val (.int q0), .val (.int q1), .val (.int q2), .val (.int q3), .val (.int (3 : Int32)), .val (.int r), .val (.int rv), .val (.int s0), .val (.int s1), .val (.int s2), .val (.int v0), .val (.int v1), .val (.int v2), .val (.int p0), .val (.int p1), .val (.int p2), .val (.ref b170), .val (.ref b187), .val (.ref b192), .val (.ref b199), .val (.ref b208), .val (.ref b210), .unset] [(.int (v1 * s2)), (.int ((v0 * s1) * s2))]))
      refine Goes.st (fun t k => XS.iadd X216.here hx rfl (hb hby at_721) rfl k) ?_
      show Goes p e below s _ _ _ (T216.setTop (mkF m 722 #[.val (.int q0), .val (.int q1), .val (.int q2), .val (.int q3), .val (.int (3 : Int32)), .val (.int r), .val (.int rv), .val (.int s0), .val (.int s1), .val (.int s2), .val (.int v0), .val (.int v1), .val (.int v2), .val (.int p0), .val (.int p1), .val (.int p2), .val (.ref b170), .val (.ref b187), .val (.ref b192), .val (.ref b199), .val (.ref b208), .val (.ref b210), .unset] [(.int (((v0 * s1) * s2) + (v1 * s2)))]))
      refine Goes.st (fun t k => XS.iload X216.here hx rfl (hb hby at_722) rfl k) ?_
      show Goes p e below s _ _ _ (T216.setTop (mkF m 724 #[.val (.int q0), .val (.int q1), .val (.int q2), .val (.int q3), .val (.int (3 : Int32)), .val (.int r), .val (.int rv), .val (.int s0), .val (.int s1), .val (.int s2), .val (.int v0), .val (.int v1), .val (.int v2), .val (.int p0), .val (.int p1), .val (.int p2), .val (.ref b170), .val (.ref b187), .val (.ref b192), .val (.ref b199), .val (.ref b208), .val (.ref b210), .unset] [(.int v2), (.int (((v0 * s1) * s2) + (v1 * s2)))]))
      refine Goes.st (fun t k => XS.iadd X216.here hx rfl (hb hby at_724) rfl k) ?_
      show Goes p e below s _ _ _ (T216.setTop (mkF m 725 #[.val (.int q0), .val (.int q1), .val (.int q2), .val (.int q3), .val (.int (3 : Int32)), .val (.int r), .val (.int rv), .val (.int s0), .val (.int s1), .val (.int s2), .val (.int v0), .val (.int v1), .val (.int v2), .val (.int p0), .val (.int p1), .val (.int p2), .val (.ref b170), .val (.ref b187), .val (.ref b192), .val (.ref b199), .val (.ref b208), .val (.ref b210), .unset] [(.int ((((v0 * s1) * s2) + (v1 * s2)) + v2))]))
      refine Goes.st (fun t k => XS.istore X216.here hx rfl (hb hby at_725) rfl (l' := #[.val (.int q0), .val (.int q1), .val (.int q2), .val (.int q3), .val (.int (3 : Int32)), .val (.int r), .val (.int rv), .val (.int s0), .val (.int s1), .val (.int s2), .val (.int v0), .val (.int v1), .val (.int v2), .val (.int p0), .val (.int p1), .val (.int p2), .val (.ref b170), .val (.ref b187), .val (.ref b192), .val (.ref b199), .val (.ref b208), .val (.ref b210), .val (.int ((((v0 * s1) * s2) + (v1 * s2)) + v2))]) rfl k) ?_
      show Goes p e below s _ _ _ (T216.setTop (mkF m 727 #[.val (.int q0), .val (.int q1), .val (.int q2), .val (.int q3), .val (.int (3 : Int32)), .val (.int r), .val (.int rv), .val (.int s0), .val (.int s1), .val (.int s2), .val (.int v0), .val (.int v1), .val (.int v2), .val (.int p0), .val (.int p1), .val (.int p2), .val (.ref b170), .val (.ref b187), .val (.ref b192), .val (.ref b199), .val (.ref b208), .val (.ref b210), .val (.int ((((v0 * s1) * s2) + (v1 * s2)) + v2))] []))
      refine Goes.st (fun t k => XS.aload X216.here hx rfl (hb hby at_727) rfl rfl k) ?_
      show Goes p e below s _ _ _ (T216.setTop (mkF m 729 #[.val (.int q0), .val (.int q1), .val (.int q2), .val (.int q3), .val (.int (3 : Int32)), .val (.int r), .val (.int rv), .val (.int s0), .val (.int s1), .val (.int s2), .val (.int v0), .val (.int v1), .val (.int v2), .val (.int p0), .val (.int p1), .val (.int p2), .val (.ref b170), .val (.ref b187), .val (.ref b192), .val (.ref b199), .val (.ref b208), .val (.ref b210), .val (.int ((((v0 * s1) * s2) + (v1 * s2)) + v2))] [(.ref b210)]))
      refine Goes.st (fun t k => XS.aload X216.here hx rfl (hb hby at_729) rfl rfl k) ?_
      show Goes p e below s _ _ _ (T216.setTop (mkF m 731 #[.val (.int q0), .val (.int q1), .val (.int q2), .val (.int q3), .val (.int (3 : Int32)), .val (.int r), .val (.int rv), .val (.int s0), .val (.int s1), .val (.int s2), .val (.int v0), .val (.int v1), .val (.int v2), .val (.int p0), .val (.int p1), .val (.int p2), .val (.ref b170), .val (.ref b187), .val (.ref b192), .val (.ref b199), .val (.ref b208), .val (.ref b210), .val (.int ((((v0 * s1) * s2) + (v1 * s2)) + v2))] [(.ref b170), (.ref b210)]))
      refine Goes.st (fun t k => XS.aload X216.here hx rfl (hb hby at_731) rfl rfl k) ?_
      show Goes p e below s _ _ _ (T216.setTop (mkF m 733 #[.val (.int q0), .val (.int q1), .val (.int q2), .val (.int q3), .val (.int (3 : Int32)), .val (.int r), .val (.int rv), .val (.int s0), .val (.int s1), .val (.int s2), .val (.int v0), .val (.int v1), .val (.int v2), .val (.int p0), .val (.int p1), .val (.int p2), .val (.ref b170), .val (.ref b187), .val (.ref b192), .val (.ref b199), .val (.ref b208), .val (.ref b210), .val (.int ((((v0 * s1) * s2) + (v1 * s2)) + v2))] [(.ref b187), (.ref b170), (.ref b210)]))
      have f218 := ((f212.ext E210).keep K216 (ninS ne_b187_b210 nin0))
      have f219 := ((f213.ext E210).keep K216 (ninS ne_b192_b210 nin0))
      have f220 := ((f211.ext E210).keep K216 (ninS ne_b170_b210 nin0))
      have f221 := ((V208.ext E210).keep K216 (ninS ne_b208_b210 nin0))
      have hg0 : ((((([(.int q3), (.int q3), (.int q3), (.int q3)] : List Value).set p0.toNatClampNeg (.int v0)).set p1.toNatClampNeg (.int v1)).set p2.toNatClampNeg (.int v2))).getD p0.toNatClampNeg (.int (0 : Int32)) = .int v0 := (own_miss (own_nx ip0 ip2 hne02)).trans ((own_miss (own_nx ip0 ip1 hne01)).trans (own_get (by simpa using own_ix ip0)))
      have hg1 : ((((([(.int q3), (.int q3), (.int q3), (.int q3)] : List Value).set p0.toNatClampNeg (.int v0)).set p1.toNatClampNeg (.int v1)).set p2.toNatClampNeg (.int v2))).getD p1.toNatClampNeg (.int (0 : Int32)) = .int v1 := (own_miss (own_nx ip1 ip2 hne12)).trans (own_get (by simpa using own_ix ip1))
      have hg2 : ((((([(.int q3), (.int q3), (.int q3), (.int q3)] : List Value).set p0.toNatClampNeg (.int v0)).set p1.toNatClampNeg (.int v1)).set p2.toNatClampNeg (.int v2))).getD p2.toNatClampNeg (.int (0 : Int32)) = .int v2 := own_get (by simpa using own_ix ip2)
      have hix : (((((((0 : Int32) * s0) + v0) * s1) + v1) * s2) + v2) = ((((v0 * s1) * s2) + (v1 * s2)) + v2) := by simp only [Int32.zero_mul, Int32.zero_add, Int32.add_mul]
      have hI : Ix (((((((0 : Int32) * s0) + v0) * s1) + v1) * s2) + v2) := by simp only [Int32.zero_mul, Int32.zero_add]; exact own_i3 iv0 is1 iv1 is2 iv2
      have he := own_ent hI
      rw [hix] at he
      have f223 := (A210.keep K216)
      obtain ⟨cq222, kq222, qa222, qb222, qc222⟩ := isOf hZ rfl f223
      obtain ⟨_, _, ⟨T222, L222, k222, n222⟩, -, X222, ⟨Lc222, hQ222, l222, y222, z222⟩, st222⟩ := X216.virtualBack hx (y := (⟨"com/example/parley/parley/Table", "entry", "([I[I)D"⟩ : MethodName)) (z := (⟨"com/example/parley/parley/Table", "entry", "([I[I)D"⟩ : MethodName)) hown (mvT hZ (hw _ (List.mem_of_getElem? (i := 91) rfl))) (mvT hZ (hw _ (List.mem_of_getElem? (i := 92) rfl))) (notFace_of_selects (args := #[]) (mvT hZ (hw _ (List.mem_of_getElem? (i := 94) rfl)))) (mvT hZ (hw _ (List.mem_of_getElem? (i := 94) rfl))) (mvT hZ (hw _ (List.mem_of_getElem? (i := 93) rfl))) (by decide) (backOf (W := 0) (rmE3 l Z a0 hw [] b210 b170 b187 b192 b208 kA187 kA192 cA170 kE208 ((((([(.int q3), (.int q3), (.int q3), (.int q3)] : List Value).set p0.toNatClampNeg (.int v0)).set p1.toNatClampNeg (.int v1)).set p2.toNatClampNeg (.int v2))) entsL (FP.i2d ((((v0 * s1) * s2) + (v1 * s2)) + v2)) p0 s0 v0 p1 s1 v1 p2 s2 v2 T216.heap n0 Z216 R216_1 R216_2 f218 f219 f220 f221 (own_in ip0) hg0 (own_in ip1) hg1 (own_in ip2) hg2 (own_ix64 hI) (by rw [hix]; exact he)) hZ (hw _ (List.mem_of_getElem? (i := 95) rfl)) (hw _ (List.mem_of_getElem? (i := 73) rfl)) (by decide) (by decide)) qa222 qc222 (g := (mkF m 733 #[.val (.int q0), .val (.int q1), .val (.int q2), .val (.int q3), .val (.int (3 : Int32)), .val (.int r), .val (.int rv), .val (.int s0), .val (.int s1), .val (.int s2), .val (.int v0), .val (.int v1), .val (.int v2), .val (.int p0), .val (.int p1), .val (.int p2), .val (.ref b170), .val (.ref b187), .val (.ref b192), .val (.ref b199), .val (.ref b208), .val (.ref b210), .val (.int ((((v0 * s1) * s2) + (v1 * s2)) + v2))] [(.ref b187), (.ref b170), (.ref b210)])) rfl (by rw [hml]; rfl) (Steps.refl _) (argsL := [(.ref b170), (.ref b187)]) (rest := []) (lenOf pd___I_I_D_1292 rfl) rfl (by show 2 * 0 + _ ≤ _; exact Nat.le_of_eq rfl) (hb hby at_733) (fun _ _ => ⟨rfl, rfl, (by decide : 6 + 0 ≤ 24), (by decide : 80 + 0 ≤ 256)⟩)
      dsimp only [Pt.U, Pt.locs, Pt.cells, Pt.slots] at X222 l222 y222 z222 st222 hQ222
      subst l222 y222 z222
      obtain ⟨rfl, N222q, eh222⟩ := hQ222
      have N222 := Fr.app N216 N222q
      refine Goes.sts st222 ?_
      show Goes p e below s _ _ _ (T222.setTop (mkF m 736 #[.val (.int q0), .val (.int q1), .val (.int q2), .val (.int q3), .val (.int (3 : Int32)), .val (.int r), .val (.int rv), .val (.int s0), .val (.int s1), .val (.int s2), .val (.int v0), .val (.int v1), .val (.int v2), .val (.int p0), .val (.int p1), .val (.int p2), .val (.ref b170), .val (.ref b187), .val (.ref b192), .val (.ref b199), .val (.ref b208), .val (.ref b210), .val (.int ((((v0 * s1) * s2) + (v1 * s2)) + v2))] [(.double (FP.i2d ((((v0 * s1) * s2) + (v1 * s2)) + v2)))]))
      refine Goes.st (fun t k => XS.iload X222.here hx rfl (hb hby at_736) rfl k) ?_
      show Goes p e below s _ _ _ (T222.setTop (mkF m 738 #[.val (.int q0), .val (.int q1), .val (.int q2), .val (.int q3), .val (.int (3 : Int32)), .val (.int r), .val (.int rv), .val (.int s0), .val (.int s1), .val (.int s2), .val (.int v0), .val (.int v1), .val (.int v2), .val (.int p0), .val (.int p1), .val (.int p2), .val (.ref b170), .val (.ref b187), .val (.ref b192), .val (.ref b199), .val (.ref b208), .val (.ref b210), .val (.int ((((v0 * s1) * s2) + (v1 * s2)) + v2))] [(.int ((((v0 * s1) * s2) + (v1 * s2)) + v2)), (.double (FP.i2d ((((v0 * s1) * s2) + (v1 * s2)) + v2)))]))
      refine Goes.st (fun t k => XS.i2dS X222.here hx rfl (hb hby at_738) rfl (v := (FP.i2d ((((v0 * s1) * s2) + (v1 * s2)) + v2))) rfl k) ?_
      show Goes p e below s _ _ _ (T222.setTop (mkF m 739 #[.val (.int q0), .val (.int q1), .val (.int q2), .val (.int q3), .val (.int (3 : Int32)), .val (.int r), .val (.int rv), .val (.int s0), .val (.int s1), .val (.int s2), .val (.int v0), .val (.int v1), .val (.int v2), .val (.int p0), .val (.int p1), .val (.int p2), .val (.ref b170), .val (.ref b187), .val (.ref b192), .val (.ref b199), .val (.ref b208), .val (.ref b210), .val (.int ((((v0 * s1) * s2) + (v1 * s2)) + v2))] [(.double (FP.i2d ((((v0 * s1) * s2) + (v1 * s2)) + v2))), (.double (FP.i2d ((((v0 * s1) * s2) + (v1 * s2)) + v2)))]))
      refine Goes.st (fun t k => XS.dcmpS X222.here hx rfl (hb hby at_739) rfl (v := (cmpValue (FP.dcmp (FP.i2d ((((v0 * s1) * s2) + (v1 * s2)) + v2)) (FP.i2d ((((v0 * s1) * s2) + (v1 * s2)) + v2))) .l)) rfl k) ?_
      show Goes p e below s _ _ _ (T222.setTop (mkF m 740 #[.val (.int q0), .val (.int q1), .val (.int q2), .val (.int q3), .val (.int (3 : Int32)), .val (.int r), .val (.int rv), .val (.int s0), .val (.int s1), .val (.int s2), .val (.int v0), .val (.int v1), .val (.int v2), .val (.int p0), .val (.int p1), .val (.int p2), .val (.ref b170), .val (.ref b187), .val (.ref b192), .val (.ref b199), .val (.ref b208), .val (.ref b210), .val (.int ((((v0 * s1) * s2) + (v1 * s2)) + v2))] [(.int (cmpValue (FP.dcmp (FP.i2d ((((v0 * s1) * s2) + (v1 * s2)) + v2)) (FP.i2d ((((v0 * s1) * s2) + (v1 * s2)) + v2))) .l))]))
      refine Goes.st (fun t k => XS.ifNo X222.here hx rfl (hb hby at_740) rfl ((if0 _ _).trans (teq (dcmpV_self (i2d_fin _).noNaN _)).2) k) ?_
      show Goes p e below s _ _ _ (T222.setTop (mkF m 743 #[.val (.int q0), .val (.int q1), .val (.int q2), .val (.int q3), .val (.int (3 : Int32)), .val (.int r), .val (.int rv), .val (.int s0), .val (.int s1), .val (.int s2), .val (.int v0), .val (.int v1), .val (.int v2), .val (.int p0), .val (.int p1), .val (.int p2), .val (.ref b170), .val (.ref b187), .val (.ref b192), .val (.ref b199), .val (.ref b208), .val (.ref b210), .val (.int ((((v0 * s1) * s2) + (v1 * s2)) + v2))] []))
      refine Goes.st (fun t k => XS.iconst X222.here hx rfl (hb hby at_743) k) ?_
      show Goes p e below s _ _ _ (T222.setTop (mkF m 744 #[.val (.int q0), .val (.int q1), .val (.int q2), .val (.int q3), .val (.int (3 : Int32)), .val (.int r), .val (.int rv), .val (.int s0), .val (.int s1), .val (.int s2), .val (.int v0), .val (.int v1), .val (.int v2), .val (.int p0), .val (.int p1), .val (.int p2), .val (.ref b170), .val (.ref b187), .val (.ref b192), .val (.ref b199), .val (.ref b208), .val (.ref b210), .val (.int ((((v0 * s1) * s2) + (v1 * s2)) + v2))] [(.int (1 : Int32))]))
      refine Goes.st (fun t k => XS.goto X222.here hx rfl (pc0 := 744) (pc' := 748) rfl (hb hby at_744) (by decide) (by decide) k) ?_
      show Goes p e below s _ _ _ (T222.setTop (mkF m 748 #[.val (.int q0), .val (.int q1), .val (.int q2), .val (.int q3), .val (.int (3 : Int32)), .val (.int r), .val (.int rv), .val (.int s0), .val (.int s1), .val (.int s2), .val (.int v0), .val (.int v1), .val (.int v2), .val (.int p0), .val (.int p1), .val (.int p2), .val (.ref b170), .val (.ref b187), .val (.ref b192), .val (.ref b199), .val (.ref b208), .val (.ref b210), .val (.int ((((v0 * s1) * s2) + (v1 * s2)) + v2))] [(.int (1 : Int32))]))
      refine Goes.retN X222 hx hlk hret (by simp) (hb hby at_748) (by decide) ?_ (by decide) (by decide)
      rw [eh222]
      exact ⟨rfl, N222⟩
    by_cases c224 : ((XT.ushr q0 (4 : Int32)) &&& (1 : Int32)) = (0 : Int32)
    · refine Goes.st (fun t k => XS.ifYes X0.here hx rfl (pc0 := 17) (pc' := 24) rfl (hb hby at_17) rfl ((if0 _ _).trans (teq c224).1) (by decide) (by decide) k) ?_
      show Goes p e below s _ _ _ (s₁.setTop (mkF m 24 #[.val (.int q0), .val (.int q1), .val (.int q2), .val (.int q3), .val (.int (3 : Int32)), .val (.int r), .unset, .unset, .unset, .unset, .unset, .unset, .unset, .unset, .unset, .unset, .unset, .unset, .unset, .unset, .unset, .unset, .unset] []))
      refine Goes.st (fun t k => XS.iconst X0.here hx rfl (hb hby at_24) k) ?_
      show Goes p e below s _ _ _ (s₁.setTop (mkF m 25 #[.val (.int q0), .val (.int q1), .val (.int q2), .val (.int q3), .val (.int (3 : Int32)), .val (.int r), .unset, .unset, .unset, .unset, .unset, .unset, .unset, .unset, .unset, .unset, .unset, .unset, .unset, .unset, .unset, .unset, .unset] [(.int (0 : Int32))]))
      exact J166 _
    · refine Goes.st (fun t k => XS.ifNo X0.here hx rfl (hb hby at_17) rfl ((if0 _ _).trans (feq c224).1) k) ?_
      show Goes p e below s _ _ _ (s₁.setTop (mkF m 20 #[.val (.int q0), .val (.int q1), .val (.int q2), .val (.int q3), .val (.int (3 : Int32)), .val (.int r), .unset, .unset, .unset, .unset, .unset, .unset, .unset, .unset, .unset, .unset, .unset, .unset, .unset, .unset, .unset, .unset, .unset] []))
      refine Goes.st (fun t k => XS.iconst X0.here hx rfl (hb hby at_20) k) ?_
      show Goes p e below s _ _ _ (s₁.setTop (mkF m 21 #[.val (.int q0), .val (.int q1), .val (.int q2), .val (.int q3), .val (.int (3 : Int32)), .val (.int r), .unset, .unset, .unset, .unset, .unset, .unset, .unset, .unset, .unset, .unset, .unset, .unset, .unset, .unset, .unset, .unset, .unset] [(.int (1 : Int32))]))
      refine Goes.st (fun t k => XS.goto X0.here hx rfl (pc0 := 21) (pc' := 25) rfl (hb hby at_21) (by decide) (by decide) k) ?_
      show Goes p e below s _ _ _ (s₁.setTop (mkF m 25 #[.val (.int q0), .val (.int q1), .val (.int q2), .val (.int q3), .val (.int (3 : Int32)), .val (.int r), .unset, .unset, .unset, .unset, .unset, .unset, .unset, .unset, .unset, .unset, .unset, .unset, .unset, .unset, .unset, .unset, .unset] [(.int (1 : Int32))]))
      exact J166 _
set_option maxRecDepth 65536 in
set_option maxHeartbeats 40000000 in
theorem comes_1 {Post : Tables → Env → Array Value → State → Outcome → State → Prop} (hpost : ∀ tb e args s v u, (limb_1_1.after args s (.returned v) u = true ∧ limb_1_2.after args s (.returned v) u = true ∧ True) → FrameEnd s (.returned v) u (Jvm.fieldLocs frame_1_writes args s ++ Jvm.arrayLocs frame_1_arrays args s ++ Jvm.staticLocs frame_1_statics s) 24 256 → Post tb e args s (.returned v) u) :
    ArmFor flags0 classFile x code maxLocals ret World_1 tables_1 room_1 Calls_1 rest_1 Pre_1 Post := by
  intro l hfl _ _ p e ha hc hk s m args below hf hA hF happ hP
  obtain ⟨hcalls, hrest, hpre⟩ := hP
  obtain ⟨-, -, -, hnamed, -, -, -, hat⟩ := (Spec.applies_iff hf).mp happ
  obtain ⟨hg, hn⟩ := and_e (Cond.before_iff.mp (show (Jvm.Cond.and given_1 narrow_1).before args s = true from hpre))
  obtain ⟨hcnt, hg⟩ := and_e hg
  obtain ⟨ga0, hg⟩ := and_e hg
  obtain ⟨ga1, hg⟩ := and_e hg
  obtain ⟨ga2, hg⟩ := and_e hg
  have ga3 := hg
  obtain ⟨w0, w1, w2, w3, rfl⟩ : ∃ w0 w1 w2 w3 : Value, args = #[w0, w1, w2, w3] := by
    have hs : args.size = 4 := by simpa [Cond.value, given_1] using hcnt
    obtain ⟨L⟩ := args
    match L, hs with
    | [w0, w1, w2, w3], _ => exact ⟨w0, w1, w2, w3, rfl⟩
  have hw := fun d (hd : d ∈ tables_1) => atoms_spec (ws := Jvm.Cond.code x code maxLocals ret :: tables_1) hat d (List.mem_cons_of_mem _ hd)
  have hfit : Fit s := fun {y c} hc i hi => by
    obtain ⟨ha, rfl⟩ := Array.getElem?_eq_some_iff.mp hc
    have q := List.all_eq_true.mp ((Array.all_eq_true_iff_forall_mem.mp hF) _ (Array.getElem_mem ha)) i (List.mem_range.mpr hi)
    simpa [Array.getElem?_eq_getElem hi] using q
  obtain ⟨i0, q0⟩ := is_v ga0
  obtain rfl : w0 = (.int i0) := Option.some.inj q0
  obtain ⟨i1, q1⟩ := is_v ga1
  obtain rfl : w1 = (.int i1) := Option.some.inj q1
  obtain ⟨i2, q2⟩ := is_v ga2
  obtain rfl : w2 = (.int i2) := Option.some.inj q2
  obtain ⟨i3, q3⟩ := is_v ga3
  obtain rfl : w3 = (.int i3) := Option.some.inj q3
  obtain ⟨n, o, h1, h2, h3, _, L, rfl, ⟨rfl, N⟩, hq⟩ := rm0 l s _ hw tables_1 i0 i1 i2 i3  s.heap s.heap.size (Nat.le_refl _)  p e ha hc hk s m _ below hf ((Spec.applies_iff_loose hf).mp happ).1 ⟨rfl, State.Warmed39.refl s, rfl⟩ trivial
  refine ⟨n, _, h1, h2, h3, hpost _ _ _ _ _ _ ⟨Cond.after_iff.mpr rfl, Cond.after_iff.mpr (eq_i res_at (Term.int_eval (1)) rfl), trivial⟩ ⟨hq.1, hq.2.1, (hq.2.2.sift fun y hy => Or.inr (N y hy)).mono (by decide) (by decide)⟩⟩
theorem main_1_1 : Claimed_1_1 := comes_1 fun _ _ _ _ _ _ h hF => ⟨h.1, hF⟩
theorem main_1_2 : Claimed_1_2 := comes_1 fun _ _ _ _ _ _ h hF => ⟨h.2.1, hF⟩
end Jvm.Pilot.@@N@@
namespace Jvm.Pilot.@@N@@
open Jvm Jvm.ClassFile Sem Op Lib Jvm.Free Jvm.Stand Jvm.Pilot.@@N@@.Jvm.D
/-! MADE BY PROGRAM (witnessworld.py) out of the Statement's table words and the real class files: 12 classes; the members and pool entries that the words name. The judged class is class 1, her method 1. -/
namespace start1
open Jvm.ClassFile
def u (s : String) : CpInfo := .utf8 (stringToUtf16 s)
/-- a pool by its gaps: so many unusable entries, then the entry; so many at the end -/
def gap : Nat → List CpInfo → List CpInfo
  | 0, r => r
  | n + 1, r => .unusable :: gap n r
def poolList (es : List (Nat × CpInfo)) (last : Nat) : List CpInfo := es.foldr (fun e r => gap e.1 (e.2 :: r)) (gap last [])
def pool (es : List (Nat × CpInfo)) (last : Nat) : Array CpInfo := ⟨poolList es last⟩
def fileOf (pool : Array CpInfo) (this : Nat) (attrs : Array Attribute := #[]) (ms : Array MethodInfo := #[]) (fl : Nat := 33) (sup : Nat := 0) (ifs : Array Nat := #[]) (fds : Array FieldInfo := #[]) : ClassFile where
  minorVersion := 0
  majorVersion := 65
  constantPool := pool
  accessFlags := fl
  thisClass := this
  superClass := sup
  interfaces := ifs
  fields := fds
  methods := ms
  attributes := attrs
def plain (name : String) (sup : Option ClassId) : Class where
  name := name
  kind := .ordinary
  loader := none
  accessFlags := 33
  super := sup
  interfaces := #[]
  cf := none
  fields := #[]
  methods := #[]
  instanceTypes := #[]
  staticTypes := #[]
  resolved := #[]
  callSites := []
  init := .initialized
  statics := none
  mirror := none

def pool0 : Array CpInfo := pool [(5, u "<init>"), (0, u "()V"), (1, .class_ 10), (1, u "java/lang/Object")] 113

def k0c0 : Code := { maxStack := 0, maxLocals := 1, code := object_method_1_code, exceptionTable := #[], attributes := #[] }
def k0m0 : Method := { name := "<init>", desc := "()V", sig := { parameters := [], returnType := none }, accessFlags := 1, code := some k0c0 }
/-- java/lang/Object -/
def k0 : Class := { plain "java/lang/Object" none with
  accessFlags := 33
  interfaces := #[]
  cf := some (fileOf pool0 8 #[] #[{ accessFlags := 1, nameIndex := 5, descriptorIndex := 6, attributes := #[] }] 33 0 #[] #[])
  fields := #[]
  methods := #[k0m0]
  instanceTypes := #[]
  staticTypes := #[]
  resolved := Array.replicate 124 none
  statics := none }

def pool1 : Array CpInfo := pool [(2, .class_ 4), (1, u "java/lang/Object"), (0, u "<init>"), (0, u "()V"), (0, .methodref 8 9), (0, .class_ 10), (0, .nameAndType 11 12), (0, u "com/example/parley/parley/TableEntryPinLaw"), (0, u "slot"), (0, u "(IIZ)I"), (0, .methodref 8 14), (0, .nameAndType 15 16), (0, u "take"), (0, u "(IIII)[I"), (0, .double 4611686018427387904), (1, .double 4613937818241073152), (1, .double 4616189618054758400), (1, .double 4617315517961601024), (1, .double 4618441417868443648), (1, .double 4619567317775286272), (1, .double 4620693217682128896), (1, .double 4621256167635550208), (1, .double 4621819117588971520), (1, .double 4622382067542392832), (1, .double 4622945017495814144), (1, .double 4623507967449235456), (1, .double 4624070917402656768), (1, .double 4624633867356078080), (1, .double 4625196817309499392), (1, .double 4625478292286210048), (1, .double 4625759767262920704), (1, .double 4626041242239631360), (1, .double 4626322717216342016), (1, .double 4626604192193052672), (1, .double 4626885667169763328), (1, .double 4627167142146473984), (1, .double 4627448617123184640), (1, .double 4627730092099895296), (1, .double 4628011567076605952), (1, .double 4628293042053316608), (1, .double 4628574517030027264), (1, .double 4628855992006737920), (1, .double 4629137466983448576), (1, .double 4629418941960159232), (1, .double 4629700416936869888), (1, .double 4629841154425225216), (1, .double 4629981891913580544), (1, .double 4630122629401935872), (1, .double 4630263366890291200), (1, .double 4630404104378646528), (1, .double 4630544841867001856), (1, .double 4630685579355357184), (1, .double 4630826316843712512), (1, .double 4630967054332067840), (1, .double 4631107791820423168), (1, .double 4631248529308778496), (1, .double 4631389266797133824), (1, .double 4631530004285489152), (1, .double 4631670741773844480), (1, .double 4631811479262199808), (1, .double 4631952216750555136), (1, .double 4632092954238910464), (1, .double 4632233691727265792), (1, .double 4632374429215621120), (1, .double 4632515166703976448), (1, .double 4632655904192331776), (1, .double 4632796641680687104), (1, .double 4632937379169042432), (1, .double 4633078116657397760), (1, .double 4633218854145753088), (1, .double 4633359591634108416), (1, .double 4633500329122463744), (1, .double 4633641066610819072), (1, .double 4633781804099174400), (1, .double 4633922541587529728), (1, .double 4634063279075885056), (1, .class_ 142), (0, u "com/example/parley/parley/Table"), (0, .methodref 141 144), (0, .nameAndType 5 145), (0, u "([I[I[D)V"), (0, .methodref 141 147), (0, .nameAndType 148 149), (0, u "entry"), (0, u "([I[I)D"), (2, u "law"), (0, u "(IIII)Z")] 7

def k1m0 : Method := { name := "<init>", desc := "()V", sig := { parameters := [], returnType := none }, accessFlags := 1, code := none }
def k1c1 : Code := { maxStack := 5, maxLocals := 23, code := code, exceptionTable := #[], attributes := #[] }
def k1m1 : Method := { name := "law", desc := "(IIII)Z", sig := { parameters := [.int, .int, .int, .int], returnType := some .boolean }, accessFlags := 9, code := some k1c1 }
def k1c2 : Code := { maxStack := 2, maxLocals := 3, code := method_3_code, exceptionTable := #[], attributes := #[] }
def k1m2 : Method := { name := "slot", desc := "(IIZ)I", sig := { parameters := [.int, .int, .boolean], returnType := some .int }, accessFlags := 10, code := some k1c2 }
def k1c3 : Code := { maxStack := 4, maxLocals := 4, code := method_4_code, exceptionTable := #[], attributes := #[] }
def k1m3 : Method := { name := "take", desc := "(IIII)[I", sig := { parameters := [.int, .int, .int, .int], returnType := some (.array .int) }, accessFlags := 10, code := some k1c3 }
/-- com/example/parley/parley/TableEntryPinLaw -/
def k1 : Class := { plain "com/example/parley/parley/TableEntryPinLaw" (some 0) with
  accessFlags := 49
  interfaces := #[]
  cf := some (fileOf pool1 8 #[] #[{ accessFlags := 1, nameIndex := 5, descriptorIndex := 6, attributes := #[] }, { accessFlags := 9, nameIndex := 152, descriptorIndex := 153, attributes := #[] }, { accessFlags := 10, nameIndex := 11, descriptorIndex := 12, attributes := #[] }, { accessFlags := 10, nameIndex := 15, descriptorIndex := 16, attributes := #[] }] 49 2 #[] #[])
  fields := #[]
  methods := #[k1m0, k1m1, k1m2, k1m3]
  instanceTypes := #[]
  staticTypes := #[]
  resolved := Array.replicate 161 none
  statics := none }

def pool2 : Array CpInfo := pool [(1, .methodref 2 3), (0, .class_ 4), (0, .nameAndType 5 6), (0, u "java/lang/Object"), (0, u "<init>"), (0, u "()V"), (0, .class_ 8), (0, u "java/lang/Record")] 13

def k2c0 : Code := { maxStack := 1, maxLocals := 1, code := jdk_30_method_1_code, exceptionTable := #[], attributes := #[] }
def k2m0 : Method := { name := "<init>", desc := "()V", sig := { parameters := [], returnType := none }, accessFlags := 4, code := some k2c0 }
/-- java/lang/Record -/
def k2 : Class := { plain "java/lang/Record" (some 0) with
  accessFlags := 1057
  interfaces := #[]
  cf := some (fileOf pool2 7 #[] #[{ accessFlags := 4, nameIndex := 5, descriptorIndex := 6, attributes := #[] }] 1057 2 #[] #[])
  fields := #[]
  methods := #[k2m0]
  instanceTypes := #[]
  staticTypes := #[]
  resolved := Array.replicate 22 none
  statics := none }

def pool3 : Array CpInfo := pool [(1, .methodref 2 3), (0, .class_ 4), (0, .nameAndType 5 6), (0, u "java/lang/Record"), (0, u "<init>"), (0, u "()V"), (0, .fieldref 8 9), (0, .class_ 10), (0, .nameAndType 11 12), (0, u "com/example/parley/parley/Table"), (0, u "variables"), (0, u "[I"), (0, .fieldref 8 14), (0, .nameAndType 15 12), (0, u "sizes"), (0, .fieldref 8 17), (0, .nameAndType 18 19), (0, u "entries"), (0, u "[D"), (36, u "([I[I[D)V"), (17, u "entry"), (0, u "([I[I)D")] 44

def k3c0 : Code := { maxStack := 2, maxLocals := 4, code := prog_53_method_1_code, exceptionTable := #[], attributes := #[] }
def k3m0 : Method := { name := "<init>", desc := "([I[I[D)V", sig := { parameters := [(.array .int), (.array .int), (.array .double)], returnType := none }, accessFlags := 0, code := some k3c0 }
def k3c1 : Code := { maxStack := 4, maxLocals := 5, code := prog_53_method_3_code, exceptionTable := #[], attributes := #[] }
def k3m1 : Method := { name := "entry", desc := "([I[I)D", sig := { parameters := [(.array .int), (.array .int)], returnType := some .double }, accessFlags := 0, code := some k3c1 }
/-- com/example/parley/parley/Table -/
def k3 : Class := { plain "com/example/parley/parley/Table" (some 2) with
  accessFlags := 48
  interfaces := #[]
  cf := some (fileOf pool3 8 #[] #[{ accessFlags := 0, nameIndex := 5, descriptorIndex := 56, attributes := #[] }, { accessFlags := 0, nameIndex := 74, descriptorIndex := 75, attributes := #[] }] 48 2 #[] #[{ accessFlags := 18, nameIndex := 11, descriptorIndex := 12, attributes := #[] }, { accessFlags := 18, nameIndex := 15, descriptorIndex := 12, attributes := #[] }, { accessFlags := 18, nameIndex := 18, descriptorIndex := 19, attributes := #[] }])
  fields := #[{ name := "variables", type := (.array .int), accessFlags := 18, slot := 0, constantValue := 0 }, { name := "sizes", type := (.array .int), accessFlags := 18, slot := 1, constantValue := 0 }, { name := "entries", type := (.array .double), accessFlags := 18, slot := 2, constantValue := 0 }]
  methods := #[k3m0, k3m1]
  instanceTypes := #[(.array .int), (.array .int), (.array .double)]
  staticTypes := #[]
  resolved := Array.replicate 120 none
  statics := none }

def pool4 : Array CpInfo := pool [(1, u "java/lang/Cloneable"), (0, .class_ 1), (0, u "java/lang/Object"), (0, .class_ 3)] 3

/-- java/lang/Cloneable -/
def k4 : Class := { plain "java/lang/Cloneable" (some 0) with
  accessFlags := 1537
  interfaces := #[]
  cf := some (fileOf pool4 2 #[] #[] 1537 4 #[] #[])
  fields := #[]
  methods := #[]
  instanceTypes := #[]
  staticTypes := #[]
  resolved := Array.replicate 8 none
  statics := none }

def pool5 : Array CpInfo := pool [(1, u "java/io/Serializable"), (0, .class_ 1), (0, u "java/lang/Object"), (0, .class_ 3)] 3

/-- java/io/Serializable -/
def k5 : Class := { plain "java/io/Serializable" (some 0) with
  accessFlags := 1537
  interfaces := #[]
  cf := some (fileOf pool5 2 #[] #[] 1537 4 #[] #[])
  fields := #[]
  methods := #[]
  instanceTypes := #[]
  staticTypes := #[]
  resolved := Array.replicate 8 none
  statics := none }

/-- the primitive byte -/
def k6 : Class := { plain "byte" none with kind := .primitive 'B', accessFlags := 0x411 }
/-- [B -/
def k7 : Class := { plain "[B" (some 0) with kind := .array 6 .byte, interfaces := #[4, 5], accessFlags := 1041 }

/-- the primitive double -/
def k8 : Class := { plain "double" none with kind := .primitive 'D', accessFlags := 0x411 }
/-- [D -/
def k9 : Class := { plain "[D" (some 0) with kind := .array 8 .double, interfaces := #[4, 5], accessFlags := 1041 }

/-- the primitive int -/
def k10 : Class := { plain "int" none with kind := .primitive 'I', accessFlags := 0x411 }
/-- [I -/
def k11 : Class := { plain "[I" (some 0) with kind := .array 10 .int, interfaces := #[4, 5], accessFlags := 1041 }

def heap : Heap := #[]
def classes : Array Class := #[k0, k1, k2, k3, k4, k5, k6, k7, k8, k9, k10, k11]
def interned : List (Array UInt16 × Addr) := []
def slotsUsed : Nat := 0
def theMethod : MethodId := ⟨1, 1⟩
def args0 : Array Value := #[.int 5, .int 3, .int 1, .int 7]
def aboutOver (below : List Frame) : State where
  vm := { classes := classes, interned := interned.toArray }
  heap := heap
  slotsUsed := slotsUsed
  threads := #[{ frames := .invoking theMethod args0 :: below }]
def below0 : List Frame := [.native { method := ⟨0, 0⟩, args := #[] }]
def about1 : State := aboutOver below0
def p0 : Program := .bare "" "" ""
def e0 : Env := launch0.env 0 0 0
theorem w_frames : about1.frames = Frame.invoking theMethod args0 :: below0 := rfl
set_option maxRecDepth 65536 in
theorem w_args : argsFit about1.vm theMethod args0 = true := by decide +kernel
set_option maxRecDepth 65536 in
theorem w_heap : heapFits about1 = true := by decide +kernel
set_option maxRecDepth 65536 in
theorem w_runnable : about1.curStatus? = some .runnable := by decide +kernel
set_option maxRecDepth 65536 in
theorem w_alone : about1.alone = true := by decide +kernel
set_option maxRecDepth 65536 in
theorem w_named : about1.methodNamed? x = some theMethod := by decide +kernel
set_option maxRecDepth 65536 in
theorem w_hears : about1.hears theMethod below0 = true := by decide +kernel
set_option maxRecDepth 65536 in
theorem w_ripe : about1.ripe theMethod args0 below0 = true := by decide +kernel
theorem w_running : about1.status = .running := rfl
set_option maxRecDepth 65536 in
theorem w_room : about1.hasRoom e0.platform room_1 = true :=
  launch0.hasRoom_least _ room_1 (by decide +kernel) (by decide +kernel) (by decide +kernel) (by decide +kernel) (by decide +kernel) (by decide +kernel)
theorem allAtoms_all (ts : List Jvm.Cond) (a : Array Jvm.Value) (st : Jvm.State) : (allAtoms ts).before a st = ts.all (fun c => c.before a st) := by
  induction ts with
  | nil => rfl
  | cons c t ih =>
    show (Jvm.Cond.and c (allAtoms t)).before a st = _
    rw [Jvm.Cond.before_and, ih, List.all_cons]
def words1 : List Jvm.Cond := Jvm.Cond.code x code maxLocals ret :: tables_1
/-- a 'code' word, met by the world's own term for the bytes: nothing is compared byte by byte -/
theorem code_word {y : MethodName} {bytes : ByteArray} {mx : Nat} {rt : Option FieldType} {a : Array Value} {s : State} {m : MethodId} {meth : Method} {c : Code} (h1 : s.methodNamed? y = some m) (h2 : s.vm.method? m = some meth) (h3 : meth.code = some c) (h4 : c.code = bytes)
    (h5 : (c.maxLocals == mx && c.exceptionTable.isEmpty && decide (c.maxStack ≤ mostOperands) && decide (meth.sig.returnType = rt) && !meth.locks && decide (parseMethodDescriptor y.desc = some meth.sig)) = true) : (Jvm.Cond.code y bytes mx rt).before a s = true := by
  simp only [Bool.and_eq_true, beq_iff_eq, Bool.not_eq_true', decide_eq_true_eq] at h5
  obtain ⟨⟨⟨⟨⟨g1, g2⟩, g3⟩, g4⟩, g5⟩, g6⟩ := h5
  simp [Cond.before, Cond.holds, Cond.value, h1, h2, h3, h4, g1, g2, g3, g4, g5, g6]
def isCode : Jvm.Cond → Bool
  | .code _ _ _ _ => true
  | _ => false
theorem all_split {L : List Jvm.Cond} {P : Jvm.Cond → Bool} (h1 : L.all (fun c => isCode c || P c) = true) (h2 : ∀ c ∈ L.filter isCode, P c = true) : L.all P = true := by
  refine List.all_eq_true.mpr fun c hc => ?_
  have h := List.all_eq_true.mp h1 c hc
  rcases Bool.eq_false_or_eq_true (isCode c) with hi | hi
  · exact h2 c (List.mem_filter.mpr ⟨hc, hi⟩)
  · simpa [hi] using h
set_option maxRecDepth 65536 in
theorem w_c0 : (Jvm.Cond.code x code maxLocals ret).before args0 about1 = true := code_word (m := ⟨1, 1⟩) (meth := k1m1) (c := k1c1) (by decide +kernel) rfl rfl rfl (by decide +kernel)
set_option maxRecDepth 65536 in
theorem w_c1 : (Jvm.Cond.code ({ cls := "com/example/parley/parley/TableEntryPinLaw", name := "slot", desc := "(IIZ)I" } : Jvm.MethodName) method_3_code (3 : Nat) (Option.some Jvm.ClassFile.FieldType.int)).before args0 about1 = true := code_word (m := ⟨1, 2⟩) (meth := k1m2) (c := k1c2) (by decide +kernel) rfl rfl rfl (by decide +kernel)
set_option maxRecDepth 65536 in
theorem w_c2 : (Jvm.Cond.code ({ cls := "com/example/parley/parley/TableEntryPinLaw", name := "take", desc := "(IIII)[I" } : Jvm.MethodName) method_4_code (4 : Nat) (Option.some (Jvm.ClassFile.FieldType.array Jvm.ClassFile.FieldType.int))).before args0 about1 = true := code_word (m := ⟨1, 3⟩) (meth := k1m3) (c := k1c3) (by decide +kernel) rfl rfl rfl (by decide +kernel)
set_option maxRecDepth 65536 in
theorem w_c3 : (Jvm.Cond.code ({ cls := "com/example/parley/parley/Table", name := "<init>", desc := "([I[I[D)V" } : Jvm.MethodName) prog_53_method_1_code (4 : Nat) (Option.none : Option Jvm.ClassFile.FieldType)).before args0 about1 = true := code_word (m := ⟨3, 0⟩) (meth := k3m0) (c := k3c0) (by decide +kernel) rfl rfl rfl (by decide +kernel)
set_option maxRecDepth 65536 in
theorem w_c4 : (Jvm.Cond.code ({ cls := "java/lang/Record", name := "<init>", desc := "()V" } : Jvm.MethodName) jdk_30_method_1_code (1 : Nat) (Option.none : Option Jvm.ClassFile.FieldType)).before args0 about1 = true := code_word (m := ⟨2, 0⟩) (meth := k2m0) (c := k2c0) (by decide +kernel) rfl rfl rfl (by decide +kernel)
set_option maxRecDepth 65536 in
theorem w_c5 : (Jvm.Cond.code ({ cls := "java/lang/Object", name := "<init>", desc := "()V" } : Jvm.MethodName) object_method_1_code (1 : Nat) (Option.none : Option Jvm.ClassFile.FieldType)).before args0 about1 = true := code_word (m := ⟨0, 0⟩) (meth := k0m0) (c := k0c0) (by decide +kernel) rfl rfl rfl (by decide +kernel)
set_option maxRecDepth 65536 in
theorem w_c6 : (Jvm.Cond.code ({ cls := "com/example/parley/parley/Table", name := "entry", desc := "([I[I)D" } : Jvm.MethodName) prog_53_method_3_code (5 : Nat) (Option.some Jvm.ClassFile.FieldType.double)).before args0 about1 = true := code_word (m := ⟨3, 1⟩) (meth := k3m1) (c := k3c1) (by decide +kernel) rfl rfl rfl (by decide +kernel)
def codes1 : List Jvm.Cond := [Jvm.Cond.code x code maxLocals ret, Jvm.Cond.code ({ cls := "com/example/parley/parley/TableEntryPinLaw", name := "slot", desc := "(IIZ)I" } : Jvm.MethodName) method_3_code (3 : Nat) (Option.some Jvm.ClassFile.FieldType.int), Jvm.Cond.code ({ cls := "com/example/parley/parley/TableEntryPinLaw", name := "take", desc := "(IIII)[I" } : Jvm.MethodName) method_4_code (4 : Nat) (Option.some (Jvm.ClassFile.FieldType.array Jvm.ClassFile.FieldType.int)), Jvm.Cond.code ({ cls := "com/example/parley/parley/Table", name := "<init>", desc := "([I[I[D)V" } : Jvm.MethodName) prog_53_method_1_code (4 : Nat) (Option.none : Option Jvm.ClassFile.FieldType), Jvm.Cond.code ({ cls := "java/lang/Record", name := "<init>", desc := "()V" } : Jvm.MethodName) jdk_30_method_1_code (1 : Nat) (Option.none : Option Jvm.ClassFile.FieldType), Jvm.Cond.code ({ cls := "java/lang/Object", name := "<init>", desc := "()V" } : Jvm.MethodName) object_method_1_code (1 : Nat) (Option.none : Option Jvm.ClassFile.FieldType), Jvm.Cond.code ({ cls := "com/example/parley/parley/Table", name := "entry", desc := "([I[I)D" } : Jvm.MethodName) prog_53_method_3_code (5 : Nat) (Option.some Jvm.ClassFile.FieldType.double)]
set_option maxRecDepth 65536 in
theorem codes_eq : words1.filter isCode = codes1 := rfl
theorem w_codes : ∀ c ∈ words1.filter isCode, c.before args0 about1 = true := by
  rw [codes_eq]
  intro c hc
  simp only [codes1, List.mem_cons, List.not_mem_nil, or_false] at hc
  rcases hc with rfl | rfl | rfl | rfl | rfl | rfl | rfl
  · exact w_c0
  · exact w_c1
  · exact w_c2
  · exact w_c3
  · exact w_c4
  · exact w_c5
  · exact w_c6
set_option maxRecDepth 65536 in
theorem w_t1 : (words1.take 24).all (fun c => isCode c || c.before args0 about1) = true := by decide +kernel
set_option maxRecDepth 65536 in
theorem w_t2 : ((words1.drop 24).take 24).all (fun c => isCode c || c.before args0 about1) = true := by decide +kernel
set_option maxRecDepth 65536 in
theorem w_t3 : (((words1.drop 24).drop 24).take 24).all (fun c => isCode c || c.before args0 about1) = true := by decide +kernel
set_option maxRecDepth 65536 in
theorem w_t4 : ((((words1.drop 24).drop 24).drop 24).take 24).all (fun c => isCode c || c.before args0 about1) = true := by decide +kernel
set_option maxRecDepth 65536 in
theorem w_t5 : ((((words1.drop 24).drop 24).drop 24).drop 24).all (fun c => isCode c || c.before args0 about1) = true := by decide +kernel
theorem w_tables : (allAtoms (Jvm.Cond.code x code maxLocals ret :: tables_1)).before args0 about1 = true := by
  rw [allAtoms_all]
  show words1.all (fun c => c.before args0 about1) = true
  refine all_split ?_ w_codes
  rw [← List.take_append_drop 24 words1, List.all_append, w_t1, ← List.take_append_drop 24 (words1.drop 24), List.all_append, w_t2, ← List.take_append_drop 24 ((words1.drop 24).drop 24), List.all_append, w_t3, ← List.take_append_drop 24 (((words1.drop 24).drop 24).drop 24), List.all_append, w_t4, w_t5]
  rfl
set_option maxRecDepth 65536 in
theorem w_case : (Jvm.Cond.and given_1 narrow_1).before args0 about1 = true := by decide +kernel
theorem w_applies : (headSpec (Jvm.Cond.code x code maxLocals ret :: tables_1) room_1).applies x e0.platform about1 = true :=
  (Spec.applies_iff w_frames).mpr ⟨w_running, w_runnable, w_alone, w_named, w_hears, w_ripe, w_room, w_tables⟩
theorem atStart : AtStart classFile x code maxLocals ret World_1 tables_1 room_1 Calls_1 rest_1 Pre_1 launch0 p0 e0 about1 theMethod args0 below0 :=
  ⟨lists_1, trivial, launch0.admits_env _ _ _, launch0.least_env, fairChoices_fair.cas, fairChoices_fair.clock, w_frames, w_args, w_heap, w_applies, trivial, trivial, w_case⟩
end start1
theorem witness_1 : WitnessClaimed_1 := ⟨start1.p0, start1.e0, start1.about1, start1.theMethod, start1.args0, start1.below0, start1.atStart⟩
end Jvm.Pilot.@@N@@
