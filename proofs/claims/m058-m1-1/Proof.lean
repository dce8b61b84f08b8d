import JvmDerived
import JvmDerived.Pilot.@@N@@Statement
import JvmDerived.Pilot.@@N@@Code
set_option linter.unusedVariables false
set_option linter.unusedSimpArgs false
namespace Jvm.RoadKit
open Sem ClassFile Op Lib Jvm.Stand Jvm.Free Jvm.LawKit
section New
variable {p : Program} {l : Launch} {e : Env} {R : Room} {s : State} {m : MethodId} {args : Array Value} {below : List Frame} {meth : Method} {c : Code} {T : State} {locs : List Loc} {cells slots : Nat}
theorem retI (X : Stand p l e R s m args below meth c T locs cells slots) (hx : p.tables.exec = Jvm.exec) {pc : Nat} {Ls : Array Slot} {z : Int32} {rest : List Value} (hret : meth.sig.returnType = some .int) (hd : decode c.code pc = .ok (.ireturn, 1)) {fs : List Frame}
    (hl : ∀ (f : JFrame) (acts : List Action), f.method = m → f.locked = none → f.entered = [] → (doReturn e (T.setTop f) acts (some (.int z))).1 = T.setFrames fs) : Steps p.tables e below (T.setTop (mkF m pc Ls (.int z :: rest))) (T.setFrames fs) := by
  have hm' : T.vm.method? m = some meth := X.method'
  have hn : narrow .int (.int z) = .int z := rfl
  show Steps p.tables e below (T.setTop { method := m, pc := pc, locals := Ls, stack := _ :: rest, locked := none }) _
  jvm_step X.here [X.here.top, hx, hd, hm', hret, hn]
  first | (intro acts; rw [hl _ acts rfl rfl rfl]) | rw [hl _ _ rfl rfl rfl]
  exact Steps.refl _
abbrev jv (x : Int64) : Slot := .val (.long x)
/-- from the state st the run ends as Q says -/
def own_Go (p : Program) (e : Env) (below : List Frame) (s : State) (Q : Option Value → Heap → List Loc → Prop) (CS : Nat × Nat) (st : State) : Prop :=
  ∃ s₂ o, Steps p.tables e below st s₂ ∧ s₂.status = .running ∧ Ended s₂ below o ∧ ∃ v L, o = .returned v ∧ Q v s₂.heap L ∧ FrameEnd s o s₂ L CS.1 CS.2
variable {Q : Option Value → Heap → List Loc → Prop} {CS : Nat × Nat} {st st' : State}
theorem own_via (h : ∀ {t}, Steps p.tables e below st t → Steps p.tables e below st' t) (g : own_Go p e below s Q CS st) : own_Go p e below s Q CS st' := by
  obtain ⟨s₂, o, h1, h2⟩ := g
  exact ⟨s₂, o, h h1, h2⟩
theorem own_start {g g' : JFrame} (q : g = g') (h : own_Go p e below s Q CS (T.setTop g')) : ∃ s₂ o, Steps p.tables e below (T.setTop g) s₂ ∧ s₂.status = .running ∧ Ended s₂ below o ∧ ∃ v L, o = .returned v ∧ Q v s₂.heap L ∧ FrameEnd s o s₂ L CS.1 CS.2 := q ▸ h
theorem own_retN (X : Stand p l e R s m args below meth c T locs cells slots) (hx : p.tables.exec = Jvm.exec) (hlk : meth.locks = false) {pc : Nat} {Ls : Array Slot} {z : Int32} {t : FieldType} {rest : List Value} (hret : meth.sig.returnType = some t) (ht : t = .boolean ∨ t = .byte ∨ t = .char ∨ t = .short)
    (hd : decode c.code pc = .ok (.ireturn, 1)) (hq : Q (some (.int (nar t z))) T.heap locs) (hc : cells ≤ CS.1) (hs : slots ≤ CS.2) : own_Go p e below s Q CS (T.setTop (mkF m pc Ls (.int z :: rest))) := by
  obtain ⟨fs, hr, hrun, hended, hW, hsame⟩ := X.leave (v := some (.int (nar t z))) (fun h => by rw [hret] at h; cases h) hlk
  exact ⟨_, _, retN X hx hret ht hd hr, hrun, hended, _, _, rfl, hq, ⟨_, rfl⟩, hW, hsame.mono hc hs⟩
theorem own_retI (X : Stand p l e R s m args below meth c T locs cells slots) (hx : p.tables.exec = Jvm.exec) (hlk : meth.locks = false) {pc : Nat} {Ls : Array Slot} {z : Int32} {rest : List Value} (hret : meth.sig.returnType = some .int)
    (hd : decode c.code pc = .ok (.ireturn, 1)) (hq : Q (some (.int z)) T.heap locs) (hc : cells ≤ CS.1) (hs : slots ≤ CS.2) : own_Go p e below s Q CS (T.setTop (mkF m pc Ls (.int z :: rest))) := by
  obtain ⟨fs, hr, hrun, hended, hW, hsame⟩ := X.leave (v := some (.int z)) (fun h => by rw [hret] at h; cases h) hlk
  exact ⟨_, _, retI X hx hret hd hr, hrun, hended, _, _, rfl, hq, ⟨_, rfl⟩, hW, hsame.mono hc hs⟩
theorem own_retL (X : Stand p l e R s m args below meth c T locs cells slots) (hx : p.tables.exec = Jvm.exec) (hlk : meth.locks = false) {pc : Nat} {Ls : Array Slot} {z : Int64} (hret : meth.sig.returnType = some .long)
    (hd : decode c.code pc = .ok (.lreturn, 1)) (hq : Q (some (.long z)) T.heap locs) (hc : cells ≤ CS.1) (hs : slots ≤ CS.2) : own_Go p e below s Q CS (T.setTop (mkF m pc Ls [.long z])) := by
  obtain ⟨fs, hr, hrun, hended, hW, hsame⟩ := X.leave (v := some (.long z)) (fun h => by rw [hret] at h; cases h) hlk
  exact ⟨_, _, X.lreturnOut hx hret hd hr, hrun, hended, _, _, rfl, hq, ⟨_, rfl⟩, hW, hsame.mono hc hs⟩
theorem own_retA (X : Stand p l e R s m args below meth c T locs cells slots) (hx : p.tables.exec = Jvm.exec) (hlk : meth.locks = false) {pc : Nat} {Ls : Array Slot} {w : Value} (hw : w.isRef = true) {t : FieldType} (hret : meth.sig.returnType = some t) (ht : t.isReference = true)
    (hd : decode c.code pc = .ok (.areturn, 1)) (hq : Q (some w) T.heap locs) (hc : cells ≤ CS.1) (hs : slots ≤ CS.2) : own_Go p e below s Q CS (T.setTop (mkF m pc Ls [w])) := by
  obtain ⟨fs, hr, hrun, hended, hW, hsame⟩ := X.leave (v := some w) (fun h => by rw [hret] at h; cases h) hlk
  exact ⟨_, _, X.areturnOut hx hw hret ht hd hr, hrun, hended, _, _, rfl, hq, ⟨_, rfl⟩, hW, hsame.mono hc hs⟩
theorem own_ret0 (X : Stand p l e R s m args below meth c T locs cells slots) (hx : p.tables.exec = Jvm.exec) (hlk : meth.locks = false) {pc : Nat} {Ls : Array Slot} (hret : meth.sig.returnType = none)
    (hd : decode c.code pc = .ok (.return_, 1)) (hq : Q none T.heap locs) (hc : cells ≤ CS.1) (hs : slots ≤ CS.2) : own_Go p e below s Q CS (T.setTop (mkF m pc Ls [])) := by
  obtain ⟨fs, hr, hrun, hended, hW, hsame⟩ := X.leave (v := none) (fun _ => rfl) hlk
  exact ⟨_, _, X.returnOut hx hret hd hr, hrun, hended, _, _, rfl, hq, ⟨_, rfl⟩, hW, hsame.mono hc hs⟩
theorem own_selPriv {s : State} {args args' : Array Value} {y y' : MethodName} {C : String} (w : (Cond.selects C y' y').before args' s = true) (hc : y'.cls = y.cls) (hinst : (Cond.instanceMethod y).before args s = true) (hpriv : s.PrivateAt y) (hy : y.cls ≠ "java/lang/invoke/MethodHandle" ∧ y.cls ≠ "java/lang/invoke/VarHandle") : (Cond.selects y.cls y y).before args s = true := by
  obtain ⟨c2, r2, m2, q1, q2, q3, q4, kP, hkP, hkPi⟩ := Cond.selects_spec w
  exact selects_self_of_private (c := m2.cls) (k := kP) (by rw [← hc]; exact findClass_of_methodNamed q3) hkP hkPi hpriv hinst hy
theorem own_fldI {Z : State} {h : Heap} {a : Addr} {C n d : String} {v w : Int32} (q : v = w) (F : Fld Z h a C n d (.int v)) : Fld Z h a C n d (.int w) := q ▸ F
theorem own_fldJ {Z : State} {h : Heap} {a : Addr} {C n d : String} {v w : Int64} (q : v = w) (F : Fld Z h a C n d (.long v)) : Fld Z h a C n d (.long w) := q ▸ F
theorem own_arv {Z : State} {h : Heap} {a : Addr} {k : ClassId} {ty : FieldType} {n : Int32} {vs vs' : List Value} {d : Value} (q : vs = vs') (F : Arv Z h a k ty n vs d) : Arv Z h a k ty n vs' d := q ▸ F
theorem own_fits {t : FieldType} {v w : Int32} (q : v = w) (F : fits t (.int v) = true) : fits t (.int w) = true := q ▸ F
end New
end Jvm.RoadKit
namespace Jvm.Pilot.@@N@@
open Jvm Jvm.ClassFile Sem Op Lib Jvm.Free Jvm.Stand Jvm.LawKit Jvm.RoadKit Bundle Jvm.Pilot.@@N@@.Jvm.D
theorem own_l32 {x y : Int32} : x < y ↔ x.toInt < y.toInt := Int32.lt_iff_toInt_lt
theorem own_e32 {x y : Int32} : x = y ↔ x.toInt = y.toInt := Int32.toInt_inj.symm
theorem own_l64 {x y : Int64} : x < y ↔ x.toInt < y.toInt := Int64.lt_iff_toInt_lt
theorem own_e64 {x y : Int64} : x = y ↔ x.toInt = y.toInt := Int64.toInt_inj.symm
theorem own_all8 {P : Int8 → Prop} (h : ∀ n : Fin 256, P (Int8.ofBitVec (BitVec.ofFin n))) (i : Int8) : P i := h i.toBitVec.toFin
def own_tab (j : Int32) : Int32 := if j = 0 then 0 else if j = 1 then 1 else if j = 2 then 1 else if j = 3 then 1 else if j = 4 then 1 else if j = 5 then 2 else if j = 6 then 1 else if j = 7 then 1 else if j = 8 then 1 else if j = 9 then 2 else if j = 10 then 2 else if j = 11 then 2 else if j = 12 then 1 else if j = 13 then 2 else if j = 14 then 1 else 1
theorem own_tabget (j : Int32) (h : ¬ j < (0 : Int32) ∧ j < (16 : Int32)) : ([(.int 0), (.int 1), (.int 1), (.int 1), (.int 1), (.int 2), (.int 1), (.int 1), (.int 1), (.int 2), (.int 2), (.int 2), (.int 1), (.int 2), (.int 1), (.int 1)] : List Value).getD j.toNatClampNeg (.int 0) = .int (own_tab j) := by
  have e : j = 0 ∨ j = 1 ∨ j = 2 ∨ j = 3 ∨ j = 4 ∨ j = 5 ∨ j = 6 ∨ j = 7 ∨ j = 8 ∨ j = 9 ∨ j = 10 ∨ j = 11 ∨ j = 12 ∨ j = 13 ∨ j = 14 ∨ j = 15 := by
    have e0 : (0 : Int32).toInt = 0 := by decide
    have e1 : (1 : Int32).toInt = 1 := by decide
    have e2 : (2 : Int32).toInt = 2 := by decide
    have e3 : (3 : Int32).toInt = 3 := by decide
    have e4 : (4 : Int32).toInt = 4 := by decide
    have e5 : (5 : Int32).toInt = 5 := by decide
    have e6 : (6 : Int32).toInt = 6 := by decide
    have e7 : (7 : Int32).toInt = 7 := by decide
    have e8 : (8 : Int32).toInt = 8 := by decide
    have e9 : (9 : Int32).toInt = 9 := by decide
    have e10 : (10 : Int32).toInt = 10 := by decide
    have e11 : (11 : Int32).toInt = 11 := by decide
    have e12 : (12 : Int32).toInt = 12 := by decide
    have e13 : (13 : Int32).toInt = 13 := by decide
    have e14 : (14 : Int32).toInt = 14 := by decide
    have e15 : (15 : Int32).toInt = 15 := by decide
    have e16 : (16 : Int32).toInt = 16 := by decide
    obtain ⟨h1, h2⟩ := h
    rw [own_l32] at h1 h2; simp only [own_e32]; omega
  rcases e with rfl | rfl | rfl | rfl | rfl | rfl | rfl | rfl | rfl | rfl | rfl | rfl | rfl | rfl | rfl | rfl <;> rfl
theorem d1_0 : decode jdk_29_method_65_code 0 = .ok (.iload_n 0, 1) := by decide +kernel
theorem d1_1 : decode jdk_29_method_65_code 1 = .ok (.iload_n 1, 1) := by decide +kernel
theorem d1_2 : decode jdk_29_method_65_code 2 = .ok (.if_icmp .lt 7, 3) := by decide +kernel
theorem d1_5 : decode jdk_29_method_65_code 5 = .ok (.iload_n 0, 1) := by decide +kernel
theorem d1_6 : decode jdk_29_method_65_code 6 = .ok (.goto 4, 3) := by decide +kernel
theorem d1_9 : decode jdk_29_method_65_code 9 = .ok (.iload_n 1, 1) := by decide +kernel
theorem d1_10 : decode jdk_29_method_65_code 10 = .ok (.ireturn, 1) := by decide +kernel
theorem ef_1 (m : MethodId) (x0 : Int32) (x1 : Int32) : entryFrame m #[(.int x0), (.int x1)] 2 = mkF m 0 #[iv x0, iv x1] [] := by first | (simp [entryFrame, mkF, argsToLocals, Value.category]; done) | rfl
def own_f1 (p0 : Int32) (p1 : Int32) : Int32 := (if p0 < p1 then p1 else p0)
def Q1 (Z : State) (p0 : Int32) (p1 : Int32) (h0 : Heap) (n0 : Nat) (v : Option Value) (h : Heap) (L : List Loc) : Prop := v = some (.int (own_f1 p0 p1)) ∧ Fr n0 L ∧ h = h0
set_option maxRecDepth 65536 in
set_option maxHeartbeats 40000000 in
theorem rm1 (l : Launch) (Z : State) (aw : Array Value) (hw : ∀ d ∈ tables_1, d.before aw Z = true) (ws : List Jvm.Cond) (p0 : Int32) (p1 : Int32) (h0 : Heap) (n0 : Nat) (Z0 : n0 ≤ h0.size)  :
    MetFree l (⟨"java/lang/Math", "max", "(II)I"⟩ : MethodName) (head1 (Jvm.Cond.code (⟨"java/lang/Math", "max", "(II)I"⟩ : MethodName) jdk_29_method_65_code 2 (some .int) :: ws) ({ frames := 0, cells := 0, slots := 0, locals := 0 } : Room)) (fun a U => a = #[(.int p0), (.int p1)] ∧ Z.Warmed39 U.vm ∧ U.heap = h0) (fun _ _ _ _ _ => True) (fun _ U o U' => ∃ v L, o = .returned v ∧ Q1 Z p0 p1 h0 n0 v U'.heap L ∧ FrameEnd U o U' L ({ frames := 0, cells := 0, slots := 0, locals := 0 } : Room).cells ({ frames := 0, cells := 0, slots := 0, locals := 0 } : Room).slots) := by
  refine MetFree.of_bodySF (Jvm.Free.JP.mathPlain rfl (by decide +kernel)) hisR ?_
  intro p e s m args below meth c s₁ Bd hml0 hP hK
  obtain ⟨rfl, hZ, hh⟩ := hP
  have hx := Bd.exec
  have hby := Bd.bytes
  have hml : c.maxLocals = 2 := hml0
  have hown : s.vm.findClass "java/lang/Math" = some m.cls := findClass_of_methodNamed Bd.named
  have hnm := (name_of_methodNamed Bd.named Bd.method).1
  have hlk : meth.locks = false := by first | exact BodyLoose.notSynchronized (by assumption) | exact Body.notSynchronized (by assumption)
  have X0 : Stand p l e ({ frames := 0, cells := 0, slots := 0, locals := 0 } : Room) s m #[(.int p0), (.int p1)] below meth c s₁ [] 0 0 := Stand.of_body Bd
  have e0 : s₁.heap = h0 := by rw [← hh, Bd.state]; rfl
  have N0 := Fr.nil n0
  have K0 : Keep h0 h0 [] := Keep.refl _ _
  refine own_start (CS := (0, 0)) (Q := (Q1 Z p0 p1 h0 n0)) (ef_1 m p0 p1) ?_
  show own_Go p e below s _ _ (s₁.setTop (mkF m 0 #[iv p0, iv p1] []))
  refine own_via (fun k => XS.iloadN X0.here hx rfl (hb hby d1_0) rfl  (XS.iloadN X0.here hx rfl (hb hby d1_1) rfl  k)) ?_
  show own_Go p e below s _ _ (s₁.setTop (mkF m 2 #[iv p0, iv p1] [(.int p1), (.int p0)]))
  by_cases hc1 : p0 < p1
  · refine own_via (fun k => XS.icmpYes X0.here hx rfl (pc0 := 2) (pc' := 9) rfl (hb hby d1_2) rfl (tlt hc1).1 (by decide) (by decide) k) ?_
    show own_Go p e below s _ _ (s₁.setTop (mkF m 9 #[iv p0, iv p1] []))
    refine own_via (fun k => XS.iloadN X0.here hx rfl (hb hby d1_9) rfl  k) ?_
    show own_Go p e below s _ _ (s₁.setTop (mkF m 10 #[iv p0, iv p1] [(.int p1)]))
    exact own_retI X0 hx hlk Bd.returns (hb hby d1_10) (Q := (Q1 Z p0 p1 h0 n0)) ⟨(congrArg (fun z => some (Value.int z)) (show p1 = (own_f1 p0 p1) from (by unfold own_f1; exact ((if_pos hc1).trans rfl).symm))), N0, e0⟩ (by decide) (by decide)
  · refine own_via (fun k => XS.icmpNo X0.here hx rfl (hb hby d1_2) rfl (flt hc1).1 k) ?_
    show own_Go p e below s _ _ (s₁.setTop (mkF m 5 #[iv p0, iv p1] []))
    refine own_via (fun k => XS.iloadN X0.here hx rfl (hb hby d1_5) rfl  (XS.goto X0.here hx rfl (pc0 := 6) (pc' := 10) rfl (hb hby d1_6) (by decide) (by decide) k)) ?_
    show own_Go p e below s _ _ (s₁.setTop (mkF m 10 #[iv p0, iv p1] [(.int p0)]))
    exact own_retI X0 hx hlk Bd.returns (hb hby d1_10) (Q := (Q1 Z p0 p1 h0 n0)) ⟨(congrArg (fun z => some (Value.int z)) (show p0 = (own_f1 p0 p1) from (by unfold own_f1; exact ((if_neg hc1).trans rfl).symm))), N0, e0⟩ (by decide) (by decide)
theorem d2_0 : decode method_3_code 0 = .ok (.iload_n 2, 1) := by decide +kernel
theorem d2_1 : decode method_3_code 1 = .ok (.ifCond .eq 5, 3) := by decide +kernel
theorem d2_4 : decode method_3_code 4 = .ok (.lload_n 0, 1) := by decide +kernel
theorem d2_5 : decode method_3_code 5 = .ok (.lreturn, 1) := by decide +kernel
theorem d2_6 : decode method_3_code 6 = .ok (.iload_n 3, 1) := by decide +kernel
theorem d2_7 : decode method_3_code 7 = .ok (.bipush 8, 2) := by decide +kernel
theorem d2_9 : decode method_3_code 9 = .ok (.iload 4, 2) := by decide +kernel
theorem d2_11 : decode method_3_code 11 = .ok (.imul, 1) := by decide +kernel
theorem d2_12 : decode method_3_code 12 = .ok (.iushr, 1) := by decide +kernel
theorem d2_13 : decode method_3_code 13 = .ok (.sipush 255, 3) := by decide +kernel
theorem d2_16 : decode method_3_code 16 = .ok (.iand, 1) := by decide +kernel
theorem d2_17 : decode method_3_code 17 = .ok (.istore 5, 2) := by decide +kernel
theorem d2_19 : decode method_3_code 19 = .ok (.iload 5, 2) := by decide +kernel
theorem d2_21 : decode method_3_code 21 = .ok (.iconst 1, 1) := by decide +kernel
theorem d2_22 : decode method_3_code 22 = .ok (.iand, 1) := by decide +kernel
theorem d2_23 : decode method_3_code 23 = .ok (.ifCond .ne 9, 3) := by decide +kernel
theorem d2_26 : decode method_3_code 26 = .ok (.lload_n 0, 1) := by decide +kernel
theorem d2_27 : decode method_3_code 27 = .ok (.lconst 1, 1) := by decide +kernel
theorem d2_28 : decode method_3_code 28 = .ok (.ladd, 1) := by decide +kernel
theorem d2_29 : decode method_3_code 29 = .ok (.goto 12, 3) := by decide +kernel
theorem d2_32 : decode method_3_code 32 = .ok (.lload_n 0, 1) := by decide +kernel
theorem d2_33 : decode method_3_code 33 = .ok (.lconst 1, 1) := by decide +kernel
theorem d2_34 : decode method_3_code 34 = .ok (.ladd, 1) := by decide +kernel
theorem d2_35 : decode method_3_code 35 = .ok (.iload 5, 2) := by decide +kernel
theorem d2_37 : decode method_3_code 37 = .ok (.iconst 1, 1) := by decide +kernel
theorem d2_38 : decode method_3_code 38 = .ok (.iushr, 1) := by decide +kernel
theorem d2_39 : decode method_3_code 39 = .ok (.i2l, 1) := by decide +kernel
theorem d2_40 : decode method_3_code 40 = .ok (.ladd, 1) := by decide +kernel
theorem d2_41 : decode method_3_code 41 = .ok (.lreturn, 1) := by decide +kernel
theorem pn_2 : plainName "com/example/waveslot/waveslot/core/CheckerStepsRepeatedQuotientsPinLaw" = true := by first | (simp [plainName, overriddenIn]; done) | decide +kernel
theorem ef_2 (m : MethodId) (x0 : Int64) (x1 : Int32) (x2 : Int32) (x3 : Int32) : entryFrame m #[(.long x0), (.int x1), (.int x2), (.int x3)] 6 = mkF m 0 #[jv x0, .second, iv x1, iv x2, iv x3, .unset] [] := by first | (simp [entryFrame, mkF, argsToLocals, Value.category]; done) | rfl
def own_f2 (q0 : Int64) (p1 : Int32) (p2 : Int32) (p3 : Int32) : Int64 := (if p1 = (0 : Int32) then (if ((((p2.toUInt32 >>> (((8 : Int32) * p3) &&& 31).toUInt32).toInt32) &&& (255 : Int32)) &&& (1 : Int32)) = (0 : Int32) then (q0 + (1 : Int64)) else ((q0 + (1 : Int64)) + ((((((p2.toUInt32 >>> (((8 : Int32) * p3) &&& 31).toUInt32).toInt32) &&& (255 : Int32)).toUInt32 >>> ((1 : Int32) &&& 31).toUInt32).toInt32).toInt64))) else q0)
def Q2 (Z : State) (q0 : Int64) (p1 : Int32) (p2 : Int32) (p3 : Int32) (h0 : Heap) (n0 : Nat) (v : Option Value) (h : Heap) (L : List Loc) : Prop := v = some (.long (own_f2 q0 p1 p2 p3)) ∧ Fr n0 L ∧ h = h0
set_option maxRecDepth 65536 in
set_option maxHeartbeats 40000000 in
theorem rm2 (l : Launch) (Z : State) (aw : Array Value) (hw : ∀ d ∈ tables_1, d.before aw Z = true) (ws : List Jvm.Cond) (q0 : Int64) (p1 : Int32) (p2 : Int32) (p3 : Int32) (h0 : Heap) (n0 : Nat) (Z0 : n0 ≤ h0.size)  :
    MetFree l (⟨"com/example/waveslot/waveslot/core/CheckerStepsRepeatedQuotientsPinLaw", "next", "(JZII)J"⟩ : MethodName) (head1 (Jvm.Cond.code (⟨"com/example/waveslot/waveslot/core/CheckerStepsRepeatedQuotientsPinLaw", "next", "(JZII)J"⟩ : MethodName) method_3_code 6 (some .long) :: ws) ({ frames := 0, cells := 0, slots := 0, locals := 0 } : Room)) (fun a U => a = #[(.long q0), (.int p1), (.int p2), (.int p3)] ∧ Z.Warmed39 U.vm ∧ U.heap = h0) (fun _ _ _ _ _ => True) (fun _ U o U' => ∃ v L, o = .returned v ∧ Q2 Z q0 p1 p2 p3 h0 n0 v U'.heap L ∧ FrameEnd U o U' L ({ frames := 0, cells := 0, slots := 0, locals := 0 } : Room).cells ({ frames := 0, cells := 0, slots := 0, locals := 0 } : Room).slots) := by
  refine MetFree.of_bodySF (plainFor_of_name pn_2) hisR ?_
  intro p e s m args below meth c s₁ Bd hml0 hP hK
  obtain ⟨rfl, hZ, hh⟩ := hP
  have hx := Bd.exec
  have hby := Bd.bytes
  have hml : c.maxLocals = 6 := hml0
  have hown : s.vm.findClass "com/example/waveslot/waveslot/core/CheckerStepsRepeatedQuotientsPinLaw" = some m.cls := findClass_of_methodNamed Bd.named
  have hnm := (name_of_methodNamed Bd.named Bd.method).1
  have hlk : meth.locks = false := by first | exact BodyLoose.notSynchronized (by assumption) | exact Body.notSynchronized (by assumption)
  have X0 : Stand p l e ({ frames := 0, cells := 0, slots := 0, locals := 0 } : Room) s m #[(.long q0), (.int p1), (.int p2), (.int p3)] below meth c s₁ [] 0 0 := Stand.of_body Bd
  have e0 : s₁.heap = h0 := by rw [← hh, Bd.state]; rfl
  have N0 := Fr.nil n0
  have K0 : Keep h0 h0 [] := Keep.refl _ _
  refine own_start (CS := (0, 0)) (Q := (Q2 Z q0 p1 p2 p3 h0 n0)) (ef_2 m q0 p1 p2 p3) ?_
  show own_Go p e below s _ _ (s₁.setTop (mkF m 0 #[jv q0, .second, iv p1, iv p2, iv p3, .unset] []))
  refine own_via (fun k => XS.iloadN X0.here hx rfl (hb hby d2_0) rfl  k) ?_
  show own_Go p e below s _ _ (s₁.setTop (mkF m 1 #[jv q0, .second, iv p1, iv p2, iv p3, .unset] [(.int p1)]))
  by_cases hc1 : p1 = (0 : Int32)
  · refine own_via (fun k => XS.ifYes X0.here hx rfl (pc0 := 1) (pc' := 6) rfl (hb hby d2_1) rfl ((if0 _ _).trans (teq hc1).1) (by decide) (by decide) k) ?_
    show own_Go p e below s _ _ (s₁.setTop (mkF m 6 #[jv q0, .second, iv p1, iv p2, iv p3, .unset] []))
    refine own_via (fun k => XS.iloadN X0.here hx rfl (hb hby d2_6) rfl  (XS.bipush X0.here hx rfl (hb hby d2_7) (XS.iload X0.here hx rfl (hb hby d2_9) rfl  (XS.imul X0.here hx rfl (hb hby d2_11) rfl k)))) ?_
    show own_Go p e below s _ _ (s₁.setTop (mkF m 12 #[jv q0, .second, iv p1, iv p2, iv p3, .unset] [(.int ((8 : Int32) * p3)), (.int p2)]))
    refine own_via (fun k => XS.iushr X0.here hx rfl (hb hby d2_12) rfl (XS.sipush X0.here hx rfl (hb hby d2_13) (XS.iand X0.here hx rfl (hb hby d2_16) rfl (XS.istore X0.here hx rfl (hb hby d2_17) rfl (l' := #[jv q0, .second, iv p1, iv p2, iv p3, iv (((p2.toUInt32 >>> (((8 : Int32) * p3) &&& 31).toUInt32).toInt32) &&& (255 : Int32))]) rfl k)))) ?_
    show own_Go p e below s _ _ (s₁.setTop (mkF m 19 #[jv q0, .second, iv p1, iv p2, iv p3, iv (((p2.toUInt32 >>> (((8 : Int32) * p3) &&& 31).toUInt32).toInt32) &&& (255 : Int32))] []))
    refine own_via (fun k => XS.iload X0.here hx rfl (hb hby d2_19) rfl  (XS.iconst X0.here hx rfl (hb hby d2_21) (XS.iand X0.here hx rfl (hb hby d2_22) rfl k))) ?_
    show own_Go p e below s _ _ (s₁.setTop (mkF m 23 #[jv q0, .second, iv p1, iv p2, iv p3, iv (((p2.toUInt32 >>> (((8 : Int32) * p3) &&& 31).toUInt32).toInt32) &&& (255 : Int32))] [(.int ((((p2.toUInt32 >>> (((8 : Int32) * p3) &&& 31).toUInt32).toInt32) &&& (255 : Int32)) &&& (1 : Int32)))]))
    by_cases hc2 : ((((p2.toUInt32 >>> (((8 : Int32) * p3) &&& 31).toUInt32).toInt32) &&& (255 : Int32)) &&& (1 : Int32)) = (0 : Int32)
    · refine own_via (fun k => XS.ifNo X0.here hx rfl (hb hby d2_23) rfl ((if0 _ _).trans (teq hc2).2) k) ?_
      show own_Go p e below s _ _ (s₁.setTop (mkF m 26 #[jv q0, .second, iv p1, iv p2, iv p3, iv (((p2.toUInt32 >>> (((8 : Int32) * p3) &&& 31).toUInt32).toInt32) &&& (255 : Int32))] []))
      refine own_via (fun k => XS.lloadN X0.here hx rfl (hb hby d2_26) rfl  (XS.lconst X0.here hx rfl (hb hby d2_27) (XS.ladd X0.here hx rfl (hb hby d2_28) rfl (XS.goto X0.here hx rfl (pc0 := 29) (pc' := 41) rfl (hb hby d2_29) (by decide) (by decide) k)))) ?_
      show own_Go p e below s _ _ (s₁.setTop (mkF m 41 #[jv q0, .second, iv p1, iv p2, iv p3, iv (((p2.toUInt32 >>> (((8 : Int32) * p3) &&& 31).toUInt32).toInt32) &&& (255 : Int32))] [(.long (q0 + (1 : Int64)))]))
      exact own_retL X0 hx hlk Bd.returns (hb hby d2_41) (Q := (Q2 Z q0 p1 p2 p3 h0 n0)) ⟨(congrArg (fun z => some (Value.long z)) (show (q0 + (1 : Int64)) = (own_f2 q0 p1 p2 p3) from (by unfold own_f2; exact ((if_pos hc1).trans ((if_pos hc2).trans rfl)).symm))), N0, e0⟩ (by decide) (by decide)
    · refine own_via (fun k => XS.ifYes X0.here hx rfl (pc0 := 23) (pc' := 32) rfl (hb hby d2_23) rfl ((if0 _ _).trans (feq hc2).2) (by decide) (by decide) k) ?_
      show own_Go p e below s _ _ (s₁.setTop (mkF m 32 #[jv q0, .second, iv p1, iv p2, iv p3, iv (((p2.toUInt32 >>> (((8 : Int32) * p3) &&& 31).toUInt32).toInt32) &&& (255 : Int32))] []))
      refine own_via (fun k => XS.lloadN X0.here hx rfl (hb hby d2_32) rfl  (XS.lconst X0.here hx rfl (hb hby d2_33) (XS.ladd X0.here hx rfl (hb hby d2_34) rfl (XS.iload X0.here hx rfl (hb hby d2_35) rfl  k)))) ?_
      show own_Go p e below s _ _ (s₁.setTop (mkF m 37 #[jv q0, .second, iv p1, iv p2, iv p3, iv (((p2.toUInt32 >>> (((8 : Int32) * p3) &&& 31).toUInt32).toInt32) &&& (255 : Int32))] [(.int (((p2.toUInt32 >>> (((8 : Int32) * p3) &&& 31).toUInt32).toInt32) &&& (255 : Int32))), (.long (q0 + (1 : Int64)))]))
      refine own_via (fun k => XS.iconst X0.here hx rfl (hb hby d2_37) (XS.iushr X0.here hx rfl (hb hby d2_38) rfl (XS.i2l X0.here hx rfl (hb hby d2_39) rfl (XS.ladd X0.here hx rfl (hb hby d2_40) rfl k)))) ?_
      show own_Go p e below s _ _ (s₁.setTop (mkF m 41 #[jv q0, .second, iv p1, iv p2, iv p3, iv (((p2.toUInt32 >>> (((8 : Int32) * p3) &&& 31).toUInt32).toInt32) &&& (255 : Int32))] [(.long ((q0 + (1 : Int64)) + ((((((p2.toUInt32 >>> (((8 : Int32) * p3) &&& 31).toUInt32).toInt32) &&& (255 : Int32)).toUInt32 >>> ((1 : Int32) &&& 31).toUInt32).toInt32).toInt64)))]))
      exact own_retL X0 hx hlk Bd.returns (hb hby d2_41) (Q := (Q2 Z q0 p1 p2 p3 h0 n0)) ⟨(congrArg (fun z => some (Value.long z)) (show ((q0 + (1 : Int64)) + ((((((p2.toUInt32 >>> (((8 : Int32) * p3) &&& 31).toUInt32).toInt32) &&& (255 : Int32)).toUInt32 >>> ((1 : Int32) &&& 31).toUInt32).toInt32).toInt64)) = (own_f2 q0 p1 p2 p3) from (by unfold own_f2; exact ((if_pos hc1).trans ((if_neg hc2).trans rfl)).symm))), N0, e0⟩ (by decide) (by decide)
  · refine own_via (fun k => XS.ifNo X0.here hx rfl (hb hby d2_1) rfl ((if0 _ _).trans (feq hc1).1) k) ?_
    show own_Go p e below s _ _ (s₁.setTop (mkF m 4 #[jv q0, .second, iv p1, iv p2, iv p3, .unset] []))
    refine own_via (fun k => XS.lloadN X0.here hx rfl (hb hby d2_4) rfl  k) ?_
    show own_Go p e below s _ _ (s₁.setTop (mkF m 5 #[jv q0, .second, iv p1, iv p2, iv p3, .unset] [(.long q0)]))
    exact own_retL X0 hx hlk Bd.returns (hb hby d2_5) (Q := (Q2 Z q0 p1 p2 p3 h0 n0)) ⟨(congrArg (fun z => some (Value.long z)) (show q0 = (own_f2 q0 p1 p2 p3) from (by unfold own_f2; exact ((if_neg hc1).trans rfl).symm))), N0, e0⟩ (by decide) (by decide)
theorem d3_0 : decode method_4_code 0 = .ok (.lload_n 0, 1) := by decide +kernel
theorem d3_1 : decode method_4_code 1 = .ok (.bipush 12, 2) := by decide +kernel
theorem d3_3 : decode method_4_code 3 = .ok (.iload_n 2, 1) := by decide +kernel
theorem d3_4 : decode method_4_code 4 = .ok (.imul, 1) := by decide +kernel
theorem d3_5 : decode method_4_code 5 = .ok (.lushr, 1) := by decide +kernel
theorem d3_6 : decode method_4_code 6 = .ok (.ldc2_w 39, 3) := by decide +kernel
theorem d3_9 : decode method_4_code 9 = .ok (.land, 1) := by decide +kernel
theorem d3_10 : decode method_4_code 10 = .ok (.l2i, 1) := by decide +kernel
theorem d3_11 : decode method_4_code 11 = .ok (.istore 4, 2) := by decide +kernel
theorem d3_13 : decode method_4_code 13 = .ok (.iload 4, 2) := by decide +kernel
theorem d3_15 : decode method_4_code 15 = .ok (.iconst 1, 1) := by decide +kernel
theorem d3_16 : decode method_4_code 16 = .ok (.iushr, 1) := by decide +kernel
theorem d3_17 : decode method_4_code 17 = .ok (.iload_n 3, 1) := by decide +kernel
theorem d3_18 : decode method_4_code 18 = .ok (.irem, 1) := by decide +kernel
theorem d3_19 : decode method_4_code 19 = .ok (.istore 5, 2) := by decide +kernel
theorem d3_21 : decode method_4_code 21 = .ok (.iload 4, 2) := by decide +kernel
theorem d3_23 : decode method_4_code 23 = .ok (.iconst 1, 1) := by decide +kernel
theorem d3_24 : decode method_4_code 24 = .ok (.iand, 1) := by decide +kernel
theorem d3_25 : decode method_4_code 25 = .ok (.ifCond .ne 9, 3) := by decide +kernel
theorem d3_28 : decode method_4_code 28 = .ok (.iload 5, 2) := by decide +kernel
theorem d3_30 : decode method_4_code 30 = .ok (.i2l, 1) := by decide +kernel
theorem d3_31 : decode method_4_code 31 = .ok (.goto 10, 3) := by decide +kernel
theorem d3_34 : decode method_4_code 34 = .ok (.iload_n 3, 1) := by decide +kernel
theorem d3_35 : decode method_4_code 35 = .ok (.iconst 1, 1) := by decide +kernel
theorem d3_36 : decode method_4_code 36 = .ok (.isub, 1) := by decide +kernel
theorem d3_37 : decode method_4_code 37 = .ok (.iload 5, 2) := by decide +kernel
theorem d3_39 : decode method_4_code 39 = .ok (.isub, 1) := by decide +kernel
theorem d3_40 : decode method_4_code 40 = .ok (.i2l, 1) := by decide +kernel
theorem d3_41 : decode method_4_code 41 = .ok (.lreturn, 1) := by decide +kernel
theorem pn_3 : plainName "com/example/waveslot/waveslot/core/CheckerStepsRepeatedQuotientsPinLaw" = true := by first | (simp [plainName, overriddenIn]; done) | decide +kernel
theorem ef_3 (m : MethodId) (x0 : Int64) (x1 : Int32) (x2 : Int32) : entryFrame m #[(.long x0), (.int x1), (.int x2)] 6 = mkF m 0 #[jv x0, .second, iv x1, iv x2, .unset, .unset] [] := by first | (simp [entryFrame, mkF, argsToLocals, Value.category]; done) | rfl
def own_f3 (q0 : Int64) (p1 : Int32) (p2 : Int32) : Int64 := (if (((((q0.toUInt64 >>> (((12 : Int32) * p1) &&& 0x3f).toInt64.toUInt64).toInt64) &&& (4095 : Int64)).toInt32) &&& (1 : Int32)) = (0 : Int32) then ((((((((q0.toUInt64 >>> (((12 : Int32) * p1) &&& 0x3f).toInt64.toUInt64).toInt64) &&& (4095 : Int64)).toInt32).toUInt32 >>> ((1 : Int32) &&& 31).toUInt32).toInt32) % p2).toInt64) else (((p2 - (1 : Int32)) - (((((((q0.toUInt64 >>> (((12 : Int32) * p1) &&& 0x3f).toInt64.toUInt64).toInt64) &&& (4095 : Int64)).toInt32).toUInt32 >>> ((1 : Int32) &&& 31).toUInt32).toInt32) % p2)).toInt64))
def Q3 (Z : State) (q0 : Int64) (p1 : Int32) (p2 : Int32) (h0 : Heap) (n0 : Nat) (v : Option Value) (h : Heap) (L : List Loc) : Prop := v = some (.long (own_f3 q0 p1 p2)) ∧ Fr n0 L ∧ h = h0
set_option maxRecDepth 65536 in
set_option maxHeartbeats 40000000 in
theorem rm3 (l : Launch) (Z : State) (aw : Array Value) (hw : ∀ d ∈ tables_1, d.before aw Z = true) (ws : List Jvm.Cond) (q0 : Int64) (p1 : Int32) (p2 : Int32) (h0 : Heap) (n0 : Nat) (Z0 : n0 ≤ h0.size) (hn : ¬ (p2 = (0 : Int32))) :
    MetFree l (⟨"com/example/waveslot/waveslot/core/CheckerStepsRepeatedQuotientsPinLaw", "draw", "(JII)J"⟩ : MethodName) (head1 (Jvm.Cond.code (⟨"com/example/waveslot/waveslot/core/CheckerStepsRepeatedQuotientsPinLaw", "draw", "(JII)J"⟩ : MethodName) method_4_code 6 (some .long) :: ws) ({ frames := 0, cells := 0, slots := 0, locals := 0 } : Room)) (fun a U => a = #[(.long q0), (.int p1), (.int p2)] ∧ Z.Warmed39 U.vm ∧ U.heap = h0) (fun _ _ _ _ _ => True) (fun _ U o U' => ∃ v L, o = .returned v ∧ Q3 Z q0 p1 p2 h0 n0 v U'.heap L ∧ FrameEnd U o U' L ({ frames := 0, cells := 0, slots := 0, locals := 0 } : Room).cells ({ frames := 0, cells := 0, slots := 0, locals := 0 } : Room).slots) := by
  refine MetFree.of_bodySF (plainFor_of_name pn_3) hisR ?_
  intro p e s m args below meth c s₁ Bd hml0 hP hK
  obtain ⟨rfl, hZ, hh⟩ := hP
  have hx := Bd.exec
  have hby := Bd.bytes
  have hml : c.maxLocals = 6 := hml0
  have hown : s.vm.findClass "com/example/waveslot/waveslot/core/CheckerStepsRepeatedQuotientsPinLaw" = some m.cls := findClass_of_methodNamed Bd.named
  have hnm := (name_of_methodNamed Bd.named Bd.method).1
  have hlk : meth.locks = false := by first | exact BodyLoose.notSynchronized (by assumption) | exact Body.notSynchronized (by assumption)
  have X0 : Stand p l e ({ frames := 0, cells := 0, slots := 0, locals := 0 } : Room) s m #[(.long q0), (.int p1), (.int p2)] below meth c s₁ [] 0 0 := Stand.of_body Bd
  have e0 : s₁.heap = h0 := by rw [← hh, Bd.state]; rfl
  have N0 := Fr.nil n0
  have K0 : Keep h0 h0 [] := Keep.refl _ _
  refine own_start (CS := (0, 0)) (Q := (Q3 Z q0 p1 p2 h0 n0)) (ef_3 m q0 p1 p2) ?_
  show own_Go p e below s _ _ (s₁.setTop (mkF m 0 #[jv q0, .second, iv p1, iv p2, .unset, .unset] []))
  refine own_via (fun k => XS.lloadN X0.here hx rfl (hb hby d3_0) rfl  (XS.bipush X0.here hx rfl (hb hby d3_1) (XS.iloadN X0.here hx rfl (hb hby d3_3) rfl  (XS.imul X0.here hx rfl (hb hby d3_4) rfl k)))) ?_
  show own_Go p e below s _ _ (s₁.setTop (mkF m 5 #[jv q0, .second, iv p1, iv p2, .unset, .unset] [(.int ((12 : Int32) * p1)), (.long q0)]))
  refine own_via (fun k => XS.lushr X0.here hx rfl (hb hby d3_5) rfl (X0.ldc2Long hx hown (mvT hZ (hw _ (List.mem_of_getElem? (i := 13) rfl))) (g := (mkF m 6 #[jv q0, .second, iv p1, iv p2, .unset, .unset] [(.long ((q0.toUInt64 >>> (((12 : Int32) * p1) &&& 0x3f).toInt64.toUInt64).toInt64))])) rfl (hb hby d3_6) _ (XS.land X0.here hx rfl (hb hby d3_9) rfl (XS.l2i X0.here hx rfl (hb hby d3_10) rfl k)))) ?_
  show own_Go p e below s _ _ (s₁.setTop (mkF m 11 #[jv q0, .second, iv p1, iv p2, .unset, .unset] [(.int ((((q0.toUInt64 >>> (((12 : Int32) * p1) &&& 0x3f).toInt64.toUInt64).toInt64) &&& (4095 : Int64)).toInt32))]))
  refine own_via (fun k => XS.istore X0.here hx rfl (hb hby d3_11) rfl (l' := #[jv q0, .second, iv p1, iv p2, iv ((((q0.toUInt64 >>> (((12 : Int32) * p1) &&& 0x3f).toInt64.toUInt64).toInt64) &&& (4095 : Int64)).toInt32), .unset]) rfl (XS.iload X0.here hx rfl (hb hby d3_13) rfl  (XS.iconst X0.here hx rfl (hb hby d3_15) (XS.iushr X0.here hx rfl (hb hby d3_16) rfl k)))) ?_
  show own_Go p e below s _ _ (s₁.setTop (mkF m 17 #[jv q0, .second, iv p1, iv p2, iv ((((q0.toUInt64 >>> (((12 : Int32) * p1) &&& 0x3f).toInt64.toUInt64).toInt64) &&& (4095 : Int64)).toInt32), .unset] [(.int ((((((q0.toUInt64 >>> (((12 : Int32) * p1) &&& 0x3f).toInt64.toUInt64).toInt64) &&& (4095 : Int64)).toInt32).toUInt32 >>> ((1 : Int32) &&& 31).toUInt32).toInt32))]))
  refine own_via (fun k => XS.iloadN X0.here hx rfl (hb hby d3_17) rfl  (Jvm.RoadKit.iremM X0 hx rfl (hb hby d3_18) rfl hn (XS.istore X0.here hx rfl (hb hby d3_19) rfl (l' := #[jv q0, .second, iv p1, iv p2, iv ((((q0.toUInt64 >>> (((12 : Int32) * p1) &&& 0x3f).toInt64.toUInt64).toInt64) &&& (4095 : Int64)).toInt32), iv (((((((q0.toUInt64 >>> (((12 : Int32) * p1) &&& 0x3f).toInt64.toUInt64).toInt64) &&& (4095 : Int64)).toInt32).toUInt32 >>> ((1 : Int32) &&& 31).toUInt32).toInt32) % p2)]) rfl (XS.iload X0.here hx rfl (hb hby d3_21) rfl  k)))) ?_
  show own_Go p e below s _ _ (s₁.setTop (mkF m 23 #[jv q0, .second, iv p1, iv p2, iv ((((q0.toUInt64 >>> (((12 : Int32) * p1) &&& 0x3f).toInt64.toUInt64).toInt64) &&& (4095 : Int64)).toInt32), iv (((((((q0.toUInt64 >>> (((12 : Int32) * p1) &&& 0x3f).toInt64.toUInt64).toInt64) &&& (4095 : Int64)).toInt32).toUInt32 >>> ((1 : Int32) &&& 31).toUInt32).toInt32) % p2)] [(.int ((((q0.toUInt64 >>> (((12 : Int32) * p1) &&& 0x3f).toInt64.toUInt64).toInt64) &&& (4095 : Int64)).toInt32))]))
  refine own_via (fun k => XS.iconst X0.here hx rfl (hb hby d3_23) (XS.iand X0.here hx rfl (hb hby d3_24) rfl k)) ?_
  show own_Go p e below s _ _ (s₁.setTop (mkF m 25 #[jv q0, .second, iv p1, iv p2, iv ((((q0.toUInt64 >>> (((12 : Int32) * p1) &&& 0x3f).toInt64.toUInt64).toInt64) &&& (4095 : Int64)).toInt32), iv (((((((q0.toUInt64 >>> (((12 : Int32) * p1) &&& 0x3f).toInt64.toUInt64).toInt64) &&& (4095 : Int64)).toInt32).toUInt32 >>> ((1 : Int32) &&& 31).toUInt32).toInt32) % p2)] [(.int (((((q0.toUInt64 >>> (((12 : Int32) * p1) &&& 0x3f).toInt64.toUInt64).toInt64) &&& (4095 : Int64)).toInt32) &&& (1 : Int32)))]))
  by_cases hc1 : (((((q0.toUInt64 >>> (((12 : Int32) * p1) &&& 0x3f).toInt64.toUInt64).toInt64) &&& (4095 : Int64)).toInt32) &&& (1 : Int32)) = (0 : Int32)
  · refine own_via (fun k => XS.ifNo X0.here hx rfl (hb hby d3_25) rfl ((if0 _ _).trans (teq hc1).2) k) ?_
    show own_Go p e below s _ _ (s₁.setTop (mkF m 28 #[jv q0, .second, iv p1, iv p2, iv ((((q0.toUInt64 >>> (((12 : Int32) * p1) &&& 0x3f).toInt64.toUInt64).toInt64) &&& (4095 : Int64)).toInt32), iv (((((((q0.toUInt64 >>> (((12 : Int32) * p1) &&& 0x3f).toInt64.toUInt64).toInt64) &&& (4095 : Int64)).toInt32).toUInt32 >>> ((1 : Int32) &&& 31).toUInt32).toInt32) % p2)] []))
    refine own_via (fun k => XS.iload X0.here hx rfl (hb hby d3_28) rfl  (XS.i2l X0.here hx rfl (hb hby d3_30) rfl (XS.goto X0.here hx rfl (pc0 := 31) (pc' := 41) rfl (hb hby d3_31) (by decide) (by decide) k))) ?_
    show own_Go p e below s _ _ (s₁.setTop (mkF m 41 #[jv q0, .second, iv p1, iv p2, iv ((((q0.toUInt64 >>> (((12 : Int32) * p1) &&& 0x3f).toInt64.toUInt64).toInt64) &&& (4095 : Int64)).toInt32), iv (((((((q0.toUInt64 >>> (((12 : Int32) * p1) &&& 0x3f).toInt64.toUInt64).toInt64) &&& (4095 : Int64)).toInt32).toUInt32 >>> ((1 : Int32) &&& 31).toUInt32).toInt32) % p2)] [(.long ((((((((q0.toUInt64 >>> (((12 : Int32) * p1) &&& 0x3f).toInt64.toUInt64).toInt64) &&& (4095 : Int64)).toInt32).toUInt32 >>> ((1 : Int32) &&& 31).toUInt32).toInt32) % p2).toInt64))]))
    exact own_retL X0 hx hlk Bd.returns (hb hby d3_41) (Q := (Q3 Z q0 p1 p2 h0 n0)) ⟨(congrArg (fun z => some (Value.long z)) (show ((((((((q0.toUInt64 >>> (((12 : Int32) * p1) &&& 0x3f).toInt64.toUInt64).toInt64) &&& (4095 : Int64)).toInt32).toUInt32 >>> ((1 : Int32) &&& 31).toUInt32).toInt32) % p2).toInt64) = (own_f3 q0 p1 p2) from (by unfold own_f3; exact ((if_pos hc1).trans rfl).symm))), N0, e0⟩ (by decide) (by decide)
  · refine own_via (fun k => XS.ifYes X0.here hx rfl (pc0 := 25) (pc' := 34) rfl (hb hby d3_25) rfl ((if0 _ _).trans (feq hc1).2) (by decide) (by decide) k) ?_
    show own_Go p e below s _ _ (s₁.setTop (mkF m 34 #[jv q0, .second, iv p1, iv p2, iv ((((q0.toUInt64 >>> (((12 : Int32) * p1) &&& 0x3f).toInt64.toUInt64).toInt64) &&& (4095 : Int64)).toInt32), iv (((((((q0.toUInt64 >>> (((12 : Int32) * p1) &&& 0x3f).toInt64.toUInt64).toInt64) &&& (4095 : Int64)).toInt32).toUInt32 >>> ((1 : Int32) &&& 31).toUInt32).toInt32) % p2)] []))
    refine own_via (fun k => XS.iloadN X0.here hx rfl (hb hby d3_34) rfl  (XS.iconst X0.here hx rfl (hb hby d3_35) (XS.isub X0.here hx rfl (hb hby d3_36) rfl (XS.iload X0.here hx rfl (hb hby d3_37) rfl  k)))) ?_
    show own_Go p e below s _ _ (s₁.setTop (mkF m 39 #[jv q0, .second, iv p1, iv p2, iv ((((q0.toUInt64 >>> (((12 : Int32) * p1) &&& 0x3f).toInt64.toUInt64).toInt64) &&& (4095 : Int64)).toInt32), iv (((((((q0.toUInt64 >>> (((12 : Int32) * p1) &&& 0x3f).toInt64.toUInt64).toInt64) &&& (4095 : Int64)).toInt32).toUInt32 >>> ((1 : Int32) &&& 31).toUInt32).toInt32) % p2)] [(.int (((((((q0.toUInt64 >>> (((12 : Int32) * p1) &&& 0x3f).toInt64.toUInt64).toInt64) &&& (4095 : Int64)).toInt32).toUInt32 >>> ((1 : Int32) &&& 31).toUInt32).toInt32) % p2)), (.int (p2 - (1 : Int32)))]))
    refine own_via (fun k => XS.isub X0.here hx rfl (hb hby d3_39) rfl (XS.i2l X0.here hx rfl (hb hby d3_40) rfl k)) ?_
    show own_Go p e below s _ _ (s₁.setTop (mkF m 41 #[jv q0, .second, iv p1, iv p2, iv ((((q0.toUInt64 >>> (((12 : Int32) * p1) &&& 0x3f).toInt64.toUInt64).toInt64) &&& (4095 : Int64)).toInt32), iv (((((((q0.toUInt64 >>> (((12 : Int32) * p1) &&& 0x3f).toInt64.toUInt64).toInt64) &&& (4095 : Int64)).toInt32).toUInt32 >>> ((1 : Int32) &&& 31).toUInt32).toInt32) % p2)] [(.long (((p2 - (1 : Int32)) - (((((((q0.toUInt64 >>> (((12 : Int32) * p1) &&& 0x3f).toInt64.toUInt64).toInt64) &&& (4095 : Int64)).toInt32).toUInt32 >>> ((1 : Int32) &&& 31).toUInt32).toInt32) % p2)).toInt64))]))
    exact own_retL X0 hx hlk Bd.returns (hb hby d3_41) (Q := (Q3 Z q0 p1 p2 h0 n0)) ⟨(congrArg (fun z => some (Value.long z)) (show (((p2 - (1 : Int32)) - (((((((q0.toUInt64 >>> (((12 : Int32) * p1) &&& 0x3f).toInt64.toUInt64).toInt64) &&& (4095 : Int64)).toInt32).toUInt32 >>> ((1 : Int32) &&& 31).toUInt32).toInt32) % p2)).toInt64) = (own_f3 q0 p1 p2) from (by unfold own_f3; exact ((if_neg hc1).trans rfl).symm))), N0, e0⟩ (by decide) (by decide)
theorem d4_0 : decode jdk_29_method_66_code 0 = .ok (.lload_n 0, 1) := by decide +kernel
theorem d4_1 : decode jdk_29_method_66_code 1 = .ok (.lload_n 2, 1) := by decide +kernel
theorem d4_2 : decode jdk_29_method_66_code 2 = .ok (.lcmp, 1) := by decide +kernel
theorem d4_3 : decode jdk_29_method_66_code 3 = .ok (.ifCond .lt 7, 3) := by decide +kernel
theorem d4_6 : decode jdk_29_method_66_code 6 = .ok (.lload_n 0, 1) := by decide +kernel
theorem d4_7 : decode jdk_29_method_66_code 7 = .ok (.goto 4, 3) := by decide +kernel
theorem d4_10 : decode jdk_29_method_66_code 10 = .ok (.lload_n 2, 1) := by decide +kernel
theorem d4_11 : decode jdk_29_method_66_code 11 = .ok (.lreturn, 1) := by decide +kernel
theorem ef_4 (m : MethodId) (x0 : Int64) (x1 : Int64) : entryFrame m #[(.long x0), (.long x1)] 4 = mkF m 0 #[jv x0, .second, jv x1, .second] [] := by first | (simp [entryFrame, mkF, argsToLocals, Value.category]; done) | rfl
def own_f4 (q0 : Int64) (q1 : Int64) : Int64 := (if q0 < q1 then q1 else q0)
def Q4 (Z : State) (q0 : Int64) (q1 : Int64) (h0 : Heap) (n0 : Nat) (v : Option Value) (h : Heap) (L : List Loc) : Prop := v = some (.long (own_f4 q0 q1)) ∧ Fr n0 L ∧ h = h0
set_option maxRecDepth 65536 in
set_option maxHeartbeats 40000000 in
theorem rm4 (l : Launch) (Z : State) (aw : Array Value) (hw : ∀ d ∈ tables_1, d.before aw Z = true) (ws : List Jvm.Cond) (q0 : Int64) (q1 : Int64) (h0 : Heap) (n0 : Nat) (Z0 : n0 ≤ h0.size)  :
    MetFree l (⟨"java/lang/Math", "max", "(JJ)J"⟩ : MethodName) (head1 (Jvm.Cond.code (⟨"java/lang/Math", "max", "(JJ)J"⟩ : MethodName) jdk_29_method_66_code 4 (some .long) :: ws) ({ frames := 0, cells := 0, slots := 0, locals := 0 } : Room)) (fun a U => a = #[(.long q0), (.long q1)] ∧ Z.Warmed39 U.vm ∧ U.heap = h0) (fun _ _ _ _ _ => True) (fun _ U o U' => ∃ v L, o = .returned v ∧ Q4 Z q0 q1 h0 n0 v U'.heap L ∧ FrameEnd U o U' L ({ frames := 0, cells := 0, slots := 0, locals := 0 } : Room).cells ({ frames := 0, cells := 0, slots := 0, locals := 0 } : Room).slots) := by
  refine MetFree.of_bodySF (Jvm.Free.JP.mathPlain rfl (by decide +kernel)) hisR ?_
  intro p e s m args below meth c s₁ Bd hml0 hP hK
  obtain ⟨rfl, hZ, hh⟩ := hP
  have hx := Bd.exec
  have hby := Bd.bytes
  have hml : c.maxLocals = 4 := hml0
  have hown : s.vm.findClass "java/lang/Math" = some m.cls := findClass_of_methodNamed Bd.named
  have hnm := (name_of_methodNamed Bd.named Bd.method).1
  have hlk : meth.locks = false := by first | exact BodyLoose.notSynchronized (by assumption) | exact Body.notSynchronized (by assumption)
  have X0 : Stand p l e ({ frames := 0, cells := 0, slots := 0, locals := 0 } : Room) s m #[(.long q0), (.long q1)] below meth c s₁ [] 0 0 := Stand.of_body Bd
  have e0 : s₁.heap = h0 := by rw [← hh, Bd.state]; rfl
  have N0 := Fr.nil n0
  have K0 : Keep h0 h0 [] := Keep.refl _ _
  refine own_start (CS := (0, 0)) (Q := (Q4 Z q0 q1 h0 n0)) (ef_4 m q0 q1) ?_
  show own_Go p e below s _ _ (s₁.setTop (mkF m 0 #[jv q0, .second, jv q1, .second] []))
  refine own_via (fun k => XS.lloadN X0.here hx rfl (hb hby d4_0) rfl  (XS.lloadN X0.here hx rfl (hb hby d4_1) rfl  (XS.lcmp X0.here hx rfl (hb hby d4_2) rfl k))) ?_
  show own_Go p e below s _ _ (s₁.setTop (mkF m 3 #[jv q0, .second, jv q1, .second] [(.int (lcmpW q0 q1))]))
  by_cases hc1 : q0 < q1
  · refine own_via (fun k => XS.ifYes X0.here hx rfl (pc0 := 3) (pc' := 10) rfl (hb hby d4_3) rfl ((if0 _ _).trans (tlt ((lw_lt _ _).mpr hc1)).1) (by decide) (by decide) k) ?_
    show own_Go p e below s _ _ (s₁.setTop (mkF m 10 #[jv q0, .second, jv q1, .second] []))
    refine own_via (fun k => XS.lloadN X0.here hx rfl (hb hby d4_10) rfl  k) ?_
    show own_Go p e below s _ _ (s₁.setTop (mkF m 11 #[jv q0, .second, jv q1, .second] [(.long q1)]))
    exact own_retL X0 hx hlk Bd.returns (hb hby d4_11) (Q := (Q4 Z q0 q1 h0 n0)) ⟨(congrArg (fun z => some (Value.long z)) (show q1 = (own_f4 q0 q1) from (by unfold own_f4; exact ((if_pos hc1).trans rfl).symm))), N0, e0⟩ (by decide) (by decide)
  · refine own_via (fun k => XS.ifNo X0.here hx rfl (hb hby d4_3) rfl ((if0 _ _).trans (flt (mt (lw_lt _ _).mp hc1)).1) k) ?_
    show own_Go p e below s _ _ (s₁.setTop (mkF m 6 #[jv q0, .second, jv q1, .second] []))
    refine own_via (fun k => XS.lloadN X0.here hx rfl (hb hby d4_6) rfl  (XS.goto X0.here hx rfl (pc0 := 7) (pc' := 11) rfl (hb hby d4_7) (by decide) (by decide) k)) ?_
    show own_Go p e below s _ _ (s₁.setTop (mkF m 11 #[jv q0, .second, jv q1, .second] [(.long q0)]))
    exact own_retL X0 hx hlk Bd.returns (hb hby d4_11) (Q := (Q4 Z q0 q1 h0 n0)) ⟨(congrArg (fun z => some (Value.long z)) (show q0 = (own_f4 q0 q1) from (by unfold own_f4; exact ((if_neg hc1).trans rfl).symm))), N0, e0⟩ (by decide) (by decide)
theorem d5_0 : decode method_5_code 0 = .ok (.iload_n 0, 1) := by decide +kernel
theorem d5_1 : decode method_5_code 1 = .ok (.ifCond .ne 7, 3) := by decide +kernel
theorem d5_4 : decode method_5_code 4 = .ok (.iconst 0, 1) := by decide +kernel
theorem d5_5 : decode method_5_code 5 = .ok (.newarray .long, 2) := by decide +kernel
theorem d5_7 : decode method_5_code 7 = .ok (.areturn, 1) := by decide +kernel
theorem pn_5 : plainName "com/example/waveslot/waveslot/core/CheckerStepsRepeatedQuotientsPinLaw" = true := by first | (simp [plainName, overriddenIn]; done) | decide +kernel
theorem ef_5_0 (m : MethodId) (x0 : Int32) (x1 : Int64) (x2 : Int64) (x3 : Int64) (x4 : Int64) (x5 : Int64) : entryFrame m #[(.int x0), (.long x1), (.long x2), (.long x3), (.long x4), (.long x5)] 11 = mkF m 0 #[iv x0, jv x1, .second, jv x2, .second, jv x3, .second, jv x4, .second, jv x5, .second] [] := by first | (simp [entryFrame, mkF, argsToLocals, Value.category]; done) | rfl
def Q5_0 (Z : State) (q1 : Int64) (q2 : Int64) (q3 : Int64) (q4 : Int64) (q5 : Int64) (h0 : Heap) (n0 : Nat) (v : Option Value) (h : Heap) (L : List Loc) : Prop := ∃ (b : Addr), ∃ (k : ClassId), v = some (.ref b) ∧ Fr n0 L ∧ Keep h0 h [] ∧ Arv Z h b k .long (0 : Int32) [] (.long 0) ∧ h0.size ≤ b
set_option maxRecDepth 65536 in
set_option maxHeartbeats 40000000 in
theorem rm5_0 (l : Launch) (Z : State) (aw : Array Value) (hw : ∀ d ∈ tables_1, d.before aw Z = true) (ws : List Jvm.Cond) (q1 : Int64) (q2 : Int64) (q3 : Int64) (q4 : Int64) (q5 : Int64) (h0 : Heap) (n0 : Nat) (Z0 : n0 ≤ h0.size)  :
    MetFree l (⟨"com/example/waveslot/waveslot/core/CheckerStepsRepeatedQuotientsPinLaw", "prefix", "(IJJJJJ)[J"⟩ : MethodName) (head1 (Jvm.Cond.code (⟨"com/example/waveslot/waveslot/core/CheckerStepsRepeatedQuotientsPinLaw", "prefix", "(IJJJJJ)[J"⟩ : MethodName) method_5_code 11 (some (.array .long)) :: ws) ({ frames := 0, cells := 1, slots := 0, locals := 0 } : Room)) (fun a U => a = #[(.int 0), (.long q1), (.long q2), (.long q3), (.long q4), (.long q5)] ∧ Z.Warmed39 U.vm ∧ U.heap = h0) (fun _ _ _ _ _ => True) (fun _ U o U' => ∃ v L, o = .returned v ∧ Q5_0 Z q1 q2 q3 q4 q5 h0 n0 v U'.heap L ∧ FrameEnd U o U' L ({ frames := 0, cells := 1, slots := 0, locals := 0 } : Room).cells ({ frames := 0, cells := 1, slots := 0, locals := 0 } : Room).slots) := by
  refine MetFree.of_bodySF (plainFor_of_name pn_5) hisR ?_
  intro p e s m args below meth c s₁ Bd hml0 hP hK
  obtain ⟨rfl, hZ, hh⟩ := hP
  have hx := Bd.exec
  have hby := Bd.bytes
  have hml : c.maxLocals = 11 := hml0
  have hown : s.vm.findClass "com/example/waveslot/waveslot/core/CheckerStepsRepeatedQuotientsPinLaw" = some m.cls := findClass_of_methodNamed Bd.named
  have hnm := (name_of_methodNamed Bd.named Bd.method).1
  have hlk : meth.locks = false := by first | exact BodyLoose.notSynchronized (by assumption) | exact Body.notSynchronized (by assumption)
  have X0 : Stand p l e ({ frames := 0, cells := 1, slots := 0, locals := 0 } : Room) s m #[(.int 0), (.long q1), (.long q2), (.long q3), (.long q4), (.long q5)] below meth c s₁ [] 0 0 := Stand.of_body Bd
  have e0 : s₁.heap = h0 := by rw [← hh, Bd.state]; rfl
  have N0 := Fr.nil n0
  have K0 : Keep h0 h0 [] := Keep.refl _ _
  refine own_start (CS := (1, 0)) (Q := (Q5_0 Z q1 q2 q3 q4 q5 h0 n0)) (ef_5_0 m (0 : Int32) q1 q2 q3 q4 q5) ?_
  show own_Go p e below s _ _ (s₁.setTop (mkF m 0 #[iv 0, jv q1, .second, jv q2, .second, jv q3, .second, jv q4, .second, jv q5, .second] []))
  refine own_via (fun k => XS.iloadN X0.here hx rfl (hb hby d5_0) rfl  k) ?_
  show own_Go p e below s _ _ (s₁.setTop (mkF m 1 #[iv 0, jv q1, .second, jv q2, .second, jv q3, .second, jv q4, .second, jv q5, .second] [(.int 0)]))
  refine own_via (fun k => XS.ifNo X0.here hx rfl (hb hby d5_1) rfl (by decide) k) ?_
  show own_Go p e below s _ _ (s₁.setTop (mkF m 4 #[iv 0, jv q1, .second, jv q2, .second, jv q3, .second, jv q4, .second, jv q5, .second] []))
  refine own_via (fun k => XS.iconst X0.here hx rfl (hb hby d5_4) k) ?_
  show own_Go p e below s _ _ (s₁.setTop (mkF m 5 #[iv 0, jv q1, .second, jv q2, .second, jv q3, .second, jv q4, .second, jv q5, .second] [(.int 0)]))
  obtain ⟨T1, h1, k1, X1, e1, E1, A1, st1⟩ := newP X0 hx hZ (hw _ (List.mem_of_getElem? (i := 20) rfl)) e0 (g := (mkF m 5 #[iv 0, jv q1, .second, jv q2, .second, jv q3, .second, jv q4, .second, jv q5, .second] [(.int 0)])) rfl (hb hby d5_5) rfl (by decide) (cap := 0) (by decide) (by decide) (by decide) (by decide)
  obtain ⟨b1, g1⟩ : ∃ z, z = h0.size := ⟨_, rfl⟩
  rw [← g1] at A1 st1
  refine own_via (fun k => st1 _ k) ?_
  show own_Go p e below s _ _ (T1.setTop (mkF m 7 #[iv 0, jv q1, .second, jv q2, .second, jv q3, .second, jv q4, .second, jv q5, .second] [(.ref b1)]))
  have g2 : n0 ≤ b1 := Nat.le_trans Z0 (Nat.le_of_eq g1.symm)
  have sz3 : h0.size ≤ b1 := Nat.le_trans K0.1 (Nat.le_of_eq g1.symm)
  have K4 : Keep h0 h1 [] := K0.ext E1
  have Z5 : n0 ≤ h1.size := Nat.le_trans Z0 E1.1
  have B6 : Arv Z h1 b1 k1 .long (0 : Int32) [] (.long 0) := (Arv.new A1 (by decide)).pad (pad_rep [] (.long 0) 0)
  exact own_retA X1 hx hlk rfl (t := (.array .long)) Bd.returns rfl (hb hby d5_7) (Q := (Q5_0 Z q1 q2 q3 q4 q5 h0 n0)) ⟨b1, k1, rfl, N0, (by rw [e1]; exact K4), (by rw [e1]; exact B6), sz3⟩ (by decide) (by decide)
theorem d5_8 : decode method_5_code 8 = .ok (.iload_n 0, 1) := by decide +kernel
theorem d5_9 : decode method_5_code 9 = .ok (.iconst 1, 1) := by decide +kernel
theorem d5_10 : decode method_5_code 10 = .ok (.if_icmp .ne 11, 3) := by decide +kernel
theorem d5_13 : decode method_5_code 13 = .ok (.iconst 1, 1) := by decide +kernel
theorem d5_14 : decode method_5_code 14 = .ok (.newarray .long, 2) := by decide +kernel
theorem d5_16 : decode method_5_code 16 = .ok (.dup, 1) := by decide +kernel
theorem d5_17 : decode method_5_code 17 = .ok (.iconst 0, 1) := by decide +kernel
theorem d5_18 : decode method_5_code 18 = .ok (.lload_n 1, 1) := by decide +kernel
theorem d5_19 : decode method_5_code 19 = .ok (.lastore, 1) := by decide +kernel
theorem d5_20 : decode method_5_code 20 = .ok (.areturn, 1) := by decide +kernel
theorem ef_5_1 (m : MethodId) (x0 : Int32) (x1 : Int64) (x2 : Int64) (x3 : Int64) (x4 : Int64) (x5 : Int64) : entryFrame m #[(.int x0), (.long x1), (.long x2), (.long x3), (.long x4), (.long x5)] 11 = mkF m 0 #[iv x0, jv x1, .second, jv x2, .second, jv x3, .second, jv x4, .second, jv x5, .second] [] := by first | (simp [entryFrame, mkF, argsToLocals, Value.category]; done) | rfl
def Q5_1 (Z : State) (q1 : Int64) (q2 : Int64) (q3 : Int64) (q4 : Int64) (q5 : Int64) (h0 : Heap) (n0 : Nat) (v : Option Value) (h : Heap) (L : List Loc) : Prop := ∃ (b : Addr), ∃ (k : ClassId), v = some (.ref b) ∧ Fr n0 L ∧ Keep h0 h [] ∧ Arv Z h b k .long (1 : Int32) [(.long q1)] (.long 0) ∧ h0.size ≤ b
set_option maxRecDepth 65536 in
set_option maxHeartbeats 40000000 in
theorem rm5_1 (l : Launch) (Z : State) (aw : Array Value) (hw : ∀ d ∈ tables_1, d.before aw Z = true) (ws : List Jvm.Cond) (q1 : Int64) (q2 : Int64) (q3 : Int64) (q4 : Int64) (q5 : Int64) (h0 : Heap) (n0 : Nat) (Z0 : n0 ≤ h0.size)  :
    MetFree l (⟨"com/example/waveslot/waveslot/core/CheckerStepsRepeatedQuotientsPinLaw", "prefix", "(IJJJJJ)[J"⟩ : MethodName) (head1 (Jvm.Cond.code (⟨"com/example/waveslot/waveslot/core/CheckerStepsRepeatedQuotientsPinLaw", "prefix", "(IJJJJJ)[J"⟩ : MethodName) method_5_code 11 (some (.array .long)) :: ws) ({ frames := 0, cells := 1, slots := 1, locals := 0 } : Room)) (fun a U => a = #[(.int 1), (.long q1), (.long q2), (.long q3), (.long q4), (.long q5)] ∧ Z.Warmed39 U.vm ∧ U.heap = h0) (fun _ _ _ _ _ => True) (fun _ U o U' => ∃ v L, o = .returned v ∧ Q5_1 Z q1 q2 q3 q4 q5 h0 n0 v U'.heap L ∧ FrameEnd U o U' L ({ frames := 0, cells := 1, slots := 1, locals := 0 } : Room).cells ({ frames := 0, cells := 1, slots := 1, locals := 0 } : Room).slots) := by
  refine MetFree.of_bodySF (plainFor_of_name pn_5) hisR ?_
  intro p e s m args below meth c s₁ Bd hml0 hP hK
  obtain ⟨rfl, hZ, hh⟩ := hP
  have hx := Bd.exec
  have hby := Bd.bytes
  have hml : c.maxLocals = 11 := hml0
  have hown : s.vm.findClass "com/example/waveslot/waveslot/core/CheckerStepsRepeatedQuotientsPinLaw" = some m.cls := findClass_of_methodNamed Bd.named
  have hnm := (name_of_methodNamed Bd.named Bd.method).1
  have hlk : meth.locks = false := by first | exact BodyLoose.notSynchronized (by assumption) | exact Body.notSynchronized (by assumption)
  have X0 : Stand p l e ({ frames := 0, cells := 1, slots := 1, locals := 0 } : Room) s m #[(.int 1), (.long q1), (.long q2), (.long q3), (.long q4), (.long q5)] below meth c s₁ [] 0 0 := Stand.of_body Bd
  have e0 : s₁.heap = h0 := by rw [← hh, Bd.state]; rfl
  have N0 := Fr.nil n0
  have K0 : Keep h0 h0 [] := Keep.refl _ _
  refine own_start (CS := (1, 1)) (Q := (Q5_1 Z q1 q2 q3 q4 q5 h0 n0)) (ef_5_1 m (1 : Int32) q1 q2 q3 q4 q5) ?_
  show own_Go p e below s _ _ (s₁.setTop (mkF m 0 #[iv 1, jv q1, .second, jv q2, .second, jv q3, .second, jv q4, .second, jv q5, .second] []))
  refine own_via (fun k => XS.iloadN X0.here hx rfl (hb hby d5_0) rfl  k) ?_
  show own_Go p e below s _ _ (s₁.setTop (mkF m 1 #[iv 1, jv q1, .second, jv q2, .second, jv q3, .second, jv q4, .second, jv q5, .second] [(.int 1)]))
  refine own_via (fun k => XS.ifYes X0.here hx rfl (pc0 := 1) (pc' := 8) rfl (hb hby d5_1) rfl (by decide) (by decide) (by decide) k) ?_
  show own_Go p e below s _ _ (s₁.setTop (mkF m 8 #[iv 1, jv q1, .second, jv q2, .second, jv q3, .second, jv q4, .second, jv q5, .second] []))
  refine own_via (fun k => XS.iloadN X0.here hx rfl (hb hby d5_8) rfl  (XS.iconst X0.here hx rfl (hb hby d5_9) k)) ?_
  show own_Go p e below s _ _ (s₁.setTop (mkF m 10 #[iv 1, jv q1, .second, jv q2, .second, jv q3, .second, jv q4, .second, jv q5, .second] [(.int 1), (.int 1)]))
  refine own_via (fun k => XS.icmpNo X0.here hx rfl (hb hby d5_10) rfl (by decide) k) ?_
  show own_Go p e below s _ _ (s₁.setTop (mkF m 13 #[iv 1, jv q1, .second, jv q2, .second, jv q3, .second, jv q4, .second, jv q5, .second] []))
  refine own_via (fun k => XS.iconst X0.here hx rfl (hb hby d5_13) k) ?_
  show own_Go p e below s _ _ (s₁.setTop (mkF m 14 #[iv 1, jv q1, .second, jv q2, .second, jv q3, .second, jv q4, .second, jv q5, .second] [(.int 1)]))
  obtain ⟨T1, h1, k1, X1, e1, E1, A1, st1⟩ := newP X0 hx hZ (hw _ (List.mem_of_getElem? (i := 20) rfl)) e0 (g := (mkF m 14 #[iv 1, jv q1, .second, jv q2, .second, jv q3, .second, jv q4, .second, jv q5, .second] [(.int 1)])) rfl (hb hby d5_14) rfl (by decide) (cap := 1) (by decide) (by decide) (by decide) (by decide)
  obtain ⟨b1, g1⟩ : ∃ z, z = h0.size := ⟨_, rfl⟩
  rw [← g1] at A1 st1
  refine own_via (fun k => st1 _ k) ?_
  show own_Go p e below s _ _ (T1.setTop (mkF m 16 #[iv 1, jv q1, .second, jv q2, .second, jv q3, .second, jv q4, .second, jv q5, .second] [(.ref b1)]))
  have g2 : n0 ≤ b1 := Nat.le_trans Z0 (Nat.le_of_eq g1.symm)
  have sz3 : h0.size ≤ b1 := Nat.le_trans K0.1 (Nat.le_of_eq g1.symm)
  have K4 : Keep h0 h1 [] := K0.ext E1
  have Z5 : n0 ≤ h1.size := Nat.le_trans Z0 E1.1
  have B6 : Arv Z h1 b1 k1 .long (1 : Int32) [(.long 0)] (.long 0) := (Arv.new A1 (by decide)).pad (pad_rep [] (.long 0) 1)
  refine own_via (fun k => XS.dup X1.here hx rfl (hb hby d5_16) rfl rfl (XS.iconst X1.here hx rfl (hb hby d5_17) (XS.lloadN X1.here hx rfl (hb hby d5_18) rfl  k))) ?_
  show own_Go p e below s _ _ (T1.setTop (mkF m 19 #[iv 1, jv q1, .second, jv q2, .second, jv q3, .second, jv q4, .second, jv q5, .second] [(.long q1), (.int 0), (.ref b1), (.ref b1)]))
  obtain ⟨cl7, Ar7, q7, S7, NN7, H7, G7⟩ := id B6
  have hin7 : ¬ ((0 : Int32) < 0 ∨ cl7.slots.size ≤ ((0 : Int32)).toNatClampNeg) := inb_of S7 ⟨by decide, by decide⟩
  obtain ⟨T7, h7, X7, e7, W7, st7⟩ := stJ X1 hx hZ e1 Ar7 (j := (0 : Int32)) hin7 (g := (mkF m 19 #[iv 1, jv q1, .second, jv q2, .second, jv q3, .second, jv q4, .second, jv q5, .second] [(.long q1), (.int 0), (.ref b1), (.ref b1)])) rfl rfl (hb hby d5_19)
  refine own_via (fun k => st7 _ k) ?_
  show own_Go p e below s _ _ (T7.setTop (mkF m 20 #[iv 1, jv q1, .second, jv q2, .second, jv q3, .second, jv q4, .second, jv q5, .second] [(.ref b1)]))
  have B8 : Arv Z h7 b1 k1 .long (1 : Int32) [(.long q1)] (.long 0) := Arv.set Ar7 q7 S7 NN7 H7 G7 rfl W7 0 rfl (Nat.le_of_ble_eq_true rfl)
  have N9 := Fr.snoc X7 N0 g2
  have K10 : Keep h0 h7 [] := K4.wr W7 (Or.inr sz3)
  have Z11 : n0 ≤ h7.size := Nat.le_trans Z5 (Keep.of_wr W7).1
  exact own_retA X7 hx hlk rfl (t := (.array .long)) Bd.returns rfl (hb hby d5_20) (Q := (Q5_1 Z q1 q2 q3 q4 q5 h0 n0)) ⟨b1, k1, rfl, N9, (by rw [e7]; exact K10), (by rw [e7]; exact B8), sz3⟩ (by decide) (by decide)
theorem d5_21 : decode method_5_code 21 = .ok (.iload_n 0, 1) := by decide +kernel
theorem d5_22 : decode method_5_code 22 = .ok (.iconst 2, 1) := by decide +kernel
theorem d5_23 : decode method_5_code 23 = .ok (.if_icmp .ne 15, 3) := by decide +kernel
theorem d5_26 : decode method_5_code 26 = .ok (.iconst 2, 1) := by decide +kernel
theorem d5_27 : decode method_5_code 27 = .ok (.newarray .long, 2) := by decide +kernel
theorem d5_29 : decode method_5_code 29 = .ok (.dup, 1) := by decide +kernel
theorem d5_30 : decode method_5_code 30 = .ok (.iconst 0, 1) := by decide +kernel
theorem d5_31 : decode method_5_code 31 = .ok (.lload_n 1, 1) := by decide +kernel
theorem d5_32 : decode method_5_code 32 = .ok (.lastore, 1) := by decide +kernel
theorem d5_33 : decode method_5_code 33 = .ok (.dup, 1) := by decide +kernel
theorem d5_34 : decode method_5_code 34 = .ok (.iconst 1, 1) := by decide +kernel
theorem d5_35 : decode method_5_code 35 = .ok (.lload_n 3, 1) := by decide +kernel
theorem d5_36 : decode method_5_code 36 = .ok (.lastore, 1) := by decide +kernel
theorem d5_37 : decode method_5_code 37 = .ok (.areturn, 1) := by decide +kernel
theorem ef_5_2 (m : MethodId) (x0 : Int32) (x1 : Int64) (x2 : Int64) (x3 : Int64) (x4 : Int64) (x5 : Int64) : entryFrame m #[(.int x0), (.long x1), (.long x2), (.long x3), (.long x4), (.long x5)] 11 = mkF m 0 #[iv x0, jv x1, .second, jv x2, .second, jv x3, .second, jv x4, .second, jv x5, .second] [] := by first | (simp [entryFrame, mkF, argsToLocals, Value.category]; done) | rfl
def Q5_2 (Z : State) (q1 : Int64) (q2 : Int64) (q3 : Int64) (q4 : Int64) (q5 : Int64) (h0 : Heap) (n0 : Nat) (v : Option Value) (h : Heap) (L : List Loc) : Prop := ∃ (b : Addr), ∃ (k : ClassId), v = some (.ref b) ∧ Fr n0 L ∧ Keep h0 h [] ∧ Arv Z h b k .long (2 : Int32) [(.long q1), (.long q2)] (.long 0) ∧ h0.size ≤ b
set_option maxRecDepth 65536 in
set_option maxHeartbeats 40000000 in
theorem rm5_2 (l : Launch) (Z : State) (aw : Array Value) (hw : ∀ d ∈ tables_1, d.before aw Z = true) (ws : List Jvm.Cond) (q1 : Int64) (q2 : Int64) (q3 : Int64) (q4 : Int64) (q5 : Int64) (h0 : Heap) (n0 : Nat) (Z0 : n0 ≤ h0.size)  :
    MetFree l (⟨"com/example/waveslot/waveslot/core/CheckerStepsRepeatedQuotientsPinLaw", "prefix", "(IJJJJJ)[J"⟩ : MethodName) (head1 (Jvm.Cond.code (⟨"com/example/waveslot/waveslot/core/CheckerStepsRepeatedQuotientsPinLaw", "prefix", "(IJJJJJ)[J"⟩ : MethodName) method_5_code 11 (some (.array .long)) :: ws) ({ frames := 0, cells := 1, slots := 2, locals := 0 } : Room)) (fun a U => a = #[(.int 2), (.long q1), (.long q2), (.long q3), (.long q4), (.long q5)] ∧ Z.Warmed39 U.vm ∧ U.heap = h0) (fun _ _ _ _ _ => True) (fun _ U o U' => ∃ v L, o = .returned v ∧ Q5_2 Z q1 q2 q3 q4 q5 h0 n0 v U'.heap L ∧ FrameEnd U o U' L ({ frames := 0, cells := 1, slots := 2, locals := 0 } : Room).cells ({ frames := 0, cells := 1, slots := 2, locals := 0 } : Room).slots) := by
  refine MetFree.of_bodySF (plainFor_of_name pn_5) hisR ?_
  intro p e s m args below meth c s₁ Bd hml0 hP hK
  obtain ⟨rfl, hZ, hh⟩ := hP
  have hx := Bd.exec
  have hby := Bd.bytes
  have hml : c.maxLocals = 11 := hml0
  have hown : s.vm.findClass "com/example/waveslot/waveslot/core/CheckerStepsRepeatedQuotientsPinLaw" = some m.cls := findClass_of_methodNamed Bd.named
  have hnm := (name_of_methodNamed Bd.named Bd.method).1
  have hlk : meth.locks = false := by first | exact BodyLoose.notSynchronized (by assumption) | exact Body.notSynchronized (by assumption)
  have X0 : Stand p l e ({ frames := 0, cells := 1, slots := 2, locals := 0 } : Room) s m #[(.int 2), (.long q1), (.long q2), (.long q3), (.long q4), (.long q5)] below meth c s₁ [] 0 0 := Stand.of_body Bd
  have e0 : s₁.heap = h0 := by rw [← hh, Bd.state]; rfl
  have N0 := Fr.nil n0
  have K0 : Keep h0 h0 [] := Keep.refl _ _
  refine own_start (CS := (1, 2)) (Q := (Q5_2 Z q1 q2 q3 q4 q5 h0 n0)) (ef_5_2 m (2 : Int32) q1 q2 q3 q4 q5) ?_
  show own_Go p e below s _ _ (s₁.setTop (mkF m 0 #[iv 2, jv q1, .second, jv q2, .second, jv q3, .second, jv q4, .second, jv q5, .second] []))
  refine own_via (fun k => XS.iloadN X0.here hx rfl (hb hby d5_0) rfl  k) ?_
  show own_Go p e below s _ _ (s₁.setTop (mkF m 1 #[iv 2, jv q1, .second, jv q2, .second, jv q3, .second, jv q4, .second, jv q5, .second] [(.int 2)]))
  refine own_via (fun k => XS.ifYes X0.here hx rfl (pc0 := 1) (pc' := 8) rfl (hb hby d5_1) rfl (by decide) (by decide) (by decide) k) ?_
  show own_Go p e below s _ _ (s₁.setTop (mkF m 8 #[iv 2, jv q1, .second, jv q2, .second, jv q3, .second, jv q4, .second, jv q5, .second] []))
  refine own_via (fun k => XS.iloadN X0.here hx rfl (hb hby d5_8) rfl  (XS.iconst X0.here hx rfl (hb hby d5_9) k)) ?_
  show own_Go p e below s _ _ (s₁.setTop (mkF m 10 #[iv 2, jv q1, .second, jv q2, .second, jv q3, .second, jv q4, .second, jv q5, .second] [(.int 1), (.int 2)]))
  refine own_via (fun k => XS.icmpYes X0.here hx rfl (pc0 := 10) (pc' := 21) rfl (hb hby d5_10) rfl (by decide) (by decide) (by decide) k) ?_
  show own_Go p e below s _ _ (s₁.setTop (mkF m 21 #[iv 2, jv q1, .second, jv q2, .second, jv q3, .second, jv q4, .second, jv q5, .second] []))
  refine own_via (fun k => XS.iloadN X0.here hx rfl (hb hby d5_21) rfl  (XS.iconst X0.here hx rfl (hb hby d5_22) k)) ?_
  show own_Go p e below s _ _ (s₁.setTop (mkF m 23 #[iv 2, jv q1, .second, jv q2, .second, jv q3, .second, jv q4, .second, jv q5, .second] [(.int 2), (.int 2)]))
  refine own_via (fun k => XS.icmpNo X0.here hx rfl (hb hby d5_23) rfl (by decide) k) ?_
  show own_Go p e below s _ _ (s₁.setTop (mkF m 26 #[iv 2, jv q1, .second, jv q2, .second, jv q3, .second, jv q4, .second, jv q5, .second] []))
  refine own_via (fun k => XS.iconst X0.here hx rfl (hb hby d5_26) k) ?_
  show own_Go p e below s _ _ (s₁.setTop (mkF m 27 #[iv 2, jv q1, .second, jv q2, .second, jv q3, .second, jv q4, .second, jv q5, .second] [(.int 2)]))
  obtain ⟨T1, h1, k1, X1, e1, E1, A1, st1⟩ := newP X0 hx hZ (hw _ (List.mem_of_getElem? (i := 20) rfl)) e0 (g := (mkF m 27 #[iv 2, jv q1, .second, jv q2, .second, jv q3, .second, jv q4, .second, jv q5, .second] [(.int 2)])) rfl (hb hby d5_27) rfl (by decide) (cap := 2) (by decide) (by decide) (by decide) (by decide)
  obtain ⟨b1, g1⟩ : ∃ z, z = h0.size := ⟨_, rfl⟩
  rw [← g1] at A1 st1
  refine own_via (fun k => st1 _ k) ?_
  show own_Go p e below s _ _ (T1.setTop (mkF m 29 #[iv 2, jv q1, .second, jv q2, .second, jv q3, .second, jv q4, .second, jv q5, .second] [(.ref b1)]))
  have g2 : n0 ≤ b1 := Nat.le_trans Z0 (Nat.le_of_eq g1.symm)
  have sz3 : h0.size ≤ b1 := Nat.le_trans K0.1 (Nat.le_of_eq g1.symm)
  have K4 : Keep h0 h1 [] := K0.ext E1
  have Z5 : n0 ≤ h1.size := Nat.le_trans Z0 E1.1
  have B6 : Arv Z h1 b1 k1 .long (2 : Int32) [(.long 0), (.long 0)] (.long 0) := (Arv.new A1 (by decide)).pad (pad_rep [] (.long 0) 2)
  refine own_via (fun k => XS.dup X1.here hx rfl (hb hby d5_29) rfl rfl (XS.iconst X1.here hx rfl (hb hby d5_30) (XS.lloadN X1.here hx rfl (hb hby d5_31) rfl  k))) ?_
  show own_Go p e below s _ _ (T1.setTop (mkF m 32 #[iv 2, jv q1, .second, jv q2, .second, jv q3, .second, jv q4, .second, jv q5, .second] [(.long q1), (.int 0), (.ref b1), (.ref b1)]))
  obtain ⟨cl7, Ar7, q7, S7, NN7, H7, G7⟩ := id B6
  have hin7 : ¬ ((0 : Int32) < 0 ∨ cl7.slots.size ≤ ((0 : Int32)).toNatClampNeg) := inb_of S7 ⟨by decide, by decide⟩
  obtain ⟨T7, h7, X7, e7, W7, st7⟩ := stJ X1 hx hZ e1 Ar7 (j := (0 : Int32)) hin7 (g := (mkF m 32 #[iv 2, jv q1, .second, jv q2, .second, jv q3, .second, jv q4, .second, jv q5, .second] [(.long q1), (.int 0), (.ref b1), (.ref b1)])) rfl rfl (hb hby d5_32)
  refine own_via (fun k => st7 _ k) ?_
  show own_Go p e below s _ _ (T7.setTop (mkF m 33 #[iv 2, jv q1, .second, jv q2, .second, jv q3, .second, jv q4, .second, jv q5, .second] [(.ref b1)]))
  have B8 : Arv Z h7 b1 k1 .long (2 : Int32) [(.long q1), (.long 0)] (.long 0) := Arv.set Ar7 q7 S7 NN7 H7 G7 rfl W7 0 rfl (Nat.le_of_ble_eq_true rfl)
  have N9 := Fr.snoc X7 N0 g2
  have K10 : Keep h0 h7 [] := K4.wr W7 (Or.inr sz3)
  have Z11 : n0 ≤ h7.size := Nat.le_trans Z5 (Keep.of_wr W7).1
  refine own_via (fun k => XS.dup X7.here hx rfl (hb hby d5_33) rfl rfl (XS.iconst X7.here hx rfl (hb hby d5_34) (XS.lloadN X7.here hx rfl (hb hby d5_35) rfl  k))) ?_
  show own_Go p e below s _ _ (T7.setTop (mkF m 36 #[iv 2, jv q1, .second, jv q2, .second, jv q3, .second, jv q4, .second, jv q5, .second] [(.long q2), (.int 1), (.ref b1), (.ref b1)]))
  obtain ⟨cl12, Ar12, q12, S12, NN12, H12, G12⟩ := id B8
  have hin12 : ¬ ((1 : Int32) < 0 ∨ cl12.slots.size ≤ ((1 : Int32)).toNatClampNeg) := inb_of S12 ⟨by decide, by decide⟩
  obtain ⟨T12, h12, X12, e12, W12, st12⟩ := stJ X7 hx hZ e7 Ar12 (j := (1 : Int32)) hin12 (g := (mkF m 36 #[iv 2, jv q1, .second, jv q2, .second, jv q3, .second, jv q4, .second, jv q5, .second] [(.long q2), (.int 1), (.ref b1), (.ref b1)])) rfl rfl (hb hby d5_36)
  refine own_via (fun k => st12 _ k) ?_
  show own_Go p e below s _ _ (T12.setTop (mkF m 37 #[iv 2, jv q1, .second, jv q2, .second, jv q3, .second, jv q4, .second, jv q5, .second] [(.ref b1)]))
  have B13 : Arv Z h12 b1 k1 .long (2 : Int32) [(.long q1), (.long q2)] (.long 0) := Arv.set Ar12 q12 S12 NN12 H12 G12 rfl W12 1 rfl (Nat.le_of_ble_eq_true rfl)
  have N14 := Fr.snoc X12 N9 g2
  have K15 : Keep h0 h12 [] := K10.wr W12 (Or.inr sz3)
  have Z16 : n0 ≤ h12.size := Nat.le_trans Z11 (Keep.of_wr W12).1
  exact own_retA X12 hx hlk rfl (t := (.array .long)) Bd.returns rfl (hb hby d5_37) (Q := (Q5_2 Z q1 q2 q3 q4 q5 h0 n0)) ⟨b1, k1, rfl, N14, (by rw [e12]; exact K15), (by rw [e12]; exact B13), sz3⟩ (by decide) (by decide)
theorem d5_38 : decode method_5_code 38 = .ok (.iload_n 0, 1) := by decide +kernel
theorem d5_39 : decode method_5_code 39 = .ok (.iconst 3, 1) := by decide +kernel
theorem d5_40 : decode method_5_code 40 = .ok (.if_icmp .ne 20, 3) := by decide +kernel
theorem d5_43 : decode method_5_code 43 = .ok (.iconst 3, 1) := by decide +kernel
theorem d5_44 : decode method_5_code 44 = .ok (.newarray .long, 2) := by decide +kernel
theorem d5_46 : decode method_5_code 46 = .ok (.dup, 1) := by decide +kernel
theorem d5_47 : decode method_5_code 47 = .ok (.iconst 0, 1) := by decide +kernel
theorem d5_48 : decode method_5_code 48 = .ok (.lload_n 1, 1) := by decide +kernel
theorem d5_49 : decode method_5_code 49 = .ok (.lastore, 1) := by decide +kernel
theorem d5_50 : decode method_5_code 50 = .ok (.dup, 1) := by decide +kernel
theorem d5_51 : decode method_5_code 51 = .ok (.iconst 1, 1) := by decide +kernel
theorem d5_52 : decode method_5_code 52 = .ok (.lload_n 3, 1) := by decide +kernel
theorem d5_53 : decode method_5_code 53 = .ok (.lastore, 1) := by decide +kernel
theorem d5_54 : decode method_5_code 54 = .ok (.dup, 1) := by decide +kernel
theorem d5_55 : decode method_5_code 55 = .ok (.iconst 2, 1) := by decide +kernel
theorem d5_56 : decode method_5_code 56 = .ok (.lload 5, 2) := by decide +kernel
theorem d5_58 : decode method_5_code 58 = .ok (.lastore, 1) := by decide +kernel
theorem d5_59 : decode method_5_code 59 = .ok (.areturn, 1) := by decide +kernel
theorem ef_5_3 (m : MethodId) (x0 : Int32) (x1 : Int64) (x2 : Int64) (x3 : Int64) (x4 : Int64) (x5 : Int64) : entryFrame m #[(.int x0), (.long x1), (.long x2), (.long x3), (.long x4), (.long x5)] 11 = mkF m 0 #[iv x0, jv x1, .second, jv x2, .second, jv x3, .second, jv x4, .second, jv x5, .second] [] := by first | (simp [entryFrame, mkF, argsToLocals, Value.category]; done) | rfl
def Q5_3 (Z : State) (q1 : Int64) (q2 : Int64) (q3 : Int64) (q4 : Int64) (q5 : Int64) (h0 : Heap) (n0 : Nat) (v : Option Value) (h : Heap) (L : List Loc) : Prop := ∃ (b : Addr), ∃ (k : ClassId), v = some (.ref b) ∧ Fr n0 L ∧ Keep h0 h [] ∧ Arv Z h b k .long (3 : Int32) [(.long q1), (.long q2), (.long q3)] (.long 0) ∧ h0.size ≤ b
set_option maxRecDepth 65536 in
set_option maxHeartbeats 40000000 in
theorem rm5_3 (l : Launch) (Z : State) (aw : Array Value) (hw : ∀ d ∈ tables_1, d.before aw Z = true) (ws : List Jvm.Cond) (q1 : Int64) (q2 : Int64) (q3 : Int64) (q4 : Int64) (q5 : Int64) (h0 : Heap) (n0 : Nat) (Z0 : n0 ≤ h0.size)  :
    MetFree l (⟨"com/example/waveslot/waveslot/core/CheckerStepsRepeatedQuotientsPinLaw", "prefix", "(IJJJJJ)[J"⟩ : MethodName) (head1 (Jvm.Cond.code (⟨"com/example/waveslot/waveslot/core/CheckerStepsRepeatedQuotientsPinLaw", "prefix", "(IJJJJJ)[J"⟩ : MethodName) method_5_code 11 (some (.array .long)) :: ws) ({ frames := 0, cells := 1, slots := 3, locals := 0 } : Room)) (fun a U => a = #[(.int 3), (.long q1), (.long q2), (.long q3), (.long q4), (.long q5)] ∧ Z.Warmed39 U.vm ∧ U.heap = h0) (fun _ _ _ _ _ => True) (fun _ U o U' => ∃ v L, o = .returned v ∧ Q5_3 Z q1 q2 q3 q4 q5 h0 n0 v U'.heap L ∧ FrameEnd U o U' L ({ frames := 0, cells := 1, slots := 3, locals := 0 } : Room).cells ({ frames := 0, cells := 1, slots := 3, locals := 0 } : Room).slots) := by
  refine MetFree.of_bodySF (plainFor_of_name pn_5) hisR ?_
  intro p e s m args below meth c s₁ Bd hml0 hP hK
  obtain ⟨rfl, hZ, hh⟩ := hP
  have hx := Bd.exec
  have hby := Bd.bytes
  have hml : c.maxLocals = 11 := hml0
  have hown : s.vm.findClass "com/example/waveslot/waveslot/core/CheckerStepsRepeatedQuotientsPinLaw" = some m.cls := findClass_of_methodNamed Bd.named
  have hnm := (name_of_methodNamed Bd.named Bd.method).1
  have hlk : meth.locks = false := by first | exact BodyLoose.notSynchronized (by assumption) | exact Body.notSynchronized (by assumption)
  have X0 : Stand p l e ({ frames := 0, cells := 1, slots := 3, locals := 0 } : Room) s m #[(.int 3), (.long q1), (.long q2), (.long q3), (.long q4), (.long q5)] below meth c s₁ [] 0 0 := Stand.of_body Bd
  have e0 : s₁.heap = h0 := by rw [← hh, Bd.state]; rfl
  have N0 := Fr.nil n0
  have K0 : Keep h0 h0 [] := Keep.refl _ _
  refine own_start (CS := (1, 3)) (Q := (Q5_3 Z q1 q2 q3 q4 q5 h0 n0)) (ef_5_3 m (3 : Int32) q1 q2 q3 q4 q5) ?_
  show own_Go p e below s _ _ (s₁.setTop (mkF m 0 #[iv 3, jv q1, .second, jv q2, .second, jv q3, .second, jv q4, .second, jv q5, .second] []))
  refine own_via (fun k => XS.iloadN X0.here hx rfl (hb hby d5_0) rfl  k) ?_
  show own_Go p e below s _ _ (s₁.setTop (mkF m 1 #[iv 3, jv q1, .second, jv q2, .second, jv q3, .second, jv q4, .second, jv q5, .second] [(.int 3)]))
  refine own_via (fun k => XS.ifYes X0.here hx rfl (pc0 := 1) (pc' := 8) rfl (hb hby d5_1) rfl (by decide) (by decide) (by decide) k) ?_
  show own_Go p e below s _ _ (s₁.setTop (mkF m 8 #[iv 3, jv q1, .second, jv q2, .second, jv q3, .second, jv q4, .second, jv q5, .second] []))
  refine own_via (fun k => XS.iloadN X0.here hx rfl (hb hby d5_8) rfl  (XS.iconst X0.here hx rfl (hb hby d5_9) k)) ?_
  show own_Go p e below s _ _ (s₁.setTop (mkF m 10 #[iv 3, jv q1, .second, jv q2, .second, jv q3, .second, jv q4, .second, jv q5, .second] [(.int 1), (.int 3)]))
  refine own_via (fun k => XS.icmpYes X0.here hx rfl (pc0 := 10) (pc' := 21) rfl (hb hby d5_10) rfl (by decide) (by decide) (by decide) k) ?_
  show own_Go p e below s _ _ (s₁.setTop (mkF m 21 #[iv 3, jv q1, .second, jv q2, .second, jv q3, .second, jv q4, .second, jv q5, .second] []))
  refine own_via (fun k => XS.iloadN X0.here hx rfl (hb hby d5_21) rfl  (XS.iconst X0.here hx rfl (hb hby d5_22) k)) ?_
  show own_Go p e below s _ _ (s₁.setTop (mkF m 23 #[iv 3, jv q1, .second, jv q2, .second, jv q3, .second, jv q4, .second, jv q5, .second] [(.int 2), (.int 3)]))
  refine own_via (fun k => XS.icmpYes X0.here hx rfl (pc0 := 23) (pc' := 38) rfl (hb hby d5_23) rfl (by decide) (by decide) (by decide) k) ?_
  show own_Go p e below s _ _ (s₁.setTop (mkF m 38 #[iv 3, jv q1, .second, jv q2, .second, jv q3, .second, jv q4, .second, jv q5, .second] []))
  refine own_via (fun k => XS.iloadN X0.here hx rfl (hb hby d5_38) rfl  (XS.iconst X0.here hx rfl (hb hby d5_39) k)) ?_
  show own_Go p e below s _ _ (s₁.setTop (mkF m 40 #[iv 3, jv q1, .second, jv q2, .second, jv q3, .second, jv q4, .second, jv q5, .second] [(.int 3), (.int 3)]))
  refine own_via (fun k => XS.icmpNo X0.here hx rfl (hb hby d5_40) rfl (by decide) k) ?_
  show own_Go p e below s _ _ (s₁.setTop (mkF m 43 #[iv 3, jv q1, .second, jv q2, .second, jv q3, .second, jv q4, .second, jv q5, .second] []))
  refine own_via (fun k => XS.iconst X0.here hx rfl (hb hby d5_43) k) ?_
  show own_Go p e below s _ _ (s₁.setTop (mkF m 44 #[iv 3, jv q1, .second, jv q2, .second, jv q3, .second, jv q4, .second, jv q5, .second] [(.int 3)]))
  obtain ⟨T1, h1, k1, X1, e1, E1, A1, st1⟩ := newP X0 hx hZ (hw _ (List.mem_of_getElem? (i := 20) rfl)) e0 (g := (mkF m 44 #[iv 3, jv q1, .second, jv q2, .second, jv q3, .second, jv q4, .second, jv q5, .second] [(.int 3)])) rfl (hb hby d5_44) rfl (by decide) (cap := 3) (by decide) (by decide) (by decide) (by decide)
  obtain ⟨b1, g1⟩ : ∃ z, z = h0.size := ⟨_, rfl⟩
  rw [← g1] at A1 st1
  refine own_via (fun k => st1 _ k) ?_
  show own_Go p e below s _ _ (T1.setTop (mkF m 46 #[iv 3, jv q1, .second, jv q2, .second, jv q3, .second, jv q4, .second, jv q5, .second] [(.ref b1)]))
  have g2 : n0 ≤ b1 := Nat.le_trans Z0 (Nat.le_of_eq g1.symm)
  have sz3 : h0.size ≤ b1 := Nat.le_trans K0.1 (Nat.le_of_eq g1.symm)
  have K4 : Keep h0 h1 [] := K0.ext E1
  have Z5 : n0 ≤ h1.size := Nat.le_trans Z0 E1.1
  have B6 : Arv Z h1 b1 k1 .long (3 : Int32) [(.long 0), (.long 0), (.long 0)] (.long 0) := (Arv.new A1 (by decide)).pad (pad_rep [] (.long 0) 3)
  refine own_via (fun k => XS.dup X1.here hx rfl (hb hby d5_46) rfl rfl (XS.iconst X1.here hx rfl (hb hby d5_47) (XS.lloadN X1.here hx rfl (hb hby d5_48) rfl  k))) ?_
  show own_Go p e below s _ _ (T1.setTop (mkF m 49 #[iv 3, jv q1, .second, jv q2, .second, jv q3, .second, jv q4, .second, jv q5, .second] [(.long q1), (.int 0), (.ref b1), (.ref b1)]))
  obtain ⟨cl7, Ar7, q7, S7, NN7, H7, G7⟩ := id B6
  have hin7 : ¬ ((0 : Int32) < 0 ∨ cl7.slots.size ≤ ((0 : Int32)).toNatClampNeg) := inb_of S7 ⟨by decide, by decide⟩
  obtain ⟨T7, h7, X7, e7, W7, st7⟩ := stJ X1 hx hZ e1 Ar7 (j := (0 : Int32)) hin7 (g := (mkF m 49 #[iv 3, jv q1, .second, jv q2, .second, jv q3, .second, jv q4, .second, jv q5, .second] [(.long q1), (.int 0), (.ref b1), (.ref b1)])) rfl rfl (hb hby d5_49)
  refine own_via (fun k => st7 _ k) ?_
  show own_Go p e below s _ _ (T7.setTop (mkF m 50 #[iv 3, jv q1, .second, jv q2, .second, jv q3, .second, jv q4, .second, jv q5, .second] [(.ref b1)]))
  have B8 : Arv Z h7 b1 k1 .long (3 : Int32) [(.long q1), (.long 0), (.long 0)] (.long 0) := Arv.set Ar7 q7 S7 NN7 H7 G7 rfl W7 0 rfl (Nat.le_of_ble_eq_true rfl)
  have N9 := Fr.snoc X7 N0 g2
  have K10 : Keep h0 h7 [] := K4.wr W7 (Or.inr sz3)
  have Z11 : n0 ≤ h7.size := Nat.le_trans Z5 (Keep.of_wr W7).1
  refine own_via (fun k => XS.dup X7.here hx rfl (hb hby d5_50) rfl rfl (XS.iconst X7.here hx rfl (hb hby d5_51) (XS.lloadN X7.here hx rfl (hb hby d5_52) rfl  k))) ?_
  show own_Go p e below s _ _ (T7.setTop (mkF m 53 #[iv 3, jv q1, .second, jv q2, .second, jv q3, .second, jv q4, .second, jv q5, .second] [(.long q2), (.int 1), (.ref b1), (.ref b1)]))
  obtain ⟨cl12, Ar12, q12, S12, NN12, H12, G12⟩ := id B8
  have hin12 : ¬ ((1 : Int32) < 0 ∨ cl12.slots.size ≤ ((1 : Int32)).toNatClampNeg) := inb_of S12 ⟨by decide, by decide⟩
  obtain ⟨T12, h12, X12, e12, W12, st12⟩ := stJ X7 hx hZ e7 Ar12 (j := (1 : Int32)) hin12 (g := (mkF m 53 #[iv 3, jv q1, .second, jv q2, .second, jv q3, .second, jv q4, .second, jv q5, .second] [(.long q2), (.int 1), (.ref b1), (.ref b1)])) rfl rfl (hb hby d5_53)
  refine own_via (fun k => st12 _ k) ?_
  show own_Go p e below s _ _ (T12.setTop (mkF m 54 #[iv 3, jv q1, .second, jv q2, .second, jv q3, .second, jv q4, .second, jv q5, .second] [(.ref b1)]))
  have B13 : Arv Z h12 b1 k1 .long (3 : Int32) [(.long q1), (.long q2), (.long 0)] (.long 0) := Arv.set Ar12 q12 S12 NN12 H12 G12 rfl W12 1 rfl (Nat.le_of_ble_eq_true rfl)
  have N14 := Fr.snoc X12 N9 g2
  have K15 : Keep h0 h12 [] := K10.wr W12 (Or.inr sz3)
  have Z16 : n0 ≤ h12.size := Nat.le_trans Z11 (Keep.of_wr W12).1
  refine own_via (fun k => XS.dup X12.here hx rfl (hb hby d5_54) rfl rfl (XS.iconst X12.here hx rfl (hb hby d5_55) (XS.lload X12.here hx rfl (hb hby d5_56) rfl  k))) ?_
  show own_Go p e below s _ _ (T12.setTop (mkF m 58 #[iv 3, jv q1, .second, jv q2, .second, jv q3, .second, jv q4, .second, jv q5, .second] [(.long q3), (.int 2), (.ref b1), (.ref b1)]))
  obtain ⟨cl17, Ar17, q17, S17, NN17, H17, G17⟩ := id B13
  have hin17 : ¬ ((2 : Int32) < 0 ∨ cl17.slots.size ≤ ((2 : Int32)).toNatClampNeg) := inb_of S17 ⟨by decide, by decide⟩
  obtain ⟨T17, h17, X17, e17, W17, st17⟩ := stJ X12 hx hZ e12 Ar17 (j := (2 : Int32)) hin17 (g := (mkF m 58 #[iv 3, jv q1, .second, jv q2, .second, jv q3, .second, jv q4, .second, jv q5, .second] [(.long q3), (.int 2), (.ref b1), (.ref b1)])) rfl rfl (hb hby d5_58)
  refine own_via (fun k => st17 _ k) ?_
  show own_Go p e below s _ _ (T17.setTop (mkF m 59 #[iv 3, jv q1, .second, jv q2, .second, jv q3, .second, jv q4, .second, jv q5, .second] [(.ref b1)]))
  have B18 : Arv Z h17 b1 k1 .long (3 : Int32) [(.long q1), (.long q2), (.long q3)] (.long 0) := Arv.set Ar17 q17 S17 NN17 H17 G17 rfl W17 2 rfl (Nat.le_of_ble_eq_true rfl)
  have N19 := Fr.snoc X17 N14 g2
  have K20 : Keep h0 h17 [] := K15.wr W17 (Or.inr sz3)
  have Z21 : n0 ≤ h17.size := Nat.le_trans Z16 (Keep.of_wr W17).1
  exact own_retA X17 hx hlk rfl (t := (.array .long)) Bd.returns rfl (hb hby d5_59) (Q := (Q5_3 Z q1 q2 q3 q4 q5 h0 n0)) ⟨b1, k1, rfl, N19, (by rw [e17]; exact K20), (by rw [e17]; exact B18), sz3⟩ (by decide) (by decide)
theorem d5_60 : decode method_5_code 60 = .ok (.iload_n 0, 1) := by decide +kernel
theorem d5_61 : decode method_5_code 61 = .ok (.iconst 4, 1) := by decide +kernel
theorem d5_62 : decode method_5_code 62 = .ok (.if_icmp .ne 25, 3) := by decide +kernel
theorem d5_65 : decode method_5_code 65 = .ok (.iconst 4, 1) := by decide +kernel
theorem d5_66 : decode method_5_code 66 = .ok (.newarray .long, 2) := by decide +kernel
theorem d5_68 : decode method_5_code 68 = .ok (.dup, 1) := by decide +kernel
theorem d5_69 : decode method_5_code 69 = .ok (.iconst 0, 1) := by decide +kernel
theorem d5_70 : decode method_5_code 70 = .ok (.lload_n 1, 1) := by decide +kernel
theorem d5_71 : decode method_5_code 71 = .ok (.lastore, 1) := by decide +kernel
theorem d5_72 : decode method_5_code 72 = .ok (.dup, 1) := by decide +kernel
theorem d5_73 : decode method_5_code 73 = .ok (.iconst 1, 1) := by decide +kernel
theorem d5_74 : decode method_5_code 74 = .ok (.lload_n 3, 1) := by decide +kernel
theorem d5_75 : decode method_5_code 75 = .ok (.lastore, 1) := by decide +kernel
theorem d5_76 : decode method_5_code 76 = .ok (.dup, 1) := by decide +kernel
theorem d5_77 : decode method_5_code 77 = .ok (.iconst 2, 1) := by decide +kernel
theorem d5_78 : decode method_5_code 78 = .ok (.lload 5, 2) := by decide +kernel
theorem d5_80 : decode method_5_code 80 = .ok (.lastore, 1) := by decide +kernel
theorem d5_81 : decode method_5_code 81 = .ok (.dup, 1) := by decide +kernel
theorem d5_82 : decode method_5_code 82 = .ok (.iconst 3, 1) := by decide +kernel
theorem d5_83 : decode method_5_code 83 = .ok (.lload 7, 2) := by decide +kernel
theorem d5_85 : decode method_5_code 85 = .ok (.lastore, 1) := by decide +kernel
theorem d5_86 : decode method_5_code 86 = .ok (.areturn, 1) := by decide +kernel
theorem ef_5_4 (m : MethodId) (x0 : Int32) (x1 : Int64) (x2 : Int64) (x3 : Int64) (x4 : Int64) (x5 : Int64) : entryFrame m #[(.int x0), (.long x1), (.long x2), (.long x3), (.long x4), (.long x5)] 11 = mkF m 0 #[iv x0, jv x1, .second, jv x2, .second, jv x3, .second, jv x4, .second, jv x5, .second] [] := by first | (simp [entryFrame, mkF, argsToLocals, Value.category]; done) | rfl
def Q5_4 (Z : State) (q1 : Int64) (q2 : Int64) (q3 : Int64) (q4 : Int64) (q5 : Int64) (h0 : Heap) (n0 : Nat) (v : Option Value) (h : Heap) (L : List Loc) : Prop := ∃ (b : Addr), ∃ (k : ClassId), v = some (.ref b) ∧ Fr n0 L ∧ Keep h0 h [] ∧ Arv Z h b k .long (4 : Int32) [(.long q1), (.long q2), (.long q3), (.long q4)] (.long 0) ∧ h0.size ≤ b
set_option maxRecDepth 65536 in
set_option maxHeartbeats 40000000 in
theorem rm5_4 (l : Launch) (Z : State) (aw : Array Value) (hw : ∀ d ∈ tables_1, d.before aw Z = true) (ws : List Jvm.Cond) (q1 : Int64) (q2 : Int64) (q3 : Int64) (q4 : Int64) (q5 : Int64) (h0 : Heap) (n0 : Nat) (Z0 : n0 ≤ h0.size)  :
    MetFree l (⟨"com/example/waveslot/waveslot/core/CheckerStepsRepeatedQuotientsPinLaw", "prefix", "(IJJJJJ)[J"⟩ : MethodName) (head1 (Jvm.Cond.code (⟨"com/example/waveslot/waveslot/core/CheckerStepsRepeatedQuotientsPinLaw", "prefix", "(IJJJJJ)[J"⟩ : MethodName) method_5_code 11 (some (.array .long)) :: ws) ({ frames := 0, cells := 1, slots := 4, locals := 0 } : Room)) (fun a U => a = #[(.int 4), (.long q1), (.long q2), (.long q3), (.long q4), (.long q5)] ∧ Z.Warmed39 U.vm ∧ U.heap = h0) (fun _ _ _ _ _ => True) (fun _ U o U' => ∃ v L, o = .returned v ∧ Q5_4 Z q1 q2 q3 q4 q5 h0 n0 v U'.heap L ∧ FrameEnd U o U' L ({ frames := 0, cells := 1, slots := 4, locals := 0 } : Room).cells ({ frames := 0, cells := 1, slots := 4, locals := 0 } : Room).slots) := by
  refine MetFree.of_bodySF (plainFor_of_name pn_5) hisR ?_
  intro p e s m args below meth c s₁ Bd hml0 hP hK
  obtain ⟨rfl, hZ, hh⟩ := hP
  have hx := Bd.exec
  have hby := Bd.bytes
  have hml : c.maxLocals = 11 := hml0
  have hown : s.vm.findClass "com/example/waveslot/waveslot/core/CheckerStepsRepeatedQuotientsPinLaw" = some m.cls := findClass_of_methodNamed Bd.named
  have hnm := (name_of_methodNamed Bd.named Bd.method).1
  have hlk : meth.locks = false := by first | exact BodyLoose.notSynchronized (by assumption) | exact Body.notSynchronized (by assumption)
  have X0 : Stand p l e ({ frames := 0, cells := 1, slots := 4, locals := 0 } : Room) s m #[(.int 4), (.long q1), (.long q2), (.long q3), (.long q4), (.long q5)] below meth c s₁ [] 0 0 := Stand.of_body Bd
  have e0 : s₁.heap = h0 := by rw [← hh, Bd.state]; rfl
  have N0 := Fr.nil n0
  have K0 : Keep h0 h0 [] := Keep.refl _ _
  refine own_start (CS := (1, 4)) (Q := (Q5_4 Z q1 q2 q3 q4 q5 h0 n0)) (ef_5_4 m (4 : Int32) q1 q2 q3 q4 q5) ?_
  show own_Go p e below s _ _ (s₁.setTop (mkF m 0 #[iv 4, jv q1, .second, jv q2, .second, jv q3, .second, jv q4, .second, jv q5, .second] []))
  refine own_via (fun k => XS.iloadN X0.here hx rfl (hb hby d5_0) rfl  k) ?_
  show own_Go p e below s _ _ (s₁.setTop (mkF m 1 #[iv 4, jv q1, .second, jv q2, .second, jv q3, .second, jv q4, .second, jv q5, .second] [(.int 4)]))
  refine own_via (fun k => XS.ifYes X0.here hx rfl (pc0 := 1) (pc' := 8) rfl (hb hby d5_1) rfl (by decide) (by decide) (by decide) k) ?_
  show own_Go p e below s _ _ (s₁.setTop (mkF m 8 #[iv 4, jv q1, .second, jv q2, .second, jv q3, .second, jv q4, .second, jv q5, .second] []))
  refine own_via (fun k => XS.iloadN X0.here hx rfl (hb hby d5_8) rfl  (XS.iconst X0.here hx rfl (hb hby d5_9) k)) ?_
  show own_Go p e below s _ _ (s₁.setTop (mkF m 10 #[iv 4, jv q1, .second, jv q2, .second, jv q3, .second, jv q4, .second, jv q5, .second] [(.int 1), (.int 4)]))
  refine own_via (fun k => XS.icmpYes X0.here hx rfl (pc0 := 10) (pc' := 21) rfl (hb hby d5_10) rfl (by decide) (by decide) (by decide) k) ?_
  show own_Go p e below s _ _ (s₁.setTop (mkF m 21 #[iv 4, jv q1, .second, jv q2, .second, jv q3, .second, jv q4, .second, jv q5, .second] []))
  refine own_via (fun k => XS.iloadN X0.here hx rfl (hb hby d5_21) rfl  (XS.iconst X0.here hx rfl (hb hby d5_22) k)) ?_
  show own_Go p e below s _ _ (s₁.setTop (mkF m 23 #[iv 4, jv q1, .second, jv q2, .second, jv q3, .second, jv q4, .second, jv q5, .second] [(.int 2), (.int 4)]))
  refine own_via (fun k => XS.icmpYes X0.here hx rfl (pc0 := 23) (pc' := 38) rfl (hb hby d5_23) rfl (by decide) (by decide) (by decide) k) ?_
  show own_Go p e below s _ _ (s₁.setTop (mkF m 38 #[iv 4, jv q1, .second, jv q2, .second, jv q3, .second, jv q4, .second, jv q5, .second] []))
  refine own_via (fun k => XS.iloadN X0.here hx rfl (hb hby d5_38) rfl  (XS.iconst X0.here hx rfl (hb hby d5_39) k)) ?_
  show own_Go p e below s _ _ (s₁.setTop (mkF m 40 #[iv 4, jv q1, .second, jv q2, .second, jv q3, .second, jv q4, .second, jv q5, .second] [(.int 3), (.int 4)]))
  refine own_via (fun k => XS.icmpYes X0.here hx rfl (pc0 := 40) (pc' := 60) rfl (hb hby d5_40) rfl (by decide) (by decide) (by decide) k) ?_
  show own_Go p e below s _ _ (s₁.setTop (mkF m 60 #[iv 4, jv q1, .second, jv q2, .second, jv q3, .second, jv q4, .second, jv q5, .second] []))
  refine own_via (fun k => XS.iloadN X0.here hx rfl (hb hby d5_60) rfl  (XS.iconst X0.here hx rfl (hb hby d5_61) k)) ?_
  show own_Go p e below s _ _ (s₁.setTop (mkF m 62 #[iv 4, jv q1, .second, jv q2, .second, jv q3, .second, jv q4, .second, jv q5, .second] [(.int 4), (.int 4)]))
  refine own_via (fun k => XS.icmpNo X0.here hx rfl (hb hby d5_62) rfl (by decide) k) ?_
  show own_Go p e below s _ _ (s₁.setTop (mkF m 65 #[iv 4, jv q1, .second, jv q2, .second, jv q3, .second, jv q4, .second, jv q5, .second] []))
  refine own_via (fun k => XS.iconst X0.here hx rfl (hb hby d5_65) k) ?_
  show own_Go p e below s _ _ (s₁.setTop (mkF m 66 #[iv 4, jv q1, .second, jv q2, .second, jv q3, .second, jv q4, .second, jv q5, .second] [(.int 4)]))
  obtain ⟨T1, h1, k1, X1, e1, E1, A1, st1⟩ := newP X0 hx hZ (hw _ (List.mem_of_getElem? (i := 20) rfl)) e0 (g := (mkF m 66 #[iv 4, jv q1, .second, jv q2, .second, jv q3, .second, jv q4, .second, jv q5, .second] [(.int 4)])) rfl (hb hby d5_66) rfl (by decide) (cap := 4) (by decide) (by decide) (by decide) (by decide)
  obtain ⟨b1, g1⟩ : ∃ z, z = h0.size := ⟨_, rfl⟩
  rw [← g1] at A1 st1
  refine own_via (fun k => st1 _ k) ?_
  show own_Go p e below s _ _ (T1.setTop (mkF m 68 #[iv 4, jv q1, .second, jv q2, .second, jv q3, .second, jv q4, .second, jv q5, .second] [(.ref b1)]))
  have g2 : n0 ≤ b1 := Nat.le_trans Z0 (Nat.le_of_eq g1.symm)
  have sz3 : h0.size ≤ b1 := Nat.le_trans K0.1 (Nat.le_of_eq g1.symm)
  have K4 : Keep h0 h1 [] := K0.ext E1
  have Z5 : n0 ≤ h1.size := Nat.le_trans Z0 E1.1
  have B6 : Arv Z h1 b1 k1 .long (4 : Int32) [(.long 0), (.long 0), (.long 0), (.long 0)] (.long 0) := (Arv.new A1 (by decide)).pad (pad_rep [] (.long 0) 4)
  refine own_via (fun k => XS.dup X1.here hx rfl (hb hby d5_68) rfl rfl (XS.iconst X1.here hx rfl (hb hby d5_69) (XS.lloadN X1.here hx rfl (hb hby d5_70) rfl  k))) ?_
  show own_Go p e below s _ _ (T1.setTop (mkF m 71 #[iv 4, jv q1, .second, jv q2, .second, jv q3, .second, jv q4, .second, jv q5, .second] [(.long q1), (.int 0), (.ref b1), (.ref b1)]))
  obtain ⟨cl7, Ar7, q7, S7, NN7, H7, G7⟩ := id B6
  have hin7 : ¬ ((0 : Int32) < 0 ∨ cl7.slots.size ≤ ((0 : Int32)).toNatClampNeg) := inb_of S7 ⟨by decide, by decide⟩
  obtain ⟨T7, h7, X7, e7, W7, st7⟩ := stJ X1 hx hZ e1 Ar7 (j := (0 : Int32)) hin7 (g := (mkF m 71 #[iv 4, jv q1, .second, jv q2, .second, jv q3, .second, jv q4, .second, jv q5, .second] [(.long q1), (.int 0), (.ref b1), (.ref b1)])) rfl rfl (hb hby d5_71)
  refine own_via (fun k => st7 _ k) ?_
  show own_Go p e below s _ _ (T7.setTop (mkF m 72 #[iv 4, jv q1, .second, jv q2, .second, jv q3, .second, jv q4, .second, jv q5, .second] [(.ref b1)]))
  have B8 : Arv Z h7 b1 k1 .long (4 : Int32) [(.long q1), (.long 0), (.long 0), (.long 0)] (.long 0) := Arv.set Ar7 q7 S7 NN7 H7 G7 rfl W7 0 rfl (Nat.le_of_ble_eq_true rfl)
  have N9 := Fr.snoc X7 N0 g2
  have K10 : Keep h0 h7 [] := K4.wr W7 (Or.inr sz3)
  have Z11 : n0 ≤ h7.size := Nat.le_trans Z5 (Keep.of_wr W7).1
  refine own_via (fun k => XS.dup X7.here hx rfl (hb hby d5_72) rfl rfl (XS.iconst X7.here hx rfl (hb hby d5_73) (XS.lloadN X7.here hx rfl (hb hby d5_74) rfl  k))) ?_
  show own_Go p e below s _ _ (T7.setTop (mkF m 75 #[iv 4, jv q1, .second, jv q2, .second, jv q3, .second, jv q4, .second, jv q5, .second] [(.long q2), (.int 1), (.ref b1), (.ref b1)]))
  obtain ⟨cl12, Ar12, q12, S12, NN12, H12, G12⟩ := id B8
  have hin12 : ¬ ((1 : Int32) < 0 ∨ cl12.slots.size ≤ ((1 : Int32)).toNatClampNeg) := inb_of S12 ⟨by decide, by decide⟩
  obtain ⟨T12, h12, X12, e12, W12, st12⟩ := stJ X7 hx hZ e7 Ar12 (j := (1 : Int32)) hin12 (g := (mkF m 75 #[iv 4, jv q1, .second, jv q2, .second, jv q3, .second, jv q4, .second, jv q5, .second] [(.long q2), (.int 1), (.ref b1), (.ref b1)])) rfl rfl (hb hby d5_75)
  refine own_via (fun k => st12 _ k) ?_
  show own_Go p e below s _ _ (T12.setTop (mkF m 76 #[iv 4, jv q1, .second, jv q2, .second, jv q3, .second, jv q4, .second, jv q5, .second] [(.ref b1)]))
  have B13 : Arv Z h12 b1 k1 .long (4 : Int32) [(.long q1), (.long q2), (.long 0), (.long 0)] (.long 0) := Arv.set Ar12 q12 S12 NN12 H12 G12 rfl W12 1 rfl (Nat.le_of_ble_eq_true rfl)
  have N14 := Fr.snoc X12 N9 g2
  have K15 : Keep h0 h12 [] := K10.wr W12 (Or.inr sz3)
  have Z16 : n0 ≤ h12.size := Nat.le_trans Z11 (Keep.of_wr W12).1
  refine own_via (fun k => XS.dup X12.here hx rfl (hb hby d5_76) rfl rfl (XS.iconst X12.here hx rfl (hb hby d5_77) (XS.lload X12.here hx rfl (hb hby d5_78) rfl  k))) ?_
  show own_Go p e below s _ _ (T12.setTop (mkF m 80 #[iv 4, jv q1, .second, jv q2, .second, jv q3, .second, jv q4, .second, jv q5, .second] [(.long q3), (.int 2), (.ref b1), (.ref b1)]))
  obtain ⟨cl17, Ar17, q17, S17, NN17, H17, G17⟩ := id B13
  have hin17 : ¬ ((2 : Int32) < 0 ∨ cl17.slots.size ≤ ((2 : Int32)).toNatClampNeg) := inb_of S17 ⟨by decide, by decide⟩
  obtain ⟨T17, h17, X17, e17, W17, st17⟩ := stJ X12 hx hZ e12 Ar17 (j := (2 : Int32)) hin17 (g := (mkF m 80 #[iv 4, jv q1, .second, jv q2, .second, jv q3, .second, jv q4, .second, jv q5, .second] [(.long q3), (.int 2), (.ref b1), (.ref b1)])) rfl rfl (hb hby d5_80)
  refine own_via (fun k => st17 _ k) ?_
  show own_Go p e below s _ _ (T17.setTop (mkF m 81 #[iv 4, jv q1, .second, jv q2, .second, jv q3, .second, jv q4, .second, jv q5, .second] [(.ref b1)]))
  have B18 : Arv Z h17 b1 k1 .long (4 : Int32) [(.long q1), (.long q2), (.long q3), (.long 0)] (.long 0) := Arv.set Ar17 q17 S17 NN17 H17 G17 rfl W17 2 rfl (Nat.le_of_ble_eq_true rfl)
  have N19 := Fr.snoc X17 N14 g2
  have K20 : Keep h0 h17 [] := K15.wr W17 (Or.inr sz3)
  have Z21 : n0 ≤ h17.size := Nat.le_trans Z16 (Keep.of_wr W17).1
  refine own_via (fun k => XS.dup X17.here hx rfl (hb hby d5_81) rfl rfl (XS.iconst X17.here hx rfl (hb hby d5_82) (XS.lload X17.here hx rfl (hb hby d5_83) rfl  k))) ?_
  show own_Go p e below s _ _ (T17.setTop (mkF m 85 #[iv 4, jv q1, .second, jv q2, .second, jv q3, .second, jv q4, .second, jv q5, .second] [(.long q4), (.int 3), (.ref b1), (.ref b1)]))
  obtain ⟨cl22, Ar22, q22, S22, NN22, H22, G22⟩ := id B18
  have hin22 : ¬ ((3 : Int32) < 0 ∨ cl22.slots.size ≤ ((3 : Int32)).toNatClampNeg) := inb_of S22 ⟨by decide, by decide⟩
  obtain ⟨T22, h22, X22, e22, W22, st22⟩ := stJ X17 hx hZ e17 Ar22 (j := (3 : Int32)) hin22 (g := (mkF m 85 #[iv 4, jv q1, .second, jv q2, .second, jv q3, .second, jv q4, .second, jv q5, .second] [(.long q4), (.int 3), (.ref b1), (.ref b1)])) rfl rfl (hb hby d5_85)
  refine own_via (fun k => st22 _ k) ?_
  show own_Go p e below s _ _ (T22.setTop (mkF m 86 #[iv 4, jv q1, .second, jv q2, .second, jv q3, .second, jv q4, .second, jv q5, .second] [(.ref b1)]))
  have B23 : Arv Z h22 b1 k1 .long (4 : Int32) [(.long q1), (.long q2), (.long q3), (.long q4)] (.long 0) := Arv.set Ar22 q22 S22 NN22 H22 G22 rfl W22 3 rfl (Nat.le_of_ble_eq_true rfl)
  have N24 := Fr.snoc X22 N19 g2
  have K25 : Keep h0 h22 [] := K20.wr W22 (Or.inr sz3)
  have Z26 : n0 ≤ h22.size := Nat.le_trans Z21 (Keep.of_wr W22).1
  exact own_retA X22 hx hlk rfl (t := (.array .long)) Bd.returns rfl (hb hby d5_86) (Q := (Q5_4 Z q1 q2 q3 q4 q5 h0 n0)) ⟨b1, k1, rfl, N24, (by rw [e22]; exact K25), (by rw [e22]; exact B23), sz3⟩ (by decide) (by decide)
theorem d5_87 : decode method_5_code 87 = .ok (.iconst 5, 1) := by decide +kernel
theorem d5_88 : decode method_5_code 88 = .ok (.newarray .long, 2) := by decide +kernel
theorem d5_90 : decode method_5_code 90 = .ok (.dup, 1) := by decide +kernel
theorem d5_91 : decode method_5_code 91 = .ok (.iconst 0, 1) := by decide +kernel
theorem d5_92 : decode method_5_code 92 = .ok (.lload_n 1, 1) := by decide +kernel
theorem d5_93 : decode method_5_code 93 = .ok (.lastore, 1) := by decide +kernel
theorem d5_94 : decode method_5_code 94 = .ok (.dup, 1) := by decide +kernel
theorem d5_95 : decode method_5_code 95 = .ok (.iconst 1, 1) := by decide +kernel
theorem d5_96 : decode method_5_code 96 = .ok (.lload_n 3, 1) := by decide +kernel
theorem d5_97 : decode method_5_code 97 = .ok (.lastore, 1) := by decide +kernel
theorem d5_98 : decode method_5_code 98 = .ok (.dup, 1) := by decide +kernel
theorem d5_99 : decode method_5_code 99 = .ok (.iconst 2, 1) := by decide +kernel
theorem d5_100 : decode method_5_code 100 = .ok (.lload 5, 2) := by decide +kernel
theorem d5_102 : decode method_5_code 102 = .ok (.lastore, 1) := by decide +kernel
theorem d5_103 : decode method_5_code 103 = .ok (.dup, 1) := by decide +kernel
theorem d5_104 : decode method_5_code 104 = .ok (.iconst 3, 1) := by decide +kernel
theorem d5_105 : decode method_5_code 105 = .ok (.lload 7, 2) := by decide +kernel
theorem d5_107 : decode method_5_code 107 = .ok (.lastore, 1) := by decide +kernel
theorem d5_108 : decode method_5_code 108 = .ok (.dup, 1) := by decide +kernel
theorem d5_109 : decode method_5_code 109 = .ok (.iconst 4, 1) := by decide +kernel
theorem d5_110 : decode method_5_code 110 = .ok (.lload 9, 2) := by decide +kernel
theorem d5_112 : decode method_5_code 112 = .ok (.lastore, 1) := by decide +kernel
theorem d5_113 : decode method_5_code 113 = .ok (.areturn, 1) := by decide +kernel
theorem ef_5_5 (m : MethodId) (x0 : Int32) (x1 : Int64) (x2 : Int64) (x3 : Int64) (x4 : Int64) (x5 : Int64) : entryFrame m #[(.int x0), (.long x1), (.long x2), (.long x3), (.long x4), (.long x5)] 11 = mkF m 0 #[iv x0, jv x1, .second, jv x2, .second, jv x3, .second, jv x4, .second, jv x5, .second] [] := by first | (simp [entryFrame, mkF, argsToLocals, Value.category]; done) | rfl
def Q5_5 (Z : State) (q1 : Int64) (q2 : Int64) (q3 : Int64) (q4 : Int64) (q5 : Int64) (h0 : Heap) (n0 : Nat) (v : Option Value) (h : Heap) (L : List Loc) : Prop := ∃ (b : Addr), ∃ (k : ClassId), v = some (.ref b) ∧ Fr n0 L ∧ Keep h0 h [] ∧ Arv Z h b k .long (5 : Int32) [(.long q1), (.long q2), (.long q3), (.long q4), (.long q5)] (.long 0) ∧ h0.size ≤ b
set_option maxRecDepth 65536 in
set_option maxHeartbeats 40000000 in
theorem rm5_5 (l : Launch) (Z : State) (aw : Array Value) (hw : ∀ d ∈ tables_1, d.before aw Z = true) (ws : List Jvm.Cond) (q1 : Int64) (q2 : Int64) (q3 : Int64) (q4 : Int64) (q5 : Int64) (h0 : Heap) (n0 : Nat) (Z0 : n0 ≤ h0.size)  :
    MetFree l (⟨"com/example/waveslot/waveslot/core/CheckerStepsRepeatedQuotientsPinLaw", "prefix", "(IJJJJJ)[J"⟩ : MethodName) (head1 (Jvm.Cond.code (⟨"com/example/waveslot/waveslot/core/CheckerStepsRepeatedQuotientsPinLaw", "prefix", "(IJJJJJ)[J"⟩ : MethodName) method_5_code 11 (some (.array .long)) :: ws) ({ frames := 0, cells := 1, slots := 5, locals := 0 } : Room)) (fun a U => a = #[(.int 5), (.long q1), (.long q2), (.long q3), (.long q4), (.long q5)] ∧ Z.Warmed39 U.vm ∧ U.heap = h0) (fun _ _ _ _ _ => True) (fun _ U o U' => ∃ v L, o = .returned v ∧ Q5_5 Z q1 q2 q3 q4 q5 h0 n0 v U'.heap L ∧ FrameEnd U o U' L ({ frames := 0, cells := 1, slots := 5, locals := 0 } : Room).cells ({ frames := 0, cells := 1, slots := 5, locals := 0 } : Room).slots) := by
  refine MetFree.of_bodySF (plainFor_of_name pn_5) hisR ?_
  intro p e s m args below meth c s₁ Bd hml0 hP hK
  obtain ⟨rfl, hZ, hh⟩ := hP
  have hx := Bd.exec
  have hby := Bd.bytes
  have hml : c.maxLocals = 11 := hml0
  have hown : s.vm.findClass "com/example/waveslot/waveslot/core/CheckerStepsRepeatedQuotientsPinLaw" = some m.cls := findClass_of_methodNamed Bd.named
  have hnm := (name_of_methodNamed Bd.named Bd.method).1
  have hlk : meth.locks = false := by first | exact BodyLoose.notSynchronized (by assumption) | exact Body.notSynchronized (by assumption)
  have X0 : Stand p l e ({ frames := 0, cells := 1, slots := 5, locals := 0 } : Room) s m #[(.int 5), (.long q1), (.long q2), (.long q3), (.long q4), (.long q5)] below meth c s₁ [] 0 0 := Stand.of_body Bd
  have e0 : s₁.heap = h0 := by rw [← hh, Bd.state]; rfl
  have N0 := Fr.nil n0
  have K0 : Keep h0 h0 [] := Keep.refl _ _
  refine own_start (CS := (1, 5)) (Q := (Q5_5 Z q1 q2 q3 q4 q5 h0 n0)) (ef_5_5 m (5 : Int32) q1 q2 q3 q4 q5) ?_
  show own_Go p e below s _ _ (s₁.setTop (mkF m 0 #[iv 5, jv q1, .second, jv q2, .second, jv q3, .second, jv q4, .second, jv q5, .second] []))
  refine own_via (fun k => XS.iloadN X0.here hx rfl (hb hby d5_0) rfl  k) ?_
  show own_Go p e below s _ _ (s₁.setTop (mkF m 1 #[iv 5, jv q1, .second, jv q2, .second, jv q3, .second, jv q4, .second, jv q5, .second] [(.int 5)]))
  refine own_via (fun k => XS.ifYes X0.here hx rfl (pc0 := 1) (pc' := 8) rfl (hb hby d5_1) rfl (by decide) (by decide) (by decide) k) ?_
  show own_Go p e below s _ _ (s₁.setTop (mkF m 8 #[iv 5, jv q1, .second, jv q2, .second, jv q3, .second, jv q4, .second, jv q5, .second] []))
  refine own_via (fun k => XS.iloadN X0.here hx rfl (hb hby d5_8) rfl  (XS.iconst X0.here hx rfl (hb hby d5_9) k)) ?_
  show own_Go p e below s _ _ (s₁.setTop (mkF m 10 #[iv 5, jv q1, .second, jv q2, .second, jv q3, .second, jv q4, .second, jv q5, .second] [(.int 1), (.int 5)]))
  refine own_via (fun k => XS.icmpYes X0.here hx rfl (pc0 := 10) (pc' := 21) rfl (hb hby d5_10) rfl (by decide) (by decide) (by decide) k) ?_
  show own_Go p e below s _ _ (s₁.setTop (mkF m 21 #[iv 5, jv q1, .second, jv q2, .second, jv q3, .second, jv q4, .second, jv q5, .second] []))
  refine own_via (fun k => XS.iloadN X0.here hx rfl (hb hby d5_21) rfl  (XS.iconst X0.here hx rfl (hb hby d5_22) k)) ?_
  show own_Go p e below s _ _ (s₁.setTop (mkF m 23 #[iv 5, jv q1, .second, jv q2, .second, jv q3, .second, jv q4, .second, jv q5, .second] [(.int 2), (.int 5)]))
  refine own_via (fun k => XS.icmpYes X0.here hx rfl (pc0 := 23) (pc' := 38) rfl (hb hby d5_23) rfl (by decide) (by decide) (by decide) k) ?_
  show own_Go p e below s _ _ (s₁.setTop (mkF m 38 #[iv 5, jv q1, .second, jv q2, .second, jv q3, .second, jv q4, .second, jv q5, .second] []))
  refine own_via (fun k => XS.iloadN X0.here hx rfl (hb hby d5_38) rfl  (XS.iconst X0.here hx rfl (hb hby d5_39) k)) ?_
  show own_Go p e below s _ _ (s₁.setTop (mkF m 40 #[iv 5, jv q1, .second, jv q2, .second, jv q3, .second, jv q4, .second, jv q5, .second] [(.int 3), (.int 5)]))
  refine own_via (fun k => XS.icmpYes X0.here hx rfl (pc0 := 40) (pc' := 60) rfl (hb hby d5_40) rfl (by decide) (by decide) (by decide) k) ?_
  show own_Go p e below s _ _ (s₁.setTop (mkF m 60 #[iv 5, jv q1, .second, jv q2, .second, jv q3, .second, jv q4, .second, jv q5, .second] []))
  refine own_via (fun k => XS.iloadN X0.here hx rfl (hb hby d5_60) rfl  (XS.iconst X0.here hx rfl (hb hby d5_61) k)) ?_
  show own_Go p e below s _ _ (s₁.setTop (mkF m 62 #[iv 5, jv q1, .second, jv q2, .second, jv q3, .second, jv q4, .second, jv q5, .second] [(.int 4), (.int 5)]))
  refine own_via (fun k => XS.icmpYes X0.here hx rfl (pc0 := 62) (pc' := 87) rfl (hb hby d5_62) rfl (by decide) (by decide) (by decide) k) ?_
  show own_Go p e below s _ _ (s₁.setTop (mkF m 87 #[iv 5, jv q1, .second, jv q2, .second, jv q3, .second, jv q4, .second, jv q5, .second] []))
  refine own_via (fun k => XS.iconst X0.here hx rfl (hb hby d5_87) k) ?_
  show own_Go p e below s _ _ (s₁.setTop (mkF m 88 #[iv 5, jv q1, .second, jv q2, .second, jv q3, .second, jv q4, .second, jv q5, .second] [(.int 5)]))
  obtain ⟨T1, h1, k1, X1, e1, E1, A1, st1⟩ := newP X0 hx hZ (hw _ (List.mem_of_getElem? (i := 20) rfl)) e0 (g := (mkF m 88 #[iv 5, jv q1, .second, jv q2, .second, jv q3, .second, jv q4, .second, jv q5, .second] [(.int 5)])) rfl (hb hby d5_88) rfl (by decide) (cap := 5) (by decide) (by decide) (by decide) (by decide)
  obtain ⟨b1, g1⟩ : ∃ z, z = h0.size := ⟨_, rfl⟩
  rw [← g1] at A1 st1
  refine own_via (fun k => st1 _ k) ?_
  show own_Go p e below s _ _ (T1.setTop (mkF m 90 #[iv 5, jv q1, .second, jv q2, .second, jv q3, .second, jv q4, .second, jv q5, .second] [(.ref b1)]))
  have g2 : n0 ≤ b1 := Nat.le_trans Z0 (Nat.le_of_eq g1.symm)
  have sz3 : h0.size ≤ b1 := Nat.le_trans K0.1 (Nat.le_of_eq g1.symm)
  have K4 : Keep h0 h1 [] := K0.ext E1
  have Z5 : n0 ≤ h1.size := Nat.le_trans Z0 E1.1
  have B6 : Arv Z h1 b1 k1 .long (5 : Int32) [(.long 0), (.long 0), (.long 0), (.long 0), (.long 0)] (.long 0) := (Arv.new A1 (by decide)).pad (pad_rep [] (.long 0) 5)
  refine own_via (fun k => XS.dup X1.here hx rfl (hb hby d5_90) rfl rfl (XS.iconst X1.here hx rfl (hb hby d5_91) (XS.lloadN X1.here hx rfl (hb hby d5_92) rfl  k))) ?_
  show own_Go p e below s _ _ (T1.setTop (mkF m 93 #[iv 5, jv q1, .second, jv q2, .second, jv q3, .second, jv q4, .second, jv q5, .second] [(.long q1), (.int 0), (.ref b1), (.ref b1)]))
  obtain ⟨cl7, Ar7, q7, S7, NN7, H7, G7⟩ := id B6
  have hin7 : ¬ ((0 : Int32) < 0 ∨ cl7.slots.size ≤ ((0 : Int32)).toNatClampNeg) := inb_of S7 ⟨by decide, by decide⟩
  obtain ⟨T7, h7, X7, e7, W7, st7⟩ := stJ X1 hx hZ e1 Ar7 (j := (0 : Int32)) hin7 (g := (mkF m 93 #[iv 5, jv q1, .second, jv q2, .second, jv q3, .second, jv q4, .second, jv q5, .second] [(.long q1), (.int 0), (.ref b1), (.ref b1)])) rfl rfl (hb hby d5_93)
  refine own_via (fun k => st7 _ k) ?_
  show own_Go p e below s _ _ (T7.setTop (mkF m 94 #[iv 5, jv q1, .second, jv q2, .second, jv q3, .second, jv q4, .second, jv q5, .second] [(.ref b1)]))
  have B8 : Arv Z h7 b1 k1 .long (5 : Int32) [(.long q1), (.long 0), (.long 0), (.long 0), (.long 0)] (.long 0) := Arv.set Ar7 q7 S7 NN7 H7 G7 rfl W7 0 rfl (Nat.le_of_ble_eq_true rfl)
  have N9 := Fr.snoc X7 N0 g2
  have K10 : Keep h0 h7 [] := K4.wr W7 (Or.inr sz3)
  have Z11 : n0 ≤ h7.size := Nat.le_trans Z5 (Keep.of_wr W7).1
  refine own_via (fun k => XS.dup X7.here hx rfl (hb hby d5_94) rfl rfl (XS.iconst X7.here hx rfl (hb hby d5_95) (XS.lloadN X7.here hx rfl (hb hby d5_96) rfl  k))) ?_
  show own_Go p e below s _ _ (T7.setTop (mkF m 97 #[iv 5, jv q1, .second, jv q2, .second, jv q3, .second, jv q4, .second, jv q5, .second] [(.long q2), (.int 1), (.ref b1), (.ref b1)]))
  obtain ⟨cl12, Ar12, q12, S12, NN12, H12, G12⟩ := id B8
  have hin12 : ¬ ((1 : Int32) < 0 ∨ cl12.slots.size ≤ ((1 : Int32)).toNatClampNeg) := inb_of S12 ⟨by decide, by decide⟩
  obtain ⟨T12, h12, X12, e12, W12, st12⟩ := stJ X7 hx hZ e7 Ar12 (j := (1 : Int32)) hin12 (g := (mkF m 97 #[iv 5, jv q1, .second, jv q2, .second, jv q3, .second, jv q4, .second, jv q5, .second] [(.long q2), (.int 1), (.ref b1), (.ref b1)])) rfl rfl (hb hby d5_97)
  refine own_via (fun k => st12 _ k) ?_
  show own_Go p e below s _ _ (T12.setTop (mkF m 98 #[iv 5, jv q1, .second, jv q2, .second, jv q3, .second, jv q4, .second, jv q5, .second] [(.ref b1)]))
  have B13 : Arv Z h12 b1 k1 .long (5 : Int32) [(.long q1), (.long q2), (.long 0), (.long 0), (.long 0)] (.long 0) := Arv.set Ar12 q12 S12 NN12 H12 G12 rfl W12 1 rfl (Nat.le_of_ble_eq_true rfl)
  have N14 := Fr.snoc X12 N9 g2
  have K15 : Keep h0 h12 [] := K10.wr W12 (Or.inr sz3)
  have Z16 : n0 ≤ h12.size := Nat.le_trans Z11 (Keep.of_wr W12).1
  refine own_via (fun k => XS.dup X12.here hx rfl (hb hby d5_98) rfl rfl (XS.iconst X12.here hx rfl (hb hby d5_99) (XS.lload X12.here hx rfl (hb hby d5_100) rfl  k))) ?_
  show own_Go p e below s _ _ (T12.setTop (mkF m 102 #[iv 5, jv q1, .second, jv q2, .second, jv q3, .second, jv q4, .second, jv q5, .second] [(.long q3), (.int 2), (.ref b1), (.ref b1)]))
  obtain ⟨cl17, Ar17, q17, S17, NN17, H17, G17⟩ := id B13
  have hin17 : ¬ ((2 : Int32) < 0 ∨ cl17.slots.size ≤ ((2 : Int32)).toNatClampNeg) := inb_of S17 ⟨by decide, by decide⟩
  obtain ⟨T17, h17, X17, e17, W17, st17⟩ := stJ X12 hx hZ e12 Ar17 (j := (2 : Int32)) hin17 (g := (mkF m 102 #[iv 5, jv q1, .second, jv q2, .second, jv q3, .second, jv q4, .second, jv q5, .second] [(.long q3), (.int 2), (.ref b1), (.ref b1)])) rfl rfl (hb hby d5_102)
  refine own_via (fun k => st17 _ k) ?_
  show own_Go p e below s _ _ (T17.setTop (mkF m 103 #[iv 5, jv q1, .second, jv q2, .second, jv q3, .second, jv q4, .second, jv q5, .second] [(.ref b1)]))
  have B18 : Arv Z h17 b1 k1 .long (5 : Int32) [(.long q1), (.long q2), (.long q3), (.long 0), (.long 0)] (.long 0) := Arv.set Ar17 q17 S17 NN17 H17 G17 rfl W17 2 rfl (Nat.le_of_ble_eq_true rfl)
  have N19 := Fr.snoc X17 N14 g2
  have K20 : Keep h0 h17 [] := K15.wr W17 (Or.inr sz3)
  have Z21 : n0 ≤ h17.size := Nat.le_trans Z16 (Keep.of_wr W17).1
  refine own_via (fun k => XS.dup X17.here hx rfl (hb hby d5_103) rfl rfl (XS.iconst X17.here hx rfl (hb hby d5_104) (XS.lload X17.here hx rfl (hb hby d5_105) rfl  k))) ?_
  show own_Go p e below s _ _ (T17.setTop (mkF m 107 #[iv 5, jv q1, .second, jv q2, .second, jv q3, .second, jv q4, .second, jv q5, .second] [(.long q4), (.int 3), (.ref b1), (.ref b1)]))
  obtain ⟨cl22, Ar22, q22, S22, NN22, H22, G22⟩ := id B18
  have hin22 : ¬ ((3 : Int32) < 0 ∨ cl22.slots.size ≤ ((3 : Int32)).toNatClampNeg) := inb_of S22 ⟨by decide, by decide⟩
  obtain ⟨T22, h22, X22, e22, W22, st22⟩ := stJ X17 hx hZ e17 Ar22 (j := (3 : Int32)) hin22 (g := (mkF m 107 #[iv 5, jv q1, .second, jv q2, .second, jv q3, .second, jv q4, .second, jv q5, .second] [(.long q4), (.int 3), (.ref b1), (.ref b1)])) rfl rfl (hb hby d5_107)
  refine own_via (fun k => st22 _ k) ?_
  show own_Go p e below s _ _ (T22.setTop (mkF m 108 #[iv 5, jv q1, .second, jv q2, .second, jv q3, .second, jv q4, .second, jv q5, .second] [(.ref b1)]))
  have B23 : Arv Z h22 b1 k1 .long (5 : Int32) [(.long q1), (.long q2), (.long q3), (.long q4), (.long 0)] (.long 0) := Arv.set Ar22 q22 S22 NN22 H22 G22 rfl W22 3 rfl (Nat.le_of_ble_eq_true rfl)
  have N24 := Fr.snoc X22 N19 g2
  have K25 : Keep h0 h22 [] := K20.wr W22 (Or.inr sz3)
  have Z26 : n0 ≤ h22.size := Nat.le_trans Z21 (Keep.of_wr W22).1
  refine own_via (fun k => XS.dup X22.here hx rfl (hb hby d5_108) rfl rfl (XS.iconst X22.here hx rfl (hb hby d5_109) (XS.lload X22.here hx rfl (hb hby d5_110) rfl  k))) ?_
  show own_Go p e below s _ _ (T22.setTop (mkF m 112 #[iv 5, jv q1, .second, jv q2, .second, jv q3, .second, jv q4, .second, jv q5, .second] [(.long q5), (.int 4), (.ref b1), (.ref b1)]))
  obtain ⟨cl27, Ar27, q27, S27, NN27, H27, G27⟩ := id B23
  have hin27 : ¬ ((4 : Int32) < 0 ∨ cl27.slots.size ≤ ((4 : Int32)).toNatClampNeg) := inb_of S27 ⟨by decide, by decide⟩
  obtain ⟨T27, h27, X27, e27, W27, st27⟩ := stJ X22 hx hZ e22 Ar27 (j := (4 : Int32)) hin27 (g := (mkF m 112 #[iv 5, jv q1, .second, jv q2, .second, jv q3, .second, jv q4, .second, jv q5, .second] [(.long q5), (.int 4), (.ref b1), (.ref b1)])) rfl rfl (hb hby d5_112)
  refine own_via (fun k => st27 _ k) ?_
  show own_Go p e below s _ _ (T27.setTop (mkF m 113 #[iv 5, jv q1, .second, jv q2, .second, jv q3, .second, jv q4, .second, jv q5, .second] [(.ref b1)]))
  have B28 : Arv Z h27 b1 k1 .long (5 : Int32) [(.long q1), (.long q2), (.long q3), (.long q4), (.long q5)] (.long 0) := Arv.set Ar27 q27 S27 NN27 H27 G27 rfl W27 4 rfl (Nat.le_of_ble_eq_true rfl)
  have N29 := Fr.snoc X27 N24 g2
  have K30 : Keep h0 h27 [] := K25.wr W27 (Or.inr sz3)
  have Z31 : n0 ≤ h27.size := Nat.le_trans Z26 (Keep.of_wr W27).1
  exact own_retA X27 hx hlk rfl (t := (.array .long)) Bd.returns rfl (hb hby d5_113) (Q := (Q5_5 Z q1 q2 q3 q4 q5 h0 n0)) ⟨b1, k1, rfl, N29, (by rw [e27]; exact K30), (by rw [e27]; exact B28), sz3⟩ (by decide) (by decide)
theorem d6_0 : decode prog_11_method_4_code 0 = .ok (.lconst 0, 1) := by decide +kernel
theorem d6_1 : decode prog_11_method_4_code 1 = .ok (.lstore_n 2, 1) := by decide +kernel
theorem d6_2 : decode prog_11_method_4_code 2 = .ok (.iconst 1, 1) := by decide +kernel
theorem d6_3 : decode prog_11_method_4_code 3 = .ok (.istore 4, 2) := by decide +kernel
theorem d6_5 : decode prog_11_method_4_code 5 = .ok (.iload 4, 2) := by decide +kernel
theorem d6_7 : decode prog_11_method_4_code 7 = .ok (.aload_n 0, 1) := by decide +kernel
theorem d6_8 : decode prog_11_method_4_code 8 = .ok (.arraylength, 1) := by decide +kernel
theorem d6_9 : decode prog_11_method_4_code 9 = .ok (.if_icmp .ge 58, 3) := by decide +kernel
theorem d6_67 : decode prog_11_method_4_code 67 = .ok (.lload_n 2, 1) := by decide +kernel
theorem d6_68 : decode prog_11_method_4_code 68 = .ok (.lreturn, 1) := by decide +kernel
theorem pn_6 : plainName "com/example/waveslot/waveslot/core/CheckerSteps" = true := by first | (simp [plainName, overriddenIn]; done) | decide +kernel
theorem ef_6_0 (m : MethodId) (x0 : Addr) (x1 : Int32) : entryFrame m #[(.ref x0), (.int x1)] 7 = mkF m 0 #[rv x0, iv x1, .unset, .unset, .unset, .unset, .unset] [] := by first | (simp [entryFrame, mkF, argsToLocals, Value.category]; done) | rfl
def own_f6_0  : Int64 := (0 : Int64)
def Q6_0 (Z : State) (a0 : Addr) (p1 : Int32) (k : ClassId) (h0 : Heap) (n0 : Nat) (v : Option Value) (h : Heap) (L : List Loc) : Prop := v = some (.long own_f6_0) ∧ Fr n0 L ∧ h = h0
set_option maxRecDepth 65536 in
set_option maxHeartbeats 40000000 in
theorem rm6_0 (l : Launch) (Z : State) (aw : Array Value) (hw : ∀ d ∈ tables_1, d.before aw Z = true) (ws : List Jvm.Cond) (a0 : Addr) (p1 : Int32) (k : ClassId) (h0 : Heap) (n0 : Nat) (Z0 : n0 ≤ h0.size) (P0 : Arv Z h0 a0 k .long (0 : Int32) [] (.long 0)) (hn : ¬ ((p1.toInt64) = (0 : Int64))) :
    MetFree l (⟨"com/example/waveslot/waveslot/core/CheckerSteps", "repeatedQuotients", "([JI)J"⟩ : MethodName) (head1 (Jvm.Cond.code (⟨"com/example/waveslot/waveslot/core/CheckerSteps", "repeatedQuotients", "([JI)J"⟩ : MethodName) prog_11_method_4_code 7 (some .long) :: ws) ({ frames := 0, cells := 0, slots := 0, locals := 0 } : Room)) (fun a U => a = #[(.ref a0), (.int p1)] ∧ Z.Warmed39 U.vm ∧ U.heap = h0) (fun _ _ _ _ _ => True) (fun _ U o U' => ∃ v L, o = .returned v ∧ Q6_0 Z a0 p1 k h0 n0 v U'.heap L ∧ FrameEnd U o U' L ({ frames := 0, cells := 0, slots := 0, locals := 0 } : Room).cells ({ frames := 0, cells := 0, slots := 0, locals := 0 } : Room).slots) := by
  refine MetFree.of_bodySF (plainFor_of_name pn_6) hisR ?_
  intro p e s m args below meth c s₁ Bd hml0 hP hK
  obtain ⟨rfl, hZ, hh⟩ := hP
  have hx := Bd.exec
  have hby := Bd.bytes
  have hml : c.maxLocals = 7 := hml0
  have hown : s.vm.findClass "com/example/waveslot/waveslot/core/CheckerSteps" = some m.cls := findClass_of_methodNamed Bd.named
  have hnm := (name_of_methodNamed Bd.named Bd.method).1
  have hlk : meth.locks = false := by first | exact BodyLoose.notSynchronized (by assumption) | exact Body.notSynchronized (by assumption)
  have X0 : Stand p l e ({ frames := 0, cells := 0, slots := 0, locals := 0 } : Room) s m #[(.ref a0), (.int p1)] below meth c s₁ [] 0 0 := Stand.of_body Bd
  have e0 : s₁.heap = h0 := by rw [← hh, Bd.state]; rfl
  have N0 := Fr.nil n0
  have K0 : Keep h0 h0 [] := Keep.refl _ _
  refine own_start (CS := (0, 0)) (Q := (Q6_0 Z a0 p1 k h0 n0)) (ef_6_0 m a0 p1) ?_
  show own_Go p e below s _ _ (s₁.setTop (mkF m 0 #[rv a0, iv p1, .unset, .unset, .unset, .unset, .unset] []))
  refine own_via (fun k => XS.lconst X0.here hx rfl (hb hby d6_0) (XS.lstoreN X0.here hx rfl (hb hby d6_1) rfl (l' := #[rv a0, iv p1, jv 0, .second, .unset, .unset, .unset]) rfl (XS.iconst X0.here hx rfl (hb hby d6_2) (XS.istore X0.here hx rfl (hb hby d6_3) rfl (l' := #[rv a0, iv p1, jv 0, .second, iv 1, .unset, .unset]) rfl k)))) ?_
  show own_Go p e below s _ _ (s₁.setTop (mkF m 5 #[rv a0, iv p1, jv 0, .second, iv 1, .unset, .unset] []))
  refine own_via (fun k => XS.iload X0.here hx rfl (hb hby d6_5) rfl  (XS.aloadN X0.here hx rfl (hb hby d6_7) rfl rfl  k)) ?_
  show own_Go p e below s _ _ (s₁.setTop (mkF m 8 #[rv a0, iv p1, jv 0, .second, iv 1, .unset, .unset] [(.ref a0), (.int 1)]))
  obtain ⟨cl1, Ar1, -, S1, NN1, -, -⟩ := id P0
  refine own_via (fun k => X0.arraylength hx (by rw [e0]; exact Ar1.1) (State.isArrayOf_alike hZ.alike Ar1.2.1) (g := (mkF m 8 #[rv a0, iv p1, jv 0, .second, iv 1, .unset, .unset] [(.ref a0), (.int 1)])) rfl rfl (hb hby d6_8) _ k) ?_
  rw [len_of S1 NN1]
  show own_Go p e below s _ _ (s₁.setTop (mkF m 9 #[rv a0, iv p1, jv 0, .second, iv 1, .unset, .unset] [(.int 0), (.int 1)]))
  refine own_via (fun k => XS.icmpYes X0.here hx rfl (pc0 := 9) (pc' := 67) rfl (hb hby d6_9) rfl (by decide) (by decide) (by decide) k) ?_
  show own_Go p e below s _ _ (s₁.setTop (mkF m 67 #[rv a0, iv p1, jv 0, .second, iv 1, .unset, .unset] []))
  refine own_via (fun k => XS.lloadN X0.here hx rfl (hb hby d6_67) rfl  k) ?_
  show own_Go p e below s _ _ (s₁.setTop (mkF m 68 #[rv a0, iv p1, jv 0, .second, iv 1, .unset, .unset] [(.long 0)]))
  exact own_retL X0 hx hlk Bd.returns (hb hby d6_68) (Q := (Q6_0 Z a0 p1 k h0 n0)) ⟨(congrArg (fun z => some (Value.long z)) (show (0 : Int64) = own_f6_0 from rfl)), N0, e0⟩ (by decide) (by decide)
theorem ef_6_1 (m : MethodId) (x0 : Addr) (x1 : Int32) : entryFrame m #[(.ref x0), (.int x1)] 7 = mkF m 0 #[rv x0, iv x1, .unset, .unset, .unset, .unset, .unset] [] := by first | (simp [entryFrame, mkF, argsToLocals, Value.category]; done) | rfl
def own_f6_1  : Int64 := (0 : Int64)
def Q6_1 (Z : State) (a0 : Addr) (p1 : Int32) (k : ClassId) (w0 : Int64) (h0 : Heap) (n0 : Nat) (v : Option Value) (h : Heap) (L : List Loc) : Prop := v = some (.long own_f6_1) ∧ Fr n0 L ∧ h = h0
set_option maxRecDepth 65536 in
set_option maxHeartbeats 40000000 in
theorem rm6_1 (l : Launch) (Z : State) (aw : Array Value) (hw : ∀ d ∈ tables_1, d.before aw Z = true) (ws : List Jvm.Cond) (a0 : Addr) (p1 : Int32) (k : ClassId) (w0 : Int64) (h0 : Heap) (n0 : Nat) (Z0 : n0 ≤ h0.size) (P0 : Arv Z h0 a0 k .long (1 : Int32) [(.long w0)] (.long 0)) (hn : ¬ ((p1.toInt64) = (0 : Int64))) :
    MetFree l (⟨"com/example/waveslot/waveslot/core/CheckerSteps", "repeatedQuotients", "([JI)J"⟩ : MethodName) (head1 (Jvm.Cond.code (⟨"com/example/waveslot/waveslot/core/CheckerSteps", "repeatedQuotients", "([JI)J"⟩ : MethodName) prog_11_method_4_code 7 (some .long) :: ws) ({ frames := 0, cells := 0, slots := 0, locals := 0 } : Room)) (fun a U => a = #[(.ref a0), (.int p1)] ∧ Z.Warmed39 U.vm ∧ U.heap = h0) (fun _ _ _ _ _ => True) (fun _ U o U' => ∃ v L, o = .returned v ∧ Q6_1 Z a0 p1 k w0 h0 n0 v U'.heap L ∧ FrameEnd U o U' L ({ frames := 0, cells := 0, slots := 0, locals := 0 } : Room).cells ({ frames := 0, cells := 0, slots := 0, locals := 0 } : Room).slots) := by
  refine MetFree.of_bodySF (plainFor_of_name pn_6) hisR ?_
  intro p e s m args below meth c s₁ Bd hml0 hP hK
  obtain ⟨rfl, hZ, hh⟩ := hP
  have hx := Bd.exec
  have hby := Bd.bytes
  have hml : c.maxLocals = 7 := hml0
  have hown : s.vm.findClass "com/example/waveslot/waveslot/core/CheckerSteps" = some m.cls := findClass_of_methodNamed Bd.named
  have hnm := (name_of_methodNamed Bd.named Bd.method).1
  have hlk : meth.locks = false := by first | exact BodyLoose.notSynchronized (by assumption) | exact Body.notSynchronized (by assumption)
  have X0 : Stand p l e ({ frames := 0, cells := 0, slots := 0, locals := 0 } : Room) s m #[(.ref a0), (.int p1)] below meth c s₁ [] 0 0 := Stand.of_body Bd
  have e0 : s₁.heap = h0 := by rw [← hh, Bd.state]; rfl
  have N0 := Fr.nil n0
  have K0 : Keep h0 h0 [] := Keep.refl _ _
  refine own_start (CS := (0, 0)) (Q := (Q6_1 Z a0 p1 k w0 h0 n0)) (ef_6_1 m a0 p1) ?_
  show own_Go p e below s _ _ (s₁.setTop (mkF m 0 #[rv a0, iv p1, .unset, .unset, .unset, .unset, .unset] []))
  refine own_via (fun k => XS.lconst X0.here hx rfl (hb hby d6_0) (XS.lstoreN X0.here hx rfl (hb hby d6_1) rfl (l' := #[rv a0, iv p1, jv 0, .second, .unset, .unset, .unset]) rfl (XS.iconst X0.here hx rfl (hb hby d6_2) (XS.istore X0.here hx rfl (hb hby d6_3) rfl (l' := #[rv a0, iv p1, jv 0, .second, iv 1, .unset, .unset]) rfl k)))) ?_
  show own_Go p e below s _ _ (s₁.setTop (mkF m 5 #[rv a0, iv p1, jv 0, .second, iv 1, .unset, .unset] []))
  refine own_via (fun k => XS.iload X0.here hx rfl (hb hby d6_5) rfl  (XS.aloadN X0.here hx rfl (hb hby d6_7) rfl rfl  k)) ?_
  show own_Go p e below s _ _ (s₁.setTop (mkF m 8 #[rv a0, iv p1, jv 0, .second, iv 1, .unset, .unset] [(.ref a0), (.int 1)]))
  obtain ⟨cl1, Ar1, -, S1, NN1, -, -⟩ := id P0
  refine own_via (fun k => X0.arraylength hx (by rw [e0]; exact Ar1.1) (State.isArrayOf_alike hZ.alike Ar1.2.1) (g := (mkF m 8 #[rv a0, iv p1, jv 0, .second, iv 1, .unset, .unset] [(.ref a0), (.int 1)])) rfl rfl (hb hby d6_8) _ k) ?_
  rw [len_of S1 NN1]
  show own_Go p e below s _ _ (s₁.setTop (mkF m 9 #[rv a0, iv p1, jv 0, .second, iv 1, .unset, .unset] [(.int 1), (.int 1)]))
  refine own_via (fun k => XS.icmpYes X0.here hx rfl (pc0 := 9) (pc' := 67) rfl (hb hby d6_9) rfl (by decide) (by decide) (by decide) k) ?_
  show own_Go p e below s _ _ (s₁.setTop (mkF m 67 #[rv a0, iv p1, jv 0, .second, iv 1, .unset, .unset] []))
  refine own_via (fun k => XS.lloadN X0.here hx rfl (hb hby d6_67) rfl  k) ?_
  show own_Go p e below s _ _ (s₁.setTop (mkF m 68 #[rv a0, iv p1, jv 0, .second, iv 1, .unset, .unset] [(.long 0)]))
  exact own_retL X0 hx hlk Bd.returns (hb hby d6_68) (Q := (Q6_1 Z a0 p1 k w0 h0 n0)) ⟨(congrArg (fun z => some (Value.long z)) (show (0 : Int64) = own_f6_1 from rfl)), N0, e0⟩ (by decide) (by decide)
theorem d6_12 : decode prog_11_method_4_code 12 = .ok (.aload_n 0, 1) := by decide +kernel
theorem d6_13 : decode prog_11_method_4_code 13 = .ok (.iload 4, 2) := by decide +kernel
theorem d6_15 : decode prog_11_method_4_code 15 = .ok (.laload, 1) := by decide +kernel
theorem d6_16 : decode prog_11_method_4_code 16 = .ok (.iload_n 1, 1) := by decide +kernel
theorem d6_17 : decode prog_11_method_4_code 17 = .ok (.i2l, 1) := by decide +kernel
theorem d6_18 : decode prog_11_method_4_code 18 = .ok (.ldiv, 1) := by decide +kernel
theorem d6_19 : decode prog_11_method_4_code 19 = .ok (.lstore 5, 2) := by decide +kernel
theorem d6_21 : decode prog_11_method_4_code 21 = .ok (.lload 5, 2) := by decide +kernel
theorem d6_23 : decode prog_11_method_4_code 23 = .ok (.aload_n 0, 1) := by decide +kernel
theorem d6_24 : decode prog_11_method_4_code 24 = .ok (.iload 4, 2) := by decide +kernel
theorem d6_26 : decode prog_11_method_4_code 26 = .ok (.iconst 1, 1) := by decide +kernel
theorem d6_27 : decode prog_11_method_4_code 27 = .ok (.isub, 1) := by decide +kernel
theorem d6_28 : decode prog_11_method_4_code 28 = .ok (.laload, 1) := by decide +kernel
theorem d6_29 : decode prog_11_method_4_code 29 = .ok (.iload_n 1, 1) := by decide +kernel
theorem d6_30 : decode prog_11_method_4_code 30 = .ok (.i2l, 1) := by decide +kernel
theorem d6_31 : decode prog_11_method_4_code 31 = .ok (.ldiv, 1) := by decide +kernel
theorem d6_32 : decode prog_11_method_4_code 32 = .ok (.lcmp, 1) := by decide +kernel
theorem d6_33 : decode prog_11_method_4_code 33 = .ok (.ifCond .ne 28, 3) := by decide +kernel
theorem d6_36 : decode prog_11_method_4_code 36 = .ok (.iload 4, 2) := by decide +kernel
theorem d6_38 : decode prog_11_method_4_code 38 = .ok (.iconst 1, 1) := by decide +kernel
theorem d6_39 : decode prog_11_method_4_code 39 = .ok (.if_icmp .eq 18, 3) := by decide +kernel
theorem d6_57 : decode prog_11_method_4_code 57 = .ok (.lload_n 2, 1) := by decide +kernel
theorem d6_58 : decode prog_11_method_4_code 58 = .ok (.lconst 1, 1) := by decide +kernel
theorem d6_59 : decode prog_11_method_4_code 59 = .ok (.ladd, 1) := by decide +kernel
theorem d6_60 : decode prog_11_method_4_code 60 = .ok (.lstore_n 2, 1) := by decide +kernel
theorem d6_61 : decode prog_11_method_4_code 61 = .ok (.iinc 4 1, 3) := by decide +kernel
theorem d6_64 : decode prog_11_method_4_code 64 = .ok (.goto (-59), 3) := by decide +kernel
theorem ef_6_2 (m : MethodId) (x0 : Addr) (x1 : Int32) : entryFrame m #[(.ref x0), (.int x1)] 7 = mkF m 0 #[rv x0, iv x1, .unset, .unset, .unset, .unset, .unset] [] := by first | (simp [entryFrame, mkF, argsToLocals, Value.category]; done) | rfl
def own_f6_2 (p1 : Int32) (w0 : Int64) (w1 : Int64) : Int64 := (let z4 : Int64 := (if (w1 / (p1.toInt64)) = (w0 / (p1.toInt64)) then (1 : Int64) else (0 : Int64)); z4)
def Q6_2 (Z : State) (a0 : Addr) (p1 : Int32) (k : ClassId) (w0 : Int64) (w1 : Int64) (h0 : Heap) (n0 : Nat) (v : Option Value) (h : Heap) (L : List Loc) : Prop := v = some (.long (own_f6_2 p1 w0 w1)) ∧ Fr n0 L ∧ h = h0
set_option maxRecDepth 65536 in
set_option maxHeartbeats 40000000 in
theorem rm6_2 (l : Launch) (Z : State) (aw : Array Value) (hw : ∀ d ∈ tables_1, d.before aw Z = true) (ws : List Jvm.Cond) (a0 : Addr) (p1 : Int32) (k : ClassId) (w0 : Int64) (w1 : Int64) (h0 : Heap) (n0 : Nat) (Z0 : n0 ≤ h0.size) (P0 : Arv Z h0 a0 k .long (2 : Int32) [(.long w0), (.long w1)] (.long 0)) (hn : ¬ ((p1.toInt64) = (0 : Int64))) :
    MetFree l (⟨"com/example/waveslot/waveslot/core/CheckerSteps", "repeatedQuotients", "([JI)J"⟩ : MethodName) (head1 (Jvm.Cond.code (⟨"com/example/waveslot/waveslot/core/CheckerSteps", "repeatedQuotients", "([JI)J"⟩ : MethodName) prog_11_method_4_code 7 (some .long) :: ws) ({ frames := 0, cells := 0, slots := 0, locals := 0 } : Room)) (fun a U => a = #[(.ref a0), (.int p1)] ∧ Z.Warmed39 U.vm ∧ U.heap = h0) (fun _ _ _ _ _ => True) (fun _ U o U' => ∃ v L, o = .returned v ∧ Q6_2 Z a0 p1 k w0 w1 h0 n0 v U'.heap L ∧ FrameEnd U o U' L ({ frames := 0, cells := 0, slots := 0, locals := 0 } : Room).cells ({ frames := 0, cells := 0, slots := 0, locals := 0 } : Room).slots) := by
  refine MetFree.of_bodySF (plainFor_of_name pn_6) hisR ?_
  intro p e s m args below meth c s₁ Bd hml0 hP hK
  obtain ⟨rfl, hZ, hh⟩ := hP
  have hx := Bd.exec
  have hby := Bd.bytes
  have hml : c.maxLocals = 7 := hml0
  have hown : s.vm.findClass "com/example/waveslot/waveslot/core/CheckerSteps" = some m.cls := findClass_of_methodNamed Bd.named
  have hnm := (name_of_methodNamed Bd.named Bd.method).1
  have hlk : meth.locks = false := by first | exact BodyLoose.notSynchronized (by assumption) | exact Body.notSynchronized (by assumption)
  have X0 : Stand p l e ({ frames := 0, cells := 0, slots := 0, locals := 0 } : Room) s m #[(.ref a0), (.int p1)] below meth c s₁ [] 0 0 := Stand.of_body Bd
  have e0 : s₁.heap = h0 := by rw [← hh, Bd.state]; rfl
  have N0 := Fr.nil n0
  have K0 : Keep h0 h0 [] := Keep.refl _ _
  refine own_start (CS := (0, 0)) (Q := (Q6_2 Z a0 p1 k w0 w1 h0 n0)) (ef_6_2 m a0 p1) ?_
  show own_Go p e below s _ _ (s₁.setTop (mkF m 0 #[rv a0, iv p1, .unset, .unset, .unset, .unset, .unset] []))
  refine own_via (fun k => XS.lconst X0.here hx rfl (hb hby d6_0) (XS.lstoreN X0.here hx rfl (hb hby d6_1) rfl (l' := #[rv a0, iv p1, jv 0, .second, .unset, .unset, .unset]) rfl (XS.iconst X0.here hx rfl (hb hby d6_2) (XS.istore X0.here hx rfl (hb hby d6_3) rfl (l' := #[rv a0, iv p1, jv 0, .second, iv 1, .unset, .unset]) rfl k)))) ?_
  show own_Go p e below s _ _ (s₁.setTop (mkF m 5 #[rv a0, iv p1, jv 0, .second, iv 1, .unset, .unset] []))
  refine own_via (fun k => XS.iload X0.here hx rfl (hb hby d6_5) rfl  (XS.aloadN X0.here hx rfl (hb hby d6_7) rfl rfl  k)) ?_
  show own_Go p e below s _ _ (s₁.setTop (mkF m 8 #[rv a0, iv p1, jv 0, .second, iv 1, .unset, .unset] [(.ref a0), (.int 1)]))
  obtain ⟨cl1, Ar1, -, S1, NN1, -, -⟩ := id P0
  refine own_via (fun k => X0.arraylength hx (by rw [e0]; exact Ar1.1) (State.isArrayOf_alike hZ.alike Ar1.2.1) (g := (mkF m 8 #[rv a0, iv p1, jv 0, .second, iv 1, .unset, .unset] [(.ref a0), (.int 1)])) rfl rfl (hb hby d6_8) _ k) ?_
  rw [len_of S1 NN1]
  show own_Go p e below s _ _ (s₁.setTop (mkF m 9 #[rv a0, iv p1, jv 0, .second, iv 1, .unset, .unset] [(.int 2), (.int 1)]))
  refine own_via (fun k => XS.icmpNo X0.here hx rfl (hb hby d6_9) rfl (by decide) k) ?_
  show own_Go p e below s _ _ (s₁.setTop (mkF m 12 #[rv a0, iv p1, jv 0, .second, iv 1, .unset, .unset] []))
  refine own_via (fun k => XS.aloadN X0.here hx rfl (hb hby d6_12) rfl rfl  (XS.iload X0.here hx rfl (hb hby d6_13) rfl  k)) ?_
  show own_Go p e below s _ _ (s₁.setTop (mkF m 15 #[rv a0, iv p1, jv 0, .second, iv 1, .unset, .unset] [(.int 1), (.ref a0)]))
  obtain ⟨cl2, Ar2, q2, S2, NN2, H2, G2⟩ := id P0
  have hin2 : ¬ ((1 : Int32) < 0 ∨ cl2.slots.size ≤ ((1 : Int32)).toNatClampNeg) := inb_of S2 ⟨by decide, by decide⟩
  have hat2 : cl2.slots[((1 : Int32)).toNatClampNeg]? = some (.long w1) := H2.at hin2 rfl
  refine own_via (fun k => X0.laload hx (j := (1 : Int32)) (v := (.long w1)) (by rw [e0]; exact Ar2.1) (State.isArrayOf_alike hZ.alike Ar2.2.1) Ar2.2.2 hin2 hat2 (g := (mkF m 15 #[rv a0, iv p1, jv 0, .second, iv 1, .unset, .unset] [(.int 1), (.ref a0)])) rfl rfl (hb hby d6_15) _ k) ?_
  show own_Go p e below s _ _ (s₁.setTop (mkF m 16 #[rv a0, iv p1, jv 0, .second, iv 1, .unset, .unset] [(.long w1)]))
  refine own_via (fun k => XS.iloadN X0.here hx rfl (hb hby d6_16) rfl  (XS.i2l X0.here hx rfl (hb hby d6_17) rfl (XS.ldiv X0.here hx rfl (hb hby d6_18) rfl hn (XS.lstore X0.here hx rfl (hb hby d6_19) rfl (l' := #[rv a0, iv p1, jv 0, .second, iv 1, jv (w1 / (p1.toInt64)), .second]) rfl k)))) ?_
  show own_Go p e below s _ _ (s₁.setTop (mkF m 21 #[rv a0, iv p1, jv 0, .second, iv 1, jv (w1 / (p1.toInt64)), .second] []))
  refine own_via (fun k => XS.lload X0.here hx rfl (hb hby d6_21) rfl  (XS.aloadN X0.here hx rfl (hb hby d6_23) rfl rfl  (XS.iload X0.here hx rfl (hb hby d6_24) rfl  (XS.iconst X0.here hx rfl (hb hby d6_26) k)))) ?_
  show own_Go p e below s _ _ (s₁.setTop (mkF m 27 #[rv a0, iv p1, jv 0, .second, iv 1, jv (w1 / (p1.toInt64)), .second] [(.int 1), (.int 1), (.ref a0), (.long (w1 / (p1.toInt64)))]))
  refine own_via (fun k => XS.isub X0.here hx rfl (hb hby d6_27) rfl k) ?_
  show own_Go p e below s _ _ (s₁.setTop (mkF m 28 #[rv a0, iv p1, jv 0, .second, iv 1, jv (w1 / (p1.toInt64)), .second] [(.int 0), (.ref a0), (.long (w1 / (p1.toInt64)))]))
  obtain ⟨cl3, Ar3, q3, S3, NN3, H3, G3⟩ := id P0
  have hin3 : ¬ ((0 : Int32) < 0 ∨ cl3.slots.size ≤ ((0 : Int32)).toNatClampNeg) := inb_of S3 ⟨by decide, by decide⟩
  have hat3 : cl3.slots[((0 : Int32)).toNatClampNeg]? = some (.long w0) := H3.at hin3 rfl
  refine own_via (fun k => X0.laload hx (j := (0 : Int32)) (v := (.long w0)) (by rw [e0]; exact Ar3.1) (State.isArrayOf_alike hZ.alike Ar3.2.1) Ar3.2.2 hin3 hat3 (g := (mkF m 28 #[rv a0, iv p1, jv 0, .second, iv 1, jv (w1 / (p1.toInt64)), .second] [(.int 0), (.ref a0), (.long (w1 / (p1.toInt64)))])) rfl rfl (hb hby d6_28) _ k) ?_
  show own_Go p e below s _ _ (s₁.setTop (mkF m 29 #[rv a0, iv p1, jv 0, .second, iv 1, jv (w1 / (p1.toInt64)), .second] [(.long w0), (.long (w1 / (p1.toInt64)))]))
  refine own_via (fun k => XS.iloadN X0.here hx rfl (hb hby d6_29) rfl  (XS.i2l X0.here hx rfl (hb hby d6_30) rfl (XS.ldiv X0.here hx rfl (hb hby d6_31) rfl hn (XS.lcmp X0.here hx rfl (hb hby d6_32) rfl k)))) ?_
  show own_Go p e below s _ _ (s₁.setTop (mkF m 33 #[rv a0, iv p1, jv 0, .second, iv 1, jv (w1 / (p1.toInt64)), .second] [(.int (lcmpW (w1 / (p1.toInt64)) (w0 / (p1.toInt64))))]))
  have J5 : ∀ (T5 : State) (lo5 : List Loc), Stand p l e ({ frames := 0, cells := 0, slots := 0, locals := 0 } : Room) s m #[(.ref a0), (.int p1)] below meth c T5 lo5 0 0 → Fr n0 lo5 → T5.heap = h0 → ∀ (z4 : Int64), z4 = (if (w1 / (p1.toInt64)) = (w0 / (p1.toInt64)) then (1 : Int64) else (0 : Int64)) → own_Go p e below s (Q6_2 Z a0 p1 k w0 w1 h0 n0) (0, 0) (T5.setTop (mkF m 61 #[rv a0, iv p1, jv z4, .second, iv 1, jv (w1 / (p1.toInt64)), .second] [])) := by
    intro T5 lo5 X5 N5 e5 z4 hz4
    refine own_via (fun k => XS.iinc X5.here hx rfl (hb hby d6_61) rfl (l' := #[rv a0, iv p1, jv z4, .second, iv 2, jv (w1 / (p1.toInt64)), .second]) rfl (XS.goto X5.here hx rfl (pc0 := 64) (pc' := 5) rfl (hb hby d6_64) (by decide) (by decide) (XS.iload X5.here hx rfl (hb hby d6_5) rfl  (XS.aloadN X5.here hx rfl (hb hby d6_7) rfl rfl  k)))) ?_
    show own_Go p e below s _ _ (T5.setTop (mkF m 8 #[rv a0, iv p1, jv z4, .second, iv 2, jv (w1 / (p1.toInt64)), .second] [(.ref a0), (.int 2)]))
    obtain ⟨cl6, Ar6, -, S6, NN6, -, -⟩ := id P0
    refine own_via (fun k => X5.arraylength hx (by rw [e5]; exact Ar6.1) (State.isArrayOf_alike hZ.alike Ar6.2.1) (g := (mkF m 8 #[rv a0, iv p1, jv z4, .second, iv 2, jv (w1 / (p1.toInt64)), .second] [(.ref a0), (.int 2)])) rfl rfl (hb hby d6_8) _ k) ?_
    rw [len_of S6 NN6]
    show own_Go p e below s _ _ (T5.setTop (mkF m 9 #[rv a0, iv p1, jv z4, .second, iv 2, jv (w1 / (p1.toInt64)), .second] [(.int 2), (.int 2)]))
    refine own_via (fun k => XS.icmpYes X5.here hx rfl (pc0 := 9) (pc' := 67) rfl (hb hby d6_9) rfl (by decide) (by decide) (by decide) k) ?_
    show own_Go p e below s _ _ (T5.setTop (mkF m 67 #[rv a0, iv p1, jv z4, .second, iv 2, jv (w1 / (p1.toInt64)), .second] []))
    refine own_via (fun k => XS.lloadN X5.here hx rfl (hb hby d6_67) rfl  k) ?_
    show own_Go p e below s _ _ (T5.setTop (mkF m 68 #[rv a0, iv p1, jv z4, .second, iv 2, jv (w1 / (p1.toInt64)), .second] [(.long z4)]))
    exact own_retL X5 hx hlk Bd.returns (hb hby d6_68) (Q := (Q6_2 Z a0 p1 k w0 w1 h0 n0)) ⟨(congrArg (fun z => some (Value.long z)) (show z4 = (own_f6_2 p1 w0 w1) from (by subst hz4; unfold own_f6_2; exact rfl.symm))), N5, e5⟩ (by decide) (by decide)
  by_cases hc7 : (w1 / (p1.toInt64)) = (w0 / (p1.toInt64))
  · refine own_via (fun k => XS.ifNo X0.here hx rfl (hb hby d6_33) rfl ((if0 _ _).trans (teq ((lw_eq _ _).mpr hc7)).2) k) ?_
    show own_Go p e below s _ _ (s₁.setTop (mkF m 36 #[rv a0, iv p1, jv 0, .second, iv 1, jv (w1 / (p1.toInt64)), .second] []))
    refine own_via (fun k => XS.iload X0.here hx rfl (hb hby d6_36) rfl  (XS.iconst X0.here hx rfl (hb hby d6_38) k)) ?_
    show own_Go p e below s _ _ (s₁.setTop (mkF m 39 #[rv a0, iv p1, jv 0, .second, iv 1, jv (w1 / (p1.toInt64)), .second] [(.int 1), (.int 1)]))
    refine own_via (fun k => XS.icmpYes X0.here hx rfl (pc0 := 39) (pc' := 57) rfl (hb hby d6_39) rfl (by decide) (by decide) (by decide) k) ?_
    show own_Go p e below s _ _ (s₁.setTop (mkF m 57 #[rv a0, iv p1, jv 0, .second, iv 1, jv (w1 / (p1.toInt64)), .second] []))
    refine own_via (fun k => XS.lloadN X0.here hx rfl (hb hby d6_57) rfl  (XS.lconst X0.here hx rfl (hb hby d6_58) (XS.ladd X0.here hx rfl (hb hby d6_59) rfl (XS.lstoreN X0.here hx rfl (hb hby d6_60) rfl (l' := #[rv a0, iv p1, jv 1, .second, iv 1, jv (w1 / (p1.toInt64)), .second]) rfl k)))) ?_
    show own_Go p e below s _ _ (s₁.setTop (mkF m 61 #[rv a0, iv p1, jv 1, .second, iv 1, jv (w1 / (p1.toInt64)), .second] []))
    exact J5 _ _ X0 N0 e0 (1 : Int64) (((if_pos hc7).trans rfl)).symm
  · refine own_via (fun k => XS.ifYes X0.here hx rfl (pc0 := 33) (pc' := 61) rfl (hb hby d6_33) rfl ((if0 _ _).trans (feq (mt (lw_eq _ _).mp hc7)).2) (by decide) (by decide) k) ?_
    show own_Go p e below s _ _ (s₁.setTop (mkF m 61 #[rv a0, iv p1, jv 0, .second, iv 1, jv (w1 / (p1.toInt64)), .second] []))
    exact J5 _ _ X0 N0 e0 (0 : Int64) (((if_neg hc7).trans rfl)).symm
theorem d6_42 : decode prog_11_method_4_code 42 = .ok (.lload 5, 2) := by decide +kernel
theorem d6_44 : decode prog_11_method_4_code 44 = .ok (.aload_n 0, 1) := by decide +kernel
theorem d6_45 : decode prog_11_method_4_code 45 = .ok (.iload 4, 2) := by decide +kernel
theorem d6_47 : decode prog_11_method_4_code 47 = .ok (.iconst 2, 1) := by decide +kernel
theorem d6_48 : decode prog_11_method_4_code 48 = .ok (.isub, 1) := by decide +kernel
theorem d6_49 : decode prog_11_method_4_code 49 = .ok (.laload, 1) := by decide +kernel
theorem d6_50 : decode prog_11_method_4_code 50 = .ok (.iload_n 1, 1) := by decide +kernel
theorem d6_51 : decode prog_11_method_4_code 51 = .ok (.i2l, 1) := by decide +kernel
theorem d6_52 : decode prog_11_method_4_code 52 = .ok (.ldiv, 1) := by decide +kernel
theorem d6_53 : decode prog_11_method_4_code 53 = .ok (.lcmp, 1) := by decide +kernel
theorem d6_54 : decode prog_11_method_4_code 54 = .ok (.ifCond .eq 7, 3) := by decide +kernel
theorem ef_6_3 (m : MethodId) (x0 : Addr) (x1 : Int32) : entryFrame m #[(.ref x0), (.int x1)] 7 = mkF m 0 #[rv x0, iv x1, .unset, .unset, .unset, .unset, .unset] [] := by first | (simp [entryFrame, mkF, argsToLocals, Value.category]; done) | rfl
def own_f6_3 (p1 : Int32) (w0 : Int64) (w1 : Int64) (w2 : Int64) : Int64 := (let z4 : Int64 := (if (w1 / (p1.toInt64)) = (w0 / (p1.toInt64)) then (1 : Int64) else (0 : Int64)); (let z10 : Int64 := (if (w2 / (p1.toInt64)) = (w1 / (p1.toInt64)) then (if (w2 / (p1.toInt64)) = (w0 / (p1.toInt64)) then z4 else (z4 + (1 : Int64))) else z4); z10))
def Q6_3 (Z : State) (a0 : Addr) (p1 : Int32) (k : ClassId) (w0 : Int64) (w1 : Int64) (w2 : Int64) (h0 : Heap) (n0 : Nat) (v : Option Value) (h : Heap) (L : List Loc) : Prop := v = some (.long (own_f6_3 p1 w0 w1 w2)) ∧ Fr n0 L ∧ h = h0
set_option maxRecDepth 65536 in
set_option maxHeartbeats 40000000 in
theorem rm6_3 (l : Launch) (Z : State) (aw : Array Value) (hw : ∀ d ∈ tables_1, d.before aw Z = true) (ws : List Jvm.Cond) (a0 : Addr) (p1 : Int32) (k : ClassId) (w0 : Int64) (w1 : Int64) (w2 : Int64) (h0 : Heap) (n0 : Nat) (Z0 : n0 ≤ h0.size) (P0 : Arv Z h0 a0 k .long (3 : Int32) [(.long w0), (.long w1), (.long w2)] (.long 0)) (hn : ¬ ((p1.toInt64) = (0 : Int64))) :
    MetFree l (⟨"com/example/waveslot/waveslot/core/CheckerSteps", "repeatedQuotients", "([JI)J"⟩ : MethodName) (head1 (Jvm.Cond.code (⟨"com/example/waveslot/waveslot/core/CheckerSteps", "repeatedQuotients", "([JI)J"⟩ : MethodName) prog_11_method_4_code 7 (some .long) :: ws) ({ frames := 0, cells := 0, slots := 0, locals := 0 } : Room)) (fun a U => a = #[(.ref a0), (.int p1)] ∧ Z.Warmed39 U.vm ∧ U.heap = h0) (fun _ _ _ _ _ => True) (fun _ U o U' => ∃ v L, o = .returned v ∧ Q6_3 Z a0 p1 k w0 w1 w2 h0 n0 v U'.heap L ∧ FrameEnd U o U' L ({ frames := 0, cells := 0, slots := 0, locals := 0 } : Room).cells ({ frames := 0, cells := 0, slots := 0, locals := 0 } : Room).slots) := by
  refine MetFree.of_bodySF (plainFor_of_name pn_6) hisR ?_
  intro p e s m args below meth c s₁ Bd hml0 hP hK
  obtain ⟨rfl, hZ, hh⟩ := hP
  have hx := Bd.exec
  have hby := Bd.bytes
  have hml : c.maxLocals = 7 := hml0
  have hown : s.vm.findClass "com/example/waveslot/waveslot/core/CheckerSteps" = some m.cls := findClass_of_methodNamed Bd.named
  have hnm := (name_of_methodNamed Bd.named Bd.method).1
  have hlk : meth.locks = false := by first | exact BodyLoose.notSynchronized (by assumption) | exact Body.notSynchronized (by assumption)
  have X0 : Stand p l e ({ frames := 0, cells := 0, slots := 0, locals := 0 } : Room) s m #[(.ref a0), (.int p1)] below meth c s₁ [] 0 0 := Stand.of_body Bd
  have e0 : s₁.heap = h0 := by rw [← hh, Bd.state]; rfl
  have N0 := Fr.nil n0
  have K0 : Keep h0 h0 [] := Keep.refl _ _
  refine own_start (CS := (0, 0)) (Q := (Q6_3 Z a0 p1 k w0 w1 w2 h0 n0)) (ef_6_3 m a0 p1) ?_
  show own_Go p e below s _ _ (s₁.setTop (mkF m 0 #[rv a0, iv p1, .unset, .unset, .unset, .unset, .unset] []))
  refine own_via (fun k => XS.lconst X0.here hx rfl (hb hby d6_0) (XS.lstoreN X0.here hx rfl (hb hby d6_1) rfl (l' := #[rv a0, iv p1, jv 0, .second, .unset, .unset, .unset]) rfl (XS.iconst X0.here hx rfl (hb hby d6_2) (XS.istore X0.here hx rfl (hb hby d6_3) rfl (l' := #[rv a0, iv p1, jv 0, .second, iv 1, .unset, .unset]) rfl k)))) ?_
  show own_Go p e below s _ _ (s₁.setTop (mkF m 5 #[rv a0, iv p1, jv 0, .second, iv 1, .unset, .unset] []))
  refine own_via (fun k => XS.iload X0.here hx rfl (hb hby d6_5) rfl  (XS.aloadN X0.here hx rfl (hb hby d6_7) rfl rfl  k)) ?_
  show own_Go p e below s _ _ (s₁.setTop (mkF m 8 #[rv a0, iv p1, jv 0, .second, iv 1, .unset, .unset] [(.ref a0), (.int 1)]))
  obtain ⟨cl1, Ar1, -, S1, NN1, -, -⟩ := id P0
  refine own_via (fun k => X0.arraylength hx (by rw [e0]; exact Ar1.1) (State.isArrayOf_alike hZ.alike Ar1.2.1) (g := (mkF m 8 #[rv a0, iv p1, jv 0, .second, iv 1, .unset, .unset] [(.ref a0), (.int 1)])) rfl rfl (hb hby d6_8) _ k) ?_
  rw [len_of S1 NN1]
  show own_Go p e below s _ _ (s₁.setTop (mkF m 9 #[rv a0, iv p1, jv 0, .second, iv 1, .unset, .unset] [(.int 3), (.int 1)]))
  refine own_via (fun k => XS.icmpNo X0.here hx rfl (hb hby d6_9) rfl (by decide) k) ?_
  show own_Go p e below s _ _ (s₁.setTop (mkF m 12 #[rv a0, iv p1, jv 0, .second, iv 1, .unset, .unset] []))
  refine own_via (fun k => XS.aloadN X0.here hx rfl (hb hby d6_12) rfl rfl  (XS.iload X0.here hx rfl (hb hby d6_13) rfl  k)) ?_
  show own_Go p e below s _ _ (s₁.setTop (mkF m 15 #[rv a0, iv p1, jv 0, .second, iv 1, .unset, .unset] [(.int 1), (.ref a0)]))
  obtain ⟨cl2, Ar2, q2, S2, NN2, H2, G2⟩ := id P0
  have hin2 : ¬ ((1 : Int32) < 0 ∨ cl2.slots.size ≤ ((1 : Int32)).toNatClampNeg) := inb_of S2 ⟨by decide, by decide⟩
  have hat2 : cl2.slots[((1 : Int32)).toNatClampNeg]? = some (.long w1) := H2.at hin2 rfl
  refine own_via (fun k => X0.laload hx (j := (1 : Int32)) (v := (.long w1)) (by rw [e0]; exact Ar2.1) (State.isArrayOf_alike hZ.alike Ar2.2.1) Ar2.2.2 hin2 hat2 (g := (mkF m 15 #[rv a0, iv p1, jv 0, .second, iv 1, .unset, .unset] [(.int 1), (.ref a0)])) rfl rfl (hb hby d6_15) _ k) ?_
  show own_Go p e below s _ _ (s₁.setTop (mkF m 16 #[rv a0, iv p1, jv 0, .second, iv 1, .unset, .unset] [(.long w1)]))
  refine own_via (fun k => XS.iloadN X0.here hx rfl (hb hby d6_16) rfl  (XS.i2l X0.here hx rfl (hb hby d6_17) rfl (XS.ldiv X0.here hx rfl (hb hby d6_18) rfl hn (XS.lstore X0.here hx rfl (hb hby d6_19) rfl (l' := #[rv a0, iv p1, jv 0, .second, iv 1, jv (w1 / (p1.toInt64)), .second]) rfl k)))) ?_
  show own_Go p e below s _ _ (s₁.setTop (mkF m 21 #[rv a0, iv p1, jv 0, .second, iv 1, jv (w1 / (p1.toInt64)), .second] []))
  refine own_via (fun k => XS.lload X0.here hx rfl (hb hby d6_21) rfl  (XS.aloadN X0.here hx rfl (hb hby d6_23) rfl rfl  (XS.iload X0.here hx rfl (hb hby d6_24) rfl  (XS.iconst X0.here hx rfl (hb hby d6_26) k)))) ?_
  show own_Go p e below s _ _ (s₁.setTop (mkF m 27 #[rv a0, iv p1, jv 0, .second, iv 1, jv (w1 / (p1.toInt64)), .second] [(.int 1), (.int 1), (.ref a0), (.long (w1 / (p1.toInt64)))]))
  refine own_via (fun k => XS.isub X0.here hx rfl (hb hby d6_27) rfl k) ?_
  show own_Go p e below s _ _ (s₁.setTop (mkF m 28 #[rv a0, iv p1, jv 0, .second, iv 1, jv (w1 / (p1.toInt64)), .second] [(.int 0), (.ref a0), (.long (w1 / (p1.toInt64)))]))
  obtain ⟨cl3, Ar3, q3, S3, NN3, H3, G3⟩ := id P0
  have hin3 : ¬ ((0 : Int32) < 0 ∨ cl3.slots.size ≤ ((0 : Int32)).toNatClampNeg) := inb_of S3 ⟨by decide, by decide⟩
  have hat3 : cl3.slots[((0 : Int32)).toNatClampNeg]? = some (.long w0) := H3.at hin3 rfl
  refine own_via (fun k => X0.laload hx (j := (0 : Int32)) (v := (.long w0)) (by rw [e0]; exact Ar3.1) (State.isArrayOf_alike hZ.alike Ar3.2.1) Ar3.2.2 hin3 hat3 (g := (mkF m 28 #[rv a0, iv p1, jv 0, .second, iv 1, jv (w1 / (p1.toInt64)), .second] [(.int 0), (.ref a0), (.long (w1 / (p1.toInt64)))])) rfl rfl (hb hby d6_28) _ k) ?_
  show own_Go p e below s _ _ (s₁.setTop (mkF m 29 #[rv a0, iv p1, jv 0, .second, iv 1, jv (w1 / (p1.toInt64)), .second] [(.long w0), (.long (w1 / (p1.toInt64)))]))
  refine own_via (fun k => XS.iloadN X0.here hx rfl (hb hby d6_29) rfl  (XS.i2l X0.here hx rfl (hb hby d6_30) rfl (XS.ldiv X0.here hx rfl (hb hby d6_31) rfl hn (XS.lcmp X0.here hx rfl (hb hby d6_32) rfl k)))) ?_
  show own_Go p e below s _ _ (s₁.setTop (mkF m 33 #[rv a0, iv p1, jv 0, .second, iv 1, jv (w1 / (p1.toInt64)), .second] [(.int (lcmpW (w1 / (p1.toInt64)) (w0 / (p1.toInt64))))]))
  have J5 : ∀ (T5 : State) (lo5 : List Loc), Stand p l e ({ frames := 0, cells := 0, slots := 0, locals := 0 } : Room) s m #[(.ref a0), (.int p1)] below meth c T5 lo5 0 0 → Fr n0 lo5 → T5.heap = h0 → ∀ (z4 : Int64), z4 = (if (w1 / (p1.toInt64)) = (w0 / (p1.toInt64)) then (1 : Int64) else (0 : Int64)) → own_Go p e below s (Q6_3 Z a0 p1 k w0 w1 w2 h0 n0) (0, 0) (T5.setTop (mkF m 61 #[rv a0, iv p1, jv z4, .second, iv 1, jv (w1 / (p1.toInt64)), .second] [])) := by
    intro T5 lo5 X5 N5 e5 z4 hz4
    refine own_via (fun k => XS.iinc X5.here hx rfl (hb hby d6_61) rfl (l' := #[rv a0, iv p1, jv z4, .second, iv 2, jv (w1 / (p1.toInt64)), .second]) rfl (XS.goto X5.here hx rfl (pc0 := 64) (pc' := 5) rfl (hb hby d6_64) (by decide) (by decide) (XS.iload X5.here hx rfl (hb hby d6_5) rfl  (XS.aloadN X5.here hx rfl (hb hby d6_7) rfl rfl  k)))) ?_
    show own_Go p e below s _ _ (T5.setTop (mkF m 8 #[rv a0, iv p1, jv z4, .second, iv 2, jv (w1 / (p1.toInt64)), .second] [(.ref a0), (.int 2)]))
    obtain ⟨cl6, Ar6, -, S6, NN6, -, -⟩ := id P0
    refine own_via (fun k => X5.arraylength hx (by rw [e5]; exact Ar6.1) (State.isArrayOf_alike hZ.alike Ar6.2.1) (g := (mkF m 8 #[rv a0, iv p1, jv z4, .second, iv 2, jv (w1 / (p1.toInt64)), .second] [(.ref a0), (.int 2)])) rfl rfl (hb hby d6_8) _ k) ?_
    rw [len_of S6 NN6]
    show own_Go p e below s _ _ (T5.setTop (mkF m 9 #[rv a0, iv p1, jv z4, .second, iv 2, jv (w1 / (p1.toInt64)), .second] [(.int 3), (.int 2)]))
    refine own_via (fun k => XS.icmpNo X5.here hx rfl (hb hby d6_9) rfl (by decide) k) ?_
    show own_Go p e below s _ _ (T5.setTop (mkF m 12 #[rv a0, iv p1, jv z4, .second, iv 2, jv (w1 / (p1.toInt64)), .second] []))
    refine own_via (fun k => XS.aloadN X5.here hx rfl (hb hby d6_12) rfl rfl  (XS.iload X5.here hx rfl (hb hby d6_13) rfl  k)) ?_
    show own_Go p e below s _ _ (T5.setTop (mkF m 15 #[rv a0, iv p1, jv z4, .second, iv 2, jv (w1 / (p1.toInt64)), .second] [(.int 2), (.ref a0)]))
    obtain ⟨cl7, Ar7, q7, S7, NN7, H7, G7⟩ := id P0
    have hin7 : ¬ ((2 : Int32) < 0 ∨ cl7.slots.size ≤ ((2 : Int32)).toNatClampNeg) := inb_of S7 ⟨by decide, by decide⟩
    have hat7 : cl7.slots[((2 : Int32)).toNatClampNeg]? = some (.long w2) := H7.at hin7 rfl
    refine own_via (fun k => X5.laload hx (j := (2 : Int32)) (v := (.long w2)) (by rw [e5]; exact Ar7.1) (State.isArrayOf_alike hZ.alike Ar7.2.1) Ar7.2.2 hin7 hat7 (g := (mkF m 15 #[rv a0, iv p1, jv z4, .second, iv 2, jv (w1 / (p1.toInt64)), .second] [(.int 2), (.ref a0)])) rfl rfl (hb hby d6_15) _ k) ?_
    show own_Go p e below s _ _ (T5.setTop (mkF m 16 #[rv a0, iv p1, jv z4, .second, iv 2, jv (w1 / (p1.toInt64)), .second] [(.long w2)]))
    refine own_via (fun k => XS.iloadN X5.here hx rfl (hb hby d6_16) rfl  (XS.i2l X5.here hx rfl (hb hby d6_17) rfl (XS.ldiv X5.here hx rfl (hb hby d6_18) rfl hn (XS.lstore X5.here hx rfl (hb hby d6_19) rfl (l' := #[rv a0, iv p1, jv z4, .second, iv 2, jv (w2 / (p1.toInt64)), .second]) rfl k)))) ?_
    show own_Go p e below s _ _ (T5.setTop (mkF m 21 #[rv a0, iv p1, jv z4, .second, iv 2, jv (w2 / (p1.toInt64)), .second] []))
    refine own_via (fun k => XS.lload X5.here hx rfl (hb hby d6_21) rfl  (XS.aloadN X5.here hx rfl (hb hby d6_23) rfl rfl  (XS.iload X5.here hx rfl (hb hby d6_24) rfl  (XS.iconst X5.here hx rfl (hb hby d6_26) k)))) ?_
    show own_Go p e below s _ _ (T5.setTop (mkF m 27 #[rv a0, iv p1, jv z4, .second, iv 2, jv (w2 / (p1.toInt64)), .second] [(.int 1), (.int 2), (.ref a0), (.long (w2 / (p1.toInt64)))]))
    refine own_via (fun k => XS.isub X5.here hx rfl (hb hby d6_27) rfl k) ?_
    show own_Go p e below s _ _ (T5.setTop (mkF m 28 #[rv a0, iv p1, jv z4, .second, iv 2, jv (w2 / (p1.toInt64)), .second] [(.int 1), (.ref a0), (.long (w2 / (p1.toInt64)))]))
    obtain ⟨cl8, Ar8, q8, S8, NN8, H8, G8⟩ := id P0
    have hin8 : ¬ ((1 : Int32) < 0 ∨ cl8.slots.size ≤ ((1 : Int32)).toNatClampNeg) := inb_of S8 ⟨by decide, by decide⟩
    have hat8 : cl8.slots[((1 : Int32)).toNatClampNeg]? = some (.long w1) := H8.at hin8 rfl
    refine own_via (fun k => X5.laload hx (j := (1 : Int32)) (v := (.long w1)) (by rw [e5]; exact Ar8.1) (State.isArrayOf_alike hZ.alike Ar8.2.1) Ar8.2.2 hin8 hat8 (g := (mkF m 28 #[rv a0, iv p1, jv z4, .second, iv 2, jv (w2 / (p1.toInt64)), .second] [(.int 1), (.ref a0), (.long (w2 / (p1.toInt64)))])) rfl rfl (hb hby d6_28) _ k) ?_
    show own_Go p e below s _ _ (T5.setTop (mkF m 29 #[rv a0, iv p1, jv z4, .second, iv 2, jv (w2 / (p1.toInt64)), .second] [(.long w1), (.long (w2 / (p1.toInt64)))]))
    refine own_via (fun k => XS.iloadN X5.here hx rfl (hb hby d6_29) rfl  (XS.i2l X5.here hx rfl (hb hby d6_30) rfl (XS.ldiv X5.here hx rfl (hb hby d6_31) rfl hn (XS.lcmp X5.here hx rfl (hb hby d6_32) rfl k)))) ?_
    show own_Go p e below s _ _ (T5.setTop (mkF m 33 #[rv a0, iv p1, jv z4, .second, iv 2, jv (w2 / (p1.toInt64)), .second] [(.int (lcmpW (w2 / (p1.toInt64)) (w1 / (p1.toInt64))))]))
    have J11 : ∀ (T11 : State) (lo11 : List Loc), Stand p l e ({ frames := 0, cells := 0, slots := 0, locals := 0 } : Room) s m #[(.ref a0), (.int p1)] below meth c T11 lo11 0 0 → Fr n0 lo11 → T11.heap = h0 → ∀ (z10 : Int64), z10 = (if (w2 / (p1.toInt64)) = (w1 / (p1.toInt64)) then (if (w2 / (p1.toInt64)) = (w0 / (p1.toInt64)) then z4 else (z4 + (1 : Int64))) else z4) → own_Go p e below s (Q6_3 Z a0 p1 k w0 w1 w2 h0 n0) (0, 0) (T11.setTop (mkF m 61 #[rv a0, iv p1, jv z10, .second, iv 2, jv (w2 / (p1.toInt64)), .second] [])) := by
      intro T11 lo11 X11 N11 e11 z10 hz10
      refine own_via (fun k => XS.iinc X11.here hx rfl (hb hby d6_61) rfl (l' := #[rv a0, iv p1, jv z10, .second, iv 3, jv (w2 / (p1.toInt64)), .second]) rfl (XS.goto X11.here hx rfl (pc0 := 64) (pc' := 5) rfl (hb hby d6_64) (by decide) (by decide) (XS.iload X11.here hx rfl (hb hby d6_5) rfl  (XS.aloadN X11.here hx rfl (hb hby d6_7) rfl rfl  k)))) ?_
      show own_Go p e below s _ _ (T11.setTop (mkF m 8 #[rv a0, iv p1, jv z10, .second, iv 3, jv (w2 / (p1.toInt64)), .second] [(.ref a0), (.int 3)]))
      obtain ⟨cl12, Ar12, -, S12, NN12, -, -⟩ := id P0
      refine own_via (fun k => X11.arraylength hx (by rw [e11]; exact Ar12.1) (State.isArrayOf_alike hZ.alike Ar12.2.1) (g := (mkF m 8 #[rv a0, iv p1, jv z10, .second, iv 3, jv (w2 / (p1.toInt64)), .second] [(.ref a0), (.int 3)])) rfl rfl (hb hby d6_8) _ k) ?_
      rw [len_of S12 NN12]
      show own_Go p e below s _ _ (T11.setTop (mkF m 9 #[rv a0, iv p1, jv z10, .second, iv 3, jv (w2 / (p1.toInt64)), .second] [(.int 3), (.int 3)]))
      refine own_via (fun k => XS.icmpYes X11.here hx rfl (pc0 := 9) (pc' := 67) rfl (hb hby d6_9) rfl (by decide) (by decide) (by decide) k) ?_
      show own_Go p e below s _ _ (T11.setTop (mkF m 67 #[rv a0, iv p1, jv z10, .second, iv 3, jv (w2 / (p1.toInt64)), .second] []))
      refine own_via (fun k => XS.lloadN X11.here hx rfl (hb hby d6_67) rfl  k) ?_
      show own_Go p e below s _ _ (T11.setTop (mkF m 68 #[rv a0, iv p1, jv z10, .second, iv 3, jv (w2 / (p1.toInt64)), .second] [(.long z10)]))
      exact own_retL X11 hx hlk Bd.returns (hb hby d6_68) (Q := (Q6_3 Z a0 p1 k w0 w1 w2 h0 n0)) ⟨(congrArg (fun z => some (Value.long z)) (show z10 = (own_f6_3 p1 w0 w1 w2) from (by subst hz10 hz4; unfold own_f6_3; exact rfl.symm))), N11, e11⟩ (by decide) (by decide)
    by_cases hc13 : (w2 / (p1.toInt64)) = (w1 / (p1.toInt64))
    · refine own_via (fun k => XS.ifNo X5.here hx rfl (hb hby d6_33) rfl ((if0 _ _).trans (teq ((lw_eq _ _).mpr hc13)).2) k) ?_
      show own_Go p e below s _ _ (T5.setTop (mkF m 36 #[rv a0, iv p1, jv z4, .second, iv 2, jv (w2 / (p1.toInt64)), .second] []))
      refine own_via (fun k => XS.iload X5.here hx rfl (hb hby d6_36) rfl  (XS.iconst X5.here hx rfl (hb hby d6_38) k)) ?_
      show own_Go p e below s _ _ (T5.setTop (mkF m 39 #[rv a0, iv p1, jv z4, .second, iv 2, jv (w2 / (p1.toInt64)), .second] [(.int 1), (.int 2)]))
      refine own_via (fun k => XS.icmpNo X5.here hx rfl (hb hby d6_39) rfl (by decide) k) ?_
      show own_Go p e below s _ _ (T5.setTop (mkF m 42 #[rv a0, iv p1, jv z4, .second, iv 2, jv (w2 / (p1.toInt64)), .second] []))
      refine own_via (fun k => XS.lload X5.here hx rfl (hb hby d6_42) rfl  (XS.aloadN X5.here hx rfl (hb hby d6_44) rfl rfl  (XS.iload X5.here hx rfl (hb hby d6_45) rfl  (XS.iconst X5.here hx rfl (hb hby d6_47) k)))) ?_
      show own_Go p e below s _ _ (T5.setTop (mkF m 48 #[rv a0, iv p1, jv z4, .second, iv 2, jv (w2 / (p1.toInt64)), .second] [(.int 2), (.int 2), (.ref a0), (.long (w2 / (p1.toInt64)))]))
      refine own_via (fun k => XS.isub X5.here hx rfl (hb hby d6_48) rfl k) ?_
      show own_Go p e below s _ _ (T5.setTop (mkF m 49 #[rv a0, iv p1, jv z4, .second, iv 2, jv (w2 / (p1.toInt64)), .second] [(.int 0), (.ref a0), (.long (w2 / (p1.toInt64)))]))
      obtain ⟨cl14, Ar14, q14, S14, NN14, H14, G14⟩ := id P0
      have hin14 : ¬ ((0 : Int32) < 0 ∨ cl14.slots.size ≤ ((0 : Int32)).toNatClampNeg) := inb_of S14 ⟨by decide, by decide⟩
      have hat14 : cl14.slots[((0 : Int32)).toNatClampNeg]? = some (.long w0) := H14.at hin14 rfl
      refine own_via (fun k => X5.laload hx (j := (0 : Int32)) (v := (.long w0)) (by rw [e5]; exact Ar14.1) (State.isArrayOf_alike hZ.alike Ar14.2.1) Ar14.2.2 hin14 hat14 (g := (mkF m 49 #[rv a0, iv p1, jv z4, .second, iv 2, jv (w2 / (p1.toInt64)), .second] [(.int 0), (.ref a0), (.long (w2 / (p1.toInt64)))])) rfl rfl (hb hby d6_49) _ k) ?_
      show own_Go p e below s _ _ (T5.setTop (mkF m 50 #[rv a0, iv p1, jv z4, .second, iv 2, jv (w2 / (p1.toInt64)), .second] [(.long w0), (.long (w2 / (p1.toInt64)))]))
      refine own_via (fun k => XS.iloadN X5.here hx rfl (hb hby d6_50) rfl  (XS.i2l X5.here hx rfl (hb hby d6_51) rfl (XS.ldiv X5.here hx rfl (hb hby d6_52) rfl hn (XS.lcmp X5.here hx rfl (hb hby d6_53) rfl k)))) ?_
      show own_Go p e below s _ _ (T5.setTop (mkF m 54 #[rv a0, iv p1, jv z4, .second, iv 2, jv (w2 / (p1.toInt64)), .second] [(.int (lcmpW (w2 / (p1.toInt64)) (w0 / (p1.toInt64))))]))
      by_cases hc15 : (w2 / (p1.toInt64)) = (w0 / (p1.toInt64))
      · refine own_via (fun k => XS.ifYes X5.here hx rfl (pc0 := 54) (pc' := 61) rfl (hb hby d6_54) rfl ((if0 _ _).trans (teq ((lw_eq _ _).mpr hc15)).1) (by decide) (by decide) k) ?_
        show own_Go p e below s _ _ (T5.setTop (mkF m 61 #[rv a0, iv p1, jv z4, .second, iv 2, jv (w2 / (p1.toInt64)), .second] []))
        exact J11 _ _ X5 N5 e5 z4 (((if_pos hc13).trans ((if_pos hc15).trans rfl))).symm
      · refine own_via (fun k => XS.ifNo X5.here hx rfl (hb hby d6_54) rfl ((if0 _ _).trans (feq (mt (lw_eq _ _).mp hc15)).1) k) ?_
        show own_Go p e below s _ _ (T5.setTop (mkF m 57 #[rv a0, iv p1, jv z4, .second, iv 2, jv (w2 / (p1.toInt64)), .second] []))
        refine own_via (fun k => XS.lloadN X5.here hx rfl (hb hby d6_57) rfl  (XS.lconst X5.here hx rfl (hb hby d6_58) (XS.ladd X5.here hx rfl (hb hby d6_59) rfl (XS.lstoreN X5.here hx rfl (hb hby d6_60) rfl (l' := #[rv a0, iv p1, jv (z4 + (1 : Int64)), .second, iv 2, jv (w2 / (p1.toInt64)), .second]) rfl k)))) ?_
        show own_Go p e below s _ _ (T5.setTop (mkF m 61 #[rv a0, iv p1, jv (z4 + (1 : Int64)), .second, iv 2, jv (w2 / (p1.toInt64)), .second] []))
        exact J11 _ _ X5 N5 e5 (z4 + (1 : Int64)) (((if_pos hc13).trans ((if_neg hc15).trans rfl))).symm
    · refine own_via (fun k => XS.ifYes X5.here hx rfl (pc0 := 33) (pc' := 61) rfl (hb hby d6_33) rfl ((if0 _ _).trans (feq (mt (lw_eq _ _).mp hc13)).2) (by decide) (by decide) k) ?_
      show own_Go p e below s _ _ (T5.setTop (mkF m 61 #[rv a0, iv p1, jv z4, .second, iv 2, jv (w2 / (p1.toInt64)), .second] []))
      exact J11 _ _ X5 N5 e5 z4 (((if_neg hc13).trans rfl)).symm
  by_cases hc16 : (w1 / (p1.toInt64)) = (w0 / (p1.toInt64))
  · refine own_via (fun k => XS.ifNo X0.here hx rfl (hb hby d6_33) rfl ((if0 _ _).trans (teq ((lw_eq _ _).mpr hc16)).2) k) ?_
    show own_Go p e below s _ _ (s₁.setTop (mkF m 36 #[rv a0, iv p1, jv 0, .second, iv 1, jv (w1 / (p1.toInt64)), .second] []))
    refine own_via (fun k => XS.iload X0.here hx rfl (hb hby d6_36) rfl  (XS.iconst X0.here hx rfl (hb hby d6_38) k)) ?_
    show own_Go p e below s _ _ (s₁.setTop (mkF m 39 #[rv a0, iv p1, jv 0, .second, iv 1, jv (w1 / (p1.toInt64)), .second] [(.int 1), (.int 1)]))
    refine own_via (fun k => XS.icmpYes X0.here hx rfl (pc0 := 39) (pc' := 57) rfl (hb hby d6_39) rfl (by decide) (by decide) (by decide) k) ?_
    show own_Go p e below s _ _ (s₁.setTop (mkF m 57 #[rv a0, iv p1, jv 0, .second, iv 1, jv (w1 / (p1.toInt64)), .second] []))
    refine own_via (fun k => XS.lloadN X0.here hx rfl (hb hby d6_57) rfl  (XS.lconst X0.here hx rfl (hb hby d6_58) (XS.ladd X0.here hx rfl (hb hby d6_59) rfl (XS.lstoreN X0.here hx rfl (hb hby d6_60) rfl (l' := #[rv a0, iv p1, jv 1, .second, iv 1, jv (w1 / (p1.toInt64)), .second]) rfl k)))) ?_
    show own_Go p e below s _ _ (s₁.setTop (mkF m 61 #[rv a0, iv p1, jv 1, .second, iv 1, jv (w1 / (p1.toInt64)), .second] []))
    exact J5 _ _ X0 N0 e0 (1 : Int64) (((if_pos hc16).trans rfl)).symm
  · refine own_via (fun k => XS.ifYes X0.here hx rfl (pc0 := 33) (pc' := 61) rfl (hb hby d6_33) rfl ((if0 _ _).trans (feq (mt (lw_eq _ _).mp hc16)).2) (by decide) (by decide) k) ?_
    show own_Go p e below s _ _ (s₁.setTop (mkF m 61 #[rv a0, iv p1, jv 0, .second, iv 1, jv (w1 / (p1.toInt64)), .second] []))
    exact J5 _ _ X0 N0 e0 (0 : Int64) (((if_neg hc16).trans rfl)).symm
theorem ef_6_4 (m : MethodId) (x0 : Addr) (x1 : Int32) : entryFrame m #[(.ref x0), (.int x1)] 7 = mkF m 0 #[rv x0, iv x1, .unset, .unset, .unset, .unset, .unset] [] := by first | (simp [entryFrame, mkF, argsToLocals, Value.category]; done) | rfl
def own_f6_4 (p1 : Int32) (w0 : Int64) (w1 : Int64) (w2 : Int64) (w3 : Int64) : Int64 := (let z4 : Int64 := (if (w1 / (p1.toInt64)) = (w0 / (p1.toInt64)) then (1 : Int64) else (0 : Int64)); (let z10 : Int64 := (if (w2 / (p1.toInt64)) = (w1 / (p1.toInt64)) then (if (w2 / (p1.toInt64)) = (w0 / (p1.toInt64)) then z4 else (z4 + (1 : Int64))) else z4); (let z16 : Int64 := (if (w3 / (p1.toInt64)) = (w2 / (p1.toInt64)) then (if (w3 / (p1.toInt64)) = (w1 / (p1.toInt64)) then z10 else (z10 + (1 : Int64))) else z10); z16)))
def Q6_4 (Z : State) (a0 : Addr) (p1 : Int32) (k : ClassId) (w0 : Int64) (w1 : Int64) (w2 : Int64) (w3 : Int64) (h0 : Heap) (n0 : Nat) (v : Option Value) (h : Heap) (L : List Loc) : Prop := v = some (.long (own_f6_4 p1 w0 w1 w2 w3)) ∧ Fr n0 L ∧ h = h0
set_option maxRecDepth 65536 in
set_option maxHeartbeats 40000000 in
theorem rm6_4 (l : Launch) (Z : State) (aw : Array Value) (hw : ∀ d ∈ tables_1, d.before aw Z = true) (ws : List Jvm.Cond) (a0 : Addr) (p1 : Int32) (k : ClassId) (w0 : Int64) (w1 : Int64) (w2 : Int64) (w3 : Int64) (h0 : Heap) (n0 : Nat) (Z0 : n0 ≤ h0.size) (P0 : Arv Z h0 a0 k .long (4 : Int32) [(.long w0), (.long w1), (.long w2), (.long w3)] (.long 0)) (hn : ¬ ((p1.toInt64) = (0 : Int64))) :
    MetFree l (⟨"com/example/waveslot/waveslot/core/CheckerSteps", "repeatedQuotients", "([JI)J"⟩ : MethodName) (head1 (Jvm.Cond.code (⟨"com/example/waveslot/waveslot/core/CheckerSteps", "repeatedQuotients", "([JI)J"⟩ : MethodName) prog_11_method_4_code 7 (some .long) :: ws) ({ frames := 0, cells := 0, slots := 0, locals := 0 } : Room)) (fun a U => a = #[(.ref a0), (.int p1)] ∧ Z.Warmed39 U.vm ∧ U.heap = h0) (fun _ _ _ _ _ => True) (fun _ U o U' => ∃ v L, o = .returned v ∧ Q6_4 Z a0 p1 k w0 w1 w2 w3 h0 n0 v U'.heap L ∧ FrameEnd U o U' L ({ frames := 0, cells := 0, slots := 0, locals := 0 } : Room).cells ({ frames := 0, cells := 0, slots := 0, locals := 0 } : Room).slots) := by
  refine MetFree.of_bodySF (plainFor_of_name pn_6) hisR ?_
  intro p e s m args below meth c s₁ Bd hml0 hP hK
  obtain ⟨rfl, hZ, hh⟩ := hP
  have hx := Bd.exec
  have hby := Bd.bytes
  have hml : c.maxLocals = 7 := hml0
  have hown : s.vm.findClass "com/example/waveslot/waveslot/core/CheckerSteps" = some m.cls := findClass_of_methodNamed Bd.named
  have hnm := (name_of_methodNamed Bd.named Bd.method).1
  have hlk : meth.locks = false := by first | exact BodyLoose.notSynchronized (by assumption) | exact Body.notSynchronized (by assumption)
  have X0 : Stand p l e ({ frames := 0, cells := 0, slots := 0, locals := 0 } : Room) s m #[(.ref a0), (.int p1)] below meth c s₁ [] 0 0 := Stand.of_body Bd
  have e0 : s₁.heap = h0 := by rw [← hh, Bd.state]; rfl
  have N0 := Fr.nil n0
  have K0 : Keep h0 h0 [] := Keep.refl _ _
  refine own_start (CS := (0, 0)) (Q := (Q6_4 Z a0 p1 k w0 w1 w2 w3 h0 n0)) (ef_6_4 m a0 p1) ?_
  show own_Go p e below s _ _ (s₁.setTop (mkF m 0 #[rv a0, iv p1, .unset, .unset, .unset, .unset, .unset] []))
  refine own_via (fun k => XS.lconst X0.here hx rfl (hb hby d6_0) (XS.lstoreN X0.here hx rfl (hb hby d6_1) rfl (l' := #[rv a0, iv p1, jv 0, .second, .unset, .unset, .unset]) rfl (XS.iconst X0.here hx rfl (hb hby d6_2) (XS.istore X0.here hx rfl (hb hby d6_3) rfl (l' := #[rv a0, iv p1, jv 0, .second, iv 1, .unset, .unset]) rfl k)))) ?_
  show own_Go p e below s _ _ (s₁.setTop (mkF m 5 #[rv a0, iv p1, jv 0, .second, iv 1, .unset, .unset] []))
  refine own_via (fun k => XS.iload X0.here hx rfl (hb hby d6_5) rfl  (XS.aloadN X0.here hx rfl (hb hby d6_7) rfl rfl  k)) ?_
  show own_Go p e below s _ _ (s₁.setTop (mkF m 8 #[rv a0, iv p1, jv 0, .second, iv 1, .unset, .unset] [(.ref a0), (.int 1)]))
  obtain ⟨cl1, Ar1, -, S1, NN1, -, -⟩ := id P0
  refine own_via (fun k => X0.arraylength hx (by rw [e0]; exact Ar1.1) (State.isArrayOf_alike hZ.alike Ar1.2.1) (g := (mkF m 8 #[rv a0, iv p1, jv 0, .second, iv 1, .unset, .unset] [(.ref a0), (.int 1)])) rfl rfl (hb hby d6_8) _ k) ?_
  rw [len_of S1 NN1]
  show own_Go p e below s _ _ (s₁.setTop (mkF m 9 #[rv a0, iv p1, jv 0, .second, iv 1, .unset, .unset] [(.int 4), (.int 1)]))
  refine own_via (fun k => XS.icmpNo X0.here hx rfl (hb hby d6_9) rfl (by decide) k) ?_
  show own_Go p e below s _ _ (s₁.setTop (mkF m 12 #[rv a0, iv p1, jv 0, .second, iv 1, .unset, .unset] []))
  refine own_via (fun k => XS.aloadN X0.here hx rfl (hb hby d6_12) rfl rfl  (XS.iload X0.here hx rfl (hb hby d6_13) rfl  k)) ?_
  show own_Go p e below s _ _ (s₁.setTop (mkF m 15 #[rv a0, iv p1, jv 0, .second, iv 1, .unset, .unset] [(.int 1), (.ref a0)]))
  obtain ⟨cl2, Ar2, q2, S2, NN2, H2, G2⟩ := id P0
  have hin2 : ¬ ((1 : Int32) < 0 ∨ cl2.slots.size ≤ ((1 : Int32)).toNatClampNeg) := inb_of S2 ⟨by decide, by decide⟩
  have hat2 : cl2.slots[((1 : Int32)).toNatClampNeg]? = some (.long w1) := H2.at hin2 rfl
  refine own_via (fun k => X0.laload hx (j := (1 : Int32)) (v := (.long w1)) (by rw [e0]; exact Ar2.1) (State.isArrayOf_alike hZ.alike Ar2.2.1) Ar2.2.2 hin2 hat2 (g := (mkF m 15 #[rv a0, iv p1, jv 0, .second, iv 1, .unset, .unset] [(.int 1), (.ref a0)])) rfl rfl (hb hby d6_15) _ k) ?_
  show own_Go p e below s _ _ (s₁.setTop (mkF m 16 #[rv a0, iv p1, jv 0, .second, iv 1, .unset, .unset] [(.long w1)]))
  refine own_via (fun k => XS.iloadN X0.here hx rfl (hb hby d6_16) rfl  (XS.i2l X0.here hx rfl (hb hby d6_17) rfl (XS.ldiv X0.here hx rfl (hb hby d6_18) rfl hn (XS.lstore X0.here hx rfl (hb hby d6_19) rfl (l' := #[rv a0, iv p1, jv 0, .second, iv 1, jv (w1 / (p1.toInt64)), .second]) rfl k)))) ?_
  show own_Go p e below s _ _ (s₁.setTop (mkF m 21 #[rv a0, iv p1, jv 0, .second, iv 1, jv (w1 / (p1.toInt64)), .second] []))
  refine own_via (fun k => XS.lload X0.here hx rfl (hb hby d6_21) rfl  (XS.aloadN X0.here hx rfl (hb hby d6_23) rfl rfl  (XS.iload X0.here hx rfl (hb hby d6_24) rfl  (XS.iconst X0.here hx rfl (hb hby d6_26) k)))) ?_
  show own_Go p e below s _ _ (s₁.setTop (mkF m 27 #[rv a0, iv p1, jv 0, .second, iv 1, jv (w1 / (p1.toInt64)), .second] [(.int 1), (.int 1), (.ref a0), (.long (w1 / (p1.toInt64)))]))
  refine own_via (fun k => XS.isub X0.here hx rfl (hb hby d6_27) rfl k) ?_
  show own_Go p e below s _ _ (s₁.setTop (mkF m 28 #[rv a0, iv p1, jv 0, .second, iv 1, jv (w1 / (p1.toInt64)), .second] [(.int 0), (.ref a0), (.long (w1 / (p1.toInt64)))]))
  obtain ⟨cl3, Ar3, q3, S3, NN3, H3, G3⟩ := id P0
  have hin3 : ¬ ((0 : Int32) < 0 ∨ cl3.slots.size ≤ ((0 : Int32)).toNatClampNeg) := inb_of S3 ⟨by decide, by decide⟩
  have hat3 : cl3.slots[((0 : Int32)).toNatClampNeg]? = some (.long w0) := H3.at hin3 rfl
  refine own_via (fun k => X0.laload hx (j := (0 : Int32)) (v := (.long w0)) (by rw [e0]; exact Ar3.1) (State.isArrayOf_alike hZ.alike Ar3.2.1) Ar3.2.2 hin3 hat3 (g := (mkF m 28 #[rv a0, iv p1, jv 0, .second, iv 1, jv (w1 / (p1.toInt64)), .second] [(.int 0), (.ref a0), (.long (w1 / (p1.toInt64)))])) rfl rfl (hb hby d6_28) _ k) ?_
  show own_Go p e below s _ _ (s₁.setTop (mkF m 29 #[rv a0, iv p1, jv 0, .second, iv 1, jv (w1 / (p1.toInt64)), .second] [(.long w0), (.long (w1 / (p1.toInt64)))]))
  refine own_via (fun k => XS.iloadN X0.here hx rfl (hb hby d6_29) rfl  (XS.i2l X0.here hx rfl (hb hby d6_30) rfl (XS.ldiv X0.here hx rfl (hb hby d6_31) rfl hn (XS.lcmp X0.here hx rfl (hb hby d6_32) rfl k)))) ?_
  show own_Go p e below s _ _ (s₁.setTop (mkF m 33 #[rv a0, iv p1, jv 0, .second, iv 1, jv (w1 / (p1.toInt64)), .second] [(.int (lcmpW (w1 / (p1.toInt64)) (w0 / (p1.toInt64))))]))
  have J5 : ∀ (T5 : State) (lo5 : List Loc), Stand p l e ({ frames := 0, cells := 0, slots := 0, locals := 0 } : Room) s m #[(.ref a0), (.int p1)] below meth c T5 lo5 0 0 → Fr n0 lo5 → T5.heap = h0 → ∀ (z4 : Int64), z4 = (if (w1 / (p1.toInt64)) = (w0 / (p1.toInt64)) then (1 : Int64) else (0 : Int64)) → own_Go p e below s (Q6_4 Z a0 p1 k w0 w1 w2 w3 h0 n0) (0, 0) (T5.setTop (mkF m 61 #[rv a0, iv p1, jv z4, .second, iv 1, jv (w1 / (p1.toInt64)), .second] [])) := by
    intro T5 lo5 X5 N5 e5 z4 hz4
    refine own_via (fun k => XS.iinc X5.here hx rfl (hb hby d6_61) rfl (l' := #[rv a0, iv p1, jv z4, .second, iv 2, jv (w1 / (p1.toInt64)), .second]) rfl (XS.goto X5.here hx rfl (pc0 := 64) (pc' := 5) rfl (hb hby d6_64) (by decide) (by decide) (XS.iload X5.here hx rfl (hb hby d6_5) rfl  (XS.aloadN X5.here hx rfl (hb hby d6_7) rfl rfl  k)))) ?_
    show own_Go p e below s _ _ (T5.setTop (mkF m 8 #[rv a0, iv p1, jv z4, .second, iv 2, jv (w1 / (p1.toInt64)), .second] [(.ref a0), (.int 2)]))
    obtain ⟨cl6, Ar6, -, S6, NN6, -, -⟩ := id P0
    refine own_via (fun k => X5.arraylength hx (by rw [e5]; exact Ar6.1) (State.isArrayOf_alike hZ.alike Ar6.2.1) (g := (mkF m 8 #[rv a0, iv p1, jv z4, .second, iv 2, jv (w1 / (p1.toInt64)), .second] [(.ref a0), (.int 2)])) rfl rfl (hb hby d6_8) _ k) ?_
    rw [len_of S6 NN6]
    show own_Go p e below s _ _ (T5.setTop (mkF m 9 #[rv a0, iv p1, jv z4, .second, iv 2, jv (w1 / (p1.toInt64)), .second] [(.int 4), (.int 2)]))
    refine own_via (fun k => XS.icmpNo X5.here hx rfl (hb hby d6_9) rfl (by decide) k) ?_
    show own_Go p e below s _ _ (T5.setTop (mkF m 12 #[rv a0, iv p1, jv z4, .second, iv 2, jv (w1 / (p1.toInt64)), .second] []))
    refine own_via (fun k => XS.aloadN X5.here hx rfl (hb hby d6_12) rfl rfl  (XS.iload X5.here hx rfl (hb hby d6_13) rfl  k)) ?_
    show own_Go p e below s _ _ (T5.setTop (mkF m 15 #[rv a0, iv p1, jv z4, .second, iv 2, jv (w1 / (p1.toInt64)), .second] [(.int 2), (.ref a0)]))
    obtain ⟨cl7, Ar7, q7, S7, NN7, H7, G7⟩ := id P0
    have hin7 : ¬ ((2 : Int32) < 0 ∨ cl7.slots.size ≤ ((2 : Int32)).toNatClampNeg) := inb_of S7 ⟨by decide, by decide⟩
    have hat7 : cl7.slots[((2 : Int32)).toNatClampNeg]? = some (.long w2) := H7.at hin7 rfl
    refine own_via (fun k => X5.laload hx (j := (2 : Int32)) (v := (.long w2)) (by rw [e5]; exact Ar7.1) (State.isArrayOf_alike hZ.alike Ar7.2.1) Ar7.2.2 hin7 hat7 (g := (mkF m 15 #[rv a0, iv p1, jv z4, .second, iv 2, jv (w1 / (p1.toInt64)), .second] [(.int 2), (.ref a0)])) rfl rfl (hb hby d6_15) _ k) ?_
    show own_Go p e below s _ _ (T5.setTop (mkF m 16 #[rv a0, iv p1, jv z4, .second, iv 2, jv (w1 / (p1.toInt64)), .second] [(.long w2)]))
    refine own_via (fun k => XS.iloadN X5.here hx rfl (hb hby d6_16) rfl  (XS.i2l X5.here hx rfl (hb hby d6_17) rfl (XS.ldiv X5.here hx rfl (hb hby d6_18) rfl hn (XS.lstore X5.here hx rfl (hb hby d6_19) rfl (l' := #[rv a0, iv p1, jv z4, .second, iv 2, jv (w2 / (p1.toInt64)), .second]) rfl k)))) ?_
    show own_Go p e below s _ _ (T5.setTop (mkF m 21 #[rv a0, iv p1, jv z4, .second, iv 2, jv (w2 / (p1.toInt64)), .second] []))
    refine own_via (fun k => XS.lload X5.here hx rfl (hb hby d6_21) rfl  (XS.aloadN X5.here hx rfl (hb hby d6_23) rfl rfl  (XS.iload X5.here hx rfl (hb hby d6_24) rfl  (XS.iconst X5.here hx rfl (hb hby d6_26) k)))) ?_
    show own_Go p e below s _ _ (T5.setTop (mkF m 27 #[rv a0, iv p1, jv z4, .second, iv 2, jv (w2 / (p1.toInt64)), .second] [(.int 1), (.int 2), (.ref a0), (.long (w2 / (p1.toInt64)))]))
    refine own_via (fun k => XS.isub X5.here hx rfl (hb hby d6_27) rfl k) ?_
    show own_Go p e below s _ _ (T5.setTop (mkF m 28 #[rv a0, iv p1, jv z4, .second, iv 2, jv (w2 / (p1.toInt64)), .second] [(.int 1), (.ref a0), (.long (w2 / (p1.toInt64)))]))
    obtain ⟨cl8, Ar8, q8, S8, NN8, H8, G8⟩ := id P0
    have hin8 : ¬ ((1 : Int32) < 0 ∨ cl8.slots.size ≤ ((1 : Int32)).toNatClampNeg) := inb_of S8 ⟨by decide, by decide⟩
    have hat8 : cl8.slots[((1 : Int32)).toNatClampNeg]? = some (.long w1) := H8.at hin8 rfl
    refine own_via (fun k => X5.laload hx (j := (1 : Int32)) (v := (.long w1)) (by rw [e5]; exact Ar8.1) (State.isArrayOf_alike hZ.alike Ar8.2.1) Ar8.2.2 hin8 hat8 (g := (mkF m 28 #[rv a0, iv p1, jv z4, .second, iv 2, jv (w2 / (p1.toInt64)), .second] [(.int 1), (.ref a0), (.long (w2 / (p1.toInt64)))])) rfl rfl (hb hby d6_28) _ k) ?_
    show own_Go p e below s _ _ (T5.setTop (mkF m 29 #[rv a0, iv p1, jv z4, .second, iv 2, jv (w2 / (p1.toInt64)), .second] [(.long w1), (.long (w2 / (p1.toInt64)))]))
    refine own_via (fun k => XS.iloadN X5.here hx rfl (hb hby d6_29) rfl  (XS.i2l X5.here hx rfl (hb hby d6_30) rfl (XS.ldiv X5.here hx rfl (hb hby d6_31) rfl hn (XS.lcmp X5.here hx rfl (hb hby d6_32) rfl k)))) ?_
    show own_Go p e below s _ _ (T5.setTop (mkF m 33 #[rv a0, iv p1, jv z4, .second, iv 2, jv (w2 / (p1.toInt64)), .second] [(.int (lcmpW (w2 / (p1.toInt64)) (w1 / (p1.toInt64))))]))
    have J11 : ∀ (T11 : State) (lo11 : List Loc), Stand p l e ({ frames := 0, cells := 0, slots := 0, locals := 0 } : Room) s m #[(.ref a0), (.int p1)] below meth c T11 lo11 0 0 → Fr n0 lo11 → T11.heap = h0 → ∀ (z10 : Int64), z10 = (if (w2 / (p1.toInt64)) = (w1 / (p1.toInt64)) then (if (w2 / (p1.toInt64)) = (w0 / (p1.toInt64)) then z4 else (z4 + (1 : Int64))) else z4) → own_Go p e below s (Q6_4 Z a0 p1 k w0 w1 w2 w3 h0 n0) (0, 0) (T11.setTop (mkF m 61 #[rv a0, iv p1, jv z10, .second, iv 2, jv (w2 / (p1.toInt64)), .second] [])) := by
      intro T11 lo11 X11 N11 e11 z10 hz10
      refine own_via (fun k => XS.iinc X11.here hx rfl (hb hby d6_61) rfl (l' := #[rv a0, iv p1, jv z10, .second, iv 3, jv (w2 / (p1.toInt64)), .second]) rfl (XS.goto X11.here hx rfl (pc0 := 64) (pc' := 5) rfl (hb hby d6_64) (by decide) (by decide) (XS.iload X11.here hx rfl (hb hby d6_5) rfl  (XS.aloadN X11.here hx rfl (hb hby d6_7) rfl rfl  k)))) ?_
      show own_Go p e below s _ _ (T11.setTop (mkF m 8 #[rv a0, iv p1, jv z10, .second, iv 3, jv (w2 / (p1.toInt64)), .second] [(.ref a0), (.int 3)]))
      obtain ⟨cl12, Ar12, -, S12, NN12, -, -⟩ := id P0
      refine own_via (fun k => X11.arraylength hx (by rw [e11]; exact Ar12.1) (State.isArrayOf_alike hZ.alike Ar12.2.1) (g := (mkF m 8 #[rv a0, iv p1, jv z10, .second, iv 3, jv (w2 / (p1.toInt64)), .second] [(.ref a0), (.int 3)])) rfl rfl (hb hby d6_8) _ k) ?_
      rw [len_of S12 NN12]
      show own_Go p e below s _ _ (T11.setTop (mkF m 9 #[rv a0, iv p1, jv z10, .second, iv 3, jv (w2 / (p1.toInt64)), .second] [(.int 4), (.int 3)]))
      refine own_via (fun k => XS.icmpNo X11.here hx rfl (hb hby d6_9) rfl (by decide) k) ?_
      show own_Go p e below s _ _ (T11.setTop (mkF m 12 #[rv a0, iv p1, jv z10, .second, iv 3, jv (w2 / (p1.toInt64)), .second] []))
      refine own_via (fun k => XS.aloadN X11.here hx rfl (hb hby d6_12) rfl rfl  (XS.iload X11.here hx rfl (hb hby d6_13) rfl  k)) ?_
      show own_Go p e below s _ _ (T11.setTop (mkF m 15 #[rv a0, iv p1, jv z10, .second, iv 3, jv (w2 / (p1.toInt64)), .second] [(.int 3), (.ref a0)]))
      obtain ⟨cl13, Ar13, q13, S13, NN13, H13, G13⟩ := id P0
      have hin13 : ¬ ((3 : Int32) < 0 ∨ cl13.slots.size ≤ ((3 : Int32)).toNatClampNeg) := inb_of S13 ⟨by decide, by decide⟩
      have hat13 : cl13.slots[((3 : Int32)).toNatClampNeg]? = some (.long w3) := H13.at hin13 rfl
      refine own_via (fun k => X11.laload hx (j := (3 : Int32)) (v := (.long w3)) (by rw [e11]; exact Ar13.1) (State.isArrayOf_alike hZ.alike Ar13.2.1) Ar13.2.2 hin13 hat13 (g := (mkF m 15 #[rv a0, iv p1, jv z10, .second, iv 3, jv (w2 / (p1.toInt64)), .second] [(.int 3), (.ref a0)])) rfl rfl (hb hby d6_15) _ k) ?_
      show own_Go p e below s _ _ (T11.setTop (mkF m 16 #[rv a0, iv p1, jv z10, .second, iv 3, jv (w2 / (p1.toInt64)), .second] [(.long w3)]))
      refine own_via (fun k => XS.iloadN X11.here hx rfl (hb hby d6_16) rfl  (XS.i2l X11.here hx rfl (hb hby d6_17) rfl (XS.ldiv X11.here hx rfl (hb hby d6_18) rfl hn (XS.lstore X11.here hx rfl (hb hby d6_19) rfl (l' := #[rv a0, iv p1, jv z10, .second, iv 3, jv (w3 / (p1.toInt64)), .second]) rfl k)))) ?_
      show own_Go p e below s _ _ (T11.setTop (mkF m 21 #[rv a0, iv p1, jv z10, .second, iv 3, jv (w3 / (p1.toInt64)), .second] []))
      refine own_via (fun k => XS.lload X11.here hx rfl (hb hby d6_21) rfl  (XS.aloadN X11.here hx rfl (hb hby d6_23) rfl rfl  (XS.iload X11.here hx rfl (hb hby d6_24) rfl  (XS.iconst X11.here hx rfl (hb hby d6_26) k)))) ?_
      show own_Go p e below s _ _ (T11.setTop (mkF m 27 #[rv a0, iv p1, jv z10, .second, iv 3, jv (w3 / (p1.toInt64)), .second] [(.int 1), (.int 3), (.ref a0), (.long (w3 / (p1.toInt64)))]))
      refine own_via (fun k => XS.isub X11.here hx rfl (hb hby d6_27) rfl k) ?_
      show own_Go p e below s _ _ (T11.setTop (mkF m 28 #[rv a0, iv p1, jv z10, .second, iv 3, jv (w3 / (p1.toInt64)), .second] [(.int 2), (.ref a0), (.long (w3 / (p1.toInt64)))]))
      obtain ⟨cl14, Ar14, q14, S14, NN14, H14, G14⟩ := id P0
      have hin14 : ¬ ((2 : Int32) < 0 ∨ cl14.slots.size ≤ ((2 : Int32)).toNatClampNeg) := inb_of S14 ⟨by decide, by decide⟩
      have hat14 : cl14.slots[((2 : Int32)).toNatClampNeg]? = some (.long w2) := H14.at hin14 rfl
      refine own_via (fun k => X11.laload hx (j := (2 : Int32)) (v := (.long w2)) (by rw [e11]; exact Ar14.1) (State.isArrayOf_alike hZ.alike Ar14.2.1) Ar14.2.2 hin14 hat14 (g := (mkF m 28 #[rv a0, iv p1, jv z10, .second, iv 3, jv (w3 / (p1.toInt64)), .second] [(.int 2), (.ref a0), (.long (w3 / (p1.toInt64)))])) rfl rfl (hb hby d6_28) _ k) ?_
      show own_Go p e below s _ _ (T11.setTop (mkF m 29 #[rv a0, iv p1, jv z10, .second, iv 3, jv (w3 / (p1.toInt64)), .second] [(.long w2), (.long (w3 / (p1.toInt64)))]))
      refine own_via (fun k => XS.iloadN X11.here hx rfl (hb hby d6_29) rfl  (XS.i2l X11.here hx rfl (hb hby d6_30) rfl (XS.ldiv X11.here hx rfl (hb hby d6_31) rfl hn (XS.lcmp X11.here hx rfl (hb hby d6_32) rfl k)))) ?_
      show own_Go p e below s _ _ (T11.setTop (mkF m 33 #[rv a0, iv p1, jv z10, .second, iv 3, jv (w3 / (p1.toInt64)), .second] [(.int (lcmpW (w3 / (p1.toInt64)) (w2 / (p1.toInt64))))]))
      have J17 : ∀ (T17 : State) (lo17 : List Loc), Stand p l e ({ frames := 0, cells := 0, slots := 0, locals := 0 } : Room) s m #[(.ref a0), (.int p1)] below meth c T17 lo17 0 0 → Fr n0 lo17 → T17.heap = h0 → ∀ (z16 : Int64), z16 = (if (w3 / (p1.toInt64)) = (w2 / (p1.toInt64)) then (if (w3 / (p1.toInt64)) = (w1 / (p1.toInt64)) then z10 else (z10 + (1 : Int64))) else z10) → own_Go p e below s (Q6_4 Z a0 p1 k w0 w1 w2 w3 h0 n0) (0, 0) (T17.setTop (mkF m 61 #[rv a0, iv p1, jv z16, .second, iv 3, jv (w3 / (p1.toInt64)), .second] [])) := by
        intro T17 lo17 X17 N17 e17 z16 hz16
        refine own_via (fun k => XS.iinc X17.here hx rfl (hb hby d6_61) rfl (l' := #[rv a0, iv p1, jv z16, .second, iv 4, jv (w3 / (p1.toInt64)), .second]) rfl (XS.goto X17.here hx rfl (pc0 := 64) (pc' := 5) rfl (hb hby d6_64) (by decide) (by decide) (XS.iload X17.here hx rfl (hb hby d6_5) rfl  (XS.aloadN X17.here hx rfl (hb hby d6_7) rfl rfl  k)))) ?_
        show own_Go p e below s _ _ (T17.setTop (mkF m 8 #[rv a0, iv p1, jv z16, .second, iv 4, jv (w3 / (p1.toInt64)), .second] [(.ref a0), (.int 4)]))
        obtain ⟨cl18, Ar18, -, S18, NN18, -, -⟩ := id P0
        refine own_via (fun k => X17.arraylength hx (by rw [e17]; exact Ar18.1) (State.isArrayOf_alike hZ.alike Ar18.2.1) (g := (mkF m 8 #[rv a0, iv p1, jv z16, .second, iv 4, jv (w3 / (p1.toInt64)), .second] [(.ref a0), (.int 4)])) rfl rfl (hb hby d6_8) _ k) ?_
        rw [len_of S18 NN18]
        show own_Go p e below s _ _ (T17.setTop (mkF m 9 #[rv a0, iv p1, jv z16, .second, iv 4, jv (w3 / (p1.toInt64)), .second] [(.int 4), (.int 4)]))
        refine own_via (fun k => XS.icmpYes X17.here hx rfl (pc0 := 9) (pc' := 67) rfl (hb hby d6_9) rfl (by decide) (by decide) (by decide) k) ?_
        show own_Go p e below s _ _ (T17.setTop (mkF m 67 #[rv a0, iv p1, jv z16, .second, iv 4, jv (w3 / (p1.toInt64)), .second] []))
        refine own_via (fun k => XS.lloadN X17.here hx rfl (hb hby d6_67) rfl  k) ?_
        show own_Go p e below s _ _ (T17.setTop (mkF m 68 #[rv a0, iv p1, jv z16, .second, iv 4, jv (w3 / (p1.toInt64)), .second] [(.long z16)]))
        exact own_retL X17 hx hlk Bd.returns (hb hby d6_68) (Q := (Q6_4 Z a0 p1 k w0 w1 w2 w3 h0 n0)) ⟨(congrArg (fun z => some (Value.long z)) (show z16 = (own_f6_4 p1 w0 w1 w2 w3) from (by subst hz16 hz10 hz4; unfold own_f6_4; exact rfl.symm))), N17, e17⟩ (by decide) (by decide)
      by_cases hc19 : (w3 / (p1.toInt64)) = (w2 / (p1.toInt64))
      · refine own_via (fun k => XS.ifNo X11.here hx rfl (hb hby d6_33) rfl ((if0 _ _).trans (teq ((lw_eq _ _).mpr hc19)).2) k) ?_
        show own_Go p e below s _ _ (T11.setTop (mkF m 36 #[rv a0, iv p1, jv z10, .second, iv 3, jv (w3 / (p1.toInt64)), .second] []))
        refine own_via (fun k => XS.iload X11.here hx rfl (hb hby d6_36) rfl  (XS.iconst X11.here hx rfl (hb hby d6_38) k)) ?_
        show own_Go p e below s _ _ (T11.setTop (mkF m 39 #[rv a0, iv p1, jv z10, .second, iv 3, jv (w3 / (p1.toInt64)), .second] [(.int 1), (.int 3)]))
        refine own_via (fun k => XS.icmpNo X11.here hx rfl (hb hby d6_39) rfl (by decide) k) ?_
        show own_Go p e below s _ _ (T11.setTop (mkF m 42 #[rv a0, iv p1, jv z10, .second, iv 3, jv (w3 / (p1.toInt64)), .second] []))
        refine own_via (fun k => XS.lload X11.here hx rfl (hb hby d6_42) rfl  (XS.aloadN X11.here hx rfl (hb hby d6_44) rfl rfl  (XS.iload X11.here hx rfl (hb hby d6_45) rfl  (XS.iconst X11.here hx rfl (hb hby d6_47) k)))) ?_
        show own_Go p e below s _ _ (T11.setTop (mkF m 48 #[rv a0, iv p1, jv z10, .second, iv 3, jv (w3 / (p1.toInt64)), .second] [(.int 2), (.int 3), (.ref a0), (.long (w3 / (p1.toInt64)))]))
        refine own_via (fun k => XS.isub X11.here hx rfl (hb hby d6_48) rfl k) ?_
        show own_Go p e below s _ _ (T11.setTop (mkF m 49 #[rv a0, iv p1, jv z10, .second, iv 3, jv (w3 / (p1.toInt64)), .second] [(.int 1), (.ref a0), (.long (w3 / (p1.toInt64)))]))
        obtain ⟨cl20, Ar20, q20, S20, NN20, H20, G20⟩ := id P0
        have hin20 : ¬ ((1 : Int32) < 0 ∨ cl20.slots.size ≤ ((1 : Int32)).toNatClampNeg) := inb_of S20 ⟨by decide, by decide⟩
        have hat20 : cl20.slots[((1 : Int32)).toNatClampNeg]? = some (.long w1) := H20.at hin20 rfl
        refine own_via (fun k => X11.laload hx (j := (1 : Int32)) (v := (.long w1)) (by rw [e11]; exact Ar20.1) (State.isArrayOf_alike hZ.alike Ar20.2.1) Ar20.2.2 hin20 hat20 (g := (mkF m 49 #[rv a0, iv p1, jv z10, .second, iv 3, jv (w3 / (p1.toInt64)), .second] [(.int 1), (.ref a0), (.long (w3 / (p1.toInt64)))])) rfl rfl (hb hby d6_49) _ k) ?_
        show own_Go p e below s _ _ (T11.setTop (mkF m 50 #[rv a0, iv p1, jv z10, .second, iv 3, jv (w3 / (p1.toInt64)), .second] [(.long w1), (.long (w3 / (p1.toInt64)))]))
        refine own_via (fun k => XS.iloadN X11.here hx rfl (hb hby d6_50) rfl  (XS.i2l X11.here hx rfl (hb hby d6_51) rfl (XS.ldiv X11.here hx rfl (hb hby d6_52) rfl hn (XS.lcmp X11.here hx rfl (hb hby d6_53) rfl k)))) ?_
        show own_Go p e below s _ _ (T11.setTop (mkF m 54 #[rv a0, iv p1, jv z10, .second, iv 3, jv (w3 / (p1.toInt64)), .second] [(.int (lcmpW (w3 / (p1.toInt64)) (w1 / (p1.toInt64))))]))
        by_cases hc21 : (w3 / (p1.toInt64)) = (w1 / (p1.toInt64))
        · refine own_via (fun k => XS.ifYes X11.here hx rfl (pc0 := 54) (pc' := 61) rfl (hb hby d6_54) rfl ((if0 _ _).trans (teq ((lw_eq _ _).mpr hc21)).1) (by decide) (by decide) k) ?_
          show own_Go p e below s _ _ (T11.setTop (mkF m 61 #[rv a0, iv p1, jv z10, .second, iv 3, jv (w3 / (p1.toInt64)), .second] []))
          exact J17 _ _ X11 N11 e11 z10 (((if_pos hc19).trans ((if_pos hc21).trans rfl))).symm
        · refine own_via (fun k => XS.ifNo X11.here hx rfl (hb hby d6_54) rfl ((if0 _ _).trans (feq (mt (lw_eq _ _).mp hc21)).1) k) ?_
          show own_Go p e below s _ _ (T11.setTop (mkF m 57 #[rv a0, iv p1, jv z10, .second, iv 3, jv (w3 / (p1.toInt64)), .second] []))
          refine own_via (fun k => XS.lloadN X11.here hx rfl (hb hby d6_57) rfl  (XS.lconst X11.here hx rfl (hb hby d6_58) (XS.ladd X11.here hx rfl (hb hby d6_59) rfl (XS.lstoreN X11.here hx rfl (hb hby d6_60) rfl (l' := #[rv a0, iv p1, jv (z10 + (1 : Int64)), .second, iv 3, jv (w3 / (p1.toInt64)), .second]) rfl k)))) ?_
          show own_Go p e below s _ _ (T11.setTop (mkF m 61 #[rv a0, iv p1, jv (z10 + (1 : Int64)), .second, iv 3, jv (w3 / (p1.toInt64)), .second] []))
          exact J17 _ _ X11 N11 e11 (z10 + (1 : Int64)) (((if_pos hc19).trans ((if_neg hc21).trans rfl))).symm
      · refine own_via (fun k => XS.ifYes X11.here hx rfl (pc0 := 33) (pc' := 61) rfl (hb hby d6_33) rfl ((if0 _ _).trans (feq (mt (lw_eq _ _).mp hc19)).2) (by decide) (by decide) k) ?_
        show own_Go p e below s _ _ (T11.setTop (mkF m 61 #[rv a0, iv p1, jv z10, .second, iv 3, jv (w3 / (p1.toInt64)), .second] []))
        exact J17 _ _ X11 N11 e11 z10 (((if_neg hc19).trans rfl)).symm
    by_cases hc22 : (w2 / (p1.toInt64)) = (w1 / (p1.toInt64))
    · refine own_via (fun k => XS.ifNo X5.here hx rfl (hb hby d6_33) rfl ((if0 _ _).trans (teq ((lw_eq _ _).mpr hc22)).2) k) ?_
      show own_Go p e below s _ _ (T5.setTop (mkF m 36 #[rv a0, iv p1, jv z4, .second, iv 2, jv (w2 / (p1.toInt64)), .second] []))
      refine own_via (fun k => XS.iload X5.here hx rfl (hb hby d6_36) rfl  (XS.iconst X5.here hx rfl (hb hby d6_38) k)) ?_
      show own_Go p e below s _ _ (T5.setTop (mkF m 39 #[rv a0, iv p1, jv z4, .second, iv 2, jv (w2 / (p1.toInt64)), .second] [(.int 1), (.int 2)]))
      refine own_via (fun k => XS.icmpNo X5.here hx rfl (hb hby d6_39) rfl (by decide) k) ?_
      show own_Go p e below s _ _ (T5.setTop (mkF m 42 #[rv a0, iv p1, jv z4, .second, iv 2, jv (w2 / (p1.toInt64)), .second] []))
      refine own_via (fun k => XS.lload X5.here hx rfl (hb hby d6_42) rfl  (XS.aloadN X5.here hx rfl (hb hby d6_44) rfl rfl  (XS.iload X5.here hx rfl (hb hby d6_45) rfl  (XS.iconst X5.here hx rfl (hb hby d6_47) k)))) ?_
      show own_Go p e below s _ _ (T5.setTop (mkF m 48 #[rv a0, iv p1, jv z4, .second, iv 2, jv (w2 / (p1.toInt64)), .second] [(.int 2), (.int 2), (.ref a0), (.long (w2 / (p1.toInt64)))]))
      refine own_via (fun k => XS.isub X5.here hx rfl (hb hby d6_48) rfl k) ?_
      show own_Go p e below s _ _ (T5.setTop (mkF m 49 #[rv a0, iv p1, jv z4, .second, iv 2, jv (w2 / (p1.toInt64)), .second] [(.int 0), (.ref a0), (.long (w2 / (p1.toInt64)))]))
      obtain ⟨cl23, Ar23, q23, S23, NN23, H23, G23⟩ := id P0
      have hin23 : ¬ ((0 : Int32) < 0 ∨ cl23.slots.size ≤ ((0 : Int32)).toNatClampNeg) := inb_of S23 ⟨by decide, by decide⟩
      have hat23 : cl23.slots[((0 : Int32)).toNatClampNeg]? = some (.long w0) := H23.at hin23 rfl
      refine own_via (fun k => X5.laload hx (j := (0 : Int32)) (v := (.long w0)) (by rw [e5]; exact Ar23.1) (State.isArrayOf_alike hZ.alike Ar23.2.1) Ar23.2.2 hin23 hat23 (g := (mkF m 49 #[rv a0, iv p1, jv z4, .second, iv 2, jv (w2 / (p1.toInt64)), .second] [(.int 0), (.ref a0), (.long (w2 / (p1.toInt64)))])) rfl rfl (hb hby d6_49) _ k) ?_
      show own_Go p e below s _ _ (T5.setTop (mkF m 50 #[rv a0, iv p1, jv z4, .second, iv 2, jv (w2 / (p1.toInt64)), .second] [(.long w0), (.long (w2 / (p1.toInt64)))]))
      refine own_via (fun k => XS.iloadN X5.here hx rfl (hb hby d6_50) rfl  (XS.i2l X5.here hx rfl (hb hby d6_51) rfl (XS.ldiv X5.here hx rfl (hb hby d6_52) rfl hn (XS.lcmp X5.here hx rfl (hb hby d6_53) rfl k)))) ?_
      show own_Go p e below s _ _ (T5.setTop (mkF m 54 #[rv a0, iv p1, jv z4, .second, iv 2, jv (w2 / (p1.toInt64)), .second] [(.int (lcmpW (w2 / (p1.toInt64)) (w0 / (p1.toInt64))))]))
      by_cases hc24 : (w2 / (p1.toInt64)) = (w0 / (p1.toInt64))
      · refine own_via (fun k => XS.ifYes X5.here hx rfl (pc0 := 54) (pc' := 61) rfl (hb hby d6_54) rfl ((if0 _ _).trans (teq ((lw_eq _ _).mpr hc24)).1) (by decide) (by decide) k) ?_
        show own_Go p e below s _ _ (T5.setTop (mkF m 61 #[rv a0, iv p1, jv z4, .second, iv 2, jv (w2 / (p1.toInt64)), .second] []))
        exact J11 _ _ X5 N5 e5 z4 (((if_pos hc22).trans ((if_pos hc24).trans rfl))).symm
      · refine own_via (fun k => XS.ifNo X5.here hx rfl (hb hby d6_54) rfl ((if0 _ _).trans (feq (mt (lw_eq _ _).mp hc24)).1) k) ?_
        show own_Go p e below s _ _ (T5.setTop (mkF m 57 #[rv a0, iv p1, jv z4, .second, iv 2, jv (w2 / (p1.toInt64)), .second] []))
        refine own_via (fun k => XS.lloadN X5.here hx rfl (hb hby d6_57) rfl  (XS.lconst X5.here hx rfl (hb hby d6_58) (XS.ladd X5.here hx rfl (hb hby d6_59) rfl (XS.lstoreN X5.here hx rfl (hb hby d6_60) rfl (l' := #[rv a0, iv p1, jv (z4 + (1 : Int64)), .second, iv 2, jv (w2 / (p1.toInt64)), .second]) rfl k)))) ?_
        show own_Go p e below s _ _ (T5.setTop (mkF m 61 #[rv a0, iv p1, jv (z4 + (1 : Int64)), .second, iv 2, jv (w2 / (p1.toInt64)), .second] []))
        exact J11 _ _ X5 N5 e5 (z4 + (1 : Int64)) (((if_pos hc22).trans ((if_neg hc24).trans rfl))).symm
    · refine own_via (fun k => XS.ifYes X5.here hx rfl (pc0 := 33) (pc' := 61) rfl (hb hby d6_33) rfl ((if0 _ _).trans (feq (mt (lw_eq _ _).mp hc22)).2) (by decide) (by decide) k) ?_
      show own_Go p e below s _ _ (T5.setTop (mkF m 61 #[rv a0, iv p1, jv z4, .second, iv 2, jv (w2 / (p1.toInt64)), .second] []))
      exact J11 _ _ X5 N5 e5 z4 (((if_neg hc22).trans rfl)).symm
  by_cases hc25 : (w1 / (p1.toInt64)) = (w0 / (p1.toInt64))
  · refine own_via (fun k => XS.ifNo X0.here hx rfl (hb hby d6_33) rfl ((if0 _ _).trans (teq ((lw_eq _ _).mpr hc25)).2) k) ?_
    show own_Go p e below s _ _ (s₁.setTop (mkF m 36 #[rv a0, iv p1, jv 0, .second, iv 1, jv (w1 / (p1.toInt64)), .second] []))
    refine own_via (fun k => XS.iload X0.here hx rfl (hb hby d6_36) rfl  (XS.iconst X0.here hx rfl (hb hby d6_38) k)) ?_
    show own_Go p e below s _ _ (s₁.setTop (mkF m 39 #[rv a0, iv p1, jv 0, .second, iv 1, jv (w1 / (p1.toInt64)), .second] [(.int 1), (.int 1)]))
    refine own_via (fun k => XS.icmpYes X0.here hx rfl (pc0 := 39) (pc' := 57) rfl (hb hby d6_39) rfl (by decide) (by decide) (by decide) k) ?_
    show own_Go p e below s _ _ (s₁.setTop (mkF m 57 #[rv a0, iv p1, jv 0, .second, iv 1, jv (w1 / (p1.toInt64)), .second] []))
    refine own_via (fun k => XS.lloadN X0.here hx rfl (hb hby d6_57) rfl  (XS.lconst X0.here hx rfl (hb hby d6_58) (XS.ladd X0.here hx rfl (hb hby d6_59) rfl (XS.lstoreN X0.here hx rfl (hb hby d6_60) rfl (l' := #[rv a0, iv p1, jv 1, .second, iv 1, jv (w1 / (p1.toInt64)), .second]) rfl k)))) ?_
    show own_Go p e below s _ _ (s₁.setTop (mkF m 61 #[rv a0, iv p1, jv 1, .second, iv 1, jv (w1 / (p1.toInt64)), .second] []))
    exact J5 _ _ X0 N0 e0 (1 : Int64) (((if_pos hc25).trans rfl)).symm
  · refine own_via (fun k => XS.ifYes X0.here hx rfl (pc0 := 33) (pc' := 61) rfl (hb hby d6_33) rfl ((if0 _ _).trans (feq (mt (lw_eq _ _).mp hc25)).2) (by decide) (by decide) k) ?_
    show own_Go p e below s _ _ (s₁.setTop (mkF m 61 #[rv a0, iv p1, jv 0, .second, iv 1, jv (w1 / (p1.toInt64)), .second] []))
    exact J5 _ _ X0 N0 e0 (0 : Int64) (((if_neg hc25).trans rfl)).symm
theorem ef_6_5 (m : MethodId) (x0 : Addr) (x1 : Int32) : entryFrame m #[(.ref x0), (.int x1)] 7 = mkF m 0 #[rv x0, iv x1, .unset, .unset, .unset, .unset, .unset] [] := by first | (simp [entryFrame, mkF, argsToLocals, Value.category]; done) | rfl
def own_f6_5 (p1 : Int32) (w0 : Int64) (w1 : Int64) (w2 : Int64) (w3 : Int64) (w4 : Int64) : Int64 := (let z4 : Int64 := (if (w1 / (p1.toInt64)) = (w0 / (p1.toInt64)) then (1 : Int64) else (0 : Int64)); (let z10 : Int64 := (if (w2 / (p1.toInt64)) = (w1 / (p1.toInt64)) then (if (w2 / (p1.toInt64)) = (w0 / (p1.toInt64)) then z4 else (z4 + (1 : Int64))) else z4); (let z16 : Int64 := (if (w3 / (p1.toInt64)) = (w2 / (p1.toInt64)) then (if (w3 / (p1.toInt64)) = (w1 / (p1.toInt64)) then z10 else (z10 + (1 : Int64))) else z10); (let z22 : Int64 := (if (w4 / (p1.toInt64)) = (w3 / (p1.toInt64)) then (if (w4 / (p1.toInt64)) = (w2 / (p1.toInt64)) then z16 else (z16 + (1 : Int64))) else z16); z22))))
def Q6_5 (Z : State) (a0 : Addr) (p1 : Int32) (k : ClassId) (w0 : Int64) (w1 : Int64) (w2 : Int64) (w3 : Int64) (w4 : Int64) (h0 : Heap) (n0 : Nat) (v : Option Value) (h : Heap) (L : List Loc) : Prop := v = some (.long (own_f6_5 p1 w0 w1 w2 w3 w4)) ∧ Fr n0 L ∧ h = h0
set_option maxRecDepth 65536 in
set_option maxHeartbeats 40000000 in
theorem rm6_5 (l : Launch) (Z : State) (aw : Array Value) (hw : ∀ d ∈ tables_1, d.before aw Z = true) (ws : List Jvm.Cond) (a0 : Addr) (p1 : Int32) (k : ClassId) (w0 : Int64) (w1 : Int64) (w2 : Int64) (w3 : Int64) (w4 : Int64) (h0 : Heap) (n0 : Nat) (Z0 : n0 ≤ h0.size) (P0 : Arv Z h0 a0 k .long (5 : Int32) [(.long w0), (.long w1), (.long w2), (.long w3), (.long w4)] (.long 0)) (hn : ¬ ((p1.toInt64) = (0 : Int64))) :
    MetFree l (⟨"com/example/waveslot/waveslot/core/CheckerSteps", "repeatedQuotients", "([JI)J"⟩ : MethodName) (head1 (Jvm.Cond.code (⟨"com/example/waveslot/waveslot/core/CheckerSteps", "repeatedQuotients", "([JI)J"⟩ : MethodName) prog_11_method_4_code 7 (some .long) :: ws) ({ frames := 0, cells := 0, slots := 0, locals := 0 } : Room)) (fun a U => a = #[(.ref a0), (.int p1)] ∧ Z.Warmed39 U.vm ∧ U.heap = h0) (fun _ _ _ _ _ => True) (fun _ U o U' => ∃ v L, o = .returned v ∧ Q6_5 Z a0 p1 k w0 w1 w2 w3 w4 h0 n0 v U'.heap L ∧ FrameEnd U o U' L ({ frames := 0, cells := 0, slots := 0, locals := 0 } : Room).cells ({ frames := 0, cells := 0, slots := 0, locals := 0 } : Room).slots) := by
  refine MetFree.of_bodySF (plainFor_of_name pn_6) hisR ?_
  intro p e s m args below meth c s₁ Bd hml0 hP hK
  obtain ⟨rfl, hZ, hh⟩ := hP
  have hx := Bd.exec
  have hby := Bd.bytes
  have hml : c.maxLocals = 7 := hml0
  have hown : s.vm.findClass "com/example/waveslot/waveslot/core/CheckerSteps" = some m.cls := findClass_of_methodNamed Bd.named
  have hnm := (name_of_methodNamed Bd.named Bd.method).1
  have hlk : meth.locks = false := by first | exact BodyLoose.notSynchronized (by assumption) | exact Body.notSynchronized (by assumption)
  have X0 : Stand p l e ({ frames := 0, cells := 0, slots := 0, locals := 0 } : Room) s m #[(.ref a0), (.int p1)] below meth c s₁ [] 0 0 := Stand.of_body Bd
  have e0 : s₁.heap = h0 := by rw [← hh, Bd.state]; rfl
  have N0 := Fr.nil n0
  have K0 : Keep h0 h0 [] := Keep.refl _ _
  refine own_start (CS := (0, 0)) (Q := (Q6_5 Z a0 p1 k w0 w1 w2 w3 w4 h0 n0)) (ef_6_5 m a0 p1) ?_
  show own_Go p e below s _ _ (s₁.setTop (mkF m 0 #[rv a0, iv p1, .unset, .unset, .unset, .unset, .unset] []))
  refine own_via (fun k => XS.lconst X0.here hx rfl (hb hby d6_0) (XS.lstoreN X0.here hx rfl (hb hby d6_1) rfl (l' := #[rv a0, iv p1, jv 0, .second, .unset, .unset, .unset]) rfl (XS.iconst X0.here hx rfl (hb hby d6_2) (XS.istore X0.here hx rfl (hb hby d6_3) rfl (l' := #[rv a0, iv p1, jv 0, .second, iv 1, .unset, .unset]) rfl k)))) ?_
  show own_Go p e below s _ _ (s₁.setTop (mkF m 5 #[rv a0, iv p1, jv 0, .second, iv 1, .unset, .unset] []))
  refine own_via (fun k => XS.iload X0.here hx rfl (hb hby d6_5) rfl  (XS.aloadN X0.here hx rfl (hb hby d6_7) rfl rfl  k)) ?_
  show own_Go p e below s _ _ (s₁.setTop (mkF m 8 #[rv a0, iv p1, jv 0, .second, iv 1, .unset, .unset] [(.ref a0), (.int 1)]))
  obtain ⟨cl1, Ar1, -, S1, NN1, -, -⟩ := id P0
  refine own_via (fun k => X0.arraylength hx (by rw [e0]; exact Ar1.1) (State.isArrayOf_alike hZ.alike Ar1.2.1) (g := (mkF m 8 #[rv a0, iv p1, jv 0, .second, iv 1, .unset, .unset] [(.ref a0), (.int 1)])) rfl rfl (hb hby d6_8) _ k) ?_
  rw [len_of S1 NN1]
  show own_Go p e below s _ _ (s₁.setTop (mkF m 9 #[rv a0, iv p1, jv 0, .second, iv 1, .unset, .unset] [(.int 5), (.int 1)]))
  refine own_via (fun k => XS.icmpNo X0.here hx rfl (hb hby d6_9) rfl (by decide) k) ?_
  show own_Go p e below s _ _ (s₁.setTop (mkF m 12 #[rv a0, iv p1, jv 0, .second, iv 1, .unset, .unset] []))
  refine own_via (fun k => XS.aloadN X0.here hx rfl (hb hby d6_12) rfl rfl  (XS.iload X0.here hx rfl (hb hby d6_13) rfl  k)) ?_
  show own_Go p e below s _ _ (s₁.setTop (mkF m 15 #[rv a0, iv p1, jv 0, .second, iv 1, .unset, .unset] [(.int 1), (.ref a0)]))
  obtain ⟨cl2, Ar2, q2, S2, NN2, H2, G2⟩ := id P0
  have hin2 : ¬ ((1 : Int32) < 0 ∨ cl2.slots.size ≤ ((1 : Int32)).toNatClampNeg) := inb_of S2 ⟨by decide, by decide⟩
  have hat2 : cl2.slots[((1 : Int32)).toNatClampNeg]? = some (.long w1) := H2.at hin2 rfl
  refine own_via (fun k => X0.laload hx (j := (1 : Int32)) (v := (.long w1)) (by rw [e0]; exact Ar2.1) (State.isArrayOf_alike hZ.alike Ar2.2.1) Ar2.2.2 hin2 hat2 (g := (mkF m 15 #[rv a0, iv p1, jv 0, .second, iv 1, .unset, .unset] [(.int 1), (.ref a0)])) rfl rfl (hb hby d6_15) _ k) ?_
  show own_Go p e below s _ _ (s₁.setTop (mkF m 16 #[rv a0, iv p1, jv 0, .second, iv 1, .unset, .unset] [(.long w1)]))
  refine own_via (fun k => XS.iloadN X0.here hx rfl (hb hby d6_16) rfl  (XS.i2l X0.here hx rfl (hb hby d6_17) rfl (XS.ldiv X0.here hx rfl (hb hby d6_18) rfl hn (XS.lstore X0.here hx rfl (hb hby d6_19) rfl (l' := #[rv a0, iv p1, jv 0, .second, iv 1, jv (w1 / (p1.toInt64)), .second]) rfl k)))) ?_
  show own_Go p e below s _ _ (s₁.setTop (mkF m 21 #[rv a0, iv p1, jv 0, .second, iv 1, jv (w1 / (p1.toInt64)), .second] []))
  refine own_via (fun k => XS.lload X0.here hx rfl (hb hby d6_21) rfl  (XS.aloadN X0.here hx rfl (hb hby d6_23) rfl rfl  (XS.iload X0.here hx rfl (hb hby d6_24) rfl  (XS.iconst X0.here hx rfl (hb hby d6_26) k)))) ?_
  show own_Go p e below s _ _ (s₁.setTop (mkF m 27 #[rv a0, iv p1, jv 0, .second, iv 1, jv (w1 / (p1.toInt64)), .second] [(.int 1), (.int 1), (.ref a0), (.long (w1 / (p1.toInt64)))]))
  refine own_via (fun k => XS.isub X0.here hx rfl (hb hby d6_27) rfl k) ?_
  show own_Go p e below s _ _ (s₁.setTop (mkF m 28 #[rv a0, iv p1, jv 0, .second, iv 1, jv (w1 / (p1.toInt64)), .second] [(.int 0), (.ref a0), (.long (w1 / (p1.toInt64)))]))
  obtain ⟨cl3, Ar3, q3, S3, NN3, H3, G3⟩ := id P0
  have hin3 : ¬ ((0 : Int32) < 0 ∨ cl3.slots.size ≤ ((0 : Int32)).toNatClampNeg) := inb_of S3 ⟨by decide, by decide⟩
  have hat3 : cl3.slots[((0 : Int32)).toNatClampNeg]? = some (.long w0) := H3.at hin3 rfl
  refine own_via (fun k => X0.laload hx (j := (0 : Int32)) (v := (.long w0)) (by rw [e0]; exact Ar3.1) (State.isArrayOf_alike hZ.alike Ar3.2.1) Ar3.2.2 hin3 hat3 (g := (mkF m 28 #[rv a0, iv p1, jv 0, .second, iv 1, jv (w1 / (p1.toInt64)), .second] [(.int 0), (.ref a0), (.long (w1 / (p1.toInt64)))])) rfl rfl (hb hby d6_28) _ k) ?_
  show own_Go p e below s _ _ (s₁.setTop (mkF m 29 #[rv a0, iv p1, jv 0, .second, iv 1, jv (w1 / (p1.toInt64)), .second] [(.long w0), (.long (w1 / (p1.toInt64)))]))
  refine own_via (fun k => XS.iloadN X0.here hx rfl (hb hby d6_29) rfl  (XS.i2l X0.here hx rfl (hb hby d6_30) rfl (XS.ldiv X0.here hx rfl (hb hby d6_31) rfl hn (XS.lcmp X0.here hx rfl (hb hby d6_32) rfl k)))) ?_
  show own_Go p e below s _ _ (s₁.setTop (mkF m 33 #[rv a0, iv p1, jv 0, .second, iv 1, jv (w1 / (p1.toInt64)), .second] [(.int (lcmpW (w1 / (p1.toInt64)) (w0 / (p1.toInt64))))]))
  have J5 : ∀ (T5 : State) (lo5 : List Loc), Stand p l e ({ frames := 0, cells := 0, slots := 0, locals := 0 } : Room) s m #[(.ref a0), (.int p1)] below meth c T5 lo5 0 0 → Fr n0 lo5 → T5.heap = h0 → ∀ (z4 : Int64), z4 = (if (w1 / (p1.toInt64)) = (w0 / (p1.toInt64)) then (1 : Int64) else (0 : Int64)) → own_Go p e below s (Q6_5 Z a0 p1 k w0 w1 w2 w3 w4 h0 n0) (0, 0) (T5.setTop (mkF m 61 #[rv a0, iv p1, jv z4, .second, iv 1, jv (w1 / (p1.toInt64)), .second] [])) := by
    intro T5 lo5 X5 N5 e5 z4 hz4
    refine own_via (fun k => XS.iinc X5.here hx rfl (hb hby d6_61) rfl (l' := #[rv a0, iv p1, jv z4, .second, iv 2, jv (w1 / (p1.toInt64)), .second]) rfl (XS.goto X5.here hx rfl (pc0 := 64) (pc' := 5) rfl (hb hby d6_64) (by decide) (by decide) (XS.iload X5.here hx rfl (hb hby d6_5) rfl  (XS.aloadN X5.here hx rfl (hb hby d6_7) rfl rfl  k)))) ?_
    show own_Go p e below s _ _ (T5.setTop (mkF m 8 #[rv a0, iv p1, jv z4, .second, iv 2, jv (w1 / (p1.toInt64)), .second] [(.ref a0), (.int 2)]))
    obtain ⟨cl6, Ar6, -, S6, NN6, -, -⟩ := id P0
    refine own_via (fun k => X5.arraylength hx (by rw [e5]; exact Ar6.1) (State.isArrayOf_alike hZ.alike Ar6.2.1) (g := (mkF m 8 #[rv a0, iv p1, jv z4, .second, iv 2, jv (w1 / (p1.toInt64)), .second] [(.ref a0), (.int 2)])) rfl rfl (hb hby d6_8) _ k) ?_
    rw [len_of S6 NN6]
    show own_Go p e below s _ _ (T5.setTop (mkF m 9 #[rv a0, iv p1, jv z4, .second, iv 2, jv (w1 / (p1.toInt64)), .second] [(.int 5), (.int 2)]))
    refine own_via (fun k => XS.icmpNo X5.here hx rfl (hb hby d6_9) rfl (by decide) k) ?_
    show own_Go p e below s _ _ (T5.setTop (mkF m 12 #[rv a0, iv p1, jv z4, .second, iv 2, jv (w1 / (p1.toInt64)), .second] []))
    refine own_via (fun k => XS.aloadN X5.here hx rfl (hb hby d6_12) rfl rfl  (XS.iload X5.here hx rfl (hb hby d6_13) rfl  k)) ?_
    show own_Go p e below s _ _ (T5.setTop (mkF m 15 #[rv a0, iv p1, jv z4, .second, iv 2, jv (w1 / (p1.toInt64)), .second] [(.int 2), (.ref a0)]))
    obtain ⟨cl7, Ar7, q7, S7, NN7, H7, G7⟩ := id P0
    have hin7 : ¬ ((2 : Int32) < 0 ∨ cl7.slots.size ≤ ((2 : Int32)).toNatClampNeg) := inb_of S7 ⟨by decide, by decide⟩
    have hat7 : cl7.slots[((2 : Int32)).toNatClampNeg]? = some (.long w2) := H7.at hin7 rfl
    refine own_via (fun k => X5.laload hx (j := (2 : Int32)) (v := (.long w2)) (by rw [e5]; exact Ar7.1) (State.isArrayOf_alike hZ.alike Ar7.2.1) Ar7.2.2 hin7 hat7 (g := (mkF m 15 #[rv a0, iv p1, jv z4, .second, iv 2, jv (w1 / (p1.toInt64)), .second] [(.int 2), (.ref a0)])) rfl rfl (hb hby d6_15) _ k) ?_
    show own_Go p e below s _ _ (T5.setTop (mkF m 16 #[rv a0, iv p1, jv z4, .second, iv 2, jv (w1 / (p1.toInt64)), .second] [(.long w2)]))
    refine own_via (fun k => XS.iloadN X5.here hx rfl (hb hby d6_16) rfl  (XS.i2l X5.here hx rfl (hb hby d6_17) rfl (XS.ldiv X5.here hx rfl (hb hby d6_18) rfl hn (XS.lstore X5.here hx rfl (hb hby d6_19) rfl (l' := #[rv a0, iv p1, jv z4, .second, iv 2, jv (w2 / (p1.toInt64)), .second]) rfl k)))) ?_
    show own_Go p e below s _ _ (T5.setTop (mkF m 21 #[rv a0, iv p1, jv z4, .second, iv 2, jv (w2 / (p1.toInt64)), .second] []))
    refine own_via (fun k => XS.lload X5.here hx rfl (hb hby d6_21) rfl  (XS.aloadN X5.here hx rfl (hb hby d6_23) rfl rfl  (XS.iload X5.here hx rfl (hb hby d6_24) rfl  (XS.iconst X5.here hx rfl (hb hby d6_26) k)))) ?_
    show own_Go p e below s _ _ (T5.setTop (mkF m 27 #[rv a0, iv p1, jv z4, .second, iv 2, jv (w2 / (p1.toInt64)), .second] [(.int 1), (.int 2), (.ref a0), (.long (w2 / (p1.toInt64)))]))
    refine own_via (fun k => XS.isub X5.here hx rfl (hb hby d6_27) rfl k) ?_
    show own_Go p e below s _ _ (T5.setTop (mkF m 28 #[rv a0, iv p1, jv z4, .second, iv 2, jv (w2 / (p1.toInt64)), .second] [(.int 1), (.ref a0), (.long (w2 / (p1.toInt64)))]))
    obtain ⟨cl8, Ar8, q8, S8, NN8, H8, G8⟩ := id P0
    have hin8 : ¬ ((1 : Int32) < 0 ∨ cl8.slots.size ≤ ((1 : Int32)).toNatClampNeg) := inb_of S8 ⟨by decide, by decide⟩
    have hat8 : cl8.slots[((1 : Int32)).toNatClampNeg]? = some (.long w1) := H8.at hin8 rfl
    refine own_via (fun k => X5.laload hx (j := (1 : Int32)) (v := (.long w1)) (by rw [e5]; exact Ar8.1) (State.isArrayOf_alike hZ.alike Ar8.2.1) Ar8.2.2 hin8 hat8 (g := (mkF m 28 #[rv a0, iv p1, jv z4, .second, iv 2, jv (w2 / (p1.toInt64)), .second] [(.int 1), (.ref a0), (.long (w2 / (p1.toInt64)))])) rfl rfl (hb hby d6_28) _ k) ?_
    show own_Go p e below s _ _ (T5.setTop (mkF m 29 #[rv a0, iv p1, jv z4, .second, iv 2, jv (w2 / (p1.toInt64)), .second] [(.long w1), (.long (w2 / (p1.toInt64)))]))
    refine own_via (fun k => XS.iloadN X5.here hx rfl (hb hby d6_29) rfl  (XS.i2l X5.here hx rfl (hb hby d6_30) rfl (XS.ldiv X5.here hx rfl (hb hby d6_31) rfl hn (XS.lcmp X5.here hx rfl (hb hby d6_32) rfl k)))) ?_
    show own_Go p e below s _ _ (T5.setTop (mkF m 33 #[rv a0, iv p1, jv z4, .second, iv 2, jv (w2 / (p1.toInt64)), .second] [(.int (lcmpW (w2 / (p1.toInt64)) (w1 / (p1.toInt64))))]))
    have J11 : ∀ (T11 : State) (lo11 : List Loc), Stand p l e ({ frames := 0, cells := 0, slots := 0, locals := 0 } : Room) s m #[(.ref a0), (.int p1)] below meth c T11 lo11 0 0 → Fr n0 lo11 → T11.heap = h0 → ∀ (z10 : Int64), z10 = (if (w2 / (p1.toInt64)) = (w1 / (p1.toInt64)) then (if (w2 / (p1.toInt64)) = (w0 / (p1.toInt64)) then z4 else (z4 + (1 : Int64))) else z4) → own_Go p e below s (Q6_5 Z a0 p1 k w0 w1 w2 w3 w4 h0 n0) (0, 0) (T11.setTop (mkF m 61 #[rv a0, iv p1, jv z10, .second, iv 2, jv (w2 / (p1.toInt64)), .second] [])) := by
      intro T11 lo11 X11 N11 e11 z10 hz10
      refine own_via (fun k => XS.iinc X11.here hx rfl (hb hby d6_61) rfl (l' := #[rv a0, iv p1, jv z10, .second, iv 3, jv (w2 / (p1.toInt64)), .second]) rfl (XS.goto X11.here hx rfl (pc0 := 64) (pc' := 5) rfl (hb hby d6_64) (by decide) (by decide) (XS.iload X11.here hx rfl (hb hby d6_5) rfl  (XS.aloadN X11.here hx rfl (hb hby d6_7) rfl rfl  k)))) ?_
      show own_Go p e below s _ _ (T11.setTop (mkF m 8 #[rv a0, iv p1, jv z10, .second, iv 3, jv (w2 / (p1.toInt64)), .second] [(.ref a0), (.int 3)]))
      obtain ⟨cl12, Ar12, -, S12, NN12, -, -⟩ := id P0
      refine own_via (fun k => X11.arraylength hx (by rw [e11]; exact Ar12.1) (State.isArrayOf_alike hZ.alike Ar12.2.1) (g := (mkF m 8 #[rv a0, iv p1, jv z10, .second, iv 3, jv (w2 / (p1.toInt64)), .second] [(.ref a0), (.int 3)])) rfl rfl (hb hby d6_8) _ k) ?_
      rw [len_of S12 NN12]
      show own_Go p e below s _ _ (T11.setTop (mkF m 9 #[rv a0, iv p1, jv z10, .second, iv 3, jv (w2 / (p1.toInt64)), .second] [(.int 5), (.int 3)]))
      refine own_via (fun k => XS.icmpNo X11.here hx rfl (hb hby d6_9) rfl (by decide) k) ?_
      show own_Go p e below s _ _ (T11.setTop (mkF m 12 #[rv a0, iv p1, jv z10, .second, iv 3, jv (w2 / (p1.toInt64)), .second] []))
      refine own_via (fun k => XS.aloadN X11.here hx rfl (hb hby d6_12) rfl rfl  (XS.iload X11.here hx rfl (hb hby d6_13) rfl  k)) ?_
      show own_Go p e below s _ _ (T11.setTop (mkF m 15 #[rv a0, iv p1, jv z10, .second, iv 3, jv (w2 / (p1.toInt64)), .second] [(.int 3), (.ref a0)]))
      obtain ⟨cl13, Ar13, q13, S13, NN13, H13, G13⟩ := id P0
      have hin13 : ¬ ((3 : Int32) < 0 ∨ cl13.slots.size ≤ ((3 : Int32)).toNatClampNeg) := inb_of S13 ⟨by decide, by decide⟩
      have hat13 : cl13.slots[((3 : Int32)).toNatClampNeg]? = some (.long w3) := H13.at hin13 rfl
      refine own_via (fun k => X11.laload hx (j := (3 : Int32)) (v := (.long w3)) (by rw [e11]; exact Ar13.1) (State.isArrayOf_alike hZ.alike Ar13.2.1) Ar13.2.2 hin13 hat13 (g := (mkF m 15 #[rv a0, iv p1, jv z10, .second, iv 3, jv (w2 / (p1.toInt64)), .second] [(.int 3), (.ref a0)])) rfl rfl (hb hby d6_15) _ k) ?_
      show own_Go p e below s _ _ (T11.setTop (mkF m 16 #[rv a0, iv p1, jv z10, .second, iv 3, jv (w2 / (p1.toInt64)), .second] [(.long w3)]))
      refine own_via (fun k => XS.iloadN X11.here hx rfl (hb hby d6_16) rfl  (XS.i2l X11.here hx rfl (hb hby d6_17) rfl (XS.ldiv X11.here hx rfl (hb hby d6_18) rfl hn (XS.lstore X11.here hx rfl (hb hby d6_19) rfl (l' := #[rv a0, iv p1, jv z10, .second, iv 3, jv (w3 / (p1.toInt64)), .second]) rfl k)))) ?_
      show own_Go p e below s _ _ (T11.setTop (mkF m 21 #[rv a0, iv p1, jv z10, .second, iv 3, jv (w3 / (p1.toInt64)), .second] []))
      refine own_via (fun k => XS.lload X11.here hx rfl (hb hby d6_21) rfl  (XS.aloadN X11.here hx rfl (hb hby d6_23) rfl rfl  (XS.iload X11.here hx rfl (hb hby d6_24) rfl  (XS.iconst X11.here hx rfl (hb hby d6_26) k)))) ?_
      show own_Go p e below s _ _ (T11.setTop (mkF m 27 #[rv a0, iv p1, jv z10, .second, iv 3, jv (w3 / (p1.toInt64)), .second] [(.int 1), (.int 3), (.ref a0), (.long (w3 / (p1.toInt64)))]))
      refine own_via (fun k => XS.isub X11.here hx rfl (hb hby d6_27) rfl k) ?_
      show own_Go p e below s _ _ (T11.setTop (mkF m 28 #[rv a0, iv p1, jv z10, .second, iv 3, jv (w3 / (p1.toInt64)), .second] [(.int 2), (.ref a0), (.long (w3 / (p1.toInt64)))]))
      obtain ⟨cl14, Ar14, q14, S14, NN14, H14, G14⟩ := id P0
      have hin14 : ¬ ((2 : Int32) < 0 ∨ cl14.slots.size ≤ ((2 : Int32)).toNatClampNeg) := inb_of S14 ⟨by decide, by decide⟩
      have hat14 : cl14.slots[((2 : Int32)).toNatClampNeg]? = some (.long w2) := H14.at hin14 rfl
      refine own_via (fun k => X11.laload hx (j := (2 : Int32)) (v := (.long w2)) (by rw [e11]; exact Ar14.1) (State.isArrayOf_alike hZ.alike Ar14.2.1) Ar14.2.2 hin14 hat14 (g := (mkF m 28 #[rv a0, iv p1, jv z10, .second, iv 3, jv (w3 / (p1.toInt64)), .second] [(.int 2), (.ref a0), (.long (w3 / (p1.toInt64)))])) rfl rfl (hb hby d6_28) _ k) ?_
      show own_Go p e below s _ _ (T11.setTop (mkF m 29 #[rv a0, iv p1, jv z10, .second, iv 3, jv (w3 / (p1.toInt64)), .second] [(.long w2), (.long (w3 / (p1.toInt64)))]))
      refine own_via (fun k => XS.iloadN X11.here hx rfl (hb hby d6_29) rfl  (XS.i2l X11.here hx rfl (hb hby d6_30) rfl (XS.ldiv X11.here hx rfl (hb hby d6_31) rfl hn (XS.lcmp X11.here hx rfl (hb hby d6_32) rfl k)))) ?_
      show own_Go p e below s _ _ (T11.setTop (mkF m 33 #[rv a0, iv p1, jv z10, .second, iv 3, jv (w3 / (p1.toInt64)), .second] [(.int (lcmpW (w3 / (p1.toInt64)) (w2 / (p1.toInt64))))]))
      have J17 : ∀ (T17 : State) (lo17 : List Loc), Stand p l e ({ frames := 0, cells := 0, slots := 0, locals := 0 } : Room) s m #[(.ref a0), (.int p1)] below meth c T17 lo17 0 0 → Fr n0 lo17 → T17.heap = h0 → ∀ (z16 : Int64), z16 = (if (w3 / (p1.toInt64)) = (w2 / (p1.toInt64)) then (if (w3 / (p1.toInt64)) = (w1 / (p1.toInt64)) then z10 else (z10 + (1 : Int64))) else z10) → own_Go p e below s (Q6_5 Z a0 p1 k w0 w1 w2 w3 w4 h0 n0) (0, 0) (T17.setTop (mkF m 61 #[rv a0, iv p1, jv z16, .second, iv 3, jv (w3 / (p1.toInt64)), .second] [])) := by
        intro T17 lo17 X17 N17 e17 z16 hz16
        refine own_via (fun k => XS.iinc X17.here hx rfl (hb hby d6_61) rfl (l' := #[rv a0, iv p1, jv z16, .second, iv 4, jv (w3 / (p1.toInt64)), .second]) rfl (XS.goto X17.here hx rfl (pc0 := 64) (pc' := 5) rfl (hb hby d6_64) (by decide) (by decide) (XS.iload X17.here hx rfl (hb hby d6_5) rfl  (XS.aloadN X17.here hx rfl (hb hby d6_7) rfl rfl  k)))) ?_
        show own_Go p e below s _ _ (T17.setTop (mkF m 8 #[rv a0, iv p1, jv z16, .second, iv 4, jv (w3 / (p1.toInt64)), .second] [(.ref a0), (.int 4)]))
        obtain ⟨cl18, Ar18, -, S18, NN18, -, -⟩ := id P0
        refine own_via (fun k => X17.arraylength hx (by rw [e17]; exact Ar18.1) (State.isArrayOf_alike hZ.alike Ar18.2.1) (g := (mkF m 8 #[rv a0, iv p1, jv z16, .second, iv 4, jv (w3 / (p1.toInt64)), .second] [(.ref a0), (.int 4)])) rfl rfl (hb hby d6_8) _ k) ?_
        rw [len_of S18 NN18]
        show own_Go p e below s _ _ (T17.setTop (mkF m 9 #[rv a0, iv p1, jv z16, .second, iv 4, jv (w3 / (p1.toInt64)), .second] [(.int 5), (.int 4)]))
        refine own_via (fun k => XS.icmpNo X17.here hx rfl (hb hby d6_9) rfl (by decide) k) ?_
        show own_Go p e below s _ _ (T17.setTop (mkF m 12 #[rv a0, iv p1, jv z16, .second, iv 4, jv (w3 / (p1.toInt64)), .second] []))
        refine own_via (fun k => XS.aloadN X17.here hx rfl (hb hby d6_12) rfl rfl  (XS.iload X17.here hx rfl (hb hby d6_13) rfl  k)) ?_
        show own_Go p e below s _ _ (T17.setTop (mkF m 15 #[rv a0, iv p1, jv z16, .second, iv 4, jv (w3 / (p1.toInt64)), .second] [(.int 4), (.ref a0)]))
        obtain ⟨cl19, Ar19, q19, S19, NN19, H19, G19⟩ := id P0
        have hin19 : ¬ ((4 : Int32) < 0 ∨ cl19.slots.size ≤ ((4 : Int32)).toNatClampNeg) := inb_of S19 ⟨by decide, by decide⟩
        have hat19 : cl19.slots[((4 : Int32)).toNatClampNeg]? = some (.long w4) := H19.at hin19 rfl
        refine own_via (fun k => X17.laload hx (j := (4 : Int32)) (v := (.long w4)) (by rw [e17]; exact Ar19.1) (State.isArrayOf_alike hZ.alike Ar19.2.1) Ar19.2.2 hin19 hat19 (g := (mkF m 15 #[rv a0, iv p1, jv z16, .second, iv 4, jv (w3 / (p1.toInt64)), .second] [(.int 4), (.ref a0)])) rfl rfl (hb hby d6_15) _ k) ?_
        show own_Go p e below s _ _ (T17.setTop (mkF m 16 #[rv a0, iv p1, jv z16, .second, iv 4, jv (w3 / (p1.toInt64)), .second] [(.long w4)]))
        refine own_via (fun k => XS.iloadN X17.here hx rfl (hb hby d6_16) rfl  (XS.i2l X17.here hx rfl (hb hby d6_17) rfl (XS.ldiv X17.here hx rfl (hb hby d6_18) rfl hn (XS.lstore X17.here hx rfl (hb hby d6_19) rfl (l' := #[rv a0, iv p1, jv z16, .second, iv 4, jv (w4 / (p1.toInt64)), .second]) rfl k)))) ?_
        show own_Go p e below s _ _ (T17.setTop (mkF m 21 #[rv a0, iv p1, jv z16, .second, iv 4, jv (w4 / (p1.toInt64)), .second] []))
        refine own_via (fun k => XS.lload X17.here hx rfl (hb hby d6_21) rfl  (XS.aloadN X17.here hx rfl (hb hby d6_23) rfl rfl  (XS.iload X17.here hx rfl (hb hby d6_24) rfl  (XS.iconst X17.here hx rfl (hb hby d6_26) k)))) ?_
        show own_Go p e below s _ _ (T17.setTop (mkF m 27 #[rv a0, iv p1, jv z16, .second, iv 4, jv (w4 / (p1.toInt64)), .second] [(.int 1), (.int 4), (.ref a0), (.long (w4 / (p1.toInt64)))]))
        refine own_via (fun k => XS.isub X17.here hx rfl (hb hby d6_27) rfl k) ?_
        show own_Go p e below s _ _ (T17.setTop (mkF m 28 #[rv a0, iv p1, jv z16, .second, iv 4, jv (w4 / (p1.toInt64)), .second] [(.int 3), (.ref a0), (.long (w4 / (p1.toInt64)))]))
        obtain ⟨cl20, Ar20, q20, S20, NN20, H20, G20⟩ := id P0
        have hin20 : ¬ ((3 : Int32) < 0 ∨ cl20.slots.size ≤ ((3 : Int32)).toNatClampNeg) := inb_of S20 ⟨by decide, by decide⟩
        have hat20 : cl20.slots[((3 : Int32)).toNatClampNeg]? = some (.long w3) := H20.at hin20 rfl
        refine own_via (fun k => X17.laload hx (j := (3 : Int32)) (v := (.long w3)) (by rw [e17]; exact Ar20.1) (State.isArrayOf_alike hZ.alike Ar20.2.1) Ar20.2.2 hin20 hat20 (g := (mkF m 28 #[rv a0, iv p1, jv z16, .second, iv 4, jv (w4 / (p1.toInt64)), .second] [(.int 3), (.ref a0), (.long (w4 / (p1.toInt64)))])) rfl rfl (hb hby d6_28) _ k) ?_
        show own_Go p e below s _ _ (T17.setTop (mkF m 29 #[rv a0, iv p1, jv z16, .second, iv 4, jv (w4 / (p1.toInt64)), .second] [(.long w3), (.long (w4 / (p1.toInt64)))]))
        refine own_via (fun k => XS.iloadN X17.here hx rfl (hb hby d6_29) rfl  (XS.i2l X17.here hx rfl (hb hby d6_30) rfl (XS.ldiv X17.here hx rfl (hb hby d6_31) rfl hn (XS.lcmp X17.here hx rfl (hb hby d6_32) rfl k)))) ?_
        show own_Go p e below s _ _ (T17.setTop (mkF m 33 #[rv a0, iv p1, jv z16, .second, iv 4, jv (w4 / (p1.toInt64)), .second] [(.int (lcmpW (w4 / (p1.toInt64)) (w3 / (p1.toInt64))))]))
        have J23 : ∀ (T23 : State) (lo23 : List Loc), Stand p l e ({ frames := 0, cells := 0, slots := 0, locals := 0 } : Room) s m #[(.ref a0), (.int p1)] below meth c T23 lo23 0 0 → Fr n0 lo23 → T23.heap = h0 → ∀ (z22 : Int64), z22 = (if (w4 / (p1.toInt64)) = (w3 / (p1.toInt64)) then (if (w4 / (p1.toInt64)) = (w2 / (p1.toInt64)) then z16 else (z16 + (1 : Int64))) else z16) → own_Go p e below s (Q6_5 Z a0 p1 k w0 w1 w2 w3 w4 h0 n0) (0, 0) (T23.setTop (mkF m 61 #[rv a0, iv p1, jv z22, .second, iv 4, jv (w4 / (p1.toInt64)), .second] [])) := by
          intro T23 lo23 X23 N23 e23 z22 hz22
          refine own_via (fun k => XS.iinc X23.here hx rfl (hb hby d6_61) rfl (l' := #[rv a0, iv p1, jv z22, .second, iv 5, jv (w4 / (p1.toInt64)), .second]) rfl (XS.goto X23.here hx rfl (pc0 := 64) (pc' := 5) rfl (hb hby d6_64) (by decide) (by decide) (XS.iload X23.here hx rfl (hb hby d6_5) rfl  (XS.aloadN X23.here hx rfl (hb hby d6_7) rfl rfl  k)))) ?_
          show own_Go p e below s _ _ (T23.setTop (mkF m 8 #[rv a0, iv p1, jv z22, .second, iv 5, jv (w4 / (p1.toInt64)), .second] [(.ref a0), (.int 5)]))
          obtain ⟨cl24, Ar24, -, S24, NN24, -, -⟩ := id P0
          refine own_via (fun k => X23.arraylength hx (by rw [e23]; exact Ar24.1) (State.isArrayOf_alike hZ.alike Ar24.2.1) (g := (mkF m 8 #[rv a0, iv p1, jv z22, .second, iv 5, jv (w4 / (p1.toInt64)), .second] [(.ref a0), (.int 5)])) rfl rfl (hb hby d6_8) _ k) ?_
          rw [len_of S24 NN24]
          show own_Go p e below s _ _ (T23.setTop (mkF m 9 #[rv a0, iv p1, jv z22, .second, iv 5, jv (w4 / (p1.toInt64)), .second] [(.int 5), (.int 5)]))
          refine own_via (fun k => XS.icmpYes X23.here hx rfl (pc0 := 9) (pc' := 67) rfl (hb hby d6_9) rfl (by decide) (by decide) (by decide) k) ?_
          show own_Go p e below s _ _ (T23.setTop (mkF m 67 #[rv a0, iv p1, jv z22, .second, iv 5, jv (w4 / (p1.toInt64)), .second] []))
          refine own_via (fun k => XS.lloadN X23.here hx rfl (hb hby d6_67) rfl  k) ?_
          show own_Go p e below s _ _ (T23.setTop (mkF m 68 #[rv a0, iv p1, jv z22, .second, iv 5, jv (w4 / (p1.toInt64)), .second] [(.long z22)]))
          exact own_retL X23 hx hlk Bd.returns (hb hby d6_68) (Q := (Q6_5 Z a0 p1 k w0 w1 w2 w3 w4 h0 n0)) ⟨(congrArg (fun z => some (Value.long z)) (show z22 = (own_f6_5 p1 w0 w1 w2 w3 w4) from (by subst hz22 hz16 hz10 hz4; unfold own_f6_5; exact rfl.symm))), N23, e23⟩ (by decide) (by decide)
        by_cases hc25 : (w4 / (p1.toInt64)) = (w3 / (p1.toInt64))
        · refine own_via (fun k => XS.ifNo X17.here hx rfl (hb hby d6_33) rfl ((if0 _ _).trans (teq ((lw_eq _ _).mpr hc25)).2) k) ?_
          show own_Go p e below s _ _ (T17.setTop (mkF m 36 #[rv a0, iv p1, jv z16, .second, iv 4, jv (w4 / (p1.toInt64)), .second] []))
          refine own_via (fun k => XS.iload X17.here hx rfl (hb hby d6_36) rfl  (XS.iconst X17.here hx rfl (hb hby d6_38) k)) ?_
          show own_Go p e below s _ _ (T17.setTop (mkF m 39 #[rv a0, iv p1, jv z16, .second, iv 4, jv (w4 / (p1.toInt64)), .second] [(.int 1), (.int 4)]))
          refine own_via (fun k => XS.icmpNo X17.here hx rfl (hb hby d6_39) rfl (by decide) k) ?_
          show own_Go p e below s _ _ (T17.setTop (mkF m 42 #[rv a0, iv p1, jv z16, .second, iv 4, jv (w4 / (p1.toInt64)), .second] []))
          refine own_via (fun k => XS.lload X17.here hx rfl (hb hby d6_42) rfl  (XS.aloadN X17.here hx rfl (hb hby d6_44) rfl rfl  (XS.iload X17.here hx rfl (hb hby d6_45) rfl  (XS.iconst X17.here hx rfl (hb hby d6_47) k)))) ?_
          show own_Go p e below s _ _ (T17.setTop (mkF m 48 #[rv a0, iv p1, jv z16, .second, iv 4, jv (w4 / (p1.toInt64)), .second] [(.int 2), (.int 4), (.ref a0), (.long (w4 / (p1.toInt64)))]))
          refine own_via (fun k => XS.isub X17.here hx rfl (hb hby d6_48) rfl k) ?_
          show own_Go p e below s _ _ (T17.setTop (mkF m 49 #[rv a0, iv p1, jv z16, .second, iv 4, jv (w4 / (p1.toInt64)), .second] [(.int 2), (.ref a0), (.long (w4 / (p1.toInt64)))]))
          obtain ⟨cl26, Ar26, q26, S26, NN26, H26, G26⟩ := id P0
          have hin26 : ¬ ((2 : Int32) < 0 ∨ cl26.slots.size ≤ ((2 : Int32)).toNatClampNeg) := inb_of S26 ⟨by decide, by decide⟩
          have hat26 : cl26.slots[((2 : Int32)).toNatClampNeg]? = some (.long w2) := H26.at hin26 rfl
          refine own_via (fun k => X17.laload hx (j := (2 : Int32)) (v := (.long w2)) (by rw [e17]; exact Ar26.1) (State.isArrayOf_alike hZ.alike Ar26.2.1) Ar26.2.2 hin26 hat26 (g := (mkF m 49 #[rv a0, iv p1, jv z16, .second, iv 4, jv (w4 / (p1.toInt64)), .second] [(.int 2), (.ref a0), (.long (w4 / (p1.toInt64)))])) rfl rfl (hb hby d6_49) _ k) ?_
          show own_Go p e below s _ _ (T17.setTop (mkF m 50 #[rv a0, iv p1, jv z16, .second, iv 4, jv (w4 / (p1.toInt64)), .second] [(.long w2), (.long (w4 / (p1.toInt64)))]))
          refine own_via (fun k => XS.iloadN X17.here hx rfl (hb hby d6_50) rfl  (XS.i2l X17.here hx rfl (hb hby d6_51) rfl (XS.ldiv X17.here hx rfl (hb hby d6_52) rfl hn (XS.lcmp X17.here hx rfl (hb hby d6_53) rfl k)))) ?_
          show own_Go p e below s _ _ (T17.setTop (mkF m 54 #[rv a0, iv p1, jv z16, .second, iv 4, jv (w4 / (p1.toInt64)), .second] [(.int (lcmpW (w4 / (p1.toInt64)) (w2 / (p1.toInt64))))]))
          by_cases hc27 : (w4 / (p1.toInt64)) = (w2 / (p1.toInt64))
          · refine own_via (fun k => XS.ifYes X17.here hx rfl (pc0 := 54) (pc' := 61) rfl (hb hby d6_54) rfl ((if0 _ _).trans (teq ((lw_eq _ _).mpr hc27)).1) (by decide) (by decide) k) ?_
            show own_Go p e below s _ _ (T17.setTop (mkF m 61 #[rv a0, iv p1, jv z16, .second, iv 4, jv (w4 / (p1.toInt64)), .second] []))
            exact J23 _ _ X17 N17 e17 z16 (((if_pos hc25).trans ((if_pos hc27).trans rfl))).symm
          · refine own_via (fun k => XS.ifNo X17.here hx rfl (hb hby d6_54) rfl ((if0 _ _).trans (feq (mt (lw_eq _ _).mp hc27)).1) k) ?_
            show own_Go p e below s _ _ (T17.setTop (mkF m 57 #[rv a0, iv p1, jv z16, .second, iv 4, jv (w4 / (p1.toInt64)), .second] []))
            refine own_via (fun k => XS.lloadN X17.here hx rfl (hb hby d6_57) rfl  (XS.lconst X17.here hx rfl (hb hby d6_58) (XS.ladd X17.here hx rfl (hb hby d6_59) rfl (XS.lstoreN X17.here hx rfl (hb hby d6_60) rfl (l' := #[rv a0, iv p1, jv (z16 + (1 : Int64)), .second, iv 4, jv (w4 / (p1.toInt64)), .second]) rfl k)))) ?_
            show own_Go p e below s _ _ (T17.setTop (mkF m 61 #[rv a0, iv p1, jv (z16 + (1 : Int64)), .second, iv 4, jv (w4 / (p1.toInt64)), .second] []))
            exact J23 _ _ X17 N17 e17 (z16 + (1 : Int64)) (((if_pos hc25).trans ((if_neg hc27).trans rfl))).symm
        · refine own_via (fun k => XS.ifYes X17.here hx rfl (pc0 := 33) (pc' := 61) rfl (hb hby d6_33) rfl ((if0 _ _).trans (feq (mt (lw_eq _ _).mp hc25)).2) (by decide) (by decide) k) ?_
          show own_Go p e below s _ _ (T17.setTop (mkF m 61 #[rv a0, iv p1, jv z16, .second, iv 4, jv (w4 / (p1.toInt64)), .second] []))
          exact J23 _ _ X17 N17 e17 z16 (((if_neg hc25).trans rfl)).symm
      by_cases hc28 : (w3 / (p1.toInt64)) = (w2 / (p1.toInt64))
      · refine own_via (fun k => XS.ifNo X11.here hx rfl (hb hby d6_33) rfl ((if0 _ _).trans (teq ((lw_eq _ _).mpr hc28)).2) k) ?_
        show own_Go p e below s _ _ (T11.setTop (mkF m 36 #[rv a0, iv p1, jv z10, .second, iv 3, jv (w3 / (p1.toInt64)), .second] []))
        refine own_via (fun k => XS.iload X11.here hx rfl (hb hby d6_36) rfl  (XS.iconst X11.here hx rfl (hb hby d6_38) k)) ?_
        show own_Go p e below s _ _ (T11.setTop (mkF m 39 #[rv a0, iv p1, jv z10, .second, iv 3, jv (w3 / (p1.toInt64)), .second] [(.int 1), (.int 3)]))
        refine own_via (fun k => XS.icmpNo X11.here hx rfl (hb hby d6_39) rfl (by decide) k) ?_
        show own_Go p e below s _ _ (T11.setTop (mkF m 42 #[rv a0, iv p1, jv z10, .second, iv 3, jv (w3 / (p1.toInt64)), .second] []))
        refine own_via (fun k => XS.lload X11.here hx rfl (hb hby d6_42) rfl  (XS.aloadN X11.here hx rfl (hb hby d6_44) rfl rfl  (XS.iload X11.here hx rfl (hb hby d6_45) rfl  (XS.iconst X11.here hx rfl (hb hby d6_47) k)))) ?_
        show own_Go p e below s _ _ (T11.setTop (mkF m 48 #[rv a0, iv p1, jv z10, .second, iv 3, jv (w3 / (p1.toInt64)), .second] [(.int 2), (.int 3), (.ref a0), (.long (w3 / (p1.toInt64)))]))
        refine own_via (fun k => XS.isub X11.here hx rfl (hb hby d6_48) rfl k) ?_
        show own_Go p e below s _ _ (T11.setTop (mkF m 49 #[rv a0, iv p1, jv z10, .second, iv 3, jv (w3 / (p1.toInt64)), .second] [(.int 1), (.ref a0), (.long (w3 / (p1.toInt64)))]))
        obtain ⟨cl29, Ar29, q29, S29, NN29, H29, G29⟩ := id P0
        have hin29 : ¬ ((1 : Int32) < 0 ∨ cl29.slots.size ≤ ((1 : Int32)).toNatClampNeg) := inb_of S29 ⟨by decide, by decide⟩
        have hat29 : cl29.slots[((1 : Int32)).toNatClampNeg]? = some (.long w1) := H29.at hin29 rfl
        refine own_via (fun k => X11.laload hx (j := (1 : Int32)) (v := (.long w1)) (by rw [e11]; exact Ar29.1) (State.isArrayOf_alike hZ.alike Ar29.2.1) Ar29.2.2 hin29 hat29 (g := (mkF m 49 #[rv a0, iv p1, jv z10, .second, iv 3, jv (w3 / (p1.toInt64)), .second] [(.int 1), (.ref a0), (.long (w3 / (p1.toInt64)))])) rfl rfl (hb hby d6_49) _ k) ?_
        show own_Go p e below s _ _ (T11.setTop (mkF m 50 #[rv a0, iv p1, jv z10, .second, iv 3, jv (w3 / (p1.toInt64)), .second] [(.long w1), (.long (w3 / (p1.toInt64)))]))
        refine own_via (fun k => XS.iloadN X11.here hx rfl (hb hby d6_50) rfl  (XS.i2l X11.here hx rfl (hb hby d6_51) rfl (XS.ldiv X11.here hx rfl (hb hby d6_52) rfl hn (XS.lcmp X11.here hx rfl (hb hby d6_53) rfl k)))) ?_
        show own_Go p e below s _ _ (T11.setTop (mkF m 54 #[rv a0, iv p1, jv z10, .second, iv 3, jv (w3 / (p1.toInt64)), .second] [(.int (lcmpW (w3 / (p1.toInt64)) (w1 / (p1.toInt64))))]))
        by_cases hc30 : (w3 / (p1.toInt64)) = (w1 / (p1.toInt64))
        · refine own_via (fun k => XS.ifYes X11.here hx rfl (pc0 := 54) (pc' := 61) rfl (hb hby d6_54) rfl ((if0 _ _).trans (teq ((lw_eq _ _).mpr hc30)).1) (by decide) (by decide) k) ?_
          show own_Go p e below s _ _ (T11.setTop (mkF m 61 #[rv a0, iv p1, jv z10, .second, iv 3, jv (w3 / (p1.toInt64)), .second] []))
          exact J17 _ _ X11 N11 e11 z10 (((if_pos hc28).trans ((if_pos hc30).trans rfl))).symm
        · refine own_via (fun k => XS.ifNo X11.here hx rfl (hb hby d6_54) rfl ((if0 _ _).trans (feq (mt (lw_eq _ _).mp hc30)).1) k) ?_
          show own_Go p e below s _ _ (T11.setTop (mkF m 57 #[rv a0, iv p1, jv z10, .second, iv 3, jv (w3 / (p1.toInt64)), .second] []))
          refine own_via (fun k => XS.lloadN X11.here hx rfl (hb hby d6_57) rfl  (XS.lconst X11.here hx rfl (hb hby d6_58) (XS.ladd X11.here hx rfl (hb hby d6_59) rfl (XS.lstoreN X11.here hx rfl (hb hby d6_60) rfl (l' := #[rv a0, iv p1, jv (z10 + (1 : Int64)), .second, iv 3, jv (w3 / (p1.toInt64)), .second]) rfl k)))) ?_
          show own_Go p e below s _ _ (T11.setTop (mkF m 61 #[rv a0, iv p1, jv (z10 + (1 : Int64)), .second, iv 3, jv (w3 / (p1.toInt64)), .second] []))
          exact J17 _ _ X11 N11 e11 (z10 + (1 : Int64)) (((if_pos hc28).trans ((if_neg hc30).trans rfl))).symm
      · refine own_via (fun k => XS.ifYes X11.here hx rfl (pc0 := 33) (pc' := 61) rfl (hb hby d6_33) rfl ((if0 _ _).trans (feq (mt (lw_eq _ _).mp hc28)).2) (by decide) (by decide) k) ?_
        show own_Go p e below s _ _ (T11.setTop (mkF m 61 #[rv a0, iv p1, jv z10, .second, iv 3, jv (w3 / (p1.toInt64)), .second] []))
        exact J17 _ _ X11 N11 e11 z10 (((if_neg hc28).trans rfl)).symm
    by_cases hc31 : (w2 / (p1.toInt64)) = (w1 / (p1.toInt64))
    · refine own_via (fun k => XS.ifNo X5.here hx rfl (hb hby d6_33) rfl ((if0 _ _).trans (teq ((lw_eq _ _).mpr hc31)).2) k) ?_
      show own_Go p e below s _ _ (T5.setTop (mkF m 36 #[rv a0, iv p1, jv z4, .second, iv 2, jv (w2 / (p1.toInt64)), .second] []))
      refine own_via (fun k => XS.iload X5.here hx rfl (hb hby d6_36) rfl  (XS.iconst X5.here hx rfl (hb hby d6_38) k)) ?_
      show own_Go p e below s _ _ (T5.setTop (mkF m 39 #[rv a0, iv p1, jv z4, .second, iv 2, jv (w2 / (p1.toInt64)), .second] [(.int 1), (.int 2)]))
      refine own_via (fun k => XS.icmpNo X5.here hx rfl (hb hby d6_39) rfl (by decide) k) ?_
      show own_Go p e below s _ _ (T5.setTop (mkF m 42 #[rv a0, iv p1, jv z4, .second, iv 2, jv (w2 / (p1.toInt64)), .second] []))
      refine own_via (fun k => XS.lload X5.here hx rfl (hb hby d6_42) rfl  (XS.aloadN X5.here hx rfl (hb hby d6_44) rfl rfl  (XS.iload X5.here hx rfl (hb hby d6_45) rfl  (XS.iconst X5.here hx rfl (hb hby d6_47) k)))) ?_
      show own_Go p e below s _ _ (T5.setTop (mkF m 48 #[rv a0, iv p1, jv z4, .second, iv 2, jv (w2 / (p1.toInt64)), .second] [(.int 2), (.int 2), (.ref a0), (.long (w2 / (p1.toInt64)))]))
      refine own_via (fun k => XS.isub X5.here hx rfl (hb hby d6_48) rfl k) ?_
      show own_Go p e below s _ _ (T5.setTop (mkF m 49 #[rv a0, iv p1, jv z4, .second, iv 2, jv (w2 / (p1.toInt64)), .second] [(.int 0), (.ref a0), (.long (w2 / (p1.toInt64)))]))
      obtain ⟨cl32, Ar32, q32, S32, NN32, H32, G32⟩ := id P0
      have hin32 : ¬ ((0 : Int32) < 0 ∨ cl32.slots.size ≤ ((0 : Int32)).toNatClampNeg) := inb_of S32 ⟨by decide, by decide⟩
      have hat32 : cl32.slots[((0 : Int32)).toNatClampNeg]? = some (.long w0) := H32.at hin32 rfl
      refine own_via (fun k => X5.laload hx (j := (0 : Int32)) (v := (.long w0)) (by rw [e5]; exact Ar32.1) (State.isArrayOf_alike hZ.alike Ar32.2.1) Ar32.2.2 hin32 hat32 (g := (mkF m 49 #[rv a0, iv p1, jv z4, .second, iv 2, jv (w2 / (p1.toInt64)), .second] [(.int 0), (.ref a0), (.long (w2 / (p1.toInt64)))])) rfl rfl (hb hby d6_49) _ k) ?_
      show own_Go p e below s _ _ (T5.setTop (mkF m 50 #[rv a0, iv p1, jv z4, .second, iv 2, jv (w2 / (p1.toInt64)), .second] [(.long w0), (.long (w2 / (p1.toInt64)))]))
      refine own_via (fun k => XS.iloadN X5.here hx rfl (hb hby d6_50) rfl  (XS.i2l X5.here hx rfl (hb hby d6_51) rfl (XS.ldiv X5.here hx rfl (hb hby d6_52) rfl hn (XS.lcmp X5.here hx rfl (hb hby d6_53) rfl k)))) ?_
      show own_Go p e below s _ _ (T5.setTop (mkF m 54 #[rv a0, iv p1, jv z4, .second, iv 2, jv (w2 / (p1.toInt64)), .second] [(.int (lcmpW (w2 / (p1.toInt64)) (w0 / (p1.toInt64))))]))
      by_cases hc33 : (w2 / (p1.toInt64)) = (w0 / (p1.toInt64))
      · refine own_via (fun k => XS.ifYes X5.here hx rfl (pc0 := 54) (pc' := 61) rfl (hb hby d6_54) rfl ((if0 _ _).trans (teq ((lw_eq _ _).mpr hc33)).1) (by decide) (by decide) k) ?_
        show own_Go p e below s _ _ (T5.setTop (mkF m 61 #[rv a0, iv p1, jv z4, .second, iv 2, jv (w2 / (p1.toInt64)), .second] []))
        exact J11 _ _ X5 N5 e5 z4 (((if_pos hc31).trans ((if_pos hc33).trans rfl))).symm
      · refine own_via (fun k => XS.ifNo X5.here hx rfl (hb hby d6_54) rfl ((if0 _ _).trans (feq (mt (lw_eq _ _).mp hc33)).1) k) ?_
        show own_Go p e below s _ _ (T5.setTop (mkF m 57 #[rv a0, iv p1, jv z4, .second, iv 2, jv (w2 / (p1.toInt64)), .second] []))
        refine own_via (fun k => XS.lloadN X5.here hx rfl (hb hby d6_57) rfl  (XS.lconst X5.here hx rfl (hb hby d6_58) (XS.ladd X5.here hx rfl (hb hby d6_59) rfl (XS.lstoreN X5.here hx rfl (hb hby d6_60) rfl (l' := #[rv a0, iv p1, jv (z4 + (1 : Int64)), .second, iv 2, jv (w2 / (p1.toInt64)), .second]) rfl k)))) ?_
        show own_Go p e below s _ _ (T5.setTop (mkF m 61 #[rv a0, iv p1, jv (z4 + (1 : Int64)), .second, iv 2, jv (w2 / (p1.toInt64)), .second] []))
        exact J11 _ _ X5 N5 e5 (z4 + (1 : Int64)) (((if_pos hc31).trans ((if_neg hc33).trans rfl))).symm
    · refine own_via (fun k => XS.ifYes X5.here hx rfl (pc0 := 33) (pc' := 61) rfl (hb hby d6_33) rfl ((if0 _ _).trans (feq (mt (lw_eq _ _).mp hc31)).2) (by decide) (by decide) k) ?_
      show own_Go p e below s _ _ (T5.setTop (mkF m 61 #[rv a0, iv p1, jv z4, .second, iv 2, jv (w2 / (p1.toInt64)), .second] []))
      exact J11 _ _ X5 N5 e5 z4 (((if_neg hc31).trans rfl)).symm
  by_cases hc34 : (w1 / (p1.toInt64)) = (w0 / (p1.toInt64))
  · refine own_via (fun k => XS.ifNo X0.here hx rfl (hb hby d6_33) rfl ((if0 _ _).trans (teq ((lw_eq _ _).mpr hc34)).2) k) ?_
    show own_Go p e below s _ _ (s₁.setTop (mkF m 36 #[rv a0, iv p1, jv 0, .second, iv 1, jv (w1 / (p1.toInt64)), .second] []))
    refine own_via (fun k => XS.iload X0.here hx rfl (hb hby d6_36) rfl  (XS.iconst X0.here hx rfl (hb hby d6_38) k)) ?_
    show own_Go p e below s _ _ (s₁.setTop (mkF m 39 #[rv a0, iv p1, jv 0, .second, iv 1, jv (w1 / (p1.toInt64)), .second] [(.int 1), (.int 1)]))
    refine own_via (fun k => XS.icmpYes X0.here hx rfl (pc0 := 39) (pc' := 57) rfl (hb hby d6_39) rfl (by decide) (by decide) (by decide) k) ?_
    show own_Go p e below s _ _ (s₁.setTop (mkF m 57 #[rv a0, iv p1, jv 0, .second, iv 1, jv (w1 / (p1.toInt64)), .second] []))
    refine own_via (fun k => XS.lloadN X0.here hx rfl (hb hby d6_57) rfl  (XS.lconst X0.here hx rfl (hb hby d6_58) (XS.ladd X0.here hx rfl (hb hby d6_59) rfl (XS.lstoreN X0.here hx rfl (hb hby d6_60) rfl (l' := #[rv a0, iv p1, jv 1, .second, iv 1, jv (w1 / (p1.toInt64)), .second]) rfl k)))) ?_
    show own_Go p e below s _ _ (s₁.setTop (mkF m 61 #[rv a0, iv p1, jv 1, .second, iv 1, jv (w1 / (p1.toInt64)), .second] []))
    exact J5 _ _ X0 N0 e0 (1 : Int64) (((if_pos hc34).trans rfl)).symm
  · refine own_via (fun k => XS.ifYes X0.here hx rfl (pc0 := 33) (pc' := 61) rfl (hb hby d6_33) rfl ((if0 _ _).trans (feq (mt (lw_eq _ _).mp hc34)).2) (by decide) (by decide) k) ?_
    show own_Go p e below s _ _ (s₁.setTop (mkF m 61 #[rv a0, iv p1, jv 0, .second, iv 1, jv (w1 / (p1.toInt64)), .second] []))
    exact J5 _ _ X0 N0 e0 (0 : Int64) (((if_neg hc34).trans rfl)).symm
theorem pn_0 : plainName "com/example/waveslot/waveslot/core/CheckerStepsRepeatedQuotientsPinLaw" = true := by first | (simp [plainName, overriddenIn]; done) | decide +kernel
theorem pd_0 : parseMethodDescriptor "(II)I" = some ⟨[.int, .int], some .int⟩ := by decide +kernel
theorem pd_1 : parseMethodDescriptor "(JZII)J" = some ⟨[.long, .boolean, .int, .int], some .long⟩ := by decide +kernel
theorem pd_2 : parseMethodDescriptor "(JII)J" = some ⟨[.long, .int, .int], some .long⟩ := by decide +kernel
theorem pd_3 : parseMethodDescriptor "(JJ)J" = some ⟨[.long, .long], some .long⟩ := by decide +kernel
theorem pd_4 : parseMethodDescriptor "(IJJJJJ)[J" = some ⟨[.int, .long, .long, .long, .long, .long], some (.array .long)⟩ := by decide +kernel
theorem pd_5 : parseMethodDescriptor "([JI)J" = some ⟨[(.array .long), .int], some .long⟩ := by decide +kernel
theorem ef_0 (m : MethodId) (x0 : Int32) (x1 : Int64) (x2 : Int32) (x3 : Int64) (x4 : Int32) : entryFrame m #[(.int x0), (.long x1), (.int x2), (.long x3), (.int x4)] maxLocals = mkF m 0 #[iv x0, jv x1, .second, iv x2, jv x3, .second, iv x4, .unset, .unset, .unset, .unset, .unset, .unset, .unset, .unset, .unset, .unset, .unset, .unset, .unset, .unset, .unset, .unset, .unset, .unset, .unset, .unset, .unset, .unset, .unset, .unset, .unset, .unset, .unset, .unset, .unset, .unset, .unset, .unset, .unset, .unset, .unset, .unset, .unset, .unset, .unset, .unset, .unset, .unset, .unset] [] := by first | (simp [entryFrame, mkF, argsToLocals, Value.category, maxLocals]; done) | rfl
theorem own_quot (q n r : Int64) (hq0 : 0 ≤ q.toInt) (hq1 : q.toInt ≤ 4294967296) (hn : 1 ≤ n.toInt) (hn2 : n.toInt ≤ 2147483647) (hr0 : 0 ≤ r.toInt) (hr1 : r.toInt < n.toInt) : ((q * n) + r) / n = q := by
  have m := c_lmul q n; have a := c_ladd (q * n) r; have r1 := rng64 (q * n); have r2 := rng64 (q * n + r)
  have p0 : 0 ≤ q.toInt * n.toInt := Int.mul_nonneg hq0 (by omega)
  have p1 : q.toInt * n.toInt ≤ 4294967296 * 2147483647 := Int.mul_le_mul hq1 hn2 (by omega) (by omega)
  have e1 : (q * n).toInt = q.toInt * n.toInt := by generalize q.toInt * n.toInt = w at *; omega
  have e2 : (q * n + r).toInt = q.toInt * n.toInt + r.toInt := by generalize q.toInt * n.toInt = w at *; omega
  have nz : n ≠ -1 := by intro h; rw [h] at hn; revert hn; decide
  have d := (c_ldiv (q * n + r) n n.toInt rfl nz).1 (by omega)
  rw [own_e64, d, e2, Int.add_comm, Int.add_mul_ediv_right _ _ (by omega), Int.ediv_eq_zero_of_lt hr0 hr1]; omega
theorem own_next (q : Int64) (e g i : Int32) (h0 : 0 ≤ q.toInt) (h1 : q.toInt ≤ 4294967000) : (¬ e = 0 → own_f2 q e g i = q) ∧ (e = 0 → q.toInt < (own_f2 q e g i).toInt ∧ (own_f2 q e g i).toInt ≤ q.toInt + 128) := by
  refine ⟨fun h => by rw [own_f2, if_neg h], fun h => ?_⟩
  rw [own_f2, if_pos h]
  generalize ((g.toUInt32 >>> (((8 : Int32) * i) &&& 31).toUInt32).toInt32) = x
  have m := c_mask x 255 8 (by decide) (by decide)
  have e1 : (1 : Int64).toInt = 1 := by decide
  generalize x &&& 255 = y at *
  have s := c_iushr y 1 1 (by decide) (by decide)
  have a := c_ladd q 1; have ra := rng64 (q + 1)
  have c := c_i2l ((y.toUInt32 >>> ((1 : Int32) &&& 31).toUInt32).toInt32)
  have a2 := c_ladd (q + 1) (((y.toUInt32 >>> ((1 : Int32) &&& 31).toUInt32).toInt32).toInt64); have ra2 := rng64 (q + 1 + (((y.toUInt32 >>> ((1 : Int32) &&& 31).toUInt32).toInt32).toInt64))
  split <;> omega
theorem own_draw (x : Int64) (i n : Int32) (hn : 1 ≤ n.toInt) : 0 ≤ (own_f3 x i n).toInt ∧ (own_f3 x i n).toInt < n.toInt := by
  rw [own_f3]
  generalize ((x.toUInt64 >>> (((12 : Int32) * i) &&& 0x3f).toInt64.toUInt64).toInt64) = y
  have m := c_maskL y 4095 12 (by decide) (by decide)
  generalize y &&& 4095 = u at *
  have l := c_l2i u; have rl := rng32 u.toInt32
  have d0 : 0 ≤ u.toInt32.toInt ∧ u.toInt32.toInt ≤ 4095 := by omega
  generalize u.toInt32 = d at *
  have s := c_iushr d 1 1 (by decide) (by decide)
  have k0 : 0 ≤ ((d.toUInt32 >>> ((1 : Int32) &&& 31).toUInt32).toInt32).toInt := by omega
  generalize (d.toUInt32 >>> ((1 : Int32) &&& 31).toUInt32).toInt32 = k at *
  have r := (c_iremV k n).1 k0 (by omega)
  have e1 : (1 : Int32).toInt = 1 := by decide
  have b1 := c_isub n 1; have rb1 := rng32 (n - 1); have b2 := c_isub (n - 1) (k % n); have rb2 := rng32 (n - 1 - k % n); have rn := rng32 n
  split
  · rw [c_i2l]; omega
  · rw [c_i2l]; omega
theorem own_max (a b n : Int64) (ha : 0 ≤ a.toInt ∧ a.toInt < n.toInt) (hb : 0 ≤ b.toInt ∧ b.toInt < n.toInt) : 0 ≤ (own_f4 a b).toInt ∧ (own_f4 a b).toInt < n.toInt := by
  rw [own_f4]; split <;> assumption
theorem own_nodes (p z : Int32) (h : z = own_f1 (1 : Int32) (p &&& (2147483647 : Int32))) : 1 ≤ z.toInt := by
  have e1 : (1 : Int32).toInt = 1 := by decide
  have m := c_mask p 2147483647 31 (by decide) (by decide)
  rw [h, own_f1]; split <;> rename_i q <;> rw [own_l32] at q <;> omega
theorem own_c16 (p : Int32) : p &&& (15 : Int32) = 0 ∨ p &&& (15 : Int32) = 1 ∨ p &&& (15 : Int32) = 2 ∨ p &&& (15 : Int32) = 3 ∨ p &&& (15 : Int32) = 4 ∨ p &&& (15 : Int32) = 5 ∨ p &&& (15 : Int32) = 6 ∨ p &&& (15 : Int32) = 7 ∨ p &&& (15 : Int32) = 8 ∨ p &&& (15 : Int32) = 9 ∨ p &&& (15 : Int32) = 10 ∨ p &&& (15 : Int32) = 11 ∨ p &&& (15 : Int32) = 12 ∨ p &&& (15 : Int32) = 13 ∨ p &&& (15 : Int32) = 14 ∨ p &&& (15 : Int32) = 15 := by
  have e0 : (0 : Int32).toInt = 0 := by decide
  have e1 : (1 : Int32).toInt = 1 := by decide
  have e2 : (2 : Int32).toInt = 2 := by decide
  have e3 : (3 : Int32).toInt = 3 := by decide
  have e4 : (4 : Int32).toInt = 4 := by decide
  have e5 : (5 : Int32).toInt = 5 := by decide
  have e6 : (6 : Int32).toInt = 6 := by decide
  have e7 : (7 : Int32).toInt = 7 := by decide
  have e8 : (8 : Int32).toInt = 8 := by decide
  have e9 : (9 : Int32).toInt = 9 := by decide
  have e10 : (10 : Int32).toInt = 10 := by decide
  have e11 : (11 : Int32).toInt = 11 := by decide
  have e12 : (12 : Int32).toInt = 12 := by decide
  have e13 : (13 : Int32).toInt = 13 := by decide
  have e14 : (14 : Int32).toInt = 14 := by decide
  have e15 : (15 : Int32).toInt = 15 := by decide
  have m := c_mask p 15 4 (by decide) (by decide)
  simp only [own_e32]; omega
theorem own_hhn3 (p0 : Int32) (z3 : Int32) (hz3 : z3 = (own_f1 (1 : Int32) (p0 &&& (2147483647 : Int32)))) : ¬ (z3 = (0 : Int32)) := by
  have := own_nodes _ _ hz3
  have e0 : (0 : Int32).toInt = 0 := by decide
  rw [own_e32]; omega
theorem own_len (p2 : Int32) : ((((p2.toUInt32 >>> ((4 : Int32) &&& 31).toUInt32).toInt32) &&& (7 : Int32)) % (6 : Int32)) = (0 : Int32) ∨ ((((p2.toUInt32 >>> ((4 : Int32) &&& 31).toUInt32).toInt32) &&& (7 : Int32)) % (6 : Int32)) = (1 : Int32) ∨ ((((p2.toUInt32 >>> ((4 : Int32) &&& 31).toUInt32).toInt32) &&& (7 : Int32)) % (6 : Int32)) = (2 : Int32) ∨ ((((p2.toUInt32 >>> ((4 : Int32) &&& 31).toUInt32).toInt32) &&& (7 : Int32)) % (6 : Int32)) = (3 : Int32) ∨ ((((p2.toUInt32 >>> ((4 : Int32) &&& 31).toUInt32).toInt32) &&& (7 : Int32)) % (6 : Int32)) = (4 : Int32) ∨ ((((p2.toUInt32 >>> ((4 : Int32) &&& 31).toUInt32).toInt32) &&& (7 : Int32)) % (6 : Int32)) = (5 : Int32) := by
  have e32_0 : (0 : Int32).toInt = 0 := by decide
  have e32_1 : (1 : Int32).toInt = 1 := by decide
  have e32_2 : (2 : Int32).toInt = 2 := by decide
  have e32_3 : (3 : Int32).toInt = 3 := by decide
  have e32_4 : (4 : Int32).toInt = 4 := by decide
  have e32_5 : (5 : Int32).toInt = 5 := by decide
  have e32_6 : (6 : Int32).toInt = 6 := by decide
  have e32_7 : (7 : Int32).toInt = 7 := by decide
  have m := c_mask ((p2.toUInt32 >>> ((4 : Int32) &&& 31).toUInt32).toInt32) 7 3 (by decide) (by decide)
  have r := (c_irem (((p2.toUInt32 >>> ((4 : Int32) &&& 31).toUInt32).toInt32) &&& (7 : Int32)) 6 6 (by decide)).1 (by omega)
  simp only [own_e32]; omega
theorem own_in0 (p2 : Int32) (hl65 : ((((p2.toUInt32 >>> ((4 : Int32) &&& 31).toUInt32).toInt32) &&& (7 : Int32)) % (6 : Int32)) = (0 : Int32)) : ¬ (p2 &&& (0 : Int32)) < (0 : Int32) ∧ (p2 &&& (0 : Int32)) < (16 : Int32) := by rw [Int32.and_zero]; decide
theorem own_hhn6_0 (p0 : Int32) (p2 : Int32) (z3 : Int32) (hz3 : z3 = (own_f1 (1 : Int32) (p0 &&& (2147483647 : Int32)))) (hl65 : ((((p2.toUInt32 >>> ((4 : Int32) &&& 31).toUInt32).toInt32) &&& (7 : Int32)) % (6 : Int32)) = (0 : Int32)) : ¬ ((z3.toInt64) = (0 : Int64)) := by
  have := own_nodes _ _ hz3
  have e0 : (0 : Int64).toInt = 0 := by decide
  rw [own_e64, c_i2l]; omega
theorem own_law0 (p2 : Int32) (hl65 : ((((p2.toUInt32 >>> ((4 : Int32) &&& 31).toUInt32).toInt32) &&& (7 : Int32)) % (6 : Int32)) = (0 : Int32)) : own_f6_0 = ((own_tab (p2 &&& (0 : Int32))).toInt64) := by rw [Int32.and_zero]; decide
theorem own_in1 (p2 : Int32) (hl65 : ((((p2.toUInt32 >>> ((4 : Int32) &&& 31).toUInt32).toInt32) &&& (7 : Int32)) % (6 : Int32)) = (1 : Int32)) : ¬ (p2 &&& (0 : Int32)) < (0 : Int32) ∧ (p2 &&& (0 : Int32)) < (16 : Int32) := by rw [Int32.and_zero]; decide
theorem own_hhn6_1 (p0 : Int32) (p2 : Int32) (z3 : Int32) (hz3 : z3 = (own_f1 (1 : Int32) (p0 &&& (2147483647 : Int32)))) (hl65 : ((((p2.toUInt32 >>> ((4 : Int32) &&& 31).toUInt32).toInt32) &&& (7 : Int32)) % (6 : Int32)) = (1 : Int32)) : ¬ ((z3.toInt64) = (0 : Int64)) := by
  have := own_nodes _ _ hz3
  have e0 : (0 : Int64).toInt = 0 := by decide
  rw [own_e64, c_i2l]; omega
theorem own_law1 (p2 : Int32) (hl65 : ((((p2.toUInt32 >>> ((4 : Int32) &&& 31).toUInt32).toInt32) &&& (7 : Int32)) % (6 : Int32)) = (1 : Int32)) : own_f6_1 = ((own_tab (p2 &&& (0 : Int32))).toInt64) := by rw [Int32.and_zero]; decide
theorem own_in2 (p2 : Int32) (hl65 : ((((p2.toUInt32 >>> ((4 : Int32) &&& 31).toUInt32).toInt32) &&& (7 : Int32)) % (6 : Int32)) = (2 : Int32)) : ¬ (p2 &&& (1 : Int32)) < (0 : Int32) ∧ (p2 &&& (1 : Int32)) < (16 : Int32) := by
  have e32_0 : (0 : Int32).toInt = 0 := by decide
  have e32_1 : (1 : Int32).toInt = 1 := by decide
  have e32_2 : (2 : Int32).toInt = 2 := by decide
  have e32_4 : (4 : Int32).toInt = 4 := by decide
  have e32_6 : (6 : Int32).toInt = 6 := by decide
  have e32_7 : (7 : Int32).toInt = 7 := by decide
  have e32_16 : (16 : Int32).toInt = 16 := by decide
  have m := c_mask p2 1 1 (by decide) (by decide)
  rw [own_l32, own_l32]; omega
theorem own_hhn6_2 (p0 : Int32) (p2 : Int32) (z3 : Int32) (hz3 : z3 = (own_f1 (1 : Int32) (p0 &&& (2147483647 : Int32)))) (hl65 : ((((p2.toUInt32 >>> ((4 : Int32) &&& 31).toUInt32).toInt32) &&& (7 : Int32)) % (6 : Int32)) = (2 : Int32)) : ¬ ((z3.toInt64) = (0 : Int64)) := by
  have := own_nodes _ _ hz3
  have e0 : (0 : Int64).toInt = 0 := by decide
  rw [own_e64, c_i2l]; omega
theorem own_law2 (p0 : Int32) (q1 : Int64) (p2 : Int32) (q3 : Int64) (p4 : Int32) (z3 : Int32) (hz3 : z3 = (own_f1 (1 : Int32) (p0 &&& (2147483647 : Int32)))) (z4 : Int32) (hz4 : z4 = (if (p2 &&& (1 : Int32)) = (0 : Int32) then (0 : Int32) else (1 : Int32))) (z12 : Int64) (hz12 : z12 = (q1 &&& (2147483647 : Int64))) (z15 : Int64) (hz15 : z15 = (own_f2 z12 z4 p4 (0 : Int32))) (z27 : Int64) (hz27 : z27 = (own_f3 q3 (0 : Int32) z3)) (z34 : Int64) (hz34 : z34 = (if z4 = (0 : Int32) then (own_f3 q3 (1 : Int32) z3) else (own_f4 z27 (own_f3 q3 (1 : Int32) z3)))) (z60 : Int64) (hz60 : z60 = ((z12 * (z3.toInt64)) + z27)) (z61 : Int64) (hz61 : z61 = ((z15 * (z3.toInt64)) + z34)) (hl65 : ((((p2.toUInt32 >>> ((4 : Int32) &&& 31).toUInt32).toInt32) &&& (7 : Int32)) % (6 : Int32)) = (2 : Int32)) : (own_f6_2 z3 z60 z61) = ((own_tab (p2 &&& (1 : Int32))).toInt64) := by
  have hn := own_nodes _ _ hz3
  have rn := rng32 z3; have cn := c_i2l z3
  have mk := c_maskL q1 2147483647 31 (by decide) (by decide)
  have bq0 : 0 ≤ z12.toInt ∧ z12.toInt ≤ 2147483648 := by rw [hz12]; omega
  have nx1 := own_next z12 z4 p4 0 (by omega) (by omega)
  rw [← hz15] at nx1
  have bq1 : z12.toInt ≤ z15.toInt ∧ z15.toInt ≤ z12.toInt + 128 := by
    by_cases h : z4 = 0
    · have := nx1.2 h; omega
    · have := nx1.1 h; rw [this]; omega
  have d0 := own_draw q3 0 z3 hn
  have br0 : 0 ≤ z27.toInt ∧ z27.toInt < z3.toInt64.toInt := by rw [hz27, cn]; exact d0
  have w0 : z60 / z3.toInt64 = z12 := by rw [hz60]; exact own_quot z12 z3.toInt64 z27 (by omega) (by omega) (by omega) (by omega) br0.1 br0.2
  have d1 := own_draw q3 1 z3 hn
  have br1 : 0 ≤ z34.toInt ∧ z34.toInt < z3.toInt64.toInt := by
    rw [hz34]; split
    · rw [cn]; exact d1
    · exact own_max _ _ _ br0 (by rw [cn]; exact d1)
  have w1 : z61 / z3.toInt64 = z15 := by rw [hz61]; exact own_quot z15 z3.toInt64 z34 (by omega) (by omega) (by omega) (by omega) br1.1 br1.2
  have A1 : (z15 = z12) ↔ ¬ (z4 = 0) := ⟨fun h h0 => by have := (nx1.2 h0).1; rw [h] at this; omega, fun h => nx1.1 h⟩
  have hm := own_c16 p2
  have x1 : p2 &&& (1 : Int32) = (p2 &&& (15 : Int32)) &&& (1 : Int32) := by rw [Int32.and_assoc]; rfl
  rw [x1] at hz4
  have xm : p2 &&& (1 : Int32) = (p2 &&& (15 : Int32)) &&& (1 : Int32) := by rw [Int32.and_assoc]; rfl
  rw [xm]
  clear x1 xm
  generalize p2 &&& (15 : Int32) = m at *
  simp only [own_f6_2, w0, w1]
  rcases hm with rfl | rfl | rfl | rfl | rfl | rfl | rfl | rfl | rfl | rfl | rfl | rfl | rfl | rfl | rfl | rfl
  · have v1 := hz4.trans (show _ = (0 : Int32) from by decide)
    rw [if_neg (fun h => absurd (A1.mp h) (by rw [v1]; decide))]; decide
  · have v1 := hz4.trans (show _ = (1 : Int32) from by decide)
    rw [if_pos (A1.mpr (by rw [v1]; decide))]; decide
  · have v1 := hz4.trans (show _ = (0 : Int32) from by decide)
    rw [if_neg (fun h => absurd (A1.mp h) (by rw [v1]; decide))]; decide
  · have v1 := hz4.trans (show _ = (1 : Int32) from by decide)
    rw [if_pos (A1.mpr (by rw [v1]; decide))]; decide
  · have v1 := hz4.trans (show _ = (0 : Int32) from by decide)
    rw [if_neg (fun h => absurd (A1.mp h) (by rw [v1]; decide))]; decide
  · have v1 := hz4.trans (show _ = (1 : Int32) from by decide)
    rw [if_pos (A1.mpr (by rw [v1]; decide))]; decide
  · have v1 := hz4.trans (show _ = (0 : Int32) from by decide)
    rw [if_neg (fun h => absurd (A1.mp h) (by rw [v1]; decide))]; decide
  · have v1 := hz4.trans (show _ = (1 : Int32) from by decide)
    rw [if_pos (A1.mpr (by rw [v1]; decide))]; decide
  · have v1 := hz4.trans (show _ = (0 : Int32) from by decide)
    rw [if_neg (fun h => absurd (A1.mp h) (by rw [v1]; decide))]; decide
  · have v1 := hz4.trans (show _ = (1 : Int32) from by decide)
    rw [if_pos (A1.mpr (by rw [v1]; decide))]; decide
  · have v1 := hz4.trans (show _ = (0 : Int32) from by decide)
    rw [if_neg (fun h => absurd (A1.mp h) (by rw [v1]; decide))]; decide
  · have v1 := hz4.trans (show _ = (1 : Int32) from by decide)
    rw [if_pos (A1.mpr (by rw [v1]; decide))]; decide
  · have v1 := hz4.trans (show _ = (0 : Int32) from by decide)
    rw [if_neg (fun h => absurd (A1.mp h) (by rw [v1]; decide))]; decide
  · have v1 := hz4.trans (show _ = (1 : Int32) from by decide)
    rw [if_pos (A1.mpr (by rw [v1]; decide))]; decide
  · have v1 := hz4.trans (show _ = (0 : Int32) from by decide)
    rw [if_neg (fun h => absurd (A1.mp h) (by rw [v1]; decide))]; decide
  · have v1 := hz4.trans (show _ = (1 : Int32) from by decide)
    rw [if_pos (A1.mpr (by rw [v1]; decide))]; decide
theorem own_in3 (p2 : Int32) (hl65 : ((((p2.toUInt32 >>> ((4 : Int32) &&& 31).toUInt32).toInt32) &&& (7 : Int32)) % (6 : Int32)) = (3 : Int32)) : ¬ (p2 &&& (3 : Int32)) < (0 : Int32) ∧ (p2 &&& (3 : Int32)) < (16 : Int32) := by
  have e32_0 : (0 : Int32).toInt = 0 := by decide
  have e32_3 : (3 : Int32).toInt = 3 := by decide
  have e32_4 : (4 : Int32).toInt = 4 := by decide
  have e32_6 : (6 : Int32).toInt = 6 := by decide
  have e32_7 : (7 : Int32).toInt = 7 := by decide
  have e32_16 : (16 : Int32).toInt = 16 := by decide
  have m := c_mask p2 3 2 (by decide) (by decide)
  rw [own_l32, own_l32]; omega
theorem own_hhn6_3 (p0 : Int32) (p2 : Int32) (z3 : Int32) (hz3 : z3 = (own_f1 (1 : Int32) (p0 &&& (2147483647 : Int32)))) (hl65 : ((((p2.toUInt32 >>> ((4 : Int32) &&& 31).toUInt32).toInt32) &&& (7 : Int32)) % (6 : Int32)) = (3 : Int32)) : ¬ ((z3.toInt64) = (0 : Int64)) := by
  have := own_nodes _ _ hz3
  have e0 : (0 : Int64).toInt = 0 := by decide
  rw [own_e64, c_i2l]; omega
theorem own_law3 (p0 : Int32) (q1 : Int64) (p2 : Int32) (q3 : Int64) (p4 : Int32) (z3 : Int32) (hz3 : z3 = (own_f1 (1 : Int32) (p0 &&& (2147483647 : Int32)))) (z4 : Int32) (hz4 : z4 = (if (p2 &&& (1 : Int32)) = (0 : Int32) then (0 : Int32) else (1 : Int32))) (z6 : Int32) (hz6 : z6 = (if (p2 &&& (2 : Int32)) = (0 : Int32) then (0 : Int32) else (1 : Int32))) (z12 : Int64) (hz12 : z12 = (q1 &&& (2147483647 : Int64))) (z15 : Int64) (hz15 : z15 = (own_f2 z12 z4 p4 (0 : Int32))) (z18 : Int64) (hz18 : z18 = (own_f2 z15 z6 p4 (1 : Int32))) (z27 : Int64) (hz27 : z27 = (own_f3 q3 (0 : Int32) z3)) (z34 : Int64) (hz34 : z34 = (if z4 = (0 : Int32) then (own_f3 q3 (1 : Int32) z3) else (own_f4 z27 (own_f3 q3 (1 : Int32) z3)))) (z42 : Int64) (hz42 : z42 = (if z6 = (0 : Int32) then (own_f3 q3 (2 : Int32) z3) else (own_f4 z34 (own_f3 q3 (2 : Int32) z3)))) (z60 : Int64) (hz60 : z60 = ((z12 * (z3.toInt64)) + z27)) (z61 : Int64) (hz61 : z61 = ((z15 * (z3.toInt64)) + z34)) (z62 : Int64) (hz62 : z62 = ((z18 * (z3.toInt64)) + z42)) (hl65 : ((((p2.toUInt32 >>> ((4 : Int32) &&& 31).toUInt32).toInt32) &&& (7 : Int32)) % (6 : Int32)) = (3 : Int32)) : (own_f6_3 z3 z60 z61 z62) = ((own_tab (p2 &&& (3 : Int32))).toInt64) := by
  have hn := own_nodes _ _ hz3
  have rn := rng32 z3; have cn := c_i2l z3
  have mk := c_maskL q1 2147483647 31 (by decide) (by decide)
  have bq0 : 0 ≤ z12.toInt ∧ z12.toInt ≤ 2147483648 := by rw [hz12]; omega
  have nx1 := own_next z12 z4 p4 0 (by omega) (by omega)
  rw [← hz15] at nx1
  have bq1 : z12.toInt ≤ z15.toInt ∧ z15.toInt ≤ z12.toInt + 128 := by
    by_cases h : z4 = 0
    · have := nx1.2 h; omega
    · have := nx1.1 h; rw [this]; omega
  have nx2 := own_next z15 z6 p4 1 (by omega) (by omega)
  rw [← hz18] at nx2
  have bq2 : z15.toInt ≤ z18.toInt ∧ z18.toInt ≤ z15.toInt + 128 := by
    by_cases h : z6 = 0
    · have := nx2.2 h; omega
    · have := nx2.1 h; rw [this]; omega
  have d0 := own_draw q3 0 z3 hn
  have br0 : 0 ≤ z27.toInt ∧ z27.toInt < z3.toInt64.toInt := by rw [hz27, cn]; exact d0
  have w0 : z60 / z3.toInt64 = z12 := by rw [hz60]; exact own_quot z12 z3.toInt64 z27 (by omega) (by omega) (by omega) (by omega) br0.1 br0.2
  have d1 := own_draw q3 1 z3 hn
  have br1 : 0 ≤ z34.toInt ∧ z34.toInt < z3.toInt64.toInt := by
    rw [hz34]; split
    · rw [cn]; exact d1
    · exact own_max _ _ _ br0 (by rw [cn]; exact d1)
  have w1 : z61 / z3.toInt64 = z15 := by rw [hz61]; exact own_quot z15 z3.toInt64 z34 (by omega) (by omega) (by omega) (by omega) br1.1 br1.2
  have d2 := own_draw q3 2 z3 hn
  have br2 : 0 ≤ z42.toInt ∧ z42.toInt < z3.toInt64.toInt := by
    rw [hz42]; split
    · rw [cn]; exact d2
    · exact own_max _ _ _ br1 (by rw [cn]; exact d2)
  have w2 : z62 / z3.toInt64 = z18 := by rw [hz62]; exact own_quot z18 z3.toInt64 z42 (by omega) (by omega) (by omega) (by omega) br2.1 br2.2
  have A1 : (z15 = z12) ↔ ¬ (z4 = 0) := ⟨fun h h0 => by have := (nx1.2 h0).1; rw [h] at this; omega, fun h => nx1.1 h⟩
  have A2 : (z18 = z15) ↔ ¬ (z6 = 0) := ⟨fun h h0 => by have := (nx2.2 h0).1; rw [h] at this; omega, fun h => nx2.1 h⟩
  have B2 : (z18 = z12) ↔ (¬ (z6 = 0) ∧ ¬ (z4 = 0)) := ⟨fun h => ⟨fun h0 => by have := (nx2.2 h0).1; rw [h] at this; omega, fun h0 => by have := (nx1.2 h0).1; rw [← h] at this; omega⟩, fun h => (A2.mpr h.1).trans (A1.mpr h.2)⟩
  have hm := own_c16 p2
  have x1 : p2 &&& (1 : Int32) = (p2 &&& (15 : Int32)) &&& (1 : Int32) := by rw [Int32.and_assoc]; rfl
  rw [x1] at hz4
  have x2 : p2 &&& (2 : Int32) = (p2 &&& (15 : Int32)) &&& (2 : Int32) := by rw [Int32.and_assoc]; rfl
  rw [x2] at hz6
  have xm : p2 &&& (3 : Int32) = (p2 &&& (15 : Int32)) &&& (3 : Int32) := by rw [Int32.and_assoc]; rfl
  rw [xm]
  clear x1 x2 xm
  generalize p2 &&& (15 : Int32) = m at *
  simp only [own_f6_3, w0, w1, w2]
  rcases hm with rfl | rfl | rfl | rfl | rfl | rfl | rfl | rfl | rfl | rfl | rfl | rfl | rfl | rfl | rfl | rfl
  · have v1 := hz4.trans (show _ = (0 : Int32) from by decide); have v2 := hz6.trans (show _ = (0 : Int32) from by decide)
    rw [if_neg (fun h => absurd (A1.mp h) (by rw [v1]; decide)), if_neg (fun h => absurd (A2.mp h) (by rw [v2]; decide))]; decide
  · have v1 := hz4.trans (show _ = (1 : Int32) from by decide); have v2 := hz6.trans (show _ = (0 : Int32) from by decide)
    rw [if_pos (A1.mpr (by rw [v1]; decide)), if_neg (fun h => absurd (A2.mp h) (by rw [v2]; decide))]; decide
  · have v1 := hz4.trans (show _ = (0 : Int32) from by decide); have v2 := hz6.trans (show _ = (1 : Int32) from by decide)
    rw [if_neg (fun h => absurd (A1.mp h) (by rw [v1]; decide)), if_pos (A2.mpr (by rw [v2]; decide)), if_neg (fun h => absurd (B2.mp h).2 (by rw [v1]; decide))]; decide
  · have v1 := hz4.trans (show _ = (1 : Int32) from by decide); have v2 := hz6.trans (show _ = (1 : Int32) from by decide)
    rw [if_pos (A1.mpr (by rw [v1]; decide)), if_pos (A2.mpr (by rw [v2]; decide)), if_pos (B2.mpr ⟨by rw [v2]; decide, by rw [v1]; decide⟩)]; decide
  · have v1 := hz4.trans (show _ = (0 : Int32) from by decide); have v2 := hz6.trans (show _ = (0 : Int32) from by decide)
    rw [if_neg (fun h => absurd (A1.mp h) (by rw [v1]; decide)), if_neg (fun h => absurd (A2.mp h) (by rw [v2]; decide))]; decide
  · have v1 := hz4.trans (show _ = (1 : Int32) from by decide); have v2 := hz6.trans (show _ = (0 : Int32) from by decide)
    rw [if_pos (A1.mpr (by rw [v1]; decide)), if_neg (fun h => absurd (A2.mp h) (by rw [v2]; decide))]; decide
  · have v1 := hz4.trans (show _ = (0 : Int32) from by decide); have v2 := hz6.trans (show _ = (1 : Int32) from by decide)
    rw [if_neg (fun h => absurd (A1.mp h) (by rw [v1]; decide)), if_pos (A2.mpr (by rw [v2]; decide)), if_neg (fun h => absurd (B2.mp h).2 (by rw [v1]; decide))]; decide
  · have v1 := hz4.trans (show _ = (1 : Int32) from by decide); have v2 := hz6.trans (show _ = (1 : Int32) from by decide)
    rw [if_pos (A1.mpr (by rw [v1]; decide)), if_pos (A2.mpr (by rw [v2]; decide)), if_pos (B2.mpr ⟨by rw [v2]; decide, by rw [v1]; decide⟩)]; decide
  · have v1 := hz4.trans (show _ = (0 : Int32) from by decide); have v2 := hz6.trans (show _ = (0 : Int32) from by decide)
    rw [if_neg (fun h => absurd (A1.mp h) (by rw [v1]; decide)), if_neg (fun h => absurd (A2.mp h) (by rw [v2]; decide))]; decide
  · have v1 := hz4.trans (show _ = (1 : Int32) from by decide); have v2 := hz6.trans (show _ = (0 : Int32) from by decide)
    rw [if_pos (A1.mpr (by rw [v1]; decide)), if_neg (fun h => absurd (A2.mp h) (by rw [v2]; decide))]; decide
  · have v1 := hz4.trans (show _ = (0 : Int32) from by decide); have v2 := hz6.trans (show _ = (1 : Int32) from by decide)
    rw [if_neg (fun h => absurd (A1.mp h) (by rw [v1]; decide)), if_pos (A2.mpr (by rw [v2]; decide)), if_neg (fun h => absurd (B2.mp h).2 (by rw [v1]; decide))]; decide
  · have v1 := hz4.trans (show _ = (1 : Int32) from by decide); have v2 := hz6.trans (show _ = (1 : Int32) from by decide)
    rw [if_pos (A1.mpr (by rw [v1]; decide)), if_pos (A2.mpr (by rw [v2]; decide)), if_pos (B2.mpr ⟨by rw [v2]; decide, by rw [v1]; decide⟩)]; decide
  · have v1 := hz4.trans (show _ = (0 : Int32) from by decide); have v2 := hz6.trans (show _ = (0 : Int32) from by decide)
    rw [if_neg (fun h => absurd (A1.mp h) (by rw [v1]; decide)), if_neg (fun h => absurd (A2.mp h) (by rw [v2]; decide))]; decide
  · have v1 := hz4.trans (show _ = (1 : Int32) from by decide); have v2 := hz6.trans (show _ = (0 : Int32) from by decide)
    rw [if_pos (A1.mpr (by rw [v1]; decide)), if_neg (fun h => absurd (A2.mp h) (by rw [v2]; decide))]; decide
  · have v1 := hz4.trans (show _ = (0 : Int32) from by decide); have v2 := hz6.trans (show _ = (1 : Int32) from by decide)
    rw [if_neg (fun h => absurd (A1.mp h) (by rw [v1]; decide)), if_pos (A2.mpr (by rw [v2]; decide)), if_neg (fun h => absurd (B2.mp h).2 (by rw [v1]; decide))]; decide
  · have v1 := hz4.trans (show _ = (1 : Int32) from by decide); have v2 := hz6.trans (show _ = (1 : Int32) from by decide)
    rw [if_pos (A1.mpr (by rw [v1]; decide)), if_pos (A2.mpr (by rw [v2]; decide)), if_pos (B2.mpr ⟨by rw [v2]; decide, by rw [v1]; decide⟩)]; decide
theorem own_in4 (p2 : Int32) (hl65 : ((((p2.toUInt32 >>> ((4 : Int32) &&& 31).toUInt32).toInt32) &&& (7 : Int32)) % (6 : Int32)) = (4 : Int32)) : ¬ (p2 &&& (7 : Int32)) < (0 : Int32) ∧ (p2 &&& (7 : Int32)) < (16 : Int32) := by
  have e32_0 : (0 : Int32).toInt = 0 := by decide
  have e32_4 : (4 : Int32).toInt = 4 := by decide
  have e32_6 : (6 : Int32).toInt = 6 := by decide
  have e32_7 : (7 : Int32).toInt = 7 := by decide
  have e32_16 : (16 : Int32).toInt = 16 := by decide
  have m := c_mask p2 7 3 (by decide) (by decide)
  rw [own_l32, own_l32]; omega
theorem own_hhn6_4 (p0 : Int32) (p2 : Int32) (z3 : Int32) (hz3 : z3 = (own_f1 (1 : Int32) (p0 &&& (2147483647 : Int32)))) (hl65 : ((((p2.toUInt32 >>> ((4 : Int32) &&& 31).toUInt32).toInt32) &&& (7 : Int32)) % (6 : Int32)) = (4 : Int32)) : ¬ ((z3.toInt64) = (0 : Int64)) := by
  have := own_nodes _ _ hz3
  have e0 : (0 : Int64).toInt = 0 := by decide
  rw [own_e64, c_i2l]; omega
theorem own_law4 (p0 : Int32) (q1 : Int64) (p2 : Int32) (q3 : Int64) (p4 : Int32) (z3 : Int32) (hz3 : z3 = (own_f1 (1 : Int32) (p0 &&& (2147483647 : Int32)))) (z4 : Int32) (hz4 : z4 = (if (p2 &&& (1 : Int32)) = (0 : Int32) then (0 : Int32) else (1 : Int32))) (z6 : Int32) (hz6 : z6 = (if (p2 &&& (2 : Int32)) = (0 : Int32) then (0 : Int32) else (1 : Int32))) (z8 : Int32) (hz8 : z8 = (if (p2 &&& (4 : Int32)) = (0 : Int32) then (0 : Int32) else (1 : Int32))) (z12 : Int64) (hz12 : z12 = (q1 &&& (2147483647 : Int64))) (z15 : Int64) (hz15 : z15 = (own_f2 z12 z4 p4 (0 : Int32))) (z18 : Int64) (hz18 : z18 = (own_f2 z15 z6 p4 (1 : Int32))) (z21 : Int64) (hz21 : z21 = (own_f2 z18 z8 p4 (2 : Int32))) (z27 : Int64) (hz27 : z27 = (own_f3 q3 (0 : Int32) z3)) (z34 : Int64) (hz34 : z34 = (if z4 = (0 : Int32) then (own_f3 q3 (1 : Int32) z3) else (own_f4 z27 (own_f3 q3 (1 : Int32) z3)))) (z42 : Int64) (hz42 : z42 = (if z6 = (0 : Int32) then (own_f3 q3 (2 : Int32) z3) else (own_f4 z34 (own_f3 q3 (2 : Int32) z3)))) (z50 : Int64) (hz50 : z50 = (if z8 = (0 : Int32) then (own_f3 q3 (3 : Int32) z3) else (own_f4 z42 (own_f3 q3 (3 : Int32) z3)))) (z60 : Int64) (hz60 : z60 = ((z12 * (z3.toInt64)) + z27)) (z61 : Int64) (hz61 : z61 = ((z15 * (z3.toInt64)) + z34)) (z62 : Int64) (hz62 : z62 = ((z18 * (z3.toInt64)) + z42)) (z63 : Int64) (hz63 : z63 = ((z21 * (z3.toInt64)) + z50)) (hl65 : ((((p2.toUInt32 >>> ((4 : Int32) &&& 31).toUInt32).toInt32) &&& (7 : Int32)) % (6 : Int32)) = (4 : Int32)) : (own_f6_4 z3 z60 z61 z62 z63) = ((own_tab (p2 &&& (7 : Int32))).toInt64) := by
  have hn := own_nodes _ _ hz3
  have rn := rng32 z3; have cn := c_i2l z3
  have mk := c_maskL q1 2147483647 31 (by decide) (by decide)
  have bq0 : 0 ≤ z12.toInt ∧ z12.toInt ≤ 2147483648 := by rw [hz12]; omega
  have nx1 := own_next z12 z4 p4 0 (by omega) (by omega)
  rw [← hz15] at nx1
  have bq1 : z12.toInt ≤ z15.toInt ∧ z15.toInt ≤ z12.toInt + 128 := by
    by_cases h : z4 = 0
    · have := nx1.2 h; omega
    · have := nx1.1 h; rw [this]; omega
  have nx2 := own_next z15 z6 p4 1 (by omega) (by omega)
  rw [← hz18] at nx2
  have bq2 : z15.toInt ≤ z18.toInt ∧ z18.toInt ≤ z15.toInt + 128 := by
    by_cases h : z6 = 0
    · have := nx2.2 h; omega
    · have := nx2.1 h; rw [this]; omega
  have nx3 := own_next z18 z8 p4 2 (by omega) (by omega)
  rw [← hz21] at nx3
  have bq3 : z18.toInt ≤ z21.toInt ∧ z21.toInt ≤ z18.toInt + 128 := by
    by_cases h : z8 = 0
    · have := nx3.2 h; omega
    · have := nx3.1 h; rw [this]; omega
  have d0 := own_draw q3 0 z3 hn
  have br0 : 0 ≤ z27.toInt ∧ z27.toInt < z3.toInt64.toInt := by rw [hz27, cn]; exact d0
  have w0 : z60 / z3.toInt64 = z12 := by rw [hz60]; exact own_quot z12 z3.toInt64 z27 (by omega) (by omega) (by omega) (by omega) br0.1 br0.2
  have d1 := own_draw q3 1 z3 hn
  have br1 : 0 ≤ z34.toInt ∧ z34.toInt < z3.toInt64.toInt := by
    rw [hz34]; split
    · rw [cn]; exact d1
    · exact own_max _ _ _ br0 (by rw [cn]; exact d1)
  have w1 : z61 / z3.toInt64 = z15 := by rw [hz61]; exact own_quot z15 z3.toInt64 z34 (by omega) (by omega) (by omega) (by omega) br1.1 br1.2
  have d2 := own_draw q3 2 z3 hn
  have br2 : 0 ≤ z42.toInt ∧ z42.toInt < z3.toInt64.toInt := by
    rw [hz42]; split
    · rw [cn]; exact d2
    · exact own_max _ _ _ br1 (by rw [cn]; exact d2)
  have w2 : z62 / z3.toInt64 = z18 := by rw [hz62]; exact own_quot z18 z3.toInt64 z42 (by omega) (by omega) (by omega) (by omega) br2.1 br2.2
  have d3 := own_draw q3 3 z3 hn
  have br3 : 0 ≤ z50.toInt ∧ z50.toInt < z3.toInt64.toInt := by
    rw [hz50]; split
    · rw [cn]; exact d3
    · exact own_max _ _ _ br2 (by rw [cn]; exact d3)
  have w3 : z63 / z3.toInt64 = z21 := by rw [hz63]; exact own_quot z21 z3.toInt64 z50 (by omega) (by omega) (by omega) (by omega) br3.1 br3.2
  have A1 : (z15 = z12) ↔ ¬ (z4 = 0) := ⟨fun h h0 => by have := (nx1.2 h0).1; rw [h] at this; omega, fun h => nx1.1 h⟩
  have A2 : (z18 = z15) ↔ ¬ (z6 = 0) := ⟨fun h h0 => by have := (nx2.2 h0).1; rw [h] at this; omega, fun h => nx2.1 h⟩
  have B2 : (z18 = z12) ↔ (¬ (z6 = 0) ∧ ¬ (z4 = 0)) := ⟨fun h => ⟨fun h0 => by have := (nx2.2 h0).1; rw [h] at this; omega, fun h0 => by have := (nx1.2 h0).1; rw [← h] at this; omega⟩, fun h => (A2.mpr h.1).trans (A1.mpr h.2)⟩
  have A3 : (z21 = z18) ↔ ¬ (z8 = 0) := ⟨fun h h0 => by have := (nx3.2 h0).1; rw [h] at this; omega, fun h => nx3.1 h⟩
  have B3 : (z21 = z15) ↔ (¬ (z8 = 0) ∧ ¬ (z6 = 0)) := ⟨fun h => ⟨fun h0 => by have := (nx3.2 h0).1; rw [h] at this; omega, fun h0 => by have := (nx2.2 h0).1; rw [← h] at this; omega⟩, fun h => (A3.mpr h.1).trans (A2.mpr h.2)⟩
  have hm := own_c16 p2
  have x1 : p2 &&& (1 : Int32) = (p2 &&& (15 : Int32)) &&& (1 : Int32) := by rw [Int32.and_assoc]; rfl
  rw [x1] at hz4
  have x2 : p2 &&& (2 : Int32) = (p2 &&& (15 : Int32)) &&& (2 : Int32) := by rw [Int32.and_assoc]; rfl
  rw [x2] at hz6
  have x3 : p2 &&& (4 : Int32) = (p2 &&& (15 : Int32)) &&& (4 : Int32) := by rw [Int32.and_assoc]; rfl
  rw [x3] at hz8
  have xm : p2 &&& (7 : Int32) = (p2 &&& (15 : Int32)) &&& (7 : Int32) := by rw [Int32.and_assoc]; rfl
  rw [xm]
  clear x1 x2 x3 xm
  generalize p2 &&& (15 : Int32) = m at *
  simp only [own_f6_4, w0, w1, w2, w3]
  rcases hm with rfl | rfl | rfl | rfl | rfl | rfl | rfl | rfl | rfl | rfl | rfl | rfl | rfl | rfl | rfl | rfl
  · have v1 := hz4.trans (show _ = (0 : Int32) from by decide); have v2 := hz6.trans (show _ = (0 : Int32) from by decide); have v3 := hz8.trans (show _ = (0 : Int32) from by decide)
    rw [if_neg (fun h => absurd (A1.mp h) (by rw [v1]; decide)), if_neg (fun h => absurd (A2.mp h) (by rw [v2]; decide)), if_neg (fun h => absurd (A3.mp h) (by rw [v3]; decide))]; decide
  · have v1 := hz4.trans (show _ = (1 : Int32) from by decide); have v2 := hz6.trans (show _ = (0 : Int32) from by decide); have v3 := hz8.trans (show _ = (0 : Int32) from by decide)
    rw [if_pos (A1.mpr (by rw [v1]; decide)), if_neg (fun h => absurd (A2.mp h) (by rw [v2]; decide)), if_neg (fun h => absurd (A3.mp h) (by rw [v3]; decide))]; decide
  · have v1 := hz4.trans (show _ = (0 : Int32) from by decide); have v2 := hz6.trans (show _ = (1 : Int32) from by decide); have v3 := hz8.trans (show _ = (0 : Int32) from by decide)
    rw [if_neg (fun h => absurd (A1.mp h) (by rw [v1]; decide)), if_pos (A2.mpr (by rw [v2]; decide)), if_neg (fun h => absurd (B2.mp h).2 (by rw [v1]; decide)), if_neg (fun h => absurd (A3.mp h) (by rw [v3]; decide))]; decide
  · have v1 := hz4.trans (show _ = (1 : Int32) from by decide); have v2 := hz6.trans (show _ = (1 : Int32) from by decide); have v3 := hz8.trans (show _ = (0 : Int32) from by decide)
    rw [if_pos (A1.mpr (by rw [v1]; decide)), if_pos (A2.mpr (by rw [v2]; decide)), if_pos (B2.mpr ⟨by rw [v2]; decide, by rw [v1]; decide⟩), if_neg (fun h => absurd (A3.mp h) (by rw [v3]; decide))]; decide
  · have v1 := hz4.trans (show _ = (0 : Int32) from by decide); have v2 := hz6.trans (show _ = (0 : Int32) from by decide); have v3 := hz8.trans (show _ = (1 : Int32) from by decide)
    rw [if_neg (fun h => absurd (A1.mp h) (by rw [v1]; decide)), if_neg (fun h => absurd (A2.mp h) (by rw [v2]; decide)), if_pos (A3.mpr (by rw [v3]; decide)), if_neg (fun h => absurd (B3.mp h).2 (by rw [v2]; decide))]; decide
  · have v1 := hz4.trans (show _ = (1 : Int32) from by decide); have v2 := hz6.trans (show _ = (0 : Int32) from by decide); have v3 := hz8.trans (show _ = (1 : Int32) from by decide)
    rw [if_pos (A1.mpr (by rw [v1]; decide)), if_neg (fun h => absurd (A2.mp h) (by rw [v2]; decide)), if_pos (A3.mpr (by rw [v3]; decide)), if_neg (fun h => absurd (B3.mp h).2 (by rw [v2]; decide))]; decide
  · have v1 := hz4.trans (show _ = (0 : Int32) from by decide); have v2 := hz6.trans (show _ = (1 : Int32) from by decide); have v3 := hz8.trans (show _ = (1 : Int32) from by decide)
    rw [if_neg (fun h => absurd (A1.mp h) (by rw [v1]; decide)), if_pos (A2.mpr (by rw [v2]; decide)), if_neg (fun h => absurd (B2.mp h).2 (by rw [v1]; decide)), if_pos (A3.mpr (by rw [v3]; decide)), if_pos (B3.mpr ⟨by rw [v3]; decide, by rw [v2]; decide⟩)]; decide
  · have v1 := hz4.trans (show _ = (1 : Int32) from by decide); have v2 := hz6.trans (show _ = (1 : Int32) from by decide); have v3 := hz8.trans (show _ = (1 : Int32) from by decide)
    rw [if_pos (A1.mpr (by rw [v1]; decide)), if_pos (A2.mpr (by rw [v2]; decide)), if_pos (B2.mpr ⟨by rw [v2]; decide, by rw [v1]; decide⟩), if_pos (A3.mpr (by rw [v3]; decide)), if_pos (B3.mpr ⟨by rw [v3]; decide, by rw [v2]; decide⟩)]; decide
  · have v1 := hz4.trans (show _ = (0 : Int32) from by decide); have v2 := hz6.trans (show _ = (0 : Int32) from by decide); have v3 := hz8.trans (show _ = (0 : Int32) from by decide)
    rw [if_neg (fun h => absurd (A1.mp h) (by rw [v1]; decide)), if_neg (fun h => absurd (A2.mp h) (by rw [v2]; decide)), if_neg (fun h => absurd (A3.mp h) (by rw [v3]; decide))]; decide
  · have v1 := hz4.trans (show _ = (1 : Int32) from by decide); have v2 := hz6.trans (show _ = (0 : Int32) from by decide); have v3 := hz8.trans (show _ = (0 : Int32) from by decide)
    rw [if_pos (A1.mpr (by rw [v1]; decide)), if_neg (fun h => absurd (A2.mp h) (by rw [v2]; decide)), if_neg (fun h => absurd (A3.mp h) (by rw [v3]; decide))]; decide
  · have v1 := hz4.trans (show _ = (0 : Int32) from by decide); have v2 := hz6.trans (show _ = (1 : Int32) from by decide); have v3 := hz8.trans (show _ = (0 : Int32) from by decide)
    rw [if_neg (fun h => absurd (A1.mp h) (by rw [v1]; decide)), if_pos (A2.mpr (by rw [v2]; decide)), if_neg (fun h => absurd (B2.mp h).2 (by rw [v1]; decide)), if_neg (fun h => absurd (A3.mp h) (by rw [v3]; decide))]; decide
  · have v1 := hz4.trans (show _ = (1 : Int32) from by decide); have v2 := hz6.trans (show _ = (1 : Int32) from by decide); have v3 := hz8.trans (show _ = (0 : Int32) from by decide)
    rw [if_pos (A1.mpr (by rw [v1]; decide)), if_pos (A2.mpr (by rw [v2]; decide)), if_pos (B2.mpr ⟨by rw [v2]; decide, by rw [v1]; decide⟩), if_neg (fun h => absurd (A3.mp h) (by rw [v3]; decide))]; decide
  · have v1 := hz4.trans (show _ = (0 : Int32) from by decide); have v2 := hz6.trans (show _ = (0 : Int32) from by decide); have v3 := hz8.trans (show _ = (1 : Int32) from by decide)
    rw [if_neg (fun h => absurd (A1.mp h) (by rw [v1]; decide)), if_neg (fun h => absurd (A2.mp h) (by rw [v2]; decide)), if_pos (A3.mpr (by rw [v3]; decide)), if_neg (fun h => absurd (B3.mp h).2 (by rw [v2]; decide))]; decide
  · have v1 := hz4.trans (show _ = (1 : Int32) from by decide); have v2 := hz6.trans (show _ = (0 : Int32) from by decide); have v3 := hz8.trans (show _ = (1 : Int32) from by decide)
    rw [if_pos (A1.mpr (by rw [v1]; decide)), if_neg (fun h => absurd (A2.mp h) (by rw [v2]; decide)), if_pos (A3.mpr (by rw [v3]; decide)), if_neg (fun h => absurd (B3.mp h).2 (by rw [v2]; decide))]; decide
  · have v1 := hz4.trans (show _ = (0 : Int32) from by decide); have v2 := hz6.trans (show _ = (1 : Int32) from by decide); have v3 := hz8.trans (show _ = (1 : Int32) from by decide)
    rw [if_neg (fun h => absurd (A1.mp h) (by rw [v1]; decide)), if_pos (A2.mpr (by rw [v2]; decide)), if_neg (fun h => absurd (B2.mp h).2 (by rw [v1]; decide)), if_pos (A3.mpr (by rw [v3]; decide)), if_pos (B3.mpr ⟨by rw [v3]; decide, by rw [v2]; decide⟩)]; decide
  · have v1 := hz4.trans (show _ = (1 : Int32) from by decide); have v2 := hz6.trans (show _ = (1 : Int32) from by decide); have v3 := hz8.trans (show _ = (1 : Int32) from by decide)
    rw [if_pos (A1.mpr (by rw [v1]; decide)), if_pos (A2.mpr (by rw [v2]; decide)), if_pos (B2.mpr ⟨by rw [v2]; decide, by rw [v1]; decide⟩), if_pos (A3.mpr (by rw [v3]; decide)), if_pos (B3.mpr ⟨by rw [v3]; decide, by rw [v2]; decide⟩)]; decide
theorem own_in5 (p2 : Int32) (hl65 : ((((p2.toUInt32 >>> ((4 : Int32) &&& 31).toUInt32).toInt32) &&& (7 : Int32)) % (6 : Int32)) = (5 : Int32)) : ¬ (p2 &&& (15 : Int32)) < (0 : Int32) ∧ (p2 &&& (15 : Int32)) < (16 : Int32) := by
  have e32_0 : (0 : Int32).toInt = 0 := by decide
  have e32_4 : (4 : Int32).toInt = 4 := by decide
  have e32_5 : (5 : Int32).toInt = 5 := by decide
  have e32_6 : (6 : Int32).toInt = 6 := by decide
  have e32_7 : (7 : Int32).toInt = 7 := by decide
  have e32_15 : (15 : Int32).toInt = 15 := by decide
  have e32_16 : (16 : Int32).toInt = 16 := by decide
  have m := c_mask p2 15 4 (by decide) (by decide)
  rw [own_l32, own_l32]; omega
theorem own_hhn6_5 (p0 : Int32) (p2 : Int32) (z3 : Int32) (hz3 : z3 = (own_f1 (1 : Int32) (p0 &&& (2147483647 : Int32)))) (hl65 : ((((p2.toUInt32 >>> ((4 : Int32) &&& 31).toUInt32).toInt32) &&& (7 : Int32)) % (6 : Int32)) = (5 : Int32)) : ¬ ((z3.toInt64) = (0 : Int64)) := by
  have := own_nodes _ _ hz3
  have e0 : (0 : Int64).toInt = 0 := by decide
  rw [own_e64, c_i2l]; omega
theorem own_law5 (p0 : Int32) (q1 : Int64) (p2 : Int32) (q3 : Int64) (p4 : Int32) (z3 : Int32) (hz3 : z3 = (own_f1 (1 : Int32) (p0 &&& (2147483647 : Int32)))) (z4 : Int32) (hz4 : z4 = (if (p2 &&& (1 : Int32)) = (0 : Int32) then (0 : Int32) else (1 : Int32))) (z6 : Int32) (hz6 : z6 = (if (p2 &&& (2 : Int32)) = (0 : Int32) then (0 : Int32) else (1 : Int32))) (z8 : Int32) (hz8 : z8 = (if (p2 &&& (4 : Int32)) = (0 : Int32) then (0 : Int32) else (1 : Int32))) (z10 : Int32) (hz10 : z10 = (if (p2 &&& (8 : Int32)) = (0 : Int32) then (0 : Int32) else (1 : Int32))) (z12 : Int64) (hz12 : z12 = (q1 &&& (2147483647 : Int64))) (z15 : Int64) (hz15 : z15 = (own_f2 z12 z4 p4 (0 : Int32))) (z18 : Int64) (hz18 : z18 = (own_f2 z15 z6 p4 (1 : Int32))) (z21 : Int64) (hz21 : z21 = (own_f2 z18 z8 p4 (2 : Int32))) (z24 : Int64) (hz24 : z24 = (own_f2 z21 z10 p4 (3 : Int32))) (z27 : Int64) (hz27 : z27 = (own_f3 q3 (0 : Int32) z3)) (z34 : Int64) (hz34 : z34 = (if z4 = (0 : Int32) then (own_f3 q3 (1 : Int32) z3) else (own_f4 z27 (own_f3 q3 (1 : Int32) z3)))) (z42 : Int64) (hz42 : z42 = (if z6 = (0 : Int32) then (own_f3 q3 (2 : Int32) z3) else (own_f4 z34 (own_f3 q3 (2 : Int32) z3)))) (z50 : Int64) (hz50 : z50 = (if z8 = (0 : Int32) then (own_f3 q3 (3 : Int32) z3) else (own_f4 z42 (own_f3 q3 (3 : Int32) z3)))) (z58 : Int64) (hz58 : z58 = (if z10 = (0 : Int32) then (own_f3 q3 (4 : Int32) z3) else (own_f4 z50 (own_f3 q3 (4 : Int32) z3)))) (z60 : Int64) (hz60 : z60 = ((z12 * (z3.toInt64)) + z27)) (z61 : Int64) (hz61 : z61 = ((z15 * (z3.toInt64)) + z34)) (z62 : Int64) (hz62 : z62 = ((z18 * (z3.toInt64)) + z42)) (z63 : Int64) (hz63 : z63 = ((z21 * (z3.toInt64)) + z50)) (z64 : Int64) (hz64 : z64 = ((z24 * (z3.toInt64)) + z58)) (hl65 : ((((p2.toUInt32 >>> ((4 : Int32) &&& 31).toUInt32).toInt32) &&& (7 : Int32)) % (6 : Int32)) = (5 : Int32)) : (own_f6_5 z3 z60 z61 z62 z63 z64) = ((own_tab (p2 &&& (15 : Int32))).toInt64) := by
  have hn := own_nodes _ _ hz3
  have rn := rng32 z3; have cn := c_i2l z3
  have mk := c_maskL q1 2147483647 31 (by decide) (by decide)
  have bq0 : 0 ≤ z12.toInt ∧ z12.toInt ≤ 2147483648 := by rw [hz12]; omega
  have nx1 := own_next z12 z4 p4 0 (by omega) (by omega)
  rw [← hz15] at nx1
  have bq1 : z12.toInt ≤ z15.toInt ∧ z15.toInt ≤ z12.toInt + 128 := by
    by_cases h : z4 = 0
    · have := nx1.2 h; omega
    · have := nx1.1 h; rw [this]; omega
  have nx2 := own_next z15 z6 p4 1 (by omega) (by omega)
  rw [← hz18] at nx2
  have bq2 : z15.toInt ≤ z18.toInt ∧ z18.toInt ≤ z15.toInt + 128 := by
    by_cases h : z6 = 0
    · have := nx2.2 h; omega
    · have := nx2.1 h; rw [this]; omega
  have nx3 := own_next z18 z8 p4 2 (by omega) (by omega)
  rw [← hz21] at nx3
  have bq3 : z18.toInt ≤ z21.toInt ∧ z21.toInt ≤ z18.toInt + 128 := by
    by_cases h : z8 = 0
    · have := nx3.2 h; omega
    · have := nx3.1 h; rw [this]; omega
  have nx4 := own_next z21 z10 p4 3 (by omega) (by omega)
  rw [← hz24] at nx4
  have bq4 : z21.toInt ≤ z24.toInt ∧ z24.toInt ≤ z21.toInt + 128 := by
    by_cases h : z10 = 0
    · have := nx4.2 h; omega
    · have := nx4.1 h; rw [this]; omega
  have d0 := own_draw q3 0 z3 hn
  have br0 : 0 ≤ z27.toInt ∧ z27.toInt < z3.toInt64.toInt := by rw [hz27, cn]; exact d0
  have w0 : z60 / z3.toInt64 = z12 := by rw [hz60]; exact own_quot z12 z3.toInt64 z27 (by omega) (by omega) (by omega) (by omega) br0.1 br0.2
  have d1 := own_draw q3 1 z3 hn
  have br1 : 0 ≤ z34.toInt ∧ z34.toInt < z3.toInt64.toInt := by
    rw [hz34]; split
    · rw [cn]; exact d1
    · exact own_max _ _ _ br0 (by rw [cn]; exact d1)
  have w1 : z61 / z3.toInt64 = z15 := by rw [hz61]; exact own_quot z15 z3.toInt64 z34 (by omega) (by omega) (by omega) (by omega) br1.1 br1.2
  have d2 := own_draw q3 2 z3 hn
  have br2 : 0 ≤ z42.toInt ∧ z42.toInt < z3.toInt64.toInt := by
    rw [hz42]; split
    · rw [cn]; exact d2
    · exact own_max _ _ _ br1 (by rw [cn]; exact d2)
  have w2 : z62 / z3.toInt64 = z18 := by rw [hz62]; exact own_quot z18 z3.toInt64 z42 (by omega) (by omega) (by omega) (by omega) br2.1 br2.2
  have d3 := own_draw q3 3 z3 hn
  have br3 : 0 ≤ z50.toInt ∧ z50.toInt < z3.toInt64.toInt := by
    rw [hz50]; split
    · rw [cn]; exact d3
    · exact own_max _ _ _ br2 (by rw [cn]; exact d3)
  have w3 : z63 / z3.toInt64 = z21 := by rw [hz63]; exact own_quot z21 z3.toInt64 z50 (by omega) (by omega) (by omega) (by omega) br3.1 br3.2
  have d4 := own_draw q3 4 z3 hn
  have br4 : 0 ≤ z58.toInt ∧ z58.toInt < z3.toInt64.toInt := by
    rw [hz58]; split
    · rw [cn]; exact d4
    · exact own_max _ _ _ br3 (by rw [cn]; exact d4)
  have w4 : z64 / z3.toInt64 = z24 := by rw [hz64]; exact own_quot z24 z3.toInt64 z58 (by omega) (by omega) (by omega) (by omega) br4.1 br4.2
  have A1 : (z15 = z12) ↔ ¬ (z4 = 0) := ⟨fun h h0 => by have := (nx1.2 h0).1; rw [h] at this; omega, fun h => nx1.1 h⟩
  have A2 : (z18 = z15) ↔ ¬ (z6 = 0) := ⟨fun h h0 => by have := (nx2.2 h0).1; rw [h] at this; omega, fun h => nx2.1 h⟩
  have B2 : (z18 = z12) ↔ (¬ (z6 = 0) ∧ ¬ (z4 = 0)) := ⟨fun h => ⟨fun h0 => by have := (nx2.2 h0).1; rw [h] at this; omega, fun h0 => by have := (nx1.2 h0).1; rw [← h] at this; omega⟩, fun h => (A2.mpr h.1).trans (A1.mpr h.2)⟩
  have A3 : (z21 = z18) ↔ ¬ (z8 = 0) := ⟨fun h h0 => by have := (nx3.2 h0).1; rw [h] at this; omega, fun h => nx3.1 h⟩
  have B3 : (z21 = z15) ↔ (¬ (z8 = 0) ∧ ¬ (z6 = 0)) := ⟨fun h => ⟨fun h0 => by have := (nx3.2 h0).1; rw [h] at this; omega, fun h0 => by have := (nx2.2 h0).1; rw [← h] at this; omega⟩, fun h => (A3.mpr h.1).trans (A2.mpr h.2)⟩
  have A4 : (z24 = z21) ↔ ¬ (z10 = 0) := ⟨fun h h0 => by have := (nx4.2 h0).1; rw [h] at this; omega, fun h => nx4.1 h⟩
  have B4 : (z24 = z18) ↔ (¬ (z10 = 0) ∧ ¬ (z8 = 0)) := ⟨fun h => ⟨fun h0 => by have := (nx4.2 h0).1; rw [h] at this; omega, fun h0 => by have := (nx3.2 h0).1; rw [← h] at this; omega⟩, fun h => (A4.mpr h.1).trans (A3.mpr h.2)⟩
  have hm := own_c16 p2
  have x1 : p2 &&& (1 : Int32) = (p2 &&& (15 : Int32)) &&& (1 : Int32) := by rw [Int32.and_assoc]; rfl
  rw [x1] at hz4
  have x2 : p2 &&& (2 : Int32) = (p2 &&& (15 : Int32)) &&& (2 : Int32) := by rw [Int32.and_assoc]; rfl
  rw [x2] at hz6
  have x3 : p2 &&& (4 : Int32) = (p2 &&& (15 : Int32)) &&& (4 : Int32) := by rw [Int32.and_assoc]; rfl
  rw [x3] at hz8
  have x4 : p2 &&& (8 : Int32) = (p2 &&& (15 : Int32)) &&& (8 : Int32) := by rw [Int32.and_assoc]; rfl
  rw [x4] at hz10
  have xm : p2 &&& (15 : Int32) = (p2 &&& (15 : Int32)) &&& (15 : Int32) := by rw [Int32.and_assoc]; rfl
  rw [xm]
  clear x1 x2 x3 x4 xm
  generalize p2 &&& (15 : Int32) = m at *
  simp only [own_f6_5, w0, w1, w2, w3, w4]
  rcases hm with rfl | rfl | rfl | rfl | rfl | rfl | rfl | rfl | rfl | rfl | rfl | rfl | rfl | rfl | rfl | rfl
  · have v1 := hz4.trans (show _ = (0 : Int32) from by decide); have v2 := hz6.trans (show _ = (0 : Int32) from by decide); have v3 := hz8.trans (show _ = (0 : Int32) from by decide); have v4 := hz10.trans (show _ = (0 : Int32) from by decide)
    rw [if_neg (fun h => absurd (A1.mp h) (by rw [v1]; decide)), if_neg (fun h => absurd (A2.mp h) (by rw [v2]; decide)), if_neg (fun h => absurd (A3.mp h) (by rw [v3]; decide)), if_neg (fun h => absurd (A4.mp h) (by rw [v4]; decide))]; decide
  · have v1 := hz4.trans (show _ = (1 : Int32) from by decide); have v2 := hz6.trans (show _ = (0 : Int32) from by decide); have v3 := hz8.trans (show _ = (0 : Int32) from by decide); have v4 := hz10.trans (show _ = (0 : Int32) from by decide)
    rw [if_pos (A1.mpr (by rw [v1]; decide)), if_neg (fun h => absurd (A2.mp h) (by rw [v2]; decide)), if_neg (fun h => absurd (A3.mp h) (by rw [v3]; decide)), if_neg (fun h => absurd (A4.mp h) (by rw [v4]; decide))]; decide
  · have v1 := hz4.trans (show _ = (0 : Int32) from by decide); have v2 := hz6.trans (show _ = (1 : Int32) from by decide); have v3 := hz8.trans (show _ = (0 : Int32) from by decide); have v4 := hz10.trans (show _ = (0 : Int32) from by decide)
    rw [if_neg (fun h => absurd (A1.mp h) (by rw [v1]; decide)), if_pos (A2.mpr (by rw [v2]; decide)), if_neg (fun h => absurd (B2.mp h).2 (by rw [v1]; decide)), if_neg (fun h => absurd (A3.mp h) (by rw [v3]; decide)), if_neg (fun h => absurd (A4.mp h) (by rw [v4]; decide))]; decide
  · have v1 := hz4.trans (show _ = (1 : Int32) from by decide); have v2 := hz6.trans (show _ = (1 : Int32) from by decide); have v3 := hz8.trans (show _ = (0 : Int32) from by decide); have v4 := hz10.trans (show _ = (0 : Int32) from by decide)
    rw [if_pos (A1.mpr (by rw [v1]; decide)), if_pos (A2.mpr (by rw [v2]; decide)), if_pos (B2.mpr ⟨by rw [v2]; decide, by rw [v1]; decide⟩), if_neg (fun h => absurd (A3.mp h) (by rw [v3]; decide)), if_neg (fun h => absurd (A4.mp h) (by rw [v4]; decide))]; decide
  · have v1 := hz4.trans (show _ = (0 : Int32) from by decide); have v2 := hz6.trans (show _ = (0 : Int32) from by decide); have v3 := hz8.trans (show _ = (1 : Int32) from by decide); have v4 := hz10.trans (show _ = (0 : Int32) from by decide)
    rw [if_neg (fun h => absurd (A1.mp h) (by rw [v1]; decide)), if_neg (fun h => absurd (A2.mp h) (by rw [v2]; decide)), if_pos (A3.mpr (by rw [v3]; decide)), if_neg (fun h => absurd (B3.mp h).2 (by rw [v2]; decide)), if_neg (fun h => absurd (A4.mp h) (by rw [v4]; decide))]; decide
  · have v1 := hz4.trans (show _ = (1 : Int32) from by decide); have v2 := hz6.trans (show _ = (0 : Int32) from by decide); have v3 := hz8.trans (show _ = (1 : Int32) from by decide); have v4 := hz10.trans (show _ = (0 : Int32) from by decide)
    rw [if_pos (A1.mpr (by rw [v1]; decide)), if_neg (fun h => absurd (A2.mp h) (by rw [v2]; decide)), if_pos (A3.mpr (by rw [v3]; decide)), if_neg (fun h => absurd (B3.mp h).2 (by rw [v2]; decide)), if_neg (fun h => absurd (A4.mp h) (by rw [v4]; decide))]; decide
  · have v1 := hz4.trans (show _ = (0 : Int32) from by decide); have v2 := hz6.trans (show _ = (1 : Int32) from by decide); have v3 := hz8.trans (show _ = (1 : Int32) from by decide); have v4 := hz10.trans (show _ = (0 : Int32) from by decide)
    rw [if_neg (fun h => absurd (A1.mp h) (by rw [v1]; decide)), if_pos (A2.mpr (by rw [v2]; decide)), if_neg (fun h => absurd (B2.mp h).2 (by rw [v1]; decide)), if_pos (A3.mpr (by rw [v3]; decide)), if_pos (B3.mpr ⟨by rw [v3]; decide, by rw [v2]; decide⟩), if_neg (fun h => absurd (A4.mp h) (by rw [v4]; decide))]; decide
  · have v1 := hz4.trans (show _ = (1 : Int32) from by decide); have v2 := hz6.trans (show _ = (1 : Int32) from by decide); have v3 := hz8.trans (show _ = (1 : Int32) from by decide); have v4 := hz10.trans (show _ = (0 : Int32) from by decide)
    rw [if_pos (A1.mpr (by rw [v1]; decide)), if_pos (A2.mpr (by rw [v2]; decide)), if_pos (B2.mpr ⟨by rw [v2]; decide, by rw [v1]; decide⟩), if_pos (A3.mpr (by rw [v3]; decide)), if_pos (B3.mpr ⟨by rw [v3]; decide, by rw [v2]; decide⟩), if_neg (fun h => absurd (A4.mp h) (by rw [v4]; decide))]; decide
  · have v1 := hz4.trans (show _ = (0 : Int32) from by decide); have v2 := hz6.trans (show _ = (0 : Int32) from by decide); have v3 := hz8.trans (show _ = (0 : Int32) from by decide); have v4 := hz10.trans (show _ = (1 : Int32) from by decide)
    rw [if_neg (fun h => absurd (A1.mp h) (by rw [v1]; decide)), if_neg (fun h => absurd (A2.mp h) (by rw [v2]; decide)), if_neg (fun h => absurd (A3.mp h) (by rw [v3]; decide)), if_pos (A4.mpr (by rw [v4]; decide)), if_neg (fun h => absurd (B4.mp h).2 (by rw [v3]; decide))]; decide
  · have v1 := hz4.trans (show _ = (1 : Int32) from by decide); have v2 := hz6.trans (show _ = (0 : Int32) from by decide); have v3 := hz8.trans (show _ = (0 : Int32) from by decide); have v4 := hz10.trans (show _ = (1 : Int32) from by decide)
    rw [if_pos (A1.mpr (by rw [v1]; decide)), if_neg (fun h => absurd (A2.mp h) (by rw [v2]; decide)), if_neg (fun h => absurd (A3.mp h) (by rw [v3]; decide)), if_pos (A4.mpr (by rw [v4]; decide)), if_neg (fun h => absurd (B4.mp h).2 (by rw [v3]; decide))]; decide
  · have v1 := hz4.trans (show _ = (0 : Int32) from by decide); have v2 := hz6.trans (show _ = (1 : Int32) from by decide); have v3 := hz8.trans (show _ = (0 : Int32) from by decide); have v4 := hz10.trans (show _ = (1 : Int32) from by decide)
    rw [if_neg (fun h => absurd (A1.mp h) (by rw [v1]; decide)), if_pos (A2.mpr (by rw [v2]; decide)), if_neg (fun h => absurd (B2.mp h).2 (by rw [v1]; decide)), if_neg (fun h => absurd (A3.mp h) (by rw [v3]; decide)), if_pos (A4.mpr (by rw [v4]; decide)), if_neg (fun h => absurd (B4.mp h).2 (by rw [v3]; decide))]; decide
  · have v1 := hz4.trans (show _ = (1 : Int32) from by decide); have v2 := hz6.trans (show _ = (1 : Int32) from by decide); have v3 := hz8.trans (show _ = (0 : Int32) from by decide); have v4 := hz10.trans (show _ = (1 : Int32) from by decide)
    rw [if_pos (A1.mpr (by rw [v1]; decide)), if_pos (A2.mpr (by rw [v2]; decide)), if_pos (B2.mpr ⟨by rw [v2]; decide, by rw [v1]; decide⟩), if_neg (fun h => absurd (A3.mp h) (by rw [v3]; decide)), if_pos (A4.mpr (by rw [v4]; decide)), if_neg (fun h => absurd (B4.mp h).2 (by rw [v3]; decide))]; decide
  · have v1 := hz4.trans (show _ = (0 : Int32) from by decide); have v2 := hz6.trans (show _ = (0 : Int32) from by decide); have v3 := hz8.trans (show _ = (1 : Int32) from by decide); have v4 := hz10.trans (show _ = (1 : Int32) from by decide)
    rw [if_neg (fun h => absurd (A1.mp h) (by rw [v1]; decide)), if_neg (fun h => absurd (A2.mp h) (by rw [v2]; decide)), if_pos (A3.mpr (by rw [v3]; decide)), if_neg (fun h => absurd (B3.mp h).2 (by rw [v2]; decide)), if_pos (A4.mpr (by rw [v4]; decide)), if_pos (B4.mpr ⟨by rw [v4]; decide, by rw [v3]; decide⟩)]; decide
  · have v1 := hz4.trans (show _ = (1 : Int32) from by decide); have v2 := hz6.trans (show _ = (0 : Int32) from by decide); have v3 := hz8.trans (show _ = (1 : Int32) from by decide); have v4 := hz10.trans (show _ = (1 : Int32) from by decide)
    rw [if_pos (A1.mpr (by rw [v1]; decide)), if_neg (fun h => absurd (A2.mp h) (by rw [v2]; decide)), if_pos (A3.mpr (by rw [v3]; decide)), if_neg (fun h => absurd (B3.mp h).2 (by rw [v2]; decide)), if_pos (A4.mpr (by rw [v4]; decide)), if_pos (B4.mpr ⟨by rw [v4]; decide, by rw [v3]; decide⟩)]; decide
  · have v1 := hz4.trans (show _ = (0 : Int32) from by decide); have v2 := hz6.trans (show _ = (1 : Int32) from by decide); have v3 := hz8.trans (show _ = (1 : Int32) from by decide); have v4 := hz10.trans (show _ = (1 : Int32) from by decide)
    rw [if_neg (fun h => absurd (A1.mp h) (by rw [v1]; decide)), if_pos (A2.mpr (by rw [v2]; decide)), if_neg (fun h => absurd (B2.mp h).2 (by rw [v1]; decide)), if_pos (A3.mpr (by rw [v3]; decide)), if_pos (B3.mpr ⟨by rw [v3]; decide, by rw [v2]; decide⟩), if_pos (A4.mpr (by rw [v4]; decide)), if_pos (B4.mpr ⟨by rw [v4]; decide, by rw [v3]; decide⟩)]; decide
  · have v1 := hz4.trans (show _ = (1 : Int32) from by decide); have v2 := hz6.trans (show _ = (1 : Int32) from by decide); have v3 := hz8.trans (show _ = (1 : Int32) from by decide); have v4 := hz10.trans (show _ = (1 : Int32) from by decide)
    rw [if_pos (A1.mpr (by rw [v1]; decide)), if_pos (A2.mpr (by rw [v2]; decide)), if_pos (B2.mpr ⟨by rw [v2]; decide, by rw [v1]; decide⟩), if_pos (A3.mpr (by rw [v3]; decide)), if_pos (B3.mpr ⟨by rw [v3]; decide, by rw [v2]; decide⟩), if_pos (A4.mpr (by rw [v4]; decide)), if_pos (B4.mpr ⟨by rw [v4]; decide, by rw [v3]; decide⟩)]; decide
def Q0 (Z : State) (p0 : Int32) (q1 : Int64) (p2 : Int32) (q3 : Int64) (p4 : Int32) (h0 : Heap) (n0 : Nat) (v : Option Value) (h : Heap) (L : List Loc) : Prop := v = some (.int 1) ∧ Fr n0 L
set_option maxRecDepth 65536 in
set_option maxHeartbeats 40000000 in
theorem rm0 (l : Launch) (Z : State) (aw : Array Value) (hw : ∀ d ∈ tables_1, d.before aw Z = true) (ws : List Jvm.Cond) (p0 : Int32) (q1 : Int64) (p2 : Int32) (q3 : Int64) (p4 : Int32) (h0 : Heap) (n0 : Nat) (Z0 : n0 ≤ h0.size)  :
    MetFree l x (head1 (Jvm.Cond.code x code maxLocals ret :: ws) room_1) (fun a U => a = #[(.int p0), (.long q1), (.int p2), (.long q3), (.int p4)] ∧ Z.Warmed39 U.vm ∧ U.heap = h0) (fun _ _ _ _ _ => True) (fun _ U o U' => ∃ v L, o = .returned v ∧ Q0 Z p0 q1 p2 q3 p4 h0 n0 v U'.heap L ∧ FrameEnd U o U' L room_1.cells room_1.slots) := by
  refine MetFree.of_bodySF (plainFor_of_name pn_0) hisR ?_
  intro p e s m args below meth c s₁ Bd hml0 hP hK
  obtain ⟨rfl, hZ, hh⟩ := hP
  have hx := Bd.exec
  have hby := Bd.bytes
  have hml : c.maxLocals = 50 := hml0
  have hown : s.vm.findClass "com/example/waveslot/waveslot/core/CheckerStepsRepeatedQuotientsPinLaw" = some m.cls := findClass_of_methodNamed Bd.named
  have hnm := (name_of_methodNamed Bd.named Bd.method).1
  have hlk : meth.locks = false := by first | exact BodyLoose.notSynchronized (by assumption) | exact Body.notSynchronized (by assumption)
  have X0 : Stand p l e room_1 s m #[(.int p0), (.long q1), (.int p2), (.long q3), (.int p4)] below meth c s₁ [] 0 0 := Stand.of_body Bd
  have e0 : s₁.heap = h0 := by rw [← hh, Bd.state]; rfl
  have N0 := Fr.nil n0
  refine own_start (CS := (room_1.cells, room_1.slots)) (Q := (Q0 Z p0 q1 p2 q3 p4 h0 n0)) (ef_0 m p0 q1 p2 q3 p4) ?_
  show own_Go p e below s _ _ (s₁.setTop (mkF m 0 #[iv p0, jv q1, .second, iv p2, jv q3, .second, iv p4, .unset, .unset, .unset, .unset, .unset, .unset, .unset, .unset, .unset, .unset, .unset, .unset, .unset, .unset, .unset, .unset, .unset, .unset, .unset, .unset, .unset, .unset, .unset, .unset, .unset, .unset, .unset, .unset, .unset, .unset, .unset, .unset, .unset, .unset, .unset, .unset, .unset, .unset, .unset, .unset, .unset, .unset, .unset] []))
  refine own_via (fun k => XS.iconst X0.here hx rfl (hb hby at_0) (XS.iloadN X0.here hx rfl (hb hby at_1) rfl  (X0.ldcInt hx hown (mvT hZ (hw _ (List.mem_of_getElem? (i := 0) rfl))) (g := (mkF m 2 #[iv p0, jv q1, .second, iv p2, jv q3, .second, iv p4, .unset, .unset, .unset, .unset, .unset, .unset, .unset, .unset, .unset, .unset, .unset, .unset, .unset, .unset, .unset, .unset, .unset, .unset, .unset, .unset, .unset, .unset, .unset, .unset, .unset, .unset, .unset, .unset, .unset, .unset, .unset, .unset, .unset, .unset, .unset, .unset, .unset, .unset, .unset, .unset, .unset, .unset, .unset] [(.int p0), (.int 1)])) rfl (hb hby at_2) _ (XS.iand X0.here hx rfl (hb hby at_4) rfl k)))) ?_
  show own_Go p e below s _ _ (s₁.setTop (mkF m 5 #[iv p0, jv q1, .second, iv p2, jv q3, .second, iv p4, .unset, .unset, .unset, .unset, .unset, .unset, .unset, .unset, .unset, .unset, .unset, .unset, .unset, .unset, .unset, .unset, .unset, .unset, .unset, .unset, .unset, .unset, .unset, .unset, .unset, .unset, .unset, .unset, .unset, .unset, .unset, .unset, .unset, .unset, .unset, .unset, .unset, .unset, .unset, .unset, .unset, .unset, .unset] [(.int (p0 &&& (2147483647 : Int32))), (.int 1)]))
  obtain ⟨_, _, ⟨T1, L1, k1, n1⟩, -, X1, ⟨Lc1, hQ1, l1, y1, z1⟩, st1⟩ := Jvm.LawKit.callS X0 hx (y := (⟨"java/lang/Math", "max", "(II)I"⟩ : MethodName)) hown (mvT hZ (hw _ (List.mem_of_getElem? (i := 1) rfl))) (mvT hZ (hw _ (List.mem_of_getElem? (i := 2) rfl))) (mvT hZ (hw _ (List.mem_of_getElem? (i := 3) rfl))) (mvT hZ (hw _ (List.mem_of_getElem? (i := 4) rfl))) (by decide) (backOf (W := 0) (rm1 l Z aw hw [] (1 : Int32) (p0 &&& (2147483647 : Int32)) h0 n0 Z0) hZ (hw _ (List.mem_of_getElem? (i := 4) rfl)) (hw _ (List.mem_of_getElem? (i := 3) rfl)) (by decide) (by decide)) (g := (mkF m 5 #[iv p0, jv q1, .second, iv p2, jv q3, .second, iv p4, .unset, .unset, .unset, .unset, .unset, .unset, .unset, .unset, .unset, .unset, .unset, .unset, .unset, .unset, .unset, .unset, .unset, .unset, .unset, .unset, .unset, .unset, .unset, .unset, .unset, .unset, .unset, .unset, .unset, .unset, .unset, .unset, .unset, .unset, .unset, .unset, .unset, .unset, .unset, .unset, .unset, .unset, .unset] [(.int (p0 &&& (2147483647 : Int32))), (.int 1)])) rfl (by rw [hml]; rfl) (argsL := [(.int 1), (.int (p0 &&& (2147483647 : Int32)))]) (rest := []) (lenOf pd_0 rfl) rfl (by show 2 * 0 + _ ≤ _; exact Nat.le_of_eq rfl) (hb hby at_5) (fun _ _ => ⟨rfl, e0, (by decide : 0 + 0 ≤ _), (by decide : 0 + 0 ≤ _)⟩)
  dsimp only [Pt.U, Pt.locs, Pt.cells, Pt.slots] at X1 l1 y1 z1 st1 hQ1
  subst l1 y1 z1
  obtain ⟨rfl, N1q, eh1⟩ := hQ1
  have N2 := Fr.app N0 N1q
  refine own_via (fun k => st1 _ k) ?_
  show own_Go p e below s _ _ (T1.setTop (mkF m 8 #[iv p0, jv q1, .second, iv p2, jv q3, .second, iv p4, .unset, .unset, .unset, .unset, .unset, .unset, .unset, .unset, .unset, .unset, .unset, .unset, .unset, .unset, .unset, .unset, .unset, .unset, .unset, .unset, .unset, .unset, .unset, .unset, .unset, .unset, .unset, .unset, .unset, .unset, .unset, .unset, .unset, .unset, .unset, .unset, .unset, .unset, .unset, .unset, .unset, .unset, .unset] [(.int (own_f1 (1 : Int32) (p0 &&& (2147483647 : Int32))))]))
  obtain ⟨z3, hz3⟩ : ∃ z : Int32, z = (own_f1 (1 : Int32) (p0 &&& (2147483647 : Int32))) := ⟨_, rfl⟩
  rw [← hz3]
  show own_Go p e below s _ _ (T1.setTop (mkF m 8 #[iv p0, jv q1, .second, iv p2, jv q3, .second, iv p4, .unset, .unset, .unset, .unset, .unset, .unset, .unset, .unset, .unset, .unset, .unset, .unset, .unset, .unset, .unset, .unset, .unset, .unset, .unset, .unset, .unset, .unset, .unset, .unset, .unset, .unset, .unset, .unset, .unset, .unset, .unset, .unset, .unset, .unset, .unset, .unset, .unset, .unset, .unset, .unset, .unset, .unset, .unset] [(.int z3)]))
  refine own_via (fun k => XS.istore X1.here hx rfl (hb hby at_8) rfl (l' := #[iv p0, jv q1, .second, iv p2, jv q3, .second, iv p4, iv z3, .unset, .unset, .unset, .unset, .unset, .unset, .unset, .unset, .unset, .unset, .unset, .unset, .unset, .unset, .unset, .unset, .unset, .unset, .unset, .unset, .unset, .unset, .unset, .unset, .unset, .unset, .unset, .unset, .unset, .unset, .unset, .unset, .unset, .unset, .unset, .unset, .unset, .unset, .unset, .unset, .unset, .unset]) rfl (XS.iloadN X1.here hx rfl (hb hby at_10) rfl  (XS.iconst X1.here hx rfl (hb hby at_11) (XS.iushr X1.here hx rfl (hb hby at_12) rfl k)))) ?_
  show own_Go p e below s _ _ (T1.setTop (mkF m 13 #[iv p0, jv q1, .second, iv p2, jv q3, .second, iv p4, iv z3, .unset, .unset, .unset, .unset, .unset, .unset, .unset, .unset, .unset, .unset, .unset, .unset, .unset, .unset, .unset, .unset, .unset, .unset, .unset, .unset, .unset, .unset, .unset, .unset, .unset, .unset, .unset, .unset, .unset, .unset, .unset, .unset, .unset, .unset, .unset, .unset, .unset, .unset, .unset, .unset, .unset, .unset] [(.int ((p2.toUInt32 >>> ((4 : Int32) &&& 31).toUInt32).toInt32))]))
  refine own_via (fun k => XS.bipush X1.here hx rfl (hb hby at_13) (XS.iand X1.here hx rfl (hb hby at_15) rfl (XS.bipush X1.here hx rfl (hb hby at_16) (Jvm.RoadKit.iremM X1 hx rfl (hb hby at_18) rfl (by decide) k)))) ?_
  show own_Go p e below s _ _ (T1.setTop (mkF m 19 #[iv p0, jv q1, .second, iv p2, jv q3, .second, iv p4, iv z3, .unset, .unset, .unset, .unset, .unset, .unset, .unset, .unset, .unset, .unset, .unset, .unset, .unset, .unset, .unset, .unset, .unset, .unset, .unset, .unset, .unset, .unset, .unset, .unset, .unset, .unset, .unset, .unset, .unset, .unset, .unset, .unset, .unset, .unset, .unset, .unset, .unset, .unset, .unset, .unset, .unset, .unset] [(.int ((((p2.toUInt32 >>> ((4 : Int32) &&& 31).toUInt32).toInt32) &&& (7 : Int32)) % (6 : Int32)))]))
  refine own_via (fun k => XS.istore X1.here hx rfl (hb hby at_19) rfl (l' := #[iv p0, jv q1, .second, iv p2, jv q3, .second, iv p4, iv z3, iv ((((p2.toUInt32 >>> ((4 : Int32) &&& 31).toUInt32).toInt32) &&& (7 : Int32)) % (6 : Int32)), .unset, .unset, .unset, .unset, .unset, .unset, .unset, .unset, .unset, .unset, .unset, .unset, .unset, .unset, .unset, .unset, .unset, .unset, .unset, .unset, .unset, .unset, .unset, .unset, .unset, .unset, .unset, .unset, .unset, .unset, .unset, .unset, .unset, .unset, .unset, .unset, .unset, .unset, .unset, .unset, .unset]) rfl (XS.iloadN X1.here hx rfl (hb hby at_21) rfl  (XS.iconst X1.here hx rfl (hb hby at_22) (XS.iand X1.here hx rfl (hb hby at_23) rfl k)))) ?_
  show own_Go p e below s _ _ (T1.setTop (mkF m 24 #[iv p0, jv q1, .second, iv p2, jv q3, .second, iv p4, iv z3, iv ((((p2.toUInt32 >>> ((4 : Int32) &&& 31).toUInt32).toInt32) &&& (7 : Int32)) % (6 : Int32)), .unset, .unset, .unset, .unset, .unset, .unset, .unset, .unset, .unset, .unset, .unset, .unset, .unset, .unset, .unset, .unset, .unset, .unset, .unset, .unset, .unset, .unset, .unset, .unset, .unset, .unset, .unset, .unset, .unset, .unset, .unset, .unset, .unset, .unset, .unset, .unset, .unset, .unset, .unset, .unset, .unset] [(.int (p2 &&& (1 : Int32)))]))
  have J5 : ∀ (z4 : Int32), z4 = (if (p2 &&& (1 : Int32)) = (0 : Int32) then (0 : Int32) else (1 : Int32)) → own_Go p e below s (Q0 Z p0 q1 p2 q3 p4 h0 n0) (room_1.cells, room_1.slots) (T1.setTop (mkF m 32 #[iv p0, jv q1, .second, iv p2, jv q3, .second, iv p4, iv z3, iv ((((p2.toUInt32 >>> ((4 : Int32) &&& 31).toUInt32).toInt32) &&& (7 : Int32)) % (6 : Int32)), .unset, .unset, .unset, .unset, .unset, .unset, .unset, .unset, .unset, .unset, .unset, .unset, .unset, .unset, .unset, .unset, .unset, .unset, .unset, .unset, .unset, .unset, .unset, .unset, .unset, .unset, .unset, .unset, .unset, .unset, .unset, .unset, .unset, .unset, .unset, .unset, .unset, .unset, .unset, .unset, .unset] [(.int z4)])) := by
    intro z4 hz4
    refine own_via (fun k => XS.istore X1.here hx rfl (hb hby at_32) rfl (l' := #[iv p0, jv q1, .second, iv p2, jv q3, .second, iv p4, iv z3, iv ((((p2.toUInt32 >>> ((4 : Int32) &&& 31).toUInt32).toInt32) &&& (7 : Int32)) % (6 : Int32)), iv z4, .unset, .unset, .unset, .unset, .unset, .unset, .unset, .unset, .unset, .unset, .unset, .unset, .unset, .unset, .unset, .unset, .unset, .unset, .unset, .unset, .unset, .unset, .unset, .unset, .unset, .unset, .unset, .unset, .unset, .unset, .unset, .unset, .unset, .unset, .unset, .unset, .unset, .unset, .unset, .unset]) rfl (XS.iloadN X1.here hx rfl (hb hby at_34) rfl  (XS.iconst X1.here hx rfl (hb hby at_35) (XS.iand X1.here hx rfl (hb hby at_36) rfl k)))) ?_
    show own_Go p e below s _ _ (T1.setTop (mkF m 37 #[iv p0, jv q1, .second, iv p2, jv q3, .second, iv p4, iv z3, iv ((((p2.toUInt32 >>> ((4 : Int32) &&& 31).toUInt32).toInt32) &&& (7 : Int32)) % (6 : Int32)), iv z4, .unset, .unset, .unset, .unset, .unset, .unset, .unset, .unset, .unset, .unset, .unset, .unset, .unset, .unset, .unset, .unset, .unset, .unset, .unset, .unset, .unset, .unset, .unset, .unset, .unset, .unset, .unset, .unset, .unset, .unset, .unset, .unset, .unset, .unset, .unset, .unset, .unset, .unset, .unset, .unset] [(.int (p2 &&& (2 : Int32)))]))
    have J7 : ∀ (z6 : Int32), z6 = (if (p2 &&& (2 : Int32)) = (0 : Int32) then (0 : Int32) else (1 : Int32)) → own_Go p e below s (Q0 Z p0 q1 p2 q3 p4 h0 n0) (room_1.cells, room_1.slots) (T1.setTop (mkF m 45 #[iv p0, jv q1, .second, iv p2, jv q3, .second, iv p4, iv z3, iv ((((p2.toUInt32 >>> ((4 : Int32) &&& 31).toUInt32).toInt32) &&& (7 : Int32)) % (6 : Int32)), iv z4, .unset, .unset, .unset, .unset, .unset, .unset, .unset, .unset, .unset, .unset, .unset, .unset, .unset, .unset, .unset, .unset, .unset, .unset, .unset, .unset, .unset, .unset, .unset, .unset, .unset, .unset, .unset, .unset, .unset, .unset, .unset, .unset, .unset, .unset, .unset, .unset, .unset, .unset, .unset, .unset] [(.int z6)])) := by
      intro z6 hz6
      refine own_via (fun k => XS.istore X1.here hx rfl (hb hby at_45) rfl (l' := #[iv p0, jv q1, .second, iv p2, jv q3, .second, iv p4, iv z3, iv ((((p2.toUInt32 >>> ((4 : Int32) &&& 31).toUInt32).toInt32) &&& (7 : Int32)) % (6 : Int32)), iv z4, iv z6, .unset, .unset, .unset, .unset, .unset, .unset, .unset, .unset, .unset, .unset, .unset, .unset, .unset, .unset, .unset, .unset, .unset, .unset, .unset, .unset, .unset, .unset, .unset, .unset, .unset, .unset, .unset, .unset, .unset, .unset, .unset, .unset, .unset, .unset, .unset, .unset, .unset, .unset, .unset]) rfl (XS.iloadN X1.here hx rfl (hb hby at_47) rfl  (XS.iconst X1.here hx rfl (hb hby at_48) (XS.iand X1.here hx rfl (hb hby at_49) rfl k)))) ?_
      show own_Go p e below s _ _ (T1.setTop (mkF m 50 #[iv p0, jv q1, .second, iv p2, jv q3, .second, iv p4, iv z3, iv ((((p2.toUInt32 >>> ((4 : Int32) &&& 31).toUInt32).toInt32) &&& (7 : Int32)) % (6 : Int32)), iv z4, iv z6, .unset, .unset, .unset, .unset, .unset, .unset, .unset, .unset, .unset, .unset, .unset, .unset, .unset, .unset, .unset, .unset, .unset, .unset, .unset, .unset, .unset, .unset, .unset, .unset, .unset, .unset, .unset, .unset, .unset, .unset, .unset, .unset, .unset, .unset, .unset, .unset, .unset, .unset, .unset] [(.int (p2 &&& (4 : Int32)))]))
      have J9 : ∀ (z8 : Int32), z8 = (if (p2 &&& (4 : Int32)) = (0 : Int32) then (0 : Int32) else (1 : Int32)) → own_Go p e below s (Q0 Z p0 q1 p2 q3 p4 h0 n0) (room_1.cells, room_1.slots) (T1.setTop (mkF m 58 #[iv p0, jv q1, .second, iv p2, jv q3, .second, iv p4, iv z3, iv ((((p2.toUInt32 >>> ((4 : Int32) &&& 31).toUInt32).toInt32) &&& (7 : Int32)) % (6 : Int32)), iv z4, iv z6, .unset, .unset, .unset, .unset, .unset, .unset, .unset, .unset, .unset, .unset, .unset, .unset, .unset, .unset, .unset, .unset, .unset, .unset, .unset, .unset, .unset, .unset, .unset, .unset, .unset, .unset, .unset, .unset, .unset, .unset, .unset, .unset, .unset, .unset, .unset, .unset, .unset, .unset, .unset] [(.int z8)])) := by
        intro z8 hz8
        refine own_via (fun k => XS.istore X1.here hx rfl (hb hby at_58) rfl (l' := #[iv p0, jv q1, .second, iv p2, jv q3, .second, iv p4, iv z3, iv ((((p2.toUInt32 >>> ((4 : Int32) &&& 31).toUInt32).toInt32) &&& (7 : Int32)) % (6 : Int32)), iv z4, iv z6, iv z8, .unset, .unset, .unset, .unset, .unset, .unset, .unset, .unset, .unset, .unset, .unset, .unset, .unset, .unset, .unset, .unset, .unset, .unset, .unset, .unset, .unset, .unset, .unset, .unset, .unset, .unset, .unset, .unset, .unset, .unset, .unset, .unset, .unset, .unset, .unset, .unset, .unset, .unset]) rfl (XS.iloadN X1.here hx rfl (hb hby at_60) rfl  (XS.bipush X1.here hx rfl (hb hby at_61) (XS.iand X1.here hx rfl (hb hby at_63) rfl k)))) ?_
        show own_Go p e below s _ _ (T1.setTop (mkF m 64 #[iv p0, jv q1, .second, iv p2, jv q3, .second, iv p4, iv z3, iv ((((p2.toUInt32 >>> ((4 : Int32) &&& 31).toUInt32).toInt32) &&& (7 : Int32)) % (6 : Int32)), iv z4, iv z6, iv z8, .unset, .unset, .unset, .unset, .unset, .unset, .unset, .unset, .unset, .unset, .unset, .unset, .unset, .unset, .unset, .unset, .unset, .unset, .unset, .unset, .unset, .unset, .unset, .unset, .unset, .unset, .unset, .unset, .unset, .unset, .unset, .unset, .unset, .unset, .unset, .unset, .unset, .unset] [(.int (p2 &&& (8 : Int32)))]))
        have J11 : ∀ (z10 : Int32), z10 = (if (p2 &&& (8 : Int32)) = (0 : Int32) then (0 : Int32) else (1 : Int32)) → own_Go p e below s (Q0 Z p0 q1 p2 q3 p4 h0 n0) (room_1.cells, room_1.slots) (T1.setTop (mkF m 72 #[iv p0, jv q1, .second, iv p2, jv q3, .second, iv p4, iv z3, iv ((((p2.toUInt32 >>> ((4 : Int32) &&& 31).toUInt32).toInt32) &&& (7 : Int32)) % (6 : Int32)), iv z4, iv z6, iv z8, .unset, .unset, .unset, .unset, .unset, .unset, .unset, .unset, .unset, .unset, .unset, .unset, .unset, .unset, .unset, .unset, .unset, .unset, .unset, .unset, .unset, .unset, .unset, .unset, .unset, .unset, .unset, .unset, .unset, .unset, .unset, .unset, .unset, .unset, .unset, .unset, .unset, .unset] [(.int z10)])) := by
          intro z10 hz10
          refine own_via (fun k => XS.istore X1.here hx rfl (hb hby at_72) rfl (l' := #[iv p0, jv q1, .second, iv p2, jv q3, .second, iv p4, iv z3, iv ((((p2.toUInt32 >>> ((4 : Int32) &&& 31).toUInt32).toInt32) &&& (7 : Int32)) % (6 : Int32)), iv z4, iv z6, iv z8, iv z10, .unset, .unset, .unset, .unset, .unset, .unset, .unset, .unset, .unset, .unset, .unset, .unset, .unset, .unset, .unset, .unset, .unset, .unset, .unset, .unset, .unset, .unset, .unset, .unset, .unset, .unset, .unset, .unset, .unset, .unset, .unset, .unset, .unset, .unset, .unset, .unset, .unset]) rfl (XS.lloadN X1.here hx rfl (hb hby at_74) rfl  (X1.ldc2Long hx hown (mvT hZ (hw _ (List.mem_of_getElem? (i := 5) rfl))) (g := (mkF m 75 #[iv p0, jv q1, .second, iv p2, jv q3, .second, iv p4, iv z3, iv ((((p2.toUInt32 >>> ((4 : Int32) &&& 31).toUInt32).toInt32) &&& (7 : Int32)) % (6 : Int32)), iv z4, iv z6, iv z8, iv z10, .unset, .unset, .unset, .unset, .unset, .unset, .unset, .unset, .unset, .unset, .unset, .unset, .unset, .unset, .unset, .unset, .unset, .unset, .unset, .unset, .unset, .unset, .unset, .unset, .unset, .unset, .unset, .unset, .unset, .unset, .unset, .unset, .unset, .unset, .unset, .unset, .unset] [(.long q1)])) rfl (hb hby at_75) _ (XS.land X1.here hx rfl (hb hby at_78) rfl k)))) ?_
          show own_Go p e below s _ _ (T1.setTop (mkF m 79 #[iv p0, jv q1, .second, iv p2, jv q3, .second, iv p4, iv z3, iv ((((p2.toUInt32 >>> ((4 : Int32) &&& 31).toUInt32).toInt32) &&& (7 : Int32)) % (6 : Int32)), iv z4, iv z6, iv z8, iv z10, .unset, .unset, .unset, .unset, .unset, .unset, .unset, .unset, .unset, .unset, .unset, .unset, .unset, .unset, .unset, .unset, .unset, .unset, .unset, .unset, .unset, .unset, .unset, .unset, .unset, .unset, .unset, .unset, .unset, .unset, .unset, .unset, .unset, .unset, .unset, .unset, .unset] [(.long (q1 &&& (2147483647 : Int64)))]))
          obtain ⟨z12, hz12⟩ : ∃ z : Int64, z = (q1 &&& (2147483647 : Int64)) := ⟨_, rfl⟩
          rw [← hz12]
          show own_Go p e below s _ _ (T1.setTop (mkF m 79 #[iv p0, jv q1, .second, iv p2, jv q3, .second, iv p4, iv z3, iv ((((p2.toUInt32 >>> ((4 : Int32) &&& 31).toUInt32).toInt32) &&& (7 : Int32)) % (6 : Int32)), iv z4, iv z6, iv z8, iv z10, .unset, .unset, .unset, .unset, .unset, .unset, .unset, .unset, .unset, .unset, .unset, .unset, .unset, .unset, .unset, .unset, .unset, .unset, .unset, .unset, .unset, .unset, .unset, .unset, .unset, .unset, .unset, .unset, .unset, .unset, .unset, .unset, .unset, .unset, .unset, .unset, .unset] [(.long z12)]))
          refine own_via (fun k => XS.lstore X1.here hx rfl (hb hby at_79) rfl (l' := #[iv p0, jv q1, .second, iv p2, jv q3, .second, iv p4, iv z3, iv ((((p2.toUInt32 >>> ((4 : Int32) &&& 31).toUInt32).toInt32) &&& (7 : Int32)) % (6 : Int32)), iv z4, iv z6, iv z8, iv z10, jv z12, .second, .unset, .unset, .unset, .unset, .unset, .unset, .unset, .unset, .unset, .unset, .unset, .unset, .unset, .unset, .unset, .unset, .unset, .unset, .unset, .unset, .unset, .unset, .unset, .unset, .unset, .unset, .unset, .unset, .unset, .unset, .unset, .unset, .unset, .unset, .unset]) rfl (XS.lload X1.here hx rfl (hb hby at_81) rfl  (XS.iload X1.here hx rfl (hb hby at_83) rfl  (XS.iload X1.here hx rfl (hb hby at_85) rfl  k)))) ?_
          show own_Go p e below s _ _ (T1.setTop (mkF m 87 #[iv p0, jv q1, .second, iv p2, jv q3, .second, iv p4, iv z3, iv ((((p2.toUInt32 >>> ((4 : Int32) &&& 31).toUInt32).toInt32) &&& (7 : Int32)) % (6 : Int32)), iv z4, iv z6, iv z8, iv z10, jv z12, .second, .unset, .unset, .unset, .unset, .unset, .unset, .unset, .unset, .unset, .unset, .unset, .unset, .unset, .unset, .unset, .unset, .unset, .unset, .unset, .unset, .unset, .unset, .unset, .unset, .unset, .unset, .unset, .unset, .unset, .unset, .unset, .unset, .unset, .unset, .unset] [(.int p4), (.int z4), (.long z12)]))
          refine own_via (fun k => XS.iconst X1.here hx rfl (hb hby at_87) k) ?_
          show own_Go p e below s _ _ (T1.setTop (mkF m 88 #[iv p0, jv q1, .second, iv p2, jv q3, .second, iv p4, iv z3, iv ((((p2.toUInt32 >>> ((4 : Int32) &&& 31).toUInt32).toInt32) &&& (7 : Int32)) % (6 : Int32)), iv z4, iv z6, iv z8, iv z10, jv z12, .second, .unset, .unset, .unset, .unset, .unset, .unset, .unset, .unset, .unset, .unset, .unset, .unset, .unset, .unset, .unset, .unset, .unset, .unset, .unset, .unset, .unset, .unset, .unset, .unset, .unset, .unset, .unset, .unset, .unset, .unset, .unset, .unset, .unset, .unset, .unset] [(.int 0), (.int p4), (.int z4), (.long z12)]))
          obtain ⟨_, _, ⟨T13, L13, k13, n13⟩, -, X13, ⟨Lc13, hQ13, l13, y13, z13⟩, st13⟩ := Jvm.LawKit.callS X1 hx (y := (⟨"com/example/waveslot/waveslot/core/CheckerStepsRepeatedQuotientsPinLaw", "next", "(JZII)J"⟩ : MethodName)) hown (mvT hZ (hw _ (List.mem_of_getElem? (i := 6) rfl))) (mvT hZ (hw _ (List.mem_of_getElem? (i := 7) rfl))) (mvT hZ (hw _ (List.mem_of_getElem? (i := 8) rfl))) (mvT hZ (hw _ (List.mem_of_getElem? (i := 9) rfl))) (by decide) (backOf (W := 0) (rm2 l Z aw hw [] z12 z4 p4 (0 : Int32) h0 n0 Z0) hZ (hw _ (List.mem_of_getElem? (i := 9) rfl)) (hw _ (List.mem_of_getElem? (i := 8) rfl)) (by decide) (by decide)) (g := (mkF m 88 #[iv p0, jv q1, .second, iv p2, jv q3, .second, iv p4, iv z3, iv ((((p2.toUInt32 >>> ((4 : Int32) &&& 31).toUInt32).toInt32) &&& (7 : Int32)) % (6 : Int32)), iv z4, iv z6, iv z8, iv z10, jv z12, .second, .unset, .unset, .unset, .unset, .unset, .unset, .unset, .unset, .unset, .unset, .unset, .unset, .unset, .unset, .unset, .unset, .unset, .unset, .unset, .unset, .unset, .unset, .unset, .unset, .unset, .unset, .unset, .unset, .unset, .unset, .unset, .unset, .unset, .unset, .unset] [(.int 0), (.int p4), (.int z4), (.long z12)])) rfl (by rw [hml]; rfl) (argsL := [(.long z12), (.int z4), (.int p4), (.int 0)]) (rest := []) (lenOf pd_1 rfl) rfl (by show 2 * 0 + _ ≤ _; exact Nat.le_of_eq rfl) (hb hby at_88) (fun _ _ => ⟨rfl, eh1, (by decide : 0 + 0 ≤ _), (by decide : 0 + 0 ≤ _)⟩)
          dsimp only [Pt.U, Pt.locs, Pt.cells, Pt.slots] at X13 l13 y13 z13 st13 hQ13
          subst l13 y13 z13
          obtain ⟨rfl, N13q, eh13⟩ := hQ13
          have N14 := Fr.app N2 N13q
          refine own_via (fun k => st13 _ k) ?_
          show own_Go p e below s _ _ (T13.setTop (mkF m 91 #[iv p0, jv q1, .second, iv p2, jv q3, .second, iv p4, iv z3, iv ((((p2.toUInt32 >>> ((4 : Int32) &&& 31).toUInt32).toInt32) &&& (7 : Int32)) % (6 : Int32)), iv z4, iv z6, iv z8, iv z10, jv z12, .second, .unset, .unset, .unset, .unset, .unset, .unset, .unset, .unset, .unset, .unset, .unset, .unset, .unset, .unset, .unset, .unset, .unset, .unset, .unset, .unset, .unset, .unset, .unset, .unset, .unset, .unset, .unset, .unset, .unset, .unset, .unset, .unset, .unset, .unset, .unset] [(.long (own_f2 z12 z4 p4 (0 : Int32)))]))
          obtain ⟨z15, hz15⟩ : ∃ z : Int64, z = (own_f2 z12 z4 p4 (0 : Int32)) := ⟨_, rfl⟩
          rw [← hz15]
          show own_Go p e below s _ _ (T13.setTop (mkF m 91 #[iv p0, jv q1, .second, iv p2, jv q3, .second, iv p4, iv z3, iv ((((p2.toUInt32 >>> ((4 : Int32) &&& 31).toUInt32).toInt32) &&& (7 : Int32)) % (6 : Int32)), iv z4, iv z6, iv z8, iv z10, jv z12, .second, .unset, .unset, .unset, .unset, .unset, .unset, .unset, .unset, .unset, .unset, .unset, .unset, .unset, .unset, .unset, .unset, .unset, .unset, .unset, .unset, .unset, .unset, .unset, .unset, .unset, .unset, .unset, .unset, .unset, .unset, .unset, .unset, .unset, .unset, .unset] [(.long z15)]))
          refine own_via (fun k => XS.lstore X13.here hx rfl (hb hby at_91) rfl (l' := #[iv p0, jv q1, .second, iv p2, jv q3, .second, iv p4, iv z3, iv ((((p2.toUInt32 >>> ((4 : Int32) &&& 31).toUInt32).toInt32) &&& (7 : Int32)) % (6 : Int32)), iv z4, iv z6, iv z8, iv z10, jv z12, .second, jv z15, .second, .unset, .unset, .unset, .unset, .unset, .unset, .unset, .unset, .unset, .unset, .unset, .unset, .unset, .unset, .unset, .unset, .unset, .unset, .unset, .unset, .unset, .unset, .unset, .unset, .unset, .unset, .unset, .unset, .unset, .unset, .unset, .unset, .unset]) rfl (XS.lload X13.here hx rfl (hb hby at_93) rfl  (XS.iload X13.here hx rfl (hb hby at_95) rfl  (XS.iload X13.here hx rfl (hb hby at_97) rfl  k)))) ?_
          show own_Go p e below s _ _ (T13.setTop (mkF m 99 #[iv p0, jv q1, .second, iv p2, jv q3, .second, iv p4, iv z3, iv ((((p2.toUInt32 >>> ((4 : Int32) &&& 31).toUInt32).toInt32) &&& (7 : Int32)) % (6 : Int32)), iv z4, iv z6, iv z8, iv z10, jv z12, .second, jv z15, .second, .unset, .unset, .unset, .unset, .unset, .unset, .unset, .unset, .unset, .unset, .unset, .unset, .unset, .unset, .unset, .unset, .unset, .unset, .unset, .unset, .unset, .unset, .unset, .unset, .unset, .unset, .unset, .unset, .unset, .unset, .unset, .unset, .unset] [(.int p4), (.int z6), (.long z15)]))
          refine own_via (fun k => XS.iconst X13.here hx rfl (hb hby at_99) k) ?_
          show own_Go p e below s _ _ (T13.setTop (mkF m 100 #[iv p0, jv q1, .second, iv p2, jv q3, .second, iv p4, iv z3, iv ((((p2.toUInt32 >>> ((4 : Int32) &&& 31).toUInt32).toInt32) &&& (7 : Int32)) % (6 : Int32)), iv z4, iv z6, iv z8, iv z10, jv z12, .second, jv z15, .second, .unset, .unset, .unset, .unset, .unset, .unset, .unset, .unset, .unset, .unset, .unset, .unset, .unset, .unset, .unset, .unset, .unset, .unset, .unset, .unset, .unset, .unset, .unset, .unset, .unset, .unset, .unset, .unset, .unset, .unset, .unset, .unset, .unset] [(.int 1), (.int p4), (.int z6), (.long z15)]))
          obtain ⟨_, _, ⟨T16, L16, k16, n16⟩, -, X16, ⟨Lc16, hQ16, l16, y16, z16⟩, st16⟩ := Jvm.LawKit.callS X13 hx (y := (⟨"com/example/waveslot/waveslot/core/CheckerStepsRepeatedQuotientsPinLaw", "next", "(JZII)J"⟩ : MethodName)) hown (mvT hZ (hw _ (List.mem_of_getElem? (i := 6) rfl))) (mvT hZ (hw _ (List.mem_of_getElem? (i := 7) rfl))) (mvT hZ (hw _ (List.mem_of_getElem? (i := 8) rfl))) (mvT hZ (hw _ (List.mem_of_getElem? (i := 9) rfl))) (by decide) (backOf (W := 0) (rm2 l Z aw hw [] z15 z6 p4 (1 : Int32) h0 n0 Z0) hZ (hw _ (List.mem_of_getElem? (i := 9) rfl)) (hw _ (List.mem_of_getElem? (i := 8) rfl)) (by decide) (by decide)) (g := (mkF m 100 #[iv p0, jv q1, .second, iv p2, jv q3, .second, iv p4, iv z3, iv ((((p2.toUInt32 >>> ((4 : Int32) &&& 31).toUInt32).toInt32) &&& (7 : Int32)) % (6 : Int32)), iv z4, iv z6, iv z8, iv z10, jv z12, .second, jv z15, .second, .unset, .unset, .unset, .unset, .unset, .unset, .unset, .unset, .unset, .unset, .unset, .unset, .unset, .unset, .unset, .unset, .unset, .unset, .unset, .unset, .unset, .unset, .unset, .unset, .unset, .unset, .unset, .unset, .unset, .unset, .unset, .unset, .unset] [(.int 1), (.int p4), (.int z6), (.long z15)])) rfl (by rw [hml]; rfl) (argsL := [(.long z15), (.int z6), (.int p4), (.int 1)]) (rest := []) (lenOf pd_1 rfl) rfl (by show 2 * 0 + _ ≤ _; exact Nat.le_of_eq rfl) (hb hby at_100) (fun _ _ => ⟨rfl, eh13, (by decide : 0 + 0 ≤ _), (by decide : 0 + 0 ≤ _)⟩)
          dsimp only [Pt.U, Pt.locs, Pt.cells, Pt.slots] at X16 l16 y16 z16 st16 hQ16
          subst l16 y16 z16
          obtain ⟨rfl, N16q, eh16⟩ := hQ16
          have N17 := Fr.app N14 N16q
          refine own_via (fun k => st16 _ k) ?_
          show own_Go p e below s _ _ (T16.setTop (mkF m 103 #[iv p0, jv q1, .second, iv p2, jv q3, .second, iv p4, iv z3, iv ((((p2.toUInt32 >>> ((4 : Int32) &&& 31).toUInt32).toInt32) &&& (7 : Int32)) % (6 : Int32)), iv z4, iv z6, iv z8, iv z10, jv z12, .second, jv z15, .second, .unset, .unset, .unset, .unset, .unset, .unset, .unset, .unset, .unset, .unset, .unset, .unset, .unset, .unset, .unset, .unset, .unset, .unset, .unset, .unset, .unset, .unset, .unset, .unset, .unset, .unset, .unset, .unset, .unset, .unset, .unset, .unset, .unset] [(.long (own_f2 z15 z6 p4 (1 : Int32)))]))
          obtain ⟨z18, hz18⟩ : ∃ z : Int64, z = (own_f2 z15 z6 p4 (1 : Int32)) := ⟨_, rfl⟩
          rw [← hz18]
          show own_Go p e below s _ _ (T16.setTop (mkF m 103 #[iv p0, jv q1, .second, iv p2, jv q3, .second, iv p4, iv z3, iv ((((p2.toUInt32 >>> ((4 : Int32) &&& 31).toUInt32).toInt32) &&& (7 : Int32)) % (6 : Int32)), iv z4, iv z6, iv z8, iv z10, jv z12, .second, jv z15, .second, .unset, .unset, .unset, .unset, .unset, .unset, .unset, .unset, .unset, .unset, .unset, .unset, .unset, .unset, .unset, .unset, .unset, .unset, .unset, .unset, .unset, .unset, .unset, .unset, .unset, .unset, .unset, .unset, .unset, .unset, .unset, .unset, .unset] [(.long z18)]))
          refine own_via (fun k => XS.lstore X16.here hx rfl (hb hby at_103) rfl (l' := #[iv p0, jv q1, .second, iv p2, jv q3, .second, iv p4, iv z3, iv ((((p2.toUInt32 >>> ((4 : Int32) &&& 31).toUInt32).toInt32) &&& (7 : Int32)) % (6 : Int32)), iv z4, iv z6, iv z8, iv z10, jv z12, .second, jv z15, .second, jv z18, .second, .unset, .unset, .unset, .unset, .unset, .unset, .unset, .unset, .unset, .unset, .unset, .unset, .unset, .unset, .unset, .unset, .unset, .unset, .unset, .unset, .unset, .unset, .unset, .unset, .unset, .unset, .unset, .unset, .unset, .unset, .unset]) rfl (XS.lload X16.here hx rfl (hb hby at_105) rfl  (XS.iload X16.here hx rfl (hb hby at_107) rfl  (XS.iload X16.here hx rfl (hb hby at_109) rfl  k)))) ?_
          show own_Go p e below s _ _ (T16.setTop (mkF m 111 #[iv p0, jv q1, .second, iv p2, jv q3, .second, iv p4, iv z3, iv ((((p2.toUInt32 >>> ((4 : Int32) &&& 31).toUInt32).toInt32) &&& (7 : Int32)) % (6 : Int32)), iv z4, iv z6, iv z8, iv z10, jv z12, .second, jv z15, .second, jv z18, .second, .unset, .unset, .unset, .unset, .unset, .unset, .unset, .unset, .unset, .unset, .unset, .unset, .unset, .unset, .unset, .unset, .unset, .unset, .unset, .unset, .unset, .unset, .unset, .unset, .unset, .unset, .unset, .unset, .unset, .unset, .unset] [(.int p4), (.int z8), (.long z18)]))
          refine own_via (fun k => XS.iconst X16.here hx rfl (hb hby at_111) k) ?_
          show own_Go p e below s _ _ (T16.setTop (mkF m 112 #[iv p0, jv q1, .second, iv p2, jv q3, .second, iv p4, iv z3, iv ((((p2.toUInt32 >>> ((4 : Int32) &&& 31).toUInt32).toInt32) &&& (7 : Int32)) % (6 : Int32)), iv z4, iv z6, iv z8, iv z10, jv z12, .second, jv z15, .second, jv z18, .second, .unset, .unset, .unset, .unset, .unset, .unset, .unset, .unset, .unset, .unset, .unset, .unset, .unset, .unset, .unset, .unset, .unset, .unset, .unset, .unset, .unset, .unset, .unset, .unset, .unset, .unset, .unset, .unset, .unset, .unset, .unset] [(.int 2), (.int p4), (.int z8), (.long z18)]))
          obtain ⟨_, _, ⟨T19, L19, k19, n19⟩, -, X19, ⟨Lc19, hQ19, l19, y19, z19⟩, st19⟩ := Jvm.LawKit.callS X16 hx (y := (⟨"com/example/waveslot/waveslot/core/CheckerStepsRepeatedQuotientsPinLaw", "next", "(JZII)J"⟩ : MethodName)) hown (mvT hZ (hw _ (List.mem_of_getElem? (i := 6) rfl))) (mvT hZ (hw _ (List.mem_of_getElem? (i := 7) rfl))) (mvT hZ (hw _ (List.mem_of_getElem? (i := 8) rfl))) (mvT hZ (hw _ (List.mem_of_getElem? (i := 9) rfl))) (by decide) (backOf (W := 0) (rm2 l Z aw hw [] z18 z8 p4 (2 : Int32) h0 n0 Z0) hZ (hw _ (List.mem_of_getElem? (i := 9) rfl)) (hw _ (List.mem_of_getElem? (i := 8) rfl)) (by decide) (by decide)) (g := (mkF m 112 #[iv p0, jv q1, .second, iv p2, jv q3, .second, iv p4, iv z3, iv ((((p2.toUInt32 >>> ((4 : Int32) &&& 31).toUInt32).toInt32) &&& (7 : Int32)) % (6 : Int32)), iv z4, iv z6, iv z8, iv z10, jv z12, .second, jv z15, .second, jv z18, .second, .unset, .unset, .unset, .unset, .unset, .unset, .unset, .unset, .unset, .unset, .unset, .unset, .unset, .unset, .unset, .unset, .unset, .unset, .unset, .unset, .unset, .unset, .unset, .unset, .unset, .unset, .unset, .unset, .unset, .unset, .unset] [(.int 2), (.int p4), (.int z8), (.long z18)])) rfl (by rw [hml]; rfl) (argsL := [(.long z18), (.int z8), (.int p4), (.int 2)]) (rest := []) (lenOf pd_1 rfl) rfl (by show 2 * 0 + _ ≤ _; exact Nat.le_of_eq rfl) (hb hby at_112) (fun _ _ => ⟨rfl, eh16, (by decide : 0 + 0 ≤ _), (by decide : 0 + 0 ≤ _)⟩)
          dsimp only [Pt.U, Pt.locs, Pt.cells, Pt.slots] at X19 l19 y19 z19 st19 hQ19
          subst l19 y19 z19
          obtain ⟨rfl, N19q, eh19⟩ := hQ19
          have N20 := Fr.app N17 N19q
          refine own_via (fun k => st19 _ k) ?_
          show own_Go p e below s _ _ (T19.setTop (mkF m 115 #[iv p0, jv q1, .second, iv p2, jv q3, .second, iv p4, iv z3, iv ((((p2.toUInt32 >>> ((4 : Int32) &&& 31).toUInt32).toInt32) &&& (7 : Int32)) % (6 : Int32)), iv z4, iv z6, iv z8, iv z10, jv z12, .second, jv z15, .second, jv z18, .second, .unset, .unset, .unset, .unset, .unset, .unset, .unset, .unset, .unset, .unset, .unset, .unset, .unset, .unset, .unset, .unset, .unset, .unset, .unset, .unset, .unset, .unset, .unset, .unset, .unset, .unset, .unset, .unset, .unset, .unset, .unset] [(.long (own_f2 z18 z8 p4 (2 : Int32)))]))
          obtain ⟨z21, hz21⟩ : ∃ z : Int64, z = (own_f2 z18 z8 p4 (2 : Int32)) := ⟨_, rfl⟩
          rw [← hz21]
          show own_Go p e below s _ _ (T19.setTop (mkF m 115 #[iv p0, jv q1, .second, iv p2, jv q3, .second, iv p4, iv z3, iv ((((p2.toUInt32 >>> ((4 : Int32) &&& 31).toUInt32).toInt32) &&& (7 : Int32)) % (6 : Int32)), iv z4, iv z6, iv z8, iv z10, jv z12, .second, jv z15, .second, jv z18, .second, .unset, .unset, .unset, .unset, .unset, .unset, .unset, .unset, .unset, .unset, .unset, .unset, .unset, .unset, .unset, .unset, .unset, .unset, .unset, .unset, .unset, .unset, .unset, .unset, .unset, .unset, .unset, .unset, .unset, .unset, .unset] [(.long z21)]))
          refine own_via (fun k => XS.lstore X19.here hx rfl (hb hby at_115) rfl (l' := #[iv p0, jv q1, .second, iv p2, jv q3, .second, iv p4, iv z3, iv ((((p2.toUInt32 >>> ((4 : Int32) &&& 31).toUInt32).toInt32) &&& (7 : Int32)) % (6 : Int32)), iv z4, iv z6, iv z8, iv z10, jv z12, .second, jv z15, .second, jv z18, .second, jv z21, .second, .unset, .unset, .unset, .unset, .unset, .unset, .unset, .unset, .unset, .unset, .unset, .unset, .unset, .unset, .unset, .unset, .unset, .unset, .unset, .unset, .unset, .unset, .unset, .unset, .unset, .unset, .unset, .unset, .unset]) rfl (XS.lload X19.here hx rfl (hb hby at_117) rfl  (XS.iload X19.here hx rfl (hb hby at_119) rfl  (XS.iload X19.here hx rfl (hb hby at_121) rfl  k)))) ?_
          show own_Go p e below s _ _ (T19.setTop (mkF m 123 #[iv p0, jv q1, .second, iv p2, jv q3, .second, iv p4, iv z3, iv ((((p2.toUInt32 >>> ((4 : Int32) &&& 31).toUInt32).toInt32) &&& (7 : Int32)) % (6 : Int32)), iv z4, iv z6, iv z8, iv z10, jv z12, .second, jv z15, .second, jv z18, .second, jv z21, .second, .unset, .unset, .unset, .unset, .unset, .unset, .unset, .unset, .unset, .unset, .unset, .unset, .unset, .unset, .unset, .unset, .unset, .unset, .unset, .unset, .unset, .unset, .unset, .unset, .unset, .unset, .unset, .unset, .unset] [(.int p4), (.int z10), (.long z21)]))
          refine own_via (fun k => XS.iconst X19.here hx rfl (hb hby at_123) k) ?_
          show own_Go p e below s _ _ (T19.setTop (mkF m 124 #[iv p0, jv q1, .second, iv p2, jv q3, .second, iv p4, iv z3, iv ((((p2.toUInt32 >>> ((4 : Int32) &&& 31).toUInt32).toInt32) &&& (7 : Int32)) % (6 : Int32)), iv z4, iv z6, iv z8, iv z10, jv z12, .second, jv z15, .second, jv z18, .second, jv z21, .second, .unset, .unset, .unset, .unset, .unset, .unset, .unset, .unset, .unset, .unset, .unset, .unset, .unset, .unset, .unset, .unset, .unset, .unset, .unset, .unset, .unset, .unset, .unset, .unset, .unset, .unset, .unset, .unset, .unset] [(.int 3), (.int p4), (.int z10), (.long z21)]))
          obtain ⟨_, _, ⟨T22, L22, k22, n22⟩, -, X22, ⟨Lc22, hQ22, l22, y22, z22⟩, st22⟩ := Jvm.LawKit.callS X19 hx (y := (⟨"com/example/waveslot/waveslot/core/CheckerStepsRepeatedQuotientsPinLaw", "next", "(JZII)J"⟩ : MethodName)) hown (mvT hZ (hw _ (List.mem_of_getElem? (i := 6) rfl))) (mvT hZ (hw _ (List.mem_of_getElem? (i := 7) rfl))) (mvT hZ (hw _ (List.mem_of_getElem? (i := 8) rfl))) (mvT hZ (hw _ (List.mem_of_getElem? (i := 9) rfl))) (by decide) (backOf (W := 0) (rm2 l Z aw hw [] z21 z10 p4 (3 : Int32) h0 n0 Z0) hZ (hw _ (List.mem_of_getElem? (i := 9) rfl)) (hw _ (List.mem_of_getElem? (i := 8) rfl)) (by decide) (by decide)) (g := (mkF m 124 #[iv p0, jv q1, .second, iv p2, jv q3, .second, iv p4, iv z3, iv ((((p2.toUInt32 >>> ((4 : Int32) &&& 31).toUInt32).toInt32) &&& (7 : Int32)) % (6 : Int32)), iv z4, iv z6, iv z8, iv z10, jv z12, .second, jv z15, .second, jv z18, .second, jv z21, .second, .unset, .unset, .unset, .unset, .unset, .unset, .unset, .unset, .unset, .unset, .unset, .unset, .unset, .unset, .unset, .unset, .unset, .unset, .unset, .unset, .unset, .unset, .unset, .unset, .unset, .unset, .unset, .unset, .unset] [(.int 3), (.int p4), (.int z10), (.long z21)])) rfl (by rw [hml]; rfl) (argsL := [(.long z21), (.int z10), (.int p4), (.int 3)]) (rest := []) (lenOf pd_1 rfl) rfl (by show 2 * 0 + _ ≤ _; exact Nat.le_of_eq rfl) (hb hby at_124) (fun _ _ => ⟨rfl, eh19, (by decide : 0 + 0 ≤ _), (by decide : 0 + 0 ≤ _)⟩)
          dsimp only [Pt.U, Pt.locs, Pt.cells, Pt.slots] at X22 l22 y22 z22 st22 hQ22
          subst l22 y22 z22
          obtain ⟨rfl, N22q, eh22⟩ := hQ22
          have N23 := Fr.app N20 N22q
          refine own_via (fun k => st22 _ k) ?_
          show own_Go p e below s _ _ (T22.setTop (mkF m 127 #[iv p0, jv q1, .second, iv p2, jv q3, .second, iv p4, iv z3, iv ((((p2.toUInt32 >>> ((4 : Int32) &&& 31).toUInt32).toInt32) &&& (7 : Int32)) % (6 : Int32)), iv z4, iv z6, iv z8, iv z10, jv z12, .second, jv z15, .second, jv z18, .second, jv z21, .second, .unset, .unset, .unset, .unset, .unset, .unset, .unset, .unset, .unset, .unset, .unset, .unset, .unset, .unset, .unset, .unset, .unset, .unset, .unset, .unset, .unset, .unset, .unset, .unset, .unset, .unset, .unset, .unset, .unset] [(.long (own_f2 z21 z10 p4 (3 : Int32)))]))
          obtain ⟨z24, hz24⟩ : ∃ z : Int64, z = (own_f2 z21 z10 p4 (3 : Int32)) := ⟨_, rfl⟩
          rw [← hz24]
          show own_Go p e below s _ _ (T22.setTop (mkF m 127 #[iv p0, jv q1, .second, iv p2, jv q3, .second, iv p4, iv z3, iv ((((p2.toUInt32 >>> ((4 : Int32) &&& 31).toUInt32).toInt32) &&& (7 : Int32)) % (6 : Int32)), iv z4, iv z6, iv z8, iv z10, jv z12, .second, jv z15, .second, jv z18, .second, jv z21, .second, .unset, .unset, .unset, .unset, .unset, .unset, .unset, .unset, .unset, .unset, .unset, .unset, .unset, .unset, .unset, .unset, .unset, .unset, .unset, .unset, .unset, .unset, .unset, .unset, .unset, .unset, .unset, .unset, .unset] [(.long z24)]))
          refine own_via (fun k => XS.lstore X22.here hx rfl (hb hby at_127) rfl (l' := #[iv p0, jv q1, .second, iv p2, jv q3, .second, iv p4, iv z3, iv ((((p2.toUInt32 >>> ((4 : Int32) &&& 31).toUInt32).toInt32) &&& (7 : Int32)) % (6 : Int32)), iv z4, iv z6, iv z8, iv z10, jv z12, .second, jv z15, .second, jv z18, .second, jv z21, .second, jv z24, .second, .unset, .unset, .unset, .unset, .unset, .unset, .unset, .unset, .unset, .unset, .unset, .unset, .unset, .unset, .unset, .unset, .unset, .unset, .unset, .unset, .unset, .unset, .unset, .unset, .unset, .unset, .unset]) rfl (XS.lload X22.here hx rfl (hb hby at_129) rfl  (XS.iconst X22.here hx rfl (hb hby at_131) (XS.iload X22.here hx rfl (hb hby at_132) rfl  k)))) ?_
          show own_Go p e below s _ _ (T22.setTop (mkF m 134 #[iv p0, jv q1, .second, iv p2, jv q3, .second, iv p4, iv z3, iv ((((p2.toUInt32 >>> ((4 : Int32) &&& 31).toUInt32).toInt32) &&& (7 : Int32)) % (6 : Int32)), iv z4, iv z6, iv z8, iv z10, jv z12, .second, jv z15, .second, jv z18, .second, jv z21, .second, jv z24, .second, .unset, .unset, .unset, .unset, .unset, .unset, .unset, .unset, .unset, .unset, .unset, .unset, .unset, .unset, .unset, .unset, .unset, .unset, .unset, .unset, .unset, .unset, .unset, .unset, .unset, .unset, .unset] [(.int z3), (.int 0), (.long q3)]))
          obtain ⟨_, _, ⟨T25, L25, k25, n25⟩, -, X25, ⟨Lc25, hQ25, l25, y25, z25⟩, st25⟩ := Jvm.LawKit.callS X22 hx (y := (⟨"com/example/waveslot/waveslot/core/CheckerStepsRepeatedQuotientsPinLaw", "draw", "(JII)J"⟩ : MethodName)) hown (mvT hZ (hw _ (List.mem_of_getElem? (i := 10) rfl))) (mvT hZ (hw _ (List.mem_of_getElem? (i := 11) rfl))) (mvT hZ (hw _ (List.mem_of_getElem? (i := 8) rfl))) (mvT hZ (hw _ (List.mem_of_getElem? (i := 12) rfl))) (by decide) (backOf (W := 0) (rm3 l Z aw hw [] q3 (0 : Int32) z3 h0 n0 Z0 (own_hhn3 p0 z3 hz3)) hZ (hw _ (List.mem_of_getElem? (i := 12) rfl)) (hw _ (List.mem_of_getElem? (i := 8) rfl)) (by decide) (by decide)) (g := (mkF m 134 #[iv p0, jv q1, .second, iv p2, jv q3, .second, iv p4, iv z3, iv ((((p2.toUInt32 >>> ((4 : Int32) &&& 31).toUInt32).toInt32) &&& (7 : Int32)) % (6 : Int32)), iv z4, iv z6, iv z8, iv z10, jv z12, .second, jv z15, .second, jv z18, .second, jv z21, .second, jv z24, .second, .unset, .unset, .unset, .unset, .unset, .unset, .unset, .unset, .unset, .unset, .unset, .unset, .unset, .unset, .unset, .unset, .unset, .unset, .unset, .unset, .unset, .unset, .unset, .unset, .unset, .unset, .unset] [(.int z3), (.int 0), (.long q3)])) rfl (by rw [hml]; rfl) (argsL := [(.long q3), (.int 0), (.int z3)]) (rest := []) (lenOf pd_2 rfl) rfl (by show 2 * 0 + _ ≤ _; exact Nat.le_of_eq rfl) (hb hby at_134) (fun _ _ => ⟨rfl, eh22, (by decide : 0 + 0 ≤ _), (by decide : 0 + 0 ≤ _)⟩)
          dsimp only [Pt.U, Pt.locs, Pt.cells, Pt.slots] at X25 l25 y25 z25 st25 hQ25
          subst l25 y25 z25
          obtain ⟨rfl, N25q, eh25⟩ := hQ25
          have N26 := Fr.app N23 N25q
          refine own_via (fun k => st25 _ k) ?_
          show own_Go p e below s _ _ (T25.setTop (mkF m 137 #[iv p0, jv q1, .second, iv p2, jv q3, .second, iv p4, iv z3, iv ((((p2.toUInt32 >>> ((4 : Int32) &&& 31).toUInt32).toInt32) &&& (7 : Int32)) % (6 : Int32)), iv z4, iv z6, iv z8, iv z10, jv z12, .second, jv z15, .second, jv z18, .second, jv z21, .second, jv z24, .second, .unset, .unset, .unset, .unset, .unset, .unset, .unset, .unset, .unset, .unset, .unset, .unset, .unset, .unset, .unset, .unset, .unset, .unset, .unset, .unset, .unset, .unset, .unset, .unset, .unset, .unset, .unset] [(.long (own_f3 q3 (0 : Int32) z3))]))
          obtain ⟨z27, hz27⟩ : ∃ z : Int64, z = (own_f3 q3 (0 : Int32) z3) := ⟨_, rfl⟩
          rw [← hz27]
          show own_Go p e below s _ _ (T25.setTop (mkF m 137 #[iv p0, jv q1, .second, iv p2, jv q3, .second, iv p4, iv z3, iv ((((p2.toUInt32 >>> ((4 : Int32) &&& 31).toUInt32).toInt32) &&& (7 : Int32)) % (6 : Int32)), iv z4, iv z6, iv z8, iv z10, jv z12, .second, jv z15, .second, jv z18, .second, jv z21, .second, jv z24, .second, .unset, .unset, .unset, .unset, .unset, .unset, .unset, .unset, .unset, .unset, .unset, .unset, .unset, .unset, .unset, .unset, .unset, .unset, .unset, .unset, .unset, .unset, .unset, .unset, .unset, .unset, .unset] [(.long z27)]))
          refine own_via (fun k => XS.lstore X25.here hx rfl (hb hby at_137) rfl (l' := #[iv p0, jv q1, .second, iv p2, jv q3, .second, iv p4, iv z3, iv ((((p2.toUInt32 >>> ((4 : Int32) &&& 31).toUInt32).toInt32) &&& (7 : Int32)) % (6 : Int32)), iv z4, iv z6, iv z8, iv z10, jv z12, .second, jv z15, .second, jv z18, .second, jv z21, .second, jv z24, .second, jv z27, .second, .unset, .unset, .unset, .unset, .unset, .unset, .unset, .unset, .unset, .unset, .unset, .unset, .unset, .unset, .unset, .unset, .unset, .unset, .unset, .unset, .unset, .unset, .unset, .unset, .unset]) rfl (XS.iload X25.here hx rfl (hb hby at_139) rfl  k)) ?_
          show own_Go p e below s _ _ (T25.setTop (mkF m 141 #[iv p0, jv q1, .second, iv p2, jv q3, .second, iv p4, iv z3, iv ((((p2.toUInt32 >>> ((4 : Int32) &&& 31).toUInt32).toInt32) &&& (7 : Int32)) % (6 : Int32)), iv z4, iv z6, iv z8, iv z10, jv z12, .second, jv z15, .second, jv z18, .second, jv z21, .second, jv z24, .second, jv z27, .second, .unset, .unset, .unset, .unset, .unset, .unset, .unset, .unset, .unset, .unset, .unset, .unset, .unset, .unset, .unset, .unset, .unset, .unset, .unset, .unset, .unset, .unset, .unset, .unset, .unset] [(.int z4)]))
          have J35 : ∀ (T35 : State) (lo35 : List Loc), Stand p l e room_1 s m #[(.int p0), (.long q1), (.int p2), (.long q3), (.int p4)] below meth c T35 lo35 0 0 → Fr n0 lo35 → T35.heap = h0 → ∀ (z34 : Int64), z34 = (if z4 = (0 : Int32) then (own_f3 q3 (1 : Int32) z3) else (own_f4 z27 (own_f3 q3 (1 : Int32) z3))) → own_Go p e below s (Q0 Z p0 q1 p2 q3 p4 h0 n0) (room_1.cells, room_1.slots) (T35.setTop (mkF m 168 #[iv p0, jv q1, .second, iv p2, jv q3, .second, iv p4, iv z3, iv ((((p2.toUInt32 >>> ((4 : Int32) &&& 31).toUInt32).toInt32) &&& (7 : Int32)) % (6 : Int32)), iv z4, iv z6, iv z8, iv z10, jv z12, .second, jv z15, .second, jv z18, .second, jv z21, .second, jv z24, .second, jv z27, .second, .unset, .unset, .unset, .unset, .unset, .unset, .unset, .unset, .unset, .unset, .unset, .unset, .unset, .unset, .unset, .unset, .unset, .unset, .unset, .unset, .unset, .unset, .unset, .unset, .unset] [(.long z34)])) := by
            intro T35 lo35 X35 N35 e35 z34 hz34
            refine own_via (fun k => XS.lstore X35.here hx rfl (hb hby at_168) rfl (l' := #[iv p0, jv q1, .second, iv p2, jv q3, .second, iv p4, iv z3, iv ((((p2.toUInt32 >>> ((4 : Int32) &&& 31).toUInt32).toInt32) &&& (7 : Int32)) % (6 : Int32)), iv z4, iv z6, iv z8, iv z10, jv z12, .second, jv z15, .second, jv z18, .second, jv z21, .second, jv z24, .second, jv z27, .second, jv z34, .second, .unset, .unset, .unset, .unset, .unset, .unset, .unset, .unset, .unset, .unset, .unset, .unset, .unset, .unset, .unset, .unset, .unset, .unset, .unset, .unset, .unset, .unset, .unset]) rfl (XS.iload X35.here hx rfl (hb hby at_170) rfl  k)) ?_
            show own_Go p e below s _ _ (T35.setTop (mkF m 172 #[iv p0, jv q1, .second, iv p2, jv q3, .second, iv p4, iv z3, iv ((((p2.toUInt32 >>> ((4 : Int32) &&& 31).toUInt32).toInt32) &&& (7 : Int32)) % (6 : Int32)), iv z4, iv z6, iv z8, iv z10, jv z12, .second, jv z15, .second, jv z18, .second, jv z21, .second, jv z24, .second, jv z27, .second, jv z34, .second, .unset, .unset, .unset, .unset, .unset, .unset, .unset, .unset, .unset, .unset, .unset, .unset, .unset, .unset, .unset, .unset, .unset, .unset, .unset, .unset, .unset, .unset, .unset] [(.int z6)]))
            have J43 : ∀ (T43 : State) (lo43 : List Loc), Stand p l e room_1 s m #[(.int p0), (.long q1), (.int p2), (.long q3), (.int p4)] below meth c T43 lo43 0 0 → Fr n0 lo43 → T43.heap = h0 → ∀ (z42 : Int64), z42 = (if z6 = (0 : Int32) then (own_f3 q3 (2 : Int32) z3) else (own_f4 z34 (own_f3 q3 (2 : Int32) z3))) → own_Go p e below s (Q0 Z p0 q1 p2 q3 p4 h0 n0) (room_1.cells, room_1.slots) (T43.setTop (mkF m 199 #[iv p0, jv q1, .second, iv p2, jv q3, .second, iv p4, iv z3, iv ((((p2.toUInt32 >>> ((4 : Int32) &&& 31).toUInt32).toInt32) &&& (7 : Int32)) % (6 : Int32)), iv z4, iv z6, iv z8, iv z10, jv z12, .second, jv z15, .second, jv z18, .second, jv z21, .second, jv z24, .second, jv z27, .second, jv z34, .second, .unset, .unset, .unset, .unset, .unset, .unset, .unset, .unset, .unset, .unset, .unset, .unset, .unset, .unset, .unset, .unset, .unset, .unset, .unset, .unset, .unset, .unset, .unset] [(.long z42)])) := by
              intro T43 lo43 X43 N43 e43 z42 hz42
              refine own_via (fun k => XS.lstore X43.here hx rfl (hb hby at_199) rfl (l' := #[iv p0, jv q1, .second, iv p2, jv q3, .second, iv p4, iv z3, iv ((((p2.toUInt32 >>> ((4 : Int32) &&& 31).toUInt32).toInt32) &&& (7 : Int32)) % (6 : Int32)), iv z4, iv z6, iv z8, iv z10, jv z12, .second, jv z15, .second, jv z18, .second, jv z21, .second, jv z24, .second, jv z27, .second, jv z34, .second, jv z42, .second, .unset, .unset, .unset, .unset, .unset, .unset, .unset, .unset, .unset, .unset, .unset, .unset, .unset, .unset, .unset, .unset, .unset, .unset, .unset, .unset, .unset]) rfl (XS.iload X43.here hx rfl (hb hby at_201) rfl  k)) ?_
              show own_Go p e below s _ _ (T43.setTop (mkF m 203 #[iv p0, jv q1, .second, iv p2, jv q3, .second, iv p4, iv z3, iv ((((p2.toUInt32 >>> ((4 : Int32) &&& 31).toUInt32).toInt32) &&& (7 : Int32)) % (6 : Int32)), iv z4, iv z6, iv z8, iv z10, jv z12, .second, jv z15, .second, jv z18, .second, jv z21, .second, jv z24, .second, jv z27, .second, jv z34, .second, jv z42, .second, .unset, .unset, .unset, .unset, .unset, .unset, .unset, .unset, .unset, .unset, .unset, .unset, .unset, .unset, .unset, .unset, .unset, .unset, .unset, .unset, .unset] [(.int z8)]))
              have J51 : ∀ (T51 : State) (lo51 : List Loc), Stand p l e room_1 s m #[(.int p0), (.long q1), (.int p2), (.long q3), (.int p4)] below meth c T51 lo51 0 0 → Fr n0 lo51 → T51.heap = h0 → ∀ (z50 : Int64), z50 = (if z8 = (0 : Int32) then (own_f3 q3 (3 : Int32) z3) else (own_f4 z42 (own_f3 q3 (3 : Int32) z3))) → own_Go p e below s (Q0 Z p0 q1 p2 q3 p4 h0 n0) (room_1.cells, room_1.slots) (T51.setTop (mkF m 230 #[iv p0, jv q1, .second, iv p2, jv q3, .second, iv p4, iv z3, iv ((((p2.toUInt32 >>> ((4 : Int32) &&& 31).toUInt32).toInt32) &&& (7 : Int32)) % (6 : Int32)), iv z4, iv z6, iv z8, iv z10, jv z12, .second, jv z15, .second, jv z18, .second, jv z21, .second, jv z24, .second, jv z27, .second, jv z34, .second, jv z42, .second, .unset, .unset, .unset, .unset, .unset, .unset, .unset, .unset, .unset, .unset, .unset, .unset, .unset, .unset, .unset, .unset, .unset, .unset, .unset, .unset, .unset] [(.long z50)])) := by
                intro T51 lo51 X51 N51 e51 z50 hz50
                refine own_via (fun k => XS.lstore X51.here hx rfl (hb hby at_230) rfl (l' := #[iv p0, jv q1, .second, iv p2, jv q3, .second, iv p4, iv z3, iv ((((p2.toUInt32 >>> ((4 : Int32) &&& 31).toUInt32).toInt32) &&& (7 : Int32)) % (6 : Int32)), iv z4, iv z6, iv z8, iv z10, jv z12, .second, jv z15, .second, jv z18, .second, jv z21, .second, jv z24, .second, jv z27, .second, jv z34, .second, jv z42, .second, jv z50, .second, .unset, .unset, .unset, .unset, .unset, .unset, .unset, .unset, .unset, .unset, .unset, .unset, .unset, .unset, .unset, .unset, .unset, .unset, .unset]) rfl (XS.iload X51.here hx rfl (hb hby at_232) rfl  k)) ?_
                show own_Go p e below s _ _ (T51.setTop (mkF m 234 #[iv p0, jv q1, .second, iv p2, jv q3, .second, iv p4, iv z3, iv ((((p2.toUInt32 >>> ((4 : Int32) &&& 31).toUInt32).toInt32) &&& (7 : Int32)) % (6 : Int32)), iv z4, iv z6, iv z8, iv z10, jv z12, .second, jv z15, .second, jv z18, .second, jv z21, .second, jv z24, .second, jv z27, .second, jv z34, .second, jv z42, .second, jv z50, .second, .unset, .unset, .unset, .unset, .unset, .unset, .unset, .unset, .unset, .unset, .unset, .unset, .unset, .unset, .unset, .unset, .unset, .unset, .unset] [(.int z10)]))
                have J59 : ∀ (T59 : State) (lo59 : List Loc), Stand p l e room_1 s m #[(.int p0), (.long q1), (.int p2), (.long q3), (.int p4)] below meth c T59 lo59 0 0 → Fr n0 lo59 → T59.heap = h0 → ∀ (z58 : Int64), z58 = (if z10 = (0 : Int32) then (own_f3 q3 (4 : Int32) z3) else (own_f4 z50 (own_f3 q3 (4 : Int32) z3))) → own_Go p e below s (Q0 Z p0 q1 p2 q3 p4 h0 n0) (room_1.cells, room_1.slots) (T59.setTop (mkF m 261 #[iv p0, jv q1, .second, iv p2, jv q3, .second, iv p4, iv z3, iv ((((p2.toUInt32 >>> ((4 : Int32) &&& 31).toUInt32).toInt32) &&& (7 : Int32)) % (6 : Int32)), iv z4, iv z6, iv z8, iv z10, jv z12, .second, jv z15, .second, jv z18, .second, jv z21, .second, jv z24, .second, jv z27, .second, jv z34, .second, jv z42, .second, jv z50, .second, .unset, .unset, .unset, .unset, .unset, .unset, .unset, .unset, .unset, .unset, .unset, .unset, .unset, .unset, .unset, .unset, .unset, .unset, .unset] [(.long z58)])) := by
                  intro T59 lo59 X59 N59 e59 z58 hz58
                  refine own_via (fun k => XS.lstore X59.here hx rfl (hb hby at_261) rfl (l' := #[iv p0, jv q1, .second, iv p2, jv q3, .second, iv p4, iv z3, iv ((((p2.toUInt32 >>> ((4 : Int32) &&& 31).toUInt32).toInt32) &&& (7 : Int32)) % (6 : Int32)), iv z4, iv z6, iv z8, iv z10, jv z12, .second, jv z15, .second, jv z18, .second, jv z21, .second, jv z24, .second, jv z27, .second, jv z34, .second, jv z42, .second, jv z50, .second, jv z58, .second, .unset, .unset, .unset, .unset, .unset, .unset, .unset, .unset, .unset, .unset, .unset, .unset, .unset, .unset, .unset, .unset, .unset]) rfl (XS.iload X59.here hx rfl (hb hby at_263) rfl  (XS.i2l X59.here hx rfl (hb hby at_265) rfl (XS.lstore X59.here hx rfl (hb hby at_266) rfl (l' := #[iv p0, jv q1, .second, iv p2, jv q3, .second, iv p4, iv z3, iv ((((p2.toUInt32 >>> ((4 : Int32) &&& 31).toUInt32).toInt32) &&& (7 : Int32)) % (6 : Int32)), iv z4, iv z6, iv z8, iv z10, jv z12, .second, jv z15, .second, jv z18, .second, jv z21, .second, jv z24, .second, jv z27, .second, jv z34, .second, jv z42, .second, jv z50, .second, jv z58, .second, jv (z3.toInt64), .second, .unset, .unset, .unset, .unset, .unset, .unset, .unset, .unset, .unset, .unset, .unset, .unset, .unset, .unset, .unset]) rfl k)))) ?_
                  show own_Go p e below s _ _ (T59.setTop (mkF m 268 #[iv p0, jv q1, .second, iv p2, jv q3, .second, iv p4, iv z3, iv ((((p2.toUInt32 >>> ((4 : Int32) &&& 31).toUInt32).toInt32) &&& (7 : Int32)) % (6 : Int32)), iv z4, iv z6, iv z8, iv z10, jv z12, .second, jv z15, .second, jv z18, .second, jv z21, .second, jv z24, .second, jv z27, .second, jv z34, .second, jv z42, .second, jv z50, .second, jv z58, .second, jv (z3.toInt64), .second, .unset, .unset, .unset, .unset, .unset, .unset, .unset, .unset, .unset, .unset, .unset, .unset, .unset, .unset, .unset] []))
                  refine own_via (fun k => XS.lload X59.here hx rfl (hb hby at_268) rfl  (XS.lload X59.here hx rfl (hb hby at_270) rfl  (XS.lmul X59.here hx rfl (hb hby at_272) rfl (XS.lload X59.here hx rfl (hb hby at_273) rfl  k)))) ?_
                  show own_Go p e below s _ _ (T59.setTop (mkF m 275 #[iv p0, jv q1, .second, iv p2, jv q3, .second, iv p4, iv z3, iv ((((p2.toUInt32 >>> ((4 : Int32) &&& 31).toUInt32).toInt32) &&& (7 : Int32)) % (6 : Int32)), iv z4, iv z6, iv z8, iv z10, jv z12, .second, jv z15, .second, jv z18, .second, jv z21, .second, jv z24, .second, jv z27, .second, jv z34, .second, jv z42, .second, jv z50, .second, jv z58, .second, jv (z3.toInt64), .second, .unset, .unset, .unset, .unset, .unset, .unset, .unset, .unset, .unset, .unset, .unset, .unset, .unset, .unset, .unset] [(.long z27), (.long (z12 * (z3.toInt64)))]))
                  refine own_via (fun k => XS.ladd X59.here hx rfl (hb hby at_275) rfl k) ?_
                  show own_Go p e below s _ _ (T59.setTop (mkF m 276 #[iv p0, jv q1, .second, iv p2, jv q3, .second, iv p4, iv z3, iv ((((p2.toUInt32 >>> ((4 : Int32) &&& 31).toUInt32).toInt32) &&& (7 : Int32)) % (6 : Int32)), iv z4, iv z6, iv z8, iv z10, jv z12, .second, jv z15, .second, jv z18, .second, jv z21, .second, jv z24, .second, jv z27, .second, jv z34, .second, jv z42, .second, jv z50, .second, jv z58, .second, jv (z3.toInt64), .second, .unset, .unset, .unset, .unset, .unset, .unset, .unset, .unset, .unset, .unset, .unset, .unset, .unset, .unset, .unset] [(.long ((z12 * (z3.toInt64)) + z27))]))
                  obtain ⟨z60, hz60⟩ : ∃ z : Int64, z = ((z12 * (z3.toInt64)) + z27) := ⟨_, rfl⟩
                  rw [← hz60]
                  show own_Go p e below s _ _ (T59.setTop (mkF m 276 #[iv p0, jv q1, .second, iv p2, jv q3, .second, iv p4, iv z3, iv ((((p2.toUInt32 >>> ((4 : Int32) &&& 31).toUInt32).toInt32) &&& (7 : Int32)) % (6 : Int32)), iv z4, iv z6, iv z8, iv z10, jv z12, .second, jv z15, .second, jv z18, .second, jv z21, .second, jv z24, .second, jv z27, .second, jv z34, .second, jv z42, .second, jv z50, .second, jv z58, .second, jv (z3.toInt64), .second, .unset, .unset, .unset, .unset, .unset, .unset, .unset, .unset, .unset, .unset, .unset, .unset, .unset, .unset, .unset] [(.long z60)]))
                  refine own_via (fun k => XS.lstore X59.here hx rfl (hb hby at_276) rfl (l' := #[iv p0, jv q1, .second, iv p2, jv q3, .second, iv p4, iv z3, iv ((((p2.toUInt32 >>> ((4 : Int32) &&& 31).toUInt32).toInt32) &&& (7 : Int32)) % (6 : Int32)), iv z4, iv z6, iv z8, iv z10, jv z12, .second, jv z15, .second, jv z18, .second, jv z21, .second, jv z24, .second, jv z27, .second, jv z34, .second, jv z42, .second, jv z50, .second, jv z58, .second, jv (z3.toInt64), .second, jv z60, .second, .unset, .unset, .unset, .unset, .unset, .unset, .unset, .unset, .unset, .unset, .unset, .unset, .unset]) rfl (XS.lload X59.here hx rfl (hb hby at_278) rfl  (XS.lload X59.here hx rfl (hb hby at_280) rfl  (XS.lmul X59.here hx rfl (hb hby at_282) rfl k)))) ?_
                  show own_Go p e below s _ _ (T59.setTop (mkF m 283 #[iv p0, jv q1, .second, iv p2, jv q3, .second, iv p4, iv z3, iv ((((p2.toUInt32 >>> ((4 : Int32) &&& 31).toUInt32).toInt32) &&& (7 : Int32)) % (6 : Int32)), iv z4, iv z6, iv z8, iv z10, jv z12, .second, jv z15, .second, jv z18, .second, jv z21, .second, jv z24, .second, jv z27, .second, jv z34, .second, jv z42, .second, jv z50, .second, jv z58, .second, jv (z3.toInt64), .second, jv z60, .second, .unset, .unset, .unset, .unset, .unset, .unset, .unset, .unset, .unset, .unset, .unset, .unset, .unset] [(.long (z15 * (z3.toInt64)))]))
                  refine own_via (fun k => XS.lload X59.here hx rfl (hb hby at_283) rfl  (XS.ladd X59.here hx rfl (hb hby at_285) rfl k)) ?_
                  show own_Go p e below s _ _ (T59.setTop (mkF m 286 #[iv p0, jv q1, .second, iv p2, jv q3, .second, iv p4, iv z3, iv ((((p2.toUInt32 >>> ((4 : Int32) &&& 31).toUInt32).toInt32) &&& (7 : Int32)) % (6 : Int32)), iv z4, iv z6, iv z8, iv z10, jv z12, .second, jv z15, .second, jv z18, .second, jv z21, .second, jv z24, .second, jv z27, .second, jv z34, .second, jv z42, .second, jv z50, .second, jv z58, .second, jv (z3.toInt64), .second, jv z60, .second, .unset, .unset, .unset, .unset, .unset, .unset, .unset, .unset, .unset, .unset, .unset, .unset, .unset] [(.long ((z15 * (z3.toInt64)) + z34))]))
                  obtain ⟨z61, hz61⟩ : ∃ z : Int64, z = ((z15 * (z3.toInt64)) + z34) := ⟨_, rfl⟩
                  rw [← hz61]
                  show own_Go p e below s _ _ (T59.setTop (mkF m 286 #[iv p0, jv q1, .second, iv p2, jv q3, .second, iv p4, iv z3, iv ((((p2.toUInt32 >>> ((4 : Int32) &&& 31).toUInt32).toInt32) &&& (7 : Int32)) % (6 : Int32)), iv z4, iv z6, iv z8, iv z10, jv z12, .second, jv z15, .second, jv z18, .second, jv z21, .second, jv z24, .second, jv z27, .second, jv z34, .second, jv z42, .second, jv z50, .second, jv z58, .second, jv (z3.toInt64), .second, jv z60, .second, .unset, .unset, .unset, .unset, .unset, .unset, .unset, .unset, .unset, .unset, .unset, .unset, .unset] [(.long z61)]))
                  refine own_via (fun k => XS.lstore X59.here hx rfl (hb hby at_286) rfl (l' := #[iv p0, jv q1, .second, iv p2, jv q3, .second, iv p4, iv z3, iv ((((p2.toUInt32 >>> ((4 : Int32) &&& 31).toUInt32).toInt32) &&& (7 : Int32)) % (6 : Int32)), iv z4, iv z6, iv z8, iv z10, jv z12, .second, jv z15, .second, jv z18, .second, jv z21, .second, jv z24, .second, jv z27, .second, jv z34, .second, jv z42, .second, jv z50, .second, jv z58, .second, jv (z3.toInt64), .second, jv z60, .second, jv z61, .second, .unset, .unset, .unset, .unset, .unset, .unset, .unset, .unset, .unset, .unset, .unset]) rfl (XS.lload X59.here hx rfl (hb hby at_288) rfl  (XS.lload X59.here hx rfl (hb hby at_290) rfl  (XS.lmul X59.here hx rfl (hb hby at_292) rfl k)))) ?_
                  show own_Go p e below s _ _ (T59.setTop (mkF m 293 #[iv p0, jv q1, .second, iv p2, jv q3, .second, iv p4, iv z3, iv ((((p2.toUInt32 >>> ((4 : Int32) &&& 31).toUInt32).toInt32) &&& (7 : Int32)) % (6 : Int32)), iv z4, iv z6, iv z8, iv z10, jv z12, .second, jv z15, .second, jv z18, .second, jv z21, .second, jv z24, .second, jv z27, .second, jv z34, .second, jv z42, .second, jv z50, .second, jv z58, .second, jv (z3.toInt64), .second, jv z60, .second, jv z61, .second, .unset, .unset, .unset, .unset, .unset, .unset, .unset, .unset, .unset, .unset, .unset] [(.long (z18 * (z3.toInt64)))]))
                  refine own_via (fun k => XS.lload X59.here hx rfl (hb hby at_293) rfl  (XS.ladd X59.here hx rfl (hb hby at_295) rfl k)) ?_
                  show own_Go p e below s _ _ (T59.setTop (mkF m 296 #[iv p0, jv q1, .second, iv p2, jv q3, .second, iv p4, iv z3, iv ((((p2.toUInt32 >>> ((4 : Int32) &&& 31).toUInt32).toInt32) &&& (7 : Int32)) % (6 : Int32)), iv z4, iv z6, iv z8, iv z10, jv z12, .second, jv z15, .second, jv z18, .second, jv z21, .second, jv z24, .second, jv z27, .second, jv z34, .second, jv z42, .second, jv z50, .second, jv z58, .second, jv (z3.toInt64), .second, jv z60, .second, jv z61, .second, .unset, .unset, .unset, .unset, .unset, .unset, .unset, .unset, .unset, .unset, .unset] [(.long ((z18 * (z3.toInt64)) + z42))]))
                  obtain ⟨z62, hz62⟩ : ∃ z : Int64, z = ((z18 * (z3.toInt64)) + z42) := ⟨_, rfl⟩
                  rw [← hz62]
                  show own_Go p e below s _ _ (T59.setTop (mkF m 296 #[iv p0, jv q1, .second, iv p2, jv q3, .second, iv p4, iv z3, iv ((((p2.toUInt32 >>> ((4 : Int32) &&& 31).toUInt32).toInt32) &&& (7 : Int32)) % (6 : Int32)), iv z4, iv z6, iv z8, iv z10, jv z12, .second, jv z15, .second, jv z18, .second, jv z21, .second, jv z24, .second, jv z27, .second, jv z34, .second, jv z42, .second, jv z50, .second, jv z58, .second, jv (z3.toInt64), .second, jv z60, .second, jv z61, .second, .unset, .unset, .unset, .unset, .unset, .unset, .unset, .unset, .unset, .unset, .unset] [(.long z62)]))
                  refine own_via (fun k => XS.lstore X59.here hx rfl (hb hby at_296) rfl (l' := #[iv p0, jv q1, .second, iv p2, jv q3, .second, iv p4, iv z3, iv ((((p2.toUInt32 >>> ((4 : Int32) &&& 31).toUInt32).toInt32) &&& (7 : Int32)) % (6 : Int32)), iv z4, iv z6, iv z8, iv z10, jv z12, .second, jv z15, .second, jv z18, .second, jv z21, .second, jv z24, .second, jv z27, .second, jv z34, .second, jv z42, .second, jv z50, .second, jv z58, .second, jv (z3.toInt64), .second, jv z60, .second, jv z61, .second, jv z62, .second, .unset, .unset, .unset, .unset, .unset, .unset, .unset, .unset, .unset]) rfl (XS.lload X59.here hx rfl (hb hby at_298) rfl  (XS.lload X59.here hx rfl (hb hby at_300) rfl  (XS.lmul X59.here hx rfl (hb hby at_302) rfl k)))) ?_
                  show own_Go p e below s _ _ (T59.setTop (mkF m 303 #[iv p0, jv q1, .second, iv p2, jv q3, .second, iv p4, iv z3, iv ((((p2.toUInt32 >>> ((4 : Int32) &&& 31).toUInt32).toInt32) &&& (7 : Int32)) % (6 : Int32)), iv z4, iv z6, iv z8, iv z10, jv z12, .second, jv z15, .second, jv z18, .second, jv z21, .second, jv z24, .second, jv z27, .second, jv z34, .second, jv z42, .second, jv z50, .second, jv z58, .second, jv (z3.toInt64), .second, jv z60, .second, jv z61, .second, jv z62, .second, .unset, .unset, .unset, .unset, .unset, .unset, .unset, .unset, .unset] [(.long (z21 * (z3.toInt64)))]))
                  refine own_via (fun k => XS.lload X59.here hx rfl (hb hby at_303) rfl  (XS.ladd X59.here hx rfl (hb hby at_305) rfl k)) ?_
                  show own_Go p e below s _ _ (T59.setTop (mkF m 306 #[iv p0, jv q1, .second, iv p2, jv q3, .second, iv p4, iv z3, iv ((((p2.toUInt32 >>> ((4 : Int32) &&& 31).toUInt32).toInt32) &&& (7 : Int32)) % (6 : Int32)), iv z4, iv z6, iv z8, iv z10, jv z12, .second, jv z15, .second, jv z18, .second, jv z21, .second, jv z24, .second, jv z27, .second, jv z34, .second, jv z42, .second, jv z50, .second, jv z58, .second, jv (z3.toInt64), .second, jv z60, .second, jv z61, .second, jv z62, .second, .unset, .unset, .unset, .unset, .unset, .unset, .unset, .unset, .unset] [(.long ((z21 * (z3.toInt64)) + z50))]))
                  obtain ⟨z63, hz63⟩ : ∃ z : Int64, z = ((z21 * (z3.toInt64)) + z50) := ⟨_, rfl⟩
                  rw [← hz63]
                  show own_Go p e below s _ _ (T59.setTop (mkF m 306 #[iv p0, jv q1, .second, iv p2, jv q3, .second, iv p4, iv z3, iv ((((p2.toUInt32 >>> ((4 : Int32) &&& 31).toUInt32).toInt32) &&& (7 : Int32)) % (6 : Int32)), iv z4, iv z6, iv z8, iv z10, jv z12, .second, jv z15, .second, jv z18, .second, jv z21, .second, jv z24, .second, jv z27, .second, jv z34, .second, jv z42, .second, jv z50, .second, jv z58, .second, jv (z3.toInt64), .second, jv z60, .second, jv z61, .second, jv z62, .second, .unset, .unset, .unset, .unset, .unset, .unset, .unset, .unset, .unset] [(.long z63)]))
                  refine own_via (fun k => XS.lstore X59.here hx rfl (hb hby at_306) rfl (l' := #[iv p0, jv q1, .second, iv p2, jv q3, .second, iv p4, iv z3, iv ((((p2.toUInt32 >>> ((4 : Int32) &&& 31).toUInt32).toInt32) &&& (7 : Int32)) % (6 : Int32)), iv z4, iv z6, iv z8, iv z10, jv z12, .second, jv z15, .second, jv z18, .second, jv z21, .second, jv z24, .second, jv z27, .second, jv z34, .second, jv z42, .second, jv z50, .second, jv z58, .second, jv (z3.toInt64), .second, jv z60, .second, jv z61, .second, jv z62, .second, jv z63, .second, .unset, .unset, .unset, .unset, .unset, .unset, .unset]) rfl (XS.lload X59.here hx rfl (hb hby at_308) rfl  (XS.lload X59.here hx rfl (hb hby at_310) rfl  (XS.lmul X59.here hx rfl (hb hby at_312) rfl k)))) ?_
                  show own_Go p e below s _ _ (T59.setTop (mkF m 313 #[iv p0, jv q1, .second, iv p2, jv q3, .second, iv p4, iv z3, iv ((((p2.toUInt32 >>> ((4 : Int32) &&& 31).toUInt32).toInt32) &&& (7 : Int32)) % (6 : Int32)), iv z4, iv z6, iv z8, iv z10, jv z12, .second, jv z15, .second, jv z18, .second, jv z21, .second, jv z24, .second, jv z27, .second, jv z34, .second, jv z42, .second, jv z50, .second, jv z58, .second, jv (z3.toInt64), .second, jv z60, .second, jv z61, .second, jv z62, .second, jv z63, .second, .unset, .unset, .unset, .unset, .unset, .unset, .unset] [(.long (z24 * (z3.toInt64)))]))
                  refine own_via (fun k => XS.lload X59.here hx rfl (hb hby at_313) rfl  (XS.ladd X59.here hx rfl (hb hby at_315) rfl k)) ?_
                  show own_Go p e below s _ _ (T59.setTop (mkF m 316 #[iv p0, jv q1, .second, iv p2, jv q3, .second, iv p4, iv z3, iv ((((p2.toUInt32 >>> ((4 : Int32) &&& 31).toUInt32).toInt32) &&& (7 : Int32)) % (6 : Int32)), iv z4, iv z6, iv z8, iv z10, jv z12, .second, jv z15, .second, jv z18, .second, jv z21, .second, jv z24, .second, jv z27, .second, jv z34, .second, jv z42, .second, jv z50, .second, jv z58, .second, jv (z3.toInt64), .second, jv z60, .second, jv z61, .second, jv z62, .second, jv z63, .second, .unset, .unset, .unset, .unset, .unset, .unset, .unset] [(.long ((z24 * (z3.toInt64)) + z58))]))
                  obtain ⟨z64, hz64⟩ : ∃ z : Int64, z = ((z24 * (z3.toInt64)) + z58) := ⟨_, rfl⟩
                  rw [← hz64]
                  show own_Go p e below s _ _ (T59.setTop (mkF m 316 #[iv p0, jv q1, .second, iv p2, jv q3, .second, iv p4, iv z3, iv ((((p2.toUInt32 >>> ((4 : Int32) &&& 31).toUInt32).toInt32) &&& (7 : Int32)) % (6 : Int32)), iv z4, iv z6, iv z8, iv z10, jv z12, .second, jv z15, .second, jv z18, .second, jv z21, .second, jv z24, .second, jv z27, .second, jv z34, .second, jv z42, .second, jv z50, .second, jv z58, .second, jv (z3.toInt64), .second, jv z60, .second, jv z61, .second, jv z62, .second, jv z63, .second, .unset, .unset, .unset, .unset, .unset, .unset, .unset] [(.long z64)]))
                  refine own_via (fun k => XS.lstore X59.here hx rfl (hb hby at_316) rfl (l' := #[iv p0, jv q1, .second, iv p2, jv q3, .second, iv p4, iv z3, iv ((((p2.toUInt32 >>> ((4 : Int32) &&& 31).toUInt32).toInt32) &&& (7 : Int32)) % (6 : Int32)), iv z4, iv z6, iv z8, iv z10, jv z12, .second, jv z15, .second, jv z18, .second, jv z21, .second, jv z24, .second, jv z27, .second, jv z34, .second, jv z42, .second, jv z50, .second, jv z58, .second, jv (z3.toInt64), .second, jv z60, .second, jv z61, .second, jv z62, .second, jv z63, .second, jv z64, .second, .unset, .unset, .unset, .unset, .unset]) rfl k) ?_
                  show own_Go p e below s _ _ (T59.setTop (mkF m 318 #[iv p0, jv q1, .second, iv p2, jv q3, .second, iv p4, iv z3, iv ((((p2.toUInt32 >>> ((4 : Int32) &&& 31).toUInt32).toInt32) &&& (7 : Int32)) % (6 : Int32)), iv z4, iv z6, iv z8, iv z10, jv z12, .second, jv z15, .second, jv z18, .second, jv z21, .second, jv z24, .second, jv z27, .second, jv z34, .second, jv z42, .second, jv z50, .second, jv z58, .second, jv (z3.toInt64), .second, jv z60, .second, jv z61, .second, jv z62, .second, jv z63, .second, jv z64, .second, .unset, .unset, .unset, .unset, .unset] []))
                  rcases ((own_len p2) : ((((p2.toUInt32 >>> ((4 : Int32) &&& 31).toUInt32).toInt32) &&& (7 : Int32)) % (6 : Int32)) = (0 : Int32) ∨ ((((p2.toUInt32 >>> ((4 : Int32) &&& 31).toUInt32).toInt32) &&& (7 : Int32)) % (6 : Int32)) = (1 : Int32) ∨ ((((p2.toUInt32 >>> ((4 : Int32) &&& 31).toUInt32).toInt32) &&& (7 : Int32)) % (6 : Int32)) = (2 : Int32) ∨ ((((p2.toUInt32 >>> ((4 : Int32) &&& 31).toUInt32).toInt32) &&& (7 : Int32)) % (6 : Int32)) = (3 : Int32) ∨ ((((p2.toUInt32 >>> ((4 : Int32) &&& 31).toUInt32).toInt32) &&& (7 : Int32)) % (6 : Int32)) = (4 : Int32) ∨ ((((p2.toUInt32 >>> ((4 : Int32) &&& 31).toUInt32).toInt32) &&& (7 : Int32)) % (6 : Int32)) = (5 : Int32)) with hl65 | hl65 | hl65 | hl65 | hl65 | hl65
                  · rw [hl65]
                    show own_Go p e below s _ _ (T59.setTop (mkF m 318 #[iv p0, jv q1, .second, iv p2, jv q3, .second, iv p4, iv z3, iv 0, iv z4, iv z6, iv z8, iv z10, jv z12, .second, jv z15, .second, jv z18, .second, jv z21, .second, jv z24, .second, jv z27, .second, jv z34, .second, jv z42, .second, jv z50, .second, jv z58, .second, jv (z3.toInt64), .second, jv z60, .second, jv z61, .second, jv z62, .second, jv z63, .second, jv z64, .second, .unset, .unset, .unset, .unset, .unset] []))
                    refine own_via (fun k => XS.iload X59.here hx rfl (hb hby at_318) rfl  (XS.lload X59.here hx rfl (hb hby at_320) rfl  (XS.lload X59.here hx rfl (hb hby at_322) rfl  (XS.lload X59.here hx rfl (hb hby at_324) rfl  k)))) ?_
                    show own_Go p e below s _ _ (T59.setTop (mkF m 326 #[iv p0, jv q1, .second, iv p2, jv q3, .second, iv p4, iv z3, iv 0, iv z4, iv z6, iv z8, iv z10, jv z12, .second, jv z15, .second, jv z18, .second, jv z21, .second, jv z24, .second, jv z27, .second, jv z34, .second, jv z42, .second, jv z50, .second, jv z58, .second, jv (z3.toInt64), .second, jv z60, .second, jv z61, .second, jv z62, .second, jv z63, .second, jv z64, .second, .unset, .unset, .unset, .unset, .unset] [(.long z62), (.long z61), (.long z60), (.int 0)]))
                    refine own_via (fun k => XS.lload X59.here hx rfl (hb hby at_326) rfl  (XS.lload X59.here hx rfl (hb hby at_328) rfl  k)) ?_
                    show own_Go p e below s _ _ (T59.setTop (mkF m 330 #[iv p0, jv q1, .second, iv p2, jv q3, .second, iv p4, iv z3, iv 0, iv z4, iv z6, iv z8, iv z10, jv z12, .second, jv z15, .second, jv z18, .second, jv z21, .second, jv z24, .second, jv z27, .second, jv z34, .second, jv z42, .second, jv z50, .second, jv z58, .second, jv (z3.toInt64), .second, jv z60, .second, jv z61, .second, jv z62, .second, jv z63, .second, jv z64, .second, .unset, .unset, .unset, .unset, .unset] [(.long z64), (.long z63), (.long z62), (.long z61), (.long z60), (.int 0)]))
                    obtain ⟨_, _, ⟨T66, L66, k66, n66⟩, -, X66, ⟨Lc66, hQ66, l66, y66, z66⟩, st66⟩ := Jvm.LawKit.callS X59 hx (y := (⟨"com/example/waveslot/waveslot/core/CheckerStepsRepeatedQuotientsPinLaw", "prefix", "(IJJJJJ)[J"⟩ : MethodName)) hown (mvT hZ (hw _ (List.mem_of_getElem? (i := 17) rfl))) (mvT hZ (hw _ (List.mem_of_getElem? (i := 18) rfl))) (mvT hZ (hw _ (List.mem_of_getElem? (i := 8) rfl))) (mvT hZ (hw _ (List.mem_of_getElem? (i := 19) rfl))) (by decide) (backOf (W := 0) (rm5_0 l Z aw hw [] z60 z61 z62 z63 z64 h0 n0 Z0) hZ (hw _ (List.mem_of_getElem? (i := 19) rfl)) (hw _ (List.mem_of_getElem? (i := 8) rfl)) (by decide) (by decide)) (g := (mkF m 330 #[iv p0, jv q1, .second, iv p2, jv q3, .second, iv p4, iv z3, iv 0, iv z4, iv z6, iv z8, iv z10, jv z12, .second, jv z15, .second, jv z18, .second, jv z21, .second, jv z24, .second, jv z27, .second, jv z34, .second, jv z42, .second, jv z50, .second, jv z58, .second, jv (z3.toInt64), .second, jv z60, .second, jv z61, .second, jv z62, .second, jv z63, .second, jv z64, .second, .unset, .unset, .unset, .unset, .unset] [(.long z64), (.long z63), (.long z62), (.long z61), (.long z60), (.int 0)])) rfl (by rw [hml]; rfl) (argsL := [(.int 0), (.long z60), (.long z61), (.long z62), (.long z63), (.long z64)]) (rest := []) (lenOf pd_4 rfl) rfl (by show 2 * 0 + _ ≤ _; exact Nat.le_of_eq rfl) (hb hby at_330) (fun _ _ => ⟨rfl, e59, (by decide : 0 + 1 ≤ _), (by decide : 0 + 0 ≤ _)⟩)
                    dsimp only [Pt.U, Pt.locs, Pt.cells, Pt.slots] at X66 l66 y66 z66 st66 hQ66
                    subst l66 y66 z66
                    obtain ⟨b_66, k_66, rfl, N66q, K66, B67, g68⟩ := hQ66
                    have N69 := Fr.app N59 N66q
                    have Z70 : n0 ≤ T66.heap.size := Nat.le_trans Z0 K66.1
                    have g71 : n0 ≤ b_66 := Nat.le_trans Z0 g68
                    refine own_via (fun k => st66 _ k) ?_
                    show own_Go p e below s _ _ (T66.setTop (mkF m 333 #[iv p0, jv q1, .second, iv p2, jv q3, .second, iv p4, iv z3, iv 0, iv z4, iv z6, iv z8, iv z10, jv z12, .second, jv z15, .second, jv z18, .second, jv z21, .second, jv z24, .second, jv z27, .second, jv z34, .second, jv z42, .second, jv z50, .second, jv z58, .second, jv (z3.toInt64), .second, jv z60, .second, jv z61, .second, jv z62, .second, jv z63, .second, jv z64, .second, .unset, .unset, .unset, .unset, .unset] [(.ref b_66)]))
                    refine own_via (fun k => XS.astore X66.here hx rfl (hb hby at_333) rfl rfl (l' := #[iv p0, jv q1, .second, iv p2, jv q3, .second, iv p4, iv z3, iv 0, iv z4, iv z6, iv z8, iv z10, jv z12, .second, jv z15, .second, jv z18, .second, jv z21, .second, jv z24, .second, jv z27, .second, jv z34, .second, jv z42, .second, jv z50, .second, jv z58, .second, jv (z3.toInt64), .second, jv z60, .second, jv z61, .second, jv z62, .second, jv z63, .second, jv z64, .second, rv b_66, .unset, .unset, .unset, .unset]) rfl (XS.iload X66.here hx rfl (hb hby at_335) rfl  k)) ?_
                    show own_Go p e below s _ _ (T66.setTop (mkF m 337 #[iv p0, jv q1, .second, iv p2, jv q3, .second, iv p4, iv z3, iv 0, iv z4, iv z6, iv z8, iv z10, jv z12, .second, jv z15, .second, jv z18, .second, jv z21, .second, jv z24, .second, jv z27, .second, jv z34, .second, jv z42, .second, jv z50, .second, jv z58, .second, jv (z3.toInt64), .second, jv z60, .second, jv z61, .second, jv z62, .second, jv z63, .second, jv z64, .second, rv b_66, .unset, .unset, .unset, .unset] [(.int 0)]))
                    refine own_via (fun k => XS.ifNo X66.here hx rfl (hb hby at_337) rfl (by decide) k) ?_
                    show own_Go p e below s _ _ (T66.setTop (mkF m 340 #[iv p0, jv q1, .second, iv p2, jv q3, .second, iv p4, iv z3, iv 0, iv z4, iv z6, iv z8, iv z10, jv z12, .second, jv z15, .second, jv z18, .second, jv z21, .second, jv z24, .second, jv z27, .second, jv z34, .second, jv z42, .second, jv z50, .second, jv z58, .second, jv (z3.toInt64), .second, jv z60, .second, jv z61, .second, jv z62, .second, jv z63, .second, jv z64, .second, rv b_66, .unset, .unset, .unset, .unset] []))
                    refine own_via (fun k => XS.iconst X66.here hx rfl (hb hby at_340) (XS.goto X66.here hx rfl (pc0 := 341) (pc' := 352) rfl (hb hby at_341) (by decide) (by decide) (XS.istore X66.here hx rfl (hb hby at_352) rfl (l' := #[iv p0, jv q1, .second, iv p2, jv q3, .second, iv p4, iv z3, iv 0, iv z4, iv z6, iv z8, iv z10, jv z12, .second, jv z15, .second, jv z18, .second, jv z21, .second, jv z24, .second, jv z27, .second, jv z34, .second, jv z42, .second, jv z50, .second, jv z58, .second, jv (z3.toInt64), .second, jv z60, .second, jv z61, .second, jv z62, .second, jv z63, .second, jv z64, .second, rv b_66, iv 0, .unset, .unset, .unset]) rfl (XS.bipush X66.here hx rfl (hb hby at_354) k)))) ?_
                    show own_Go p e below s _ _ (T66.setTop (mkF m 356 #[iv p0, jv q1, .second, iv p2, jv q3, .second, iv p4, iv z3, iv 0, iv z4, iv z6, iv z8, iv z10, jv z12, .second, jv z15, .second, jv z18, .second, jv z21, .second, jv z24, .second, jv z27, .second, jv z34, .second, jv z42, .second, jv z50, .second, jv z58, .second, jv (z3.toInt64), .second, jv z60, .second, jv z61, .second, jv z62, .second, jv z63, .second, jv z64, .second, rv b_66, iv 0, .unset, .unset, .unset] [(.int 16)]))
                    obtain ⟨T72, h72, k72, X72, e72, E72, A72, st72⟩ := newP X66 hx hZ (hw _ (List.mem_of_getElem? (i := 21) rfl)) rfl (g := (mkF m 356 #[iv p0, jv q1, .second, iv p2, jv q3, .second, iv p4, iv z3, iv 0, iv z4, iv z6, iv z8, iv z10, jv z12, .second, jv z15, .second, jv z18, .second, jv z21, .second, jv z24, .second, jv z27, .second, jv z34, .second, jv z42, .second, jv z50, .second, jv z58, .second, jv (z3.toInt64), .second, jv z60, .second, jv z61, .second, jv z62, .second, jv z63, .second, jv z64, .second, rv b_66, iv 0, .unset, .unset, .unset] [(.int 16)])) rfl (hb hby at_356) rfl (by decide) (cap := 16) (by decide) (by decide) (by decide) (by decide)
                    obtain ⟨b72, g72⟩ : ∃ z, z = T66.heap.size := ⟨_, rfl⟩
                    rw [← g72] at A72 st72
                    refine own_via (fun k => st72 _ k) ?_
                    show own_Go p e below s _ _ (T72.setTop (mkF m 358 #[iv p0, jv q1, .second, iv p2, jv q3, .second, iv p4, iv z3, iv 0, iv z4, iv z6, iv z8, iv z10, jv z12, .second, jv z15, .second, jv z18, .second, jv z21, .second, jv z24, .second, jv z27, .second, jv z34, .second, jv z42, .second, jv z50, .second, jv z58, .second, jv (z3.toInt64), .second, jv z60, .second, jv z61, .second, jv z62, .second, jv z63, .second, jv z64, .second, rv b_66, iv 0, .unset, .unset, .unset] [(.ref b72)]))
                    have g73 : n0 ≤ b72 := Nat.le_trans Z70 (Nat.le_of_eq g72.symm)
                    have ne74 : b_66 ≠ b72 := Nat.ne_of_lt (Nat.lt_of_lt_of_le B67.lt (Nat.le_of_eq g72.symm))
                    have B75 := B67.ext E72
                    have Z76 : n0 ≤ h72.size := Nat.le_trans Z70 E72.1
                    have B77 : Arv Z h72 b72 k72 .int (16 : Int32) [(.int 0), (.int 0), (.int 0), (.int 0), (.int 0), (.int 0), (.int 0), (.int 0), (.int 0), (.int 0), (.int 0), (.int 0), (.int 0), (.int 0), (.int 0), (.int 0)] (.int 0) := (Arv.new A72 (by decide)).pad (pad_rep [] (.int 0) 16)
                    refine own_via (fun k => XS.dup X72.here hx rfl (hb hby at_358) rfl rfl (XS.iconst X72.here hx rfl (hb hby at_359) (XS.iconst X72.here hx rfl (hb hby at_360) k))) ?_
                    show own_Go p e below s _ _ (T72.setTop (mkF m 361 #[iv p0, jv q1, .second, iv p2, jv q3, .second, iv p4, iv z3, iv 0, iv z4, iv z6, iv z8, iv z10, jv z12, .second, jv z15, .second, jv z18, .second, jv z21, .second, jv z24, .second, jv z27, .second, jv z34, .second, jv z42, .second, jv z50, .second, jv z58, .second, jv (z3.toInt64), .second, jv z60, .second, jv z61, .second, jv z62, .second, jv z63, .second, jv z64, .second, rv b_66, iv 0, .unset, .unset, .unset] [(.int 0), (.int 0), (.ref b72), (.ref b72)]))
                    obtain ⟨cl78, Ar78, q78, S78, NN78, H78, G78⟩ := id B77
                    have hin78 : ¬ ((0 : Int32) < 0 ∨ cl78.slots.size ≤ ((0 : Int32)).toNatClampNeg) := inb_of S78 ⟨by decide, by decide⟩
                    obtain ⟨T78, h78, X78, e78, W78, st78⟩ := stI X72 hx hZ e72 Ar78 (j := (0 : Int32)) hin78 (g := (mkF m 361 #[iv p0, jv q1, .second, iv p2, jv q3, .second, iv p4, iv z3, iv 0, iv z4, iv z6, iv z8, iv z10, jv z12, .second, jv z15, .second, jv z18, .second, jv z21, .second, jv z24, .second, jv z27, .second, jv z34, .second, jv z42, .second, jv z50, .second, jv z58, .second, jv (z3.toInt64), .second, jv z60, .second, jv z61, .second, jv z62, .second, jv z63, .second, jv z64, .second, rv b_66, iv 0, .unset, .unset, .unset] [(.int 0), (.int 0), (.ref b72), (.ref b72)])) rfl rfl (hb hby at_361)
                    refine own_via (fun k => st78 _ k) ?_
                    show own_Go p e below s _ _ (T78.setTop (mkF m 362 #[iv p0, jv q1, .second, iv p2, jv q3, .second, iv p4, iv z3, iv 0, iv z4, iv z6, iv z8, iv z10, jv z12, .second, jv z15, .second, jv z18, .second, jv z21, .second, jv z24, .second, jv z27, .second, jv z34, .second, jv z42, .second, jv z50, .second, jv z58, .second, jv (z3.toInt64), .second, jv z60, .second, jv z61, .second, jv z62, .second, jv z63, .second, jv z64, .second, rv b_66, iv 0, .unset, .unset, .unset] [(.ref b72)]))
                    have B79 := B75.other W78 ne74
                    have B80 : Arv Z h78 b72 k72 .int (16 : Int32) [(.int 0), (.int 0), (.int 0), (.int 0), (.int 0), (.int 0), (.int 0), (.int 0), (.int 0), (.int 0), (.int 0), (.int 0), (.int 0), (.int 0), (.int 0), (.int 0)] (.int 0) := Arv.set Ar78 q78 S78 NN78 H78 G78 rfl W78 0 rfl (Nat.le_of_ble_eq_true rfl)
                    have N81 := Fr.snoc X78 N69 g73
                    have Z82 : n0 ≤ h78.size := Nat.le_trans Z76 (Keep.of_wr W78).1
                    refine own_via (fun k => XS.dup X78.here hx rfl (hb hby at_362) rfl rfl (XS.iconst X78.here hx rfl (hb hby at_363) (XS.iconst X78.here hx rfl (hb hby at_364) k))) ?_
                    show own_Go p e below s _ _ (T78.setTop (mkF m 365 #[iv p0, jv q1, .second, iv p2, jv q3, .second, iv p4, iv z3, iv 0, iv z4, iv z6, iv z8, iv z10, jv z12, .second, jv z15, .second, jv z18, .second, jv z21, .second, jv z24, .second, jv z27, .second, jv z34, .second, jv z42, .second, jv z50, .second, jv z58, .second, jv (z3.toInt64), .second, jv z60, .second, jv z61, .second, jv z62, .second, jv z63, .second, jv z64, .second, rv b_66, iv 0, .unset, .unset, .unset] [(.int 1), (.int 1), (.ref b72), (.ref b72)]))
                    obtain ⟨cl83, Ar83, q83, S83, NN83, H83, G83⟩ := id B80
                    have hin83 : ¬ ((1 : Int32) < 0 ∨ cl83.slots.size ≤ ((1 : Int32)).toNatClampNeg) := inb_of S83 ⟨by decide, by decide⟩
                    obtain ⟨T83, h83, X83, e83, W83, st83⟩ := stI X78 hx hZ e78 Ar83 (j := (1 : Int32)) hin83 (g := (mkF m 365 #[iv p0, jv q1, .second, iv p2, jv q3, .second, iv p4, iv z3, iv 0, iv z4, iv z6, iv z8, iv z10, jv z12, .second, jv z15, .second, jv z18, .second, jv z21, .second, jv z24, .second, jv z27, .second, jv z34, .second, jv z42, .second, jv z50, .second, jv z58, .second, jv (z3.toInt64), .second, jv z60, .second, jv z61, .second, jv z62, .second, jv z63, .second, jv z64, .second, rv b_66, iv 0, .unset, .unset, .unset] [(.int 1), (.int 1), (.ref b72), (.ref b72)])) rfl rfl (hb hby at_365)
                    refine own_via (fun k => st83 _ k) ?_
                    show own_Go p e below s _ _ (T83.setTop (mkF m 366 #[iv p0, jv q1, .second, iv p2, jv q3, .second, iv p4, iv z3, iv 0, iv z4, iv z6, iv z8, iv z10, jv z12, .second, jv z15, .second, jv z18, .second, jv z21, .second, jv z24, .second, jv z27, .second, jv z34, .second, jv z42, .second, jv z50, .second, jv z58, .second, jv (z3.toInt64), .second, jv z60, .second, jv z61, .second, jv z62, .second, jv z63, .second, jv z64, .second, rv b_66, iv 0, .unset, .unset, .unset] [(.ref b72)]))
                    have B84 := B79.other W83 ne74
                    have B85 : Arv Z h83 b72 k72 .int (16 : Int32) [(.int 0), (.int 1), (.int 0), (.int 0), (.int 0), (.int 0), (.int 0), (.int 0), (.int 0), (.int 0), (.int 0), (.int 0), (.int 0), (.int 0), (.int 0), (.int 0)] (.int 0) := Arv.set Ar83 q83 S83 NN83 H83 G83 rfl W83 1 rfl (Nat.le_of_ble_eq_true rfl)
                    have N86 := Fr.snoc X83 N81 g73
                    have Z87 : n0 ≤ h83.size := Nat.le_trans Z82 (Keep.of_wr W83).1
                    refine own_via (fun k => XS.dup X83.here hx rfl (hb hby at_366) rfl rfl (XS.iconst X83.here hx rfl (hb hby at_367) (XS.iconst X83.here hx rfl (hb hby at_368) k))) ?_
                    show own_Go p e below s _ _ (T83.setTop (mkF m 369 #[iv p0, jv q1, .second, iv p2, jv q3, .second, iv p4, iv z3, iv 0, iv z4, iv z6, iv z8, iv z10, jv z12, .second, jv z15, .second, jv z18, .second, jv z21, .second, jv z24, .second, jv z27, .second, jv z34, .second, jv z42, .second, jv z50, .second, jv z58, .second, jv (z3.toInt64), .second, jv z60, .second, jv z61, .second, jv z62, .second, jv z63, .second, jv z64, .second, rv b_66, iv 0, .unset, .unset, .unset] [(.int 1), (.int 2), (.ref b72), (.ref b72)]))
                    obtain ⟨cl88, Ar88, q88, S88, NN88, H88, G88⟩ := id B85
                    have hin88 : ¬ ((2 : Int32) < 0 ∨ cl88.slots.size ≤ ((2 : Int32)).toNatClampNeg) := inb_of S88 ⟨by decide, by decide⟩
                    obtain ⟨T88, h88, X88, e88, W88, st88⟩ := stI X83 hx hZ e83 Ar88 (j := (2 : Int32)) hin88 (g := (mkF m 369 #[iv p0, jv q1, .second, iv p2, jv q3, .second, iv p4, iv z3, iv 0, iv z4, iv z6, iv z8, iv z10, jv z12, .second, jv z15, .second, jv z18, .second, jv z21, .second, jv z24, .second, jv z27, .second, jv z34, .second, jv z42, .second, jv z50, .second, jv z58, .second, jv (z3.toInt64), .second, jv z60, .second, jv z61, .second, jv z62, .second, jv z63, .second, jv z64, .second, rv b_66, iv 0, .unset, .unset, .unset] [(.int 1), (.int 2), (.ref b72), (.ref b72)])) rfl rfl (hb hby at_369)
                    refine own_via (fun k => st88 _ k) ?_
                    show own_Go p e below s _ _ (T88.setTop (mkF m 370 #[iv p0, jv q1, .second, iv p2, jv q3, .second, iv p4, iv z3, iv 0, iv z4, iv z6, iv z8, iv z10, jv z12, .second, jv z15, .second, jv z18, .second, jv z21, .second, jv z24, .second, jv z27, .second, jv z34, .second, jv z42, .second, jv z50, .second, jv z58, .second, jv (z3.toInt64), .second, jv z60, .second, jv z61, .second, jv z62, .second, jv z63, .second, jv z64, .second, rv b_66, iv 0, .unset, .unset, .unset] [(.ref b72)]))
                    have B89 := B84.other W88 ne74
                    have B90 : Arv Z h88 b72 k72 .int (16 : Int32) [(.int 0), (.int 1), (.int 1), (.int 0), (.int 0), (.int 0), (.int 0), (.int 0), (.int 0), (.int 0), (.int 0), (.int 0), (.int 0), (.int 0), (.int 0), (.int 0)] (.int 0) := Arv.set Ar88 q88 S88 NN88 H88 G88 rfl W88 2 rfl (Nat.le_of_ble_eq_true rfl)
                    have N91 := Fr.snoc X88 N86 g73
                    have Z92 : n0 ≤ h88.size := Nat.le_trans Z87 (Keep.of_wr W88).1
                    refine own_via (fun k => XS.dup X88.here hx rfl (hb hby at_370) rfl rfl (XS.iconst X88.here hx rfl (hb hby at_371) (XS.iconst X88.here hx rfl (hb hby at_372) k))) ?_
                    show own_Go p e below s _ _ (T88.setTop (mkF m 373 #[iv p0, jv q1, .second, iv p2, jv q3, .second, iv p4, iv z3, iv 0, iv z4, iv z6, iv z8, iv z10, jv z12, .second, jv z15, .second, jv z18, .second, jv z21, .second, jv z24, .second, jv z27, .second, jv z34, .second, jv z42, .second, jv z50, .second, jv z58, .second, jv (z3.toInt64), .second, jv z60, .second, jv z61, .second, jv z62, .second, jv z63, .second, jv z64, .second, rv b_66, iv 0, .unset, .unset, .unset] [(.int 1), (.int 3), (.ref b72), (.ref b72)]))
                    obtain ⟨cl93, Ar93, q93, S93, NN93, H93, G93⟩ := id B90
                    have hin93 : ¬ ((3 : Int32) < 0 ∨ cl93.slots.size ≤ ((3 : Int32)).toNatClampNeg) := inb_of S93 ⟨by decide, by decide⟩
                    obtain ⟨T93, h93, X93, e93, W93, st93⟩ := stI X88 hx hZ e88 Ar93 (j := (3 : Int32)) hin93 (g := (mkF m 373 #[iv p0, jv q1, .second, iv p2, jv q3, .second, iv p4, iv z3, iv 0, iv z4, iv z6, iv z8, iv z10, jv z12, .second, jv z15, .second, jv z18, .second, jv z21, .second, jv z24, .second, jv z27, .second, jv z34, .second, jv z42, .second, jv z50, .second, jv z58, .second, jv (z3.toInt64), .second, jv z60, .second, jv z61, .second, jv z62, .second, jv z63, .second, jv z64, .second, rv b_66, iv 0, .unset, .unset, .unset] [(.int 1), (.int 3), (.ref b72), (.ref b72)])) rfl rfl (hb hby at_373)
                    refine own_via (fun k => st93 _ k) ?_
                    show own_Go p e below s _ _ (T93.setTop (mkF m 374 #[iv p0, jv q1, .second, iv p2, jv q3, .second, iv p4, iv z3, iv 0, iv z4, iv z6, iv z8, iv z10, jv z12, .second, jv z15, .second, jv z18, .second, jv z21, .second, jv z24, .second, jv z27, .second, jv z34, .second, jv z42, .second, jv z50, .second, jv z58, .second, jv (z3.toInt64), .second, jv z60, .second, jv z61, .second, jv z62, .second, jv z63, .second, jv z64, .second, rv b_66, iv 0, .unset, .unset, .unset] [(.ref b72)]))
                    have B94 := B89.other W93 ne74
                    have B95 : Arv Z h93 b72 k72 .int (16 : Int32) [(.int 0), (.int 1), (.int 1), (.int 1), (.int 0), (.int 0), (.int 0), (.int 0), (.int 0), (.int 0), (.int 0), (.int 0), (.int 0), (.int 0), (.int 0), (.int 0)] (.int 0) := Arv.set Ar93 q93 S93 NN93 H93 G93 rfl W93 3 rfl (Nat.le_of_ble_eq_true rfl)
                    have N96 := Fr.snoc X93 N91 g73
                    have Z97 : n0 ≤ h93.size := Nat.le_trans Z92 (Keep.of_wr W93).1
                    refine own_via (fun k => XS.dup X93.here hx rfl (hb hby at_374) rfl rfl (XS.iconst X93.here hx rfl (hb hby at_375) (XS.iconst X93.here hx rfl (hb hby at_376) k))) ?_
                    show own_Go p e below s _ _ (T93.setTop (mkF m 377 #[iv p0, jv q1, .second, iv p2, jv q3, .second, iv p4, iv z3, iv 0, iv z4, iv z6, iv z8, iv z10, jv z12, .second, jv z15, .second, jv z18, .second, jv z21, .second, jv z24, .second, jv z27, .second, jv z34, .second, jv z42, .second, jv z50, .second, jv z58, .second, jv (z3.toInt64), .second, jv z60, .second, jv z61, .second, jv z62, .second, jv z63, .second, jv z64, .second, rv b_66, iv 0, .unset, .unset, .unset] [(.int 1), (.int 4), (.ref b72), (.ref b72)]))
                    obtain ⟨cl98, Ar98, q98, S98, NN98, H98, G98⟩ := id B95
                    have hin98 : ¬ ((4 : Int32) < 0 ∨ cl98.slots.size ≤ ((4 : Int32)).toNatClampNeg) := inb_of S98 ⟨by decide, by decide⟩
                    obtain ⟨T98, h98, X98, e98, W98, st98⟩ := stI X93 hx hZ e93 Ar98 (j := (4 : Int32)) hin98 (g := (mkF m 377 #[iv p0, jv q1, .second, iv p2, jv q3, .second, iv p4, iv z3, iv 0, iv z4, iv z6, iv z8, iv z10, jv z12, .second, jv z15, .second, jv z18, .second, jv z21, .second, jv z24, .second, jv z27, .second, jv z34, .second, jv z42, .second, jv z50, .second, jv z58, .second, jv (z3.toInt64), .second, jv z60, .second, jv z61, .second, jv z62, .second, jv z63, .second, jv z64, .second, rv b_66, iv 0, .unset, .unset, .unset] [(.int 1), (.int 4), (.ref b72), (.ref b72)])) rfl rfl (hb hby at_377)
                    refine own_via (fun k => st98 _ k) ?_
                    show own_Go p e below s _ _ (T98.setTop (mkF m 378 #[iv p0, jv q1, .second, iv p2, jv q3, .second, iv p4, iv z3, iv 0, iv z4, iv z6, iv z8, iv z10, jv z12, .second, jv z15, .second, jv z18, .second, jv z21, .second, jv z24, .second, jv z27, .second, jv z34, .second, jv z42, .second, jv z50, .second, jv z58, .second, jv (z3.toInt64), .second, jv z60, .second, jv z61, .second, jv z62, .second, jv z63, .second, jv z64, .second, rv b_66, iv 0, .unset, .unset, .unset] [(.ref b72)]))
                    have B99 := B94.other W98 ne74
                    have B100 : Arv Z h98 b72 k72 .int (16 : Int32) [(.int 0), (.int 1), (.int 1), (.int 1), (.int 1), (.int 0), (.int 0), (.int 0), (.int 0), (.int 0), (.int 0), (.int 0), (.int 0), (.int 0), (.int 0), (.int 0)] (.int 0) := Arv.set Ar98 q98 S98 NN98 H98 G98 rfl W98 4 rfl (Nat.le_of_ble_eq_true rfl)
                    have N101 := Fr.snoc X98 N96 g73
                    have Z102 : n0 ≤ h98.size := Nat.le_trans Z97 (Keep.of_wr W98).1
                    refine own_via (fun k => XS.dup X98.here hx rfl (hb hby at_378) rfl rfl (XS.iconst X98.here hx rfl (hb hby at_379) (XS.iconst X98.here hx rfl (hb hby at_380) k))) ?_
                    show own_Go p e below s _ _ (T98.setTop (mkF m 381 #[iv p0, jv q1, .second, iv p2, jv q3, .second, iv p4, iv z3, iv 0, iv z4, iv z6, iv z8, iv z10, jv z12, .second, jv z15, .second, jv z18, .second, jv z21, .second, jv z24, .second, jv z27, .second, jv z34, .second, jv z42, .second, jv z50, .second, jv z58, .second, jv (z3.toInt64), .second, jv z60, .second, jv z61, .second, jv z62, .second, jv z63, .second, jv z64, .second, rv b_66, iv 0, .unset, .unset, .unset] [(.int 2), (.int 5), (.ref b72), (.ref b72)]))
                    obtain ⟨cl103, Ar103, q103, S103, NN103, H103, G103⟩ := id B100
                    have hin103 : ¬ ((5 : Int32) < 0 ∨ cl103.slots.size ≤ ((5 : Int32)).toNatClampNeg) := inb_of S103 ⟨by decide, by decide⟩
                    obtain ⟨T103, h103, X103, e103, W103, st103⟩ := stI X98 hx hZ e98 Ar103 (j := (5 : Int32)) hin103 (g := (mkF m 381 #[iv p0, jv q1, .second, iv p2, jv q3, .second, iv p4, iv z3, iv 0, iv z4, iv z6, iv z8, iv z10, jv z12, .second, jv z15, .second, jv z18, .second, jv z21, .second, jv z24, .second, jv z27, .second, jv z34, .second, jv z42, .second, jv z50, .second, jv z58, .second, jv (z3.toInt64), .second, jv z60, .second, jv z61, .second, jv z62, .second, jv z63, .second, jv z64, .second, rv b_66, iv 0, .unset, .unset, .unset] [(.int 2), (.int 5), (.ref b72), (.ref b72)])) rfl rfl (hb hby at_381)
                    refine own_via (fun k => st103 _ k) ?_
                    show own_Go p e below s _ _ (T103.setTop (mkF m 382 #[iv p0, jv q1, .second, iv p2, jv q3, .second, iv p4, iv z3, iv 0, iv z4, iv z6, iv z8, iv z10, jv z12, .second, jv z15, .second, jv z18, .second, jv z21, .second, jv z24, .second, jv z27, .second, jv z34, .second, jv z42, .second, jv z50, .second, jv z58, .second, jv (z3.toInt64), .second, jv z60, .second, jv z61, .second, jv z62, .second, jv z63, .second, jv z64, .second, rv b_66, iv 0, .unset, .unset, .unset] [(.ref b72)]))
                    have B104 := B99.other W103 ne74
                    have B105 : Arv Z h103 b72 k72 .int (16 : Int32) [(.int 0), (.int 1), (.int 1), (.int 1), (.int 1), (.int 2), (.int 0), (.int 0), (.int 0), (.int 0), (.int 0), (.int 0), (.int 0), (.int 0), (.int 0), (.int 0)] (.int 0) := Arv.set Ar103 q103 S103 NN103 H103 G103 rfl W103 5 rfl (Nat.le_of_ble_eq_true rfl)
                    have N106 := Fr.snoc X103 N101 g73
                    have Z107 : n0 ≤ h103.size := Nat.le_trans Z102 (Keep.of_wr W103).1
                    refine own_via (fun k => XS.dup X103.here hx rfl (hb hby at_382) rfl rfl (XS.bipush X103.here hx rfl (hb hby at_383) (XS.iconst X103.here hx rfl (hb hby at_385) k))) ?_
                    show own_Go p e below s _ _ (T103.setTop (mkF m 386 #[iv p0, jv q1, .second, iv p2, jv q3, .second, iv p4, iv z3, iv 0, iv z4, iv z6, iv z8, iv z10, jv z12, .second, jv z15, .second, jv z18, .second, jv z21, .second, jv z24, .second, jv z27, .second, jv z34, .second, jv z42, .second, jv z50, .second, jv z58, .second, jv (z3.toInt64), .second, jv z60, .second, jv z61, .second, jv z62, .second, jv z63, .second, jv z64, .second, rv b_66, iv 0, .unset, .unset, .unset] [(.int 1), (.int 6), (.ref b72), (.ref b72)]))
                    obtain ⟨cl108, Ar108, q108, S108, NN108, H108, G108⟩ := id B105
                    have hin108 : ¬ ((6 : Int32) < 0 ∨ cl108.slots.size ≤ ((6 : Int32)).toNatClampNeg) := inb_of S108 ⟨by decide, by decide⟩
                    obtain ⟨T108, h108, X108, e108, W108, st108⟩ := stI X103 hx hZ e103 Ar108 (j := (6 : Int32)) hin108 (g := (mkF m 386 #[iv p0, jv q1, .second, iv p2, jv q3, .second, iv p4, iv z3, iv 0, iv z4, iv z6, iv z8, iv z10, jv z12, .second, jv z15, .second, jv z18, .second, jv z21, .second, jv z24, .second, jv z27, .second, jv z34, .second, jv z42, .second, jv z50, .second, jv z58, .second, jv (z3.toInt64), .second, jv z60, .second, jv z61, .second, jv z62, .second, jv z63, .second, jv z64, .second, rv b_66, iv 0, .unset, .unset, .unset] [(.int 1), (.int 6), (.ref b72), (.ref b72)])) rfl rfl (hb hby at_386)
                    refine own_via (fun k => st108 _ k) ?_
                    show own_Go p e below s _ _ (T108.setTop (mkF m 387 #[iv p0, jv q1, .second, iv p2, jv q3, .second, iv p4, iv z3, iv 0, iv z4, iv z6, iv z8, iv z10, jv z12, .second, jv z15, .second, jv z18, .second, jv z21, .second, jv z24, .second, jv z27, .second, jv z34, .second, jv z42, .second, jv z50, .second, jv z58, .second, jv (z3.toInt64), .second, jv z60, .second, jv z61, .second, jv z62, .second, jv z63, .second, jv z64, .second, rv b_66, iv 0, .unset, .unset, .unset] [(.ref b72)]))
                    have B109 := B104.other W108 ne74
                    have B110 : Arv Z h108 b72 k72 .int (16 : Int32) [(.int 0), (.int 1), (.int 1), (.int 1), (.int 1), (.int 2), (.int 1), (.int 0), (.int 0), (.int 0), (.int 0), (.int 0), (.int 0), (.int 0), (.int 0), (.int 0)] (.int 0) := Arv.set Ar108 q108 S108 NN108 H108 G108 rfl W108 6 rfl (Nat.le_of_ble_eq_true rfl)
                    have N111 := Fr.snoc X108 N106 g73
                    have Z112 : n0 ≤ h108.size := Nat.le_trans Z107 (Keep.of_wr W108).1
                    refine own_via (fun k => XS.dup X108.here hx rfl (hb hby at_387) rfl rfl (XS.bipush X108.here hx rfl (hb hby at_388) (XS.iconst X108.here hx rfl (hb hby at_390) k))) ?_
                    show own_Go p e below s _ _ (T108.setTop (mkF m 391 #[iv p0, jv q1, .second, iv p2, jv q3, .second, iv p4, iv z3, iv 0, iv z4, iv z6, iv z8, iv z10, jv z12, .second, jv z15, .second, jv z18, .second, jv z21, .second, jv z24, .second, jv z27, .second, jv z34, .second, jv z42, .second, jv z50, .second, jv z58, .second, jv (z3.toInt64), .second, jv z60, .second, jv z61, .second, jv z62, .second, jv z63, .second, jv z64, .second, rv b_66, iv 0, .unset, .unset, .unset] [(.int 1), (.int 7), (.ref b72), (.ref b72)]))
                    obtain ⟨cl113, Ar113, q113, S113, NN113, H113, G113⟩ := id B110
                    have hin113 : ¬ ((7 : Int32) < 0 ∨ cl113.slots.size ≤ ((7 : Int32)).toNatClampNeg) := inb_of S113 ⟨by decide, by decide⟩
                    obtain ⟨T113, h113, X113, e113, W113, st113⟩ := stI X108 hx hZ e108 Ar113 (j := (7 : Int32)) hin113 (g := (mkF m 391 #[iv p0, jv q1, .second, iv p2, jv q3, .second, iv p4, iv z3, iv 0, iv z4, iv z6, iv z8, iv z10, jv z12, .second, jv z15, .second, jv z18, .second, jv z21, .second, jv z24, .second, jv z27, .second, jv z34, .second, jv z42, .second, jv z50, .second, jv z58, .second, jv (z3.toInt64), .second, jv z60, .second, jv z61, .second, jv z62, .second, jv z63, .second, jv z64, .second, rv b_66, iv 0, .unset, .unset, .unset] [(.int 1), (.int 7), (.ref b72), (.ref b72)])) rfl rfl (hb hby at_391)
                    refine own_via (fun k => st113 _ k) ?_
                    show own_Go p e below s _ _ (T113.setTop (mkF m 392 #[iv p0, jv q1, .second, iv p2, jv q3, .second, iv p4, iv z3, iv 0, iv z4, iv z6, iv z8, iv z10, jv z12, .second, jv z15, .second, jv z18, .second, jv z21, .second, jv z24, .second, jv z27, .second, jv z34, .second, jv z42, .second, jv z50, .second, jv z58, .second, jv (z3.toInt64), .second, jv z60, .second, jv z61, .second, jv z62, .second, jv z63, .second, jv z64, .second, rv b_66, iv 0, .unset, .unset, .unset] [(.ref b72)]))
                    have B114 := B109.other W113 ne74
                    have B115 : Arv Z h113 b72 k72 .int (16 : Int32) [(.int 0), (.int 1), (.int 1), (.int 1), (.int 1), (.int 2), (.int 1), (.int 1), (.int 0), (.int 0), (.int 0), (.int 0), (.int 0), (.int 0), (.int 0), (.int 0)] (.int 0) := Arv.set Ar113 q113 S113 NN113 H113 G113 rfl W113 7 rfl (Nat.le_of_ble_eq_true rfl)
                    have N116 := Fr.snoc X113 N111 g73
                    have Z117 : n0 ≤ h113.size := Nat.le_trans Z112 (Keep.of_wr W113).1
                    refine own_via (fun k => XS.dup X113.here hx rfl (hb hby at_392) rfl rfl (XS.bipush X113.here hx rfl (hb hby at_393) (XS.iconst X113.here hx rfl (hb hby at_395) k))) ?_
                    show own_Go p e below s _ _ (T113.setTop (mkF m 396 #[iv p0, jv q1, .second, iv p2, jv q3, .second, iv p4, iv z3, iv 0, iv z4, iv z6, iv z8, iv z10, jv z12, .second, jv z15, .second, jv z18, .second, jv z21, .second, jv z24, .second, jv z27, .second, jv z34, .second, jv z42, .second, jv z50, .second, jv z58, .second, jv (z3.toInt64), .second, jv z60, .second, jv z61, .second, jv z62, .second, jv z63, .second, jv z64, .second, rv b_66, iv 0, .unset, .unset, .unset] [(.int 1), (.int 8), (.ref b72), (.ref b72)]))
                    obtain ⟨cl118, Ar118, q118, S118, NN118, H118, G118⟩ := id B115
                    have hin118 : ¬ ((8 : Int32) < 0 ∨ cl118.slots.size ≤ ((8 : Int32)).toNatClampNeg) := inb_of S118 ⟨by decide, by decide⟩
                    obtain ⟨T118, h118, X118, e118, W118, st118⟩ := stI X113 hx hZ e113 Ar118 (j := (8 : Int32)) hin118 (g := (mkF m 396 #[iv p0, jv q1, .second, iv p2, jv q3, .second, iv p4, iv z3, iv 0, iv z4, iv z6, iv z8, iv z10, jv z12, .second, jv z15, .second, jv z18, .second, jv z21, .second, jv z24, .second, jv z27, .second, jv z34, .second, jv z42, .second, jv z50, .second, jv z58, .second, jv (z3.toInt64), .second, jv z60, .second, jv z61, .second, jv z62, .second, jv z63, .second, jv z64, .second, rv b_66, iv 0, .unset, .unset, .unset] [(.int 1), (.int 8), (.ref b72), (.ref b72)])) rfl rfl (hb hby at_396)
                    refine own_via (fun k => st118 _ k) ?_
                    show own_Go p e below s _ _ (T118.setTop (mkF m 397 #[iv p0, jv q1, .second, iv p2, jv q3, .second, iv p4, iv z3, iv 0, iv z4, iv z6, iv z8, iv z10, jv z12, .second, jv z15, .second, jv z18, .second, jv z21, .second, jv z24, .second, jv z27, .second, jv z34, .second, jv z42, .second, jv z50, .second, jv z58, .second, jv (z3.toInt64), .second, jv z60, .second, jv z61, .second, jv z62, .second, jv z63, .second, jv z64, .second, rv b_66, iv 0, .unset, .unset, .unset] [(.ref b72)]))
                    have B119 := B114.other W118 ne74
                    have B120 : Arv Z h118 b72 k72 .int (16 : Int32) [(.int 0), (.int 1), (.int 1), (.int 1), (.int 1), (.int 2), (.int 1), (.int 1), (.int 1), (.int 0), (.int 0), (.int 0), (.int 0), (.int 0), (.int 0), (.int 0)] (.int 0) := Arv.set Ar118 q118 S118 NN118 H118 G118 rfl W118 8 rfl (Nat.le_of_ble_eq_true rfl)
                    have N121 := Fr.snoc X118 N116 g73
                    have Z122 : n0 ≤ h118.size := Nat.le_trans Z117 (Keep.of_wr W118).1
                    refine own_via (fun k => XS.dup X118.here hx rfl (hb hby at_397) rfl rfl (XS.bipush X118.here hx rfl (hb hby at_398) (XS.iconst X118.here hx rfl (hb hby at_400) k))) ?_
                    show own_Go p e below s _ _ (T118.setTop (mkF m 401 #[iv p0, jv q1, .second, iv p2, jv q3, .second, iv p4, iv z3, iv 0, iv z4, iv z6, iv z8, iv z10, jv z12, .second, jv z15, .second, jv z18, .second, jv z21, .second, jv z24, .second, jv z27, .second, jv z34, .second, jv z42, .second, jv z50, .second, jv z58, .second, jv (z3.toInt64), .second, jv z60, .second, jv z61, .second, jv z62, .second, jv z63, .second, jv z64, .second, rv b_66, iv 0, .unset, .unset, .unset] [(.int 2), (.int 9), (.ref b72), (.ref b72)]))
                    obtain ⟨cl123, Ar123, q123, S123, NN123, H123, G123⟩ := id B120
                    have hin123 : ¬ ((9 : Int32) < 0 ∨ cl123.slots.size ≤ ((9 : Int32)).toNatClampNeg) := inb_of S123 ⟨by decide, by decide⟩
                    obtain ⟨T123, h123, X123, e123, W123, st123⟩ := stI X118 hx hZ e118 Ar123 (j := (9 : Int32)) hin123 (g := (mkF m 401 #[iv p0, jv q1, .second, iv p2, jv q3, .second, iv p4, iv z3, iv 0, iv z4, iv z6, iv z8, iv z10, jv z12, .second, jv z15, .second, jv z18, .second, jv z21, .second, jv z24, .second, jv z27, .second, jv z34, .second, jv z42, .second, jv z50, .second, jv z58, .second, jv (z3.toInt64), .second, jv z60, .second, jv z61, .second, jv z62, .second, jv z63, .second, jv z64, .second, rv b_66, iv 0, .unset, .unset, .unset] [(.int 2), (.int 9), (.ref b72), (.ref b72)])) rfl rfl (hb hby at_401)
                    refine own_via (fun k => st123 _ k) ?_
                    show own_Go p e below s _ _ (T123.setTop (mkF m 402 #[iv p0, jv q1, .second, iv p2, jv q3, .second, iv p4, iv z3, iv 0, iv z4, iv z6, iv z8, iv z10, jv z12, .second, jv z15, .second, jv z18, .second, jv z21, .second, jv z24, .second, jv z27, .second, jv z34, .second, jv z42, .second, jv z50, .second, jv z58, .second, jv (z3.toInt64), .second, jv z60, .second, jv z61, .second, jv z62, .second, jv z63, .second, jv z64, .second, rv b_66, iv 0, .unset, .unset, .unset] [(.ref b72)]))
                    have B124 := B119.other W123 ne74
                    have B125 : Arv Z h123 b72 k72 .int (16 : Int32) [(.int 0), (.int 1), (.int 1), (.int 1), (.int 1), (.int 2), (.int 1), (.int 1), (.int 1), (.int 2), (.int 0), (.int 0), (.int 0), (.int 0), (.int 0), (.int 0)] (.int 0) := Arv.set Ar123 q123 S123 NN123 H123 G123 rfl W123 9 rfl (Nat.le_of_ble_eq_true rfl)
                    have N126 := Fr.snoc X123 N121 g73
                    have Z127 : n0 ≤ h123.size := Nat.le_trans Z122 (Keep.of_wr W123).1
                    refine own_via (fun k => XS.dup X123.here hx rfl (hb hby at_402) rfl rfl (XS.bipush X123.here hx rfl (hb hby at_403) (XS.iconst X123.here hx rfl (hb hby at_405) k))) ?_
                    show own_Go p e below s _ _ (T123.setTop (mkF m 406 #[iv p0, jv q1, .second, iv p2, jv q3, .second, iv p4, iv z3, iv 0, iv z4, iv z6, iv z8, iv z10, jv z12, .second, jv z15, .second, jv z18, .second, jv z21, .second, jv z24, .second, jv z27, .second, jv z34, .second, jv z42, .second, jv z50, .second, jv z58, .second, jv (z3.toInt64), .second, jv z60, .second, jv z61, .second, jv z62, .second, jv z63, .second, jv z64, .second, rv b_66, iv 0, .unset, .unset, .unset] [(.int 2), (.int 10), (.ref b72), (.ref b72)]))
                    obtain ⟨cl128, Ar128, q128, S128, NN128, H128, G128⟩ := id B125
                    have hin128 : ¬ ((10 : Int32) < 0 ∨ cl128.slots.size ≤ ((10 : Int32)).toNatClampNeg) := inb_of S128 ⟨by decide, by decide⟩
                    obtain ⟨T128, h128, X128, e128, W128, st128⟩ := stI X123 hx hZ e123 Ar128 (j := (10 : Int32)) hin128 (g := (mkF m 406 #[iv p0, jv q1, .second, iv p2, jv q3, .second, iv p4, iv z3, iv 0, iv z4, iv z6, iv z8, iv z10, jv z12, .second, jv z15, .second, jv z18, .second, jv z21, .second, jv z24, .second, jv z27, .second, jv z34, .second, jv z42, .second, jv z50, .second, jv z58, .second, jv (z3.toInt64), .second, jv z60, .second, jv z61, .second, jv z62, .second, jv z63, .second, jv z64, .second, rv b_66, iv 0, .unset, .unset, .unset] [(.int 2), (.int 10), (.ref b72), (.ref b72)])) rfl rfl (hb hby at_406)
                    refine own_via (fun k => st128 _ k) ?_
                    show own_Go p e below s _ _ (T128.setTop (mkF m 407 #[iv p0, jv q1, .second, iv p2, jv q3, .second, iv p4, iv z3, iv 0, iv z4, iv z6, iv z8, iv z10, jv z12, .second, jv z15, .second, jv z18, .second, jv z21, .second, jv z24, .second, jv z27, .second, jv z34, .second, jv z42, .second, jv z50, .second, jv z58, .second, jv (z3.toInt64), .second, jv z60, .second, jv z61, .second, jv z62, .second, jv z63, .second, jv z64, .second, rv b_66, iv 0, .unset, .unset, .unset] [(.ref b72)]))
                    have B129 := B124.other W128 ne74
                    have B130 : Arv Z h128 b72 k72 .int (16 : Int32) [(.int 0), (.int 1), (.int 1), (.int 1), (.int 1), (.int 2), (.int 1), (.int 1), (.int 1), (.int 2), (.int 2), (.int 0), (.int 0), (.int 0), (.int 0), (.int 0)] (.int 0) := Arv.set Ar128 q128 S128 NN128 H128 G128 rfl W128 10 rfl (Nat.le_of_ble_eq_true rfl)
                    have N131 := Fr.snoc X128 N126 g73
                    have Z132 : n0 ≤ h128.size := Nat.le_trans Z127 (Keep.of_wr W128).1
                    refine own_via (fun k => XS.dup X128.here hx rfl (hb hby at_407) rfl rfl (XS.bipush X128.here hx rfl (hb hby at_408) (XS.iconst X128.here hx rfl (hb hby at_410) k))) ?_
                    show own_Go p e below s _ _ (T128.setTop (mkF m 411 #[iv p0, jv q1, .second, iv p2, jv q3, .second, iv p4, iv z3, iv 0, iv z4, iv z6, iv z8, iv z10, jv z12, .second, jv z15, .second, jv z18, .second, jv z21, .second, jv z24, .second, jv z27, .second, jv z34, .second, jv z42, .second, jv z50, .second, jv z58, .second, jv (z3.toInt64), .second, jv z60, .second, jv z61, .second, jv z62, .second, jv z63, .second, jv z64, .second, rv b_66, iv 0, .unset, .unset, .unset] [(.int 2), (.int 11), (.ref b72), (.ref b72)]))
                    obtain ⟨cl133, Ar133, q133, S133, NN133, H133, G133⟩ := id B130
                    have hin133 : ¬ ((11 : Int32) < 0 ∨ cl133.slots.size ≤ ((11 : Int32)).toNatClampNeg) := inb_of S133 ⟨by decide, by decide⟩
                    obtain ⟨T133, h133, X133, e133, W133, st133⟩ := stI X128 hx hZ e128 Ar133 (j := (11 : Int32)) hin133 (g := (mkF m 411 #[iv p0, jv q1, .second, iv p2, jv q3, .second, iv p4, iv z3, iv 0, iv z4, iv z6, iv z8, iv z10, jv z12, .second, jv z15, .second, jv z18, .second, jv z21, .second, jv z24, .second, jv z27, .second, jv z34, .second, jv z42, .second, jv z50, .second, jv z58, .second, jv (z3.toInt64), .second, jv z60, .second, jv z61, .second, jv z62, .second, jv z63, .second, jv z64, .second, rv b_66, iv 0, .unset, .unset, .unset] [(.int 2), (.int 11), (.ref b72), (.ref b72)])) rfl rfl (hb hby at_411)
                    refine own_via (fun k => st133 _ k) ?_
                    show own_Go p e below s _ _ (T133.setTop (mkF m 412 #[iv p0, jv q1, .second, iv p2, jv q3, .second, iv p4, iv z3, iv 0, iv z4, iv z6, iv z8, iv z10, jv z12, .second, jv z15, .second, jv z18, .second, jv z21, .second, jv z24, .second, jv z27, .second, jv z34, .second, jv z42, .second, jv z50, .second, jv z58, .second, jv (z3.toInt64), .second, jv z60, .second, jv z61, .second, jv z62, .second, jv z63, .second, jv z64, .second, rv b_66, iv 0, .unset, .unset, .unset] [(.ref b72)]))
                    have B134 := B129.other W133 ne74
                    have B135 : Arv Z h133 b72 k72 .int (16 : Int32) [(.int 0), (.int 1), (.int 1), (.int 1), (.int 1), (.int 2), (.int 1), (.int 1), (.int 1), (.int 2), (.int 2), (.int 2), (.int 0), (.int 0), (.int 0), (.int 0)] (.int 0) := Arv.set Ar133 q133 S133 NN133 H133 G133 rfl W133 11 rfl (Nat.le_of_ble_eq_true rfl)
                    have N136 := Fr.snoc X133 N131 g73
                    have Z137 : n0 ≤ h133.size := Nat.le_trans Z132 (Keep.of_wr W133).1
                    refine own_via (fun k => XS.dup X133.here hx rfl (hb hby at_412) rfl rfl (XS.bipush X133.here hx rfl (hb hby at_413) (XS.iconst X133.here hx rfl (hb hby at_415) k))) ?_
                    show own_Go p e below s _ _ (T133.setTop (mkF m 416 #[iv p0, jv q1, .second, iv p2, jv q3, .second, iv p4, iv z3, iv 0, iv z4, iv z6, iv z8, iv z10, jv z12, .second, jv z15, .second, jv z18, .second, jv z21, .second, jv z24, .second, jv z27, .second, jv z34, .second, jv z42, .second, jv z50, .second, jv z58, .second, jv (z3.toInt64), .second, jv z60, .second, jv z61, .second, jv z62, .second, jv z63, .second, jv z64, .second, rv b_66, iv 0, .unset, .unset, .unset] [(.int 1), (.int 12), (.ref b72), (.ref b72)]))
                    obtain ⟨cl138, Ar138, q138, S138, NN138, H138, G138⟩ := id B135
                    have hin138 : ¬ ((12 : Int32) < 0 ∨ cl138.slots.size ≤ ((12 : Int32)).toNatClampNeg) := inb_of S138 ⟨by decide, by decide⟩
                    obtain ⟨T138, h138, X138, e138, W138, st138⟩ := stI X133 hx hZ e133 Ar138 (j := (12 : Int32)) hin138 (g := (mkF m 416 #[iv p0, jv q1, .second, iv p2, jv q3, .second, iv p4, iv z3, iv 0, iv z4, iv z6, iv z8, iv z10, jv z12, .second, jv z15, .second, jv z18, .second, jv z21, .second, jv z24, .second, jv z27, .second, jv z34, .second, jv z42, .second, jv z50, .second, jv z58, .second, jv (z3.toInt64), .second, jv z60, .second, jv z61, .second, jv z62, .second, jv z63, .second, jv z64, .second, rv b_66, iv 0, .unset, .unset, .unset] [(.int 1), (.int 12), (.ref b72), (.ref b72)])) rfl rfl (hb hby at_416)
                    refine own_via (fun k => st138 _ k) ?_
                    show own_Go p e below s _ _ (T138.setTop (mkF m 417 #[iv p0, jv q1, .second, iv p2, jv q3, .second, iv p4, iv z3, iv 0, iv z4, iv z6, iv z8, iv z10, jv z12, .second, jv z15, .second, jv z18, .second, jv z21, .second, jv z24, .second, jv z27, .second, jv z34, .second, jv z42, .second, jv z50, .second, jv z58, .second, jv (z3.toInt64), .second, jv z60, .second, jv z61, .second, jv z62, .second, jv z63, .second, jv z64, .second, rv b_66, iv 0, .unset, .unset, .unset] [(.ref b72)]))
                    have B139 := B134.other W138 ne74
                    have B140 : Arv Z h138 b72 k72 .int (16 : Int32) [(.int 0), (.int 1), (.int 1), (.int 1), (.int 1), (.int 2), (.int 1), (.int 1), (.int 1), (.int 2), (.int 2), (.int 2), (.int 1), (.int 0), (.int 0), (.int 0)] (.int 0) := Arv.set Ar138 q138 S138 NN138 H138 G138 rfl W138 12 rfl (Nat.le_of_ble_eq_true rfl)
                    have N141 := Fr.snoc X138 N136 g73
                    have Z142 : n0 ≤ h138.size := Nat.le_trans Z137 (Keep.of_wr W138).1
                    refine own_via (fun k => XS.dup X138.here hx rfl (hb hby at_417) rfl rfl (XS.bipush X138.here hx rfl (hb hby at_418) (XS.iconst X138.here hx rfl (hb hby at_420) k))) ?_
                    show own_Go p e below s _ _ (T138.setTop (mkF m 421 #[iv p0, jv q1, .second, iv p2, jv q3, .second, iv p4, iv z3, iv 0, iv z4, iv z6, iv z8, iv z10, jv z12, .second, jv z15, .second, jv z18, .second, jv z21, .second, jv z24, .second, jv z27, .second, jv z34, .second, jv z42, .second, jv z50, .second, jv z58, .second, jv (z3.toInt64), .second, jv z60, .second, jv z61, .second, jv z62, .second, jv z63, .second, jv z64, .second, rv b_66, iv 0, .unset, .unset, .unset] [(.int 2), (.int 13), (.ref b72), (.ref b72)]))
                    obtain ⟨cl143, Ar143, q143, S143, NN143, H143, G143⟩ := id B140
                    have hin143 : ¬ ((13 : Int32) < 0 ∨ cl143.slots.size ≤ ((13 : Int32)).toNatClampNeg) := inb_of S143 ⟨by decide, by decide⟩
                    obtain ⟨T143, h143, X143, e143, W143, st143⟩ := stI X138 hx hZ e138 Ar143 (j := (13 : Int32)) hin143 (g := (mkF m 421 #[iv p0, jv q1, .second, iv p2, jv q3, .second, iv p4, iv z3, iv 0, iv z4, iv z6, iv z8, iv z10, jv z12, .second, jv z15, .second, jv z18, .second, jv z21, .second, jv z24, .second, jv z27, .second, jv z34, .second, jv z42, .second, jv z50, .second, jv z58, .second, jv (z3.toInt64), .second, jv z60, .second, jv z61, .second, jv z62, .second, jv z63, .second, jv z64, .second, rv b_66, iv 0, .unset, .unset, .unset] [(.int 2), (.int 13), (.ref b72), (.ref b72)])) rfl rfl (hb hby at_421)
                    refine own_via (fun k => st143 _ k) ?_
                    show own_Go p e below s _ _ (T143.setTop (mkF m 422 #[iv p0, jv q1, .second, iv p2, jv q3, .second, iv p4, iv z3, iv 0, iv z4, iv z6, iv z8, iv z10, jv z12, .second, jv z15, .second, jv z18, .second, jv z21, .second, jv z24, .second, jv z27, .second, jv z34, .second, jv z42, .second, jv z50, .second, jv z58, .second, jv (z3.toInt64), .second, jv z60, .second, jv z61, .second, jv z62, .second, jv z63, .second, jv z64, .second, rv b_66, iv 0, .unset, .unset, .unset] [(.ref b72)]))
                    have B144 := B139.other W143 ne74
                    have B145 : Arv Z h143 b72 k72 .int (16 : Int32) [(.int 0), (.int 1), (.int 1), (.int 1), (.int 1), (.int 2), (.int 1), (.int 1), (.int 1), (.int 2), (.int 2), (.int 2), (.int 1), (.int 2), (.int 0), (.int 0)] (.int 0) := Arv.set Ar143 q143 S143 NN143 H143 G143 rfl W143 13 rfl (Nat.le_of_ble_eq_true rfl)
                    have N146 := Fr.snoc X143 N141 g73
                    have Z147 : n0 ≤ h143.size := Nat.le_trans Z142 (Keep.of_wr W143).1
                    refine own_via (fun k => XS.dup X143.here hx rfl (hb hby at_422) rfl rfl (XS.bipush X143.here hx rfl (hb hby at_423) (XS.iconst X143.here hx rfl (hb hby at_425) k))) ?_
                    show own_Go p e below s _ _ (T143.setTop (mkF m 426 #[iv p0, jv q1, .second, iv p2, jv q3, .second, iv p4, iv z3, iv 0, iv z4, iv z6, iv z8, iv z10, jv z12, .second, jv z15, .second, jv z18, .second, jv z21, .second, jv z24, .second, jv z27, .second, jv z34, .second, jv z42, .second, jv z50, .second, jv z58, .second, jv (z3.toInt64), .second, jv z60, .second, jv z61, .second, jv z62, .second, jv z63, .second, jv z64, .second, rv b_66, iv 0, .unset, .unset, .unset] [(.int 1), (.int 14), (.ref b72), (.ref b72)]))
                    obtain ⟨cl148, Ar148, q148, S148, NN148, H148, G148⟩ := id B145
                    have hin148 : ¬ ((14 : Int32) < 0 ∨ cl148.slots.size ≤ ((14 : Int32)).toNatClampNeg) := inb_of S148 ⟨by decide, by decide⟩
                    obtain ⟨T148, h148, X148, e148, W148, st148⟩ := stI X143 hx hZ e143 Ar148 (j := (14 : Int32)) hin148 (g := (mkF m 426 #[iv p0, jv q1, .second, iv p2, jv q3, .second, iv p4, iv z3, iv 0, iv z4, iv z6, iv z8, iv z10, jv z12, .second, jv z15, .second, jv z18, .second, jv z21, .second, jv z24, .second, jv z27, .second, jv z34, .second, jv z42, .second, jv z50, .second, jv z58, .second, jv (z3.toInt64), .second, jv z60, .second, jv z61, .second, jv z62, .second, jv z63, .second, jv z64, .second, rv b_66, iv 0, .unset, .unset, .unset] [(.int 1), (.int 14), (.ref b72), (.ref b72)])) rfl rfl (hb hby at_426)
                    refine own_via (fun k => st148 _ k) ?_
                    show own_Go p e below s _ _ (T148.setTop (mkF m 427 #[iv p0, jv q1, .second, iv p2, jv q3, .second, iv p4, iv z3, iv 0, iv z4, iv z6, iv z8, iv z10, jv z12, .second, jv z15, .second, jv z18, .second, jv z21, .second, jv z24, .second, jv z27, .second, jv z34, .second, jv z42, .second, jv z50, .second, jv z58, .second, jv (z3.toInt64), .second, jv z60, .second, jv z61, .second, jv z62, .second, jv z63, .second, jv z64, .second, rv b_66, iv 0, .unset, .unset, .unset] [(.ref b72)]))
                    have B149 := B144.other W148 ne74
                    have B150 : Arv Z h148 b72 k72 .int (16 : Int32) [(.int 0), (.int 1), (.int 1), (.int 1), (.int 1), (.int 2), (.int 1), (.int 1), (.int 1), (.int 2), (.int 2), (.int 2), (.int 1), (.int 2), (.int 1), (.int 0)] (.int 0) := Arv.set Ar148 q148 S148 NN148 H148 G148 rfl W148 14 rfl (Nat.le_of_ble_eq_true rfl)
                    have N151 := Fr.snoc X148 N146 g73
                    have Z152 : n0 ≤ h148.size := Nat.le_trans Z147 (Keep.of_wr W148).1
                    refine own_via (fun k => XS.dup X148.here hx rfl (hb hby at_427) rfl rfl (XS.bipush X148.here hx rfl (hb hby at_428) (XS.iconst X148.here hx rfl (hb hby at_430) k))) ?_
                    show own_Go p e below s _ _ (T148.setTop (mkF m 431 #[iv p0, jv q1, .second, iv p2, jv q3, .second, iv p4, iv z3, iv 0, iv z4, iv z6, iv z8, iv z10, jv z12, .second, jv z15, .second, jv z18, .second, jv z21, .second, jv z24, .second, jv z27, .second, jv z34, .second, jv z42, .second, jv z50, .second, jv z58, .second, jv (z3.toInt64), .second, jv z60, .second, jv z61, .second, jv z62, .second, jv z63, .second, jv z64, .second, rv b_66, iv 0, .unset, .unset, .unset] [(.int 1), (.int 15), (.ref b72), (.ref b72)]))
                    obtain ⟨cl153, Ar153, q153, S153, NN153, H153, G153⟩ := id B150
                    have hin153 : ¬ ((15 : Int32) < 0 ∨ cl153.slots.size ≤ ((15 : Int32)).toNatClampNeg) := inb_of S153 ⟨by decide, by decide⟩
                    obtain ⟨T153, h153, X153, e153, W153, st153⟩ := stI X148 hx hZ e148 Ar153 (j := (15 : Int32)) hin153 (g := (mkF m 431 #[iv p0, jv q1, .second, iv p2, jv q3, .second, iv p4, iv z3, iv 0, iv z4, iv z6, iv z8, iv z10, jv z12, .second, jv z15, .second, jv z18, .second, jv z21, .second, jv z24, .second, jv z27, .second, jv z34, .second, jv z42, .second, jv z50, .second, jv z58, .second, jv (z3.toInt64), .second, jv z60, .second, jv z61, .second, jv z62, .second, jv z63, .second, jv z64, .second, rv b_66, iv 0, .unset, .unset, .unset] [(.int 1), (.int 15), (.ref b72), (.ref b72)])) rfl rfl (hb hby at_431)
                    refine own_via (fun k => st153 _ k) ?_
                    show own_Go p e below s _ _ (T153.setTop (mkF m 432 #[iv p0, jv q1, .second, iv p2, jv q3, .second, iv p4, iv z3, iv 0, iv z4, iv z6, iv z8, iv z10, jv z12, .second, jv z15, .second, jv z18, .second, jv z21, .second, jv z24, .second, jv z27, .second, jv z34, .second, jv z42, .second, jv z50, .second, jv z58, .second, jv (z3.toInt64), .second, jv z60, .second, jv z61, .second, jv z62, .second, jv z63, .second, jv z64, .second, rv b_66, iv 0, .unset, .unset, .unset] [(.ref b72)]))
                    have B154 := B149.other W153 ne74
                    have B155 : Arv Z h153 b72 k72 .int (16 : Int32) [(.int 0), (.int 1), (.int 1), (.int 1), (.int 1), (.int 2), (.int 1), (.int 1), (.int 1), (.int 2), (.int 2), (.int 2), (.int 1), (.int 2), (.int 1), (.int 1)] (.int 0) := Arv.set Ar153 q153 S153 NN153 H153 G153 rfl W153 15 rfl (Nat.le_of_ble_eq_true rfl)
                    have N156 := Fr.snoc X153 N151 g73
                    have Z157 : n0 ≤ h153.size := Nat.le_trans Z152 (Keep.of_wr W153).1
                    refine own_via (fun k => XS.astore X153.here hx rfl (hb hby at_432) rfl rfl (l' := #[iv p0, jv q1, .second, iv p2, jv q3, .second, iv p4, iv z3, iv 0, iv z4, iv z6, iv z8, iv z10, jv z12, .second, jv z15, .second, jv z18, .second, jv z21, .second, jv z24, .second, jv z27, .second, jv z34, .second, jv z42, .second, jv z50, .second, jv z58, .second, jv (z3.toInt64), .second, jv z60, .second, jv z61, .second, jv z62, .second, jv z63, .second, jv z64, .second, rv b_66, iv 0, rv b72, .unset, .unset]) rfl (XS.aload X153.here hx rfl (hb hby at_434) rfl rfl  (XS.iloadN X153.here hx rfl (hb hby at_436) rfl  (XS.iload X153.here hx rfl (hb hby at_437) rfl  k)))) ?_
                    show own_Go p e below s _ _ (T153.setTop (mkF m 439 #[iv p0, jv q1, .second, iv p2, jv q3, .second, iv p4, iv z3, iv 0, iv z4, iv z6, iv z8, iv z10, jv z12, .second, jv z15, .second, jv z18, .second, jv z21, .second, jv z24, .second, jv z27, .second, jv z34, .second, jv z42, .second, jv z50, .second, jv z58, .second, jv (z3.toInt64), .second, jv z60, .second, jv z61, .second, jv z62, .second, jv z63, .second, jv z64, .second, rv b_66, iv 0, rv b72, .unset, .unset] [(.int 0), (.int p2), (.ref b72)]))
                    refine own_via (fun k => XS.iand X153.here hx rfl (hb hby at_439) rfl k) ?_
                    show own_Go p e below s _ _ (T153.setTop (mkF m 440 #[iv p0, jv q1, .second, iv p2, jv q3, .second, iv p4, iv z3, iv 0, iv z4, iv z6, iv z8, iv z10, jv z12, .second, jv z15, .second, jv z18, .second, jv z21, .second, jv z24, .second, jv z27, .second, jv z34, .second, jv z42, .second, jv z50, .second, jv z58, .second, jv (z3.toInt64), .second, jv z60, .second, jv z61, .second, jv z62, .second, jv z63, .second, jv z64, .second, rv b_66, iv 0, rv b72, .unset, .unset] [(.int (p2 &&& (0 : Int32))), (.ref b72)]))
                    obtain ⟨cl158, Ar158, q158, S158, NN158, H158, G158⟩ := id B155
                    have hin158 : ¬ ((p2 &&& (0 : Int32)) < 0 ∨ cl158.slots.size ≤ ((p2 &&& (0 : Int32))).toNatClampNeg) := inb_of S158 (own_in0 p2 hl65)
                    have hat158 : cl158.slots[((p2 &&& (0 : Int32))).toNatClampNeg]? = some (.int (own_tab (p2 &&& (0 : Int32)))) := H158.at hin158 (own_tabget (p2 &&& (0 : Int32)) (own_in0 p2 hl65))
                    refine own_via (fun k => X153.iaload hx (j := (p2 &&& (0 : Int32))) (v := (.int (own_tab (p2 &&& (0 : Int32))))) (by rw [e153]; exact Ar158.1) (State.isArrayOf_alike hZ.alike Ar158.2.1) Ar158.2.2 hin158 hat158 (g := (mkF m 440 #[iv p0, jv q1, .second, iv p2, jv q3, .second, iv p4, iv z3, iv 0, iv z4, iv z6, iv z8, iv z10, jv z12, .second, jv z15, .second, jv z18, .second, jv z21, .second, jv z24, .second, jv z27, .second, jv z34, .second, jv z42, .second, jv z50, .second, jv z58, .second, jv (z3.toInt64), .second, jv z60, .second, jv z61, .second, jv z62, .second, jv z63, .second, jv z64, .second, rv b_66, iv 0, rv b72, .unset, .unset] [(.int (p2 &&& (0 : Int32))), (.ref b72)])) rfl rfl (hb hby at_440) _ k) ?_
                    show own_Go p e below s _ _ (T153.setTop (mkF m 441 #[iv p0, jv q1, .second, iv p2, jv q3, .second, iv p4, iv z3, iv 0, iv z4, iv z6, iv z8, iv z10, jv z12, .second, jv z15, .second, jv z18, .second, jv z21, .second, jv z24, .second, jv z27, .second, jv z34, .second, jv z42, .second, jv z50, .second, jv z58, .second, jv (z3.toInt64), .second, jv z60, .second, jv z61, .second, jv z62, .second, jv z63, .second, jv z64, .second, rv b_66, iv 0, rv b72, .unset, .unset] [(.int (own_tab (p2 &&& (0 : Int32))))]))
                    refine own_via (fun k => XS.i2l X153.here hx rfl (hb hby at_441) rfl (XS.lstore X153.here hx rfl (hb hby at_442) rfl (l' := #[iv p0, jv q1, .second, iv p2, jv q3, .second, iv p4, iv z3, iv 0, iv z4, iv z6, iv z8, iv z10, jv z12, .second, jv z15, .second, jv z18, .second, jv z21, .second, jv z24, .second, jv z27, .second, jv z34, .second, jv z42, .second, jv z50, .second, jv z58, .second, jv (z3.toInt64), .second, jv z60, .second, jv z61, .second, jv z62, .second, jv z63, .second, jv z64, .second, rv b_66, iv 0, rv b72, jv ((own_tab (p2 &&& (0 : Int32))).toInt64), .second]) rfl (XS.aload X153.here hx rfl (hb hby at_444) rfl rfl  (XS.iload X153.here hx rfl (hb hby at_446) rfl  k)))) ?_
                    show own_Go p e below s _ _ (T153.setTop (mkF m 448 #[iv p0, jv q1, .second, iv p2, jv q3, .second, iv p4, iv z3, iv 0, iv z4, iv z6, iv z8, iv z10, jv z12, .second, jv z15, .second, jv z18, .second, jv z21, .second, jv z24, .second, jv z27, .second, jv z34, .second, jv z42, .second, jv z50, .second, jv z58, .second, jv (z3.toInt64), .second, jv z60, .second, jv z61, .second, jv z62, .second, jv z63, .second, jv z64, .second, rv b_66, iv 0, rv b72, jv ((own_tab (p2 &&& (0 : Int32))).toInt64), .second] [(.int z3), (.ref b_66)]))
                    obtain ⟨_, _, ⟨T159, L159, k159, n159⟩, -, X159, ⟨Lc159, hQ159, l159, y159, z159⟩, st159⟩ := Jvm.LawKit.callS X153 hx (y := (⟨"com/example/waveslot/waveslot/core/CheckerSteps", "repeatedQuotients", "([JI)J"⟩ : MethodName)) hown (mvT hZ (hw _ (List.mem_of_getElem? (i := 22) rfl))) (mvT hZ (hw _ (List.mem_of_getElem? (i := 23) rfl))) (mvT hZ (hw _ (List.mem_of_getElem? (i := 24) rfl))) (mvT hZ (hw _ (List.mem_of_getElem? (i := 25) rfl))) (by decide) (backOf (W := 0) (rm6_0 l Z aw hw [] b_66 z3 k_66 h153 n0 Z157 B154 (own_hhn6_0 p0 p2 z3 hz3 hl65)) hZ (hw _ (List.mem_of_getElem? (i := 25) rfl)) (hw _ (List.mem_of_getElem? (i := 24) rfl)) (by decide) (by decide)) (g := (mkF m 448 #[iv p0, jv q1, .second, iv p2, jv q3, .second, iv p4, iv z3, iv 0, iv z4, iv z6, iv z8, iv z10, jv z12, .second, jv z15, .second, jv z18, .second, jv z21, .second, jv z24, .second, jv z27, .second, jv z34, .second, jv z42, .second, jv z50, .second, jv z58, .second, jv (z3.toInt64), .second, jv z60, .second, jv z61, .second, jv z62, .second, jv z63, .second, jv z64, .second, rv b_66, iv 0, rv b72, jv ((own_tab (p2 &&& (0 : Int32))).toInt64), .second] [(.int z3), (.ref b_66)])) rfl (by rw [hml]; rfl) (argsL := [(.ref b_66), (.int z3)]) (rest := []) (lenOf pd_5 rfl) rfl (by show 2 * 0 + _ ≤ _; exact Nat.le_of_eq rfl) (hb hby at_448) (fun _ _ => ⟨rfl, e153, (by decide : 2 + 0 ≤ _), (by decide : 16 + 0 ≤ _)⟩)
                    dsimp only [Pt.U, Pt.locs, Pt.cells, Pt.slots] at X159 l159 y159 z159 st159 hQ159
                    subst l159 y159 z159
                    obtain ⟨rfl, N159q, eh159⟩ := hQ159
                    have N160 := Fr.app N156 N159q
                    refine own_via (fun k => st159 _ k) ?_
                    show own_Go p e below s _ _ (T159.setTop (mkF m 451 #[iv p0, jv q1, .second, iv p2, jv q3, .second, iv p4, iv z3, iv 0, iv z4, iv z6, iv z8, iv z10, jv z12, .second, jv z15, .second, jv z18, .second, jv z21, .second, jv z24, .second, jv z27, .second, jv z34, .second, jv z42, .second, jv z50, .second, jv z58, .second, jv (z3.toInt64), .second, jv z60, .second, jv z61, .second, jv z62, .second, jv z63, .second, jv z64, .second, rv b_66, iv 0, rv b72, jv ((own_tab (p2 &&& (0 : Int32))).toInt64), .second] [(.long own_f6_0)]))
                    refine own_via (fun k => XS.lload X159.here hx rfl (hb hby at_451) rfl  (XS.lcmp X159.here hx rfl (hb hby at_453) rfl k)) ?_
                    show own_Go p e below s _ _ (T159.setTop (mkF m 454 #[iv p0, jv q1, .second, iv p2, jv q3, .second, iv p4, iv z3, iv 0, iv z4, iv z6, iv z8, iv z10, jv z12, .second, jv z15, .second, jv z18, .second, jv z21, .second, jv z24, .second, jv z27, .second, jv z34, .second, jv z42, .second, jv z50, .second, jv z58, .second, jv (z3.toInt64), .second, jv z60, .second, jv z61, .second, jv z62, .second, jv z63, .second, jv z64, .second, rv b_66, iv 0, rv b72, jv ((own_tab (p2 &&& (0 : Int32))).toInt64), .second] [(.int (lcmpW own_f6_0 ((own_tab (p2 &&& (0 : Int32))).toInt64)))]))
                    refine own_via (fun k => XS.ifNo X159.here hx rfl (hb hby at_454) rfl ((if0 _ _).trans (teq ((lw_eq _ _).mpr (own_law0 p2 hl65))).2) k) ?_
                    show own_Go p e below s _ _ (T159.setTop (mkF m 457 #[iv p0, jv q1, .second, iv p2, jv q3, .second, iv p4, iv z3, iv 0, iv z4, iv z6, iv z8, iv z10, jv z12, .second, jv z15, .second, jv z18, .second, jv z21, .second, jv z24, .second, jv z27, .second, jv z34, .second, jv z42, .second, jv z50, .second, jv z58, .second, jv (z3.toInt64), .second, jv z60, .second, jv z61, .second, jv z62, .second, jv z63, .second, jv z64, .second, rv b_66, iv 0, rv b72, jv ((own_tab (p2 &&& (0 : Int32))).toInt64), .second] []))
                    refine own_via (fun k => XS.iconst X159.here hx rfl (hb hby at_457) (XS.goto X159.here hx rfl (pc0 := 458) (pc' := 462) rfl (hb hby at_458) (by decide) (by decide) k)) ?_
                    show own_Go p e below s _ _ (T159.setTop (mkF m 462 #[iv p0, jv q1, .second, iv p2, jv q3, .second, iv p4, iv z3, iv 0, iv z4, iv z6, iv z8, iv z10, jv z12, .second, jv z15, .second, jv z18, .second, jv z21, .second, jv z24, .second, jv z27, .second, jv z34, .second, jv z42, .second, jv z50, .second, jv z58, .second, jv (z3.toInt64), .second, jv z60, .second, jv z61, .second, jv z62, .second, jv z63, .second, jv z64, .second, rv b_66, iv 0, rv b72, jv ((own_tab (p2 &&& (0 : Int32))).toInt64), .second] [(.int 1)]))
                    exact own_retN X159 hx hlk (t := .boolean) Bd.returns (by simp) (hb hby at_462) (Q := (Q0 Z p0 q1 p2 q3 p4 h0 n0)) ⟨rfl, N160⟩ (by decide) (by decide)
                  · rw [hl65]
                    show own_Go p e below s _ _ (T59.setTop (mkF m 318 #[iv p0, jv q1, .second, iv p2, jv q3, .second, iv p4, iv z3, iv 1, iv z4, iv z6, iv z8, iv z10, jv z12, .second, jv z15, .second, jv z18, .second, jv z21, .second, jv z24, .second, jv z27, .second, jv z34, .second, jv z42, .second, jv z50, .second, jv z58, .second, jv (z3.toInt64), .second, jv z60, .second, jv z61, .second, jv z62, .second, jv z63, .second, jv z64, .second, .unset, .unset, .unset, .unset, .unset] []))
                    refine own_via (fun k => XS.iload X59.here hx rfl (hb hby at_318) rfl  (XS.lload X59.here hx rfl (hb hby at_320) rfl  (XS.lload X59.here hx rfl (hb hby at_322) rfl  (XS.lload X59.here hx rfl (hb hby at_324) rfl  k)))) ?_
                    show own_Go p e below s _ _ (T59.setTop (mkF m 326 #[iv p0, jv q1, .second, iv p2, jv q3, .second, iv p4, iv z3, iv 1, iv z4, iv z6, iv z8, iv z10, jv z12, .second, jv z15, .second, jv z18, .second, jv z21, .second, jv z24, .second, jv z27, .second, jv z34, .second, jv z42, .second, jv z50, .second, jv z58, .second, jv (z3.toInt64), .second, jv z60, .second, jv z61, .second, jv z62, .second, jv z63, .second, jv z64, .second, .unset, .unset, .unset, .unset, .unset] [(.long z62), (.long z61), (.long z60), (.int 1)]))
                    refine own_via (fun k => XS.lload X59.here hx rfl (hb hby at_326) rfl  (XS.lload X59.here hx rfl (hb hby at_328) rfl  k)) ?_
                    show own_Go p e below s _ _ (T59.setTop (mkF m 330 #[iv p0, jv q1, .second, iv p2, jv q3, .second, iv p4, iv z3, iv 1, iv z4, iv z6, iv z8, iv z10, jv z12, .second, jv z15, .second, jv z18, .second, jv z21, .second, jv z24, .second, jv z27, .second, jv z34, .second, jv z42, .second, jv z50, .second, jv z58, .second, jv (z3.toInt64), .second, jv z60, .second, jv z61, .second, jv z62, .second, jv z63, .second, jv z64, .second, .unset, .unset, .unset, .unset, .unset] [(.long z64), (.long z63), (.long z62), (.long z61), (.long z60), (.int 1)]))
                    obtain ⟨_, _, ⟨T161, L161, k161, n161⟩, -, X161, ⟨Lc161, hQ161, l161, y161, z161⟩, st161⟩ := Jvm.LawKit.callS X59 hx (y := (⟨"com/example/waveslot/waveslot/core/CheckerStepsRepeatedQuotientsPinLaw", "prefix", "(IJJJJJ)[J"⟩ : MethodName)) hown (mvT hZ (hw _ (List.mem_of_getElem? (i := 17) rfl))) (mvT hZ (hw _ (List.mem_of_getElem? (i := 18) rfl))) (mvT hZ (hw _ (List.mem_of_getElem? (i := 8) rfl))) (mvT hZ (hw _ (List.mem_of_getElem? (i := 19) rfl))) (by decide) (backOf (W := 0) (rm5_1 l Z aw hw [] z60 z61 z62 z63 z64 h0 n0 Z0) hZ (hw _ (List.mem_of_getElem? (i := 19) rfl)) (hw _ (List.mem_of_getElem? (i := 8) rfl)) (by decide) (by decide)) (g := (mkF m 330 #[iv p0, jv q1, .second, iv p2, jv q3, .second, iv p4, iv z3, iv 1, iv z4, iv z6, iv z8, iv z10, jv z12, .second, jv z15, .second, jv z18, .second, jv z21, .second, jv z24, .second, jv z27, .second, jv z34, .second, jv z42, .second, jv z50, .second, jv z58, .second, jv (z3.toInt64), .second, jv z60, .second, jv z61, .second, jv z62, .second, jv z63, .second, jv z64, .second, .unset, .unset, .unset, .unset, .unset] [(.long z64), (.long z63), (.long z62), (.long z61), (.long z60), (.int 1)])) rfl (by rw [hml]; rfl) (argsL := [(.int 1), (.long z60), (.long z61), (.long z62), (.long z63), (.long z64)]) (rest := []) (lenOf pd_4 rfl) rfl (by show 2 * 0 + _ ≤ _; exact Nat.le_of_eq rfl) (hb hby at_330) (fun _ _ => ⟨rfl, e59, (by decide : 0 + 1 ≤ _), (by decide : 0 + 1 ≤ _)⟩)
                    dsimp only [Pt.U, Pt.locs, Pt.cells, Pt.slots] at X161 l161 y161 z161 st161 hQ161
                    subst l161 y161 z161
                    obtain ⟨b_161, k_161, rfl, N161q, K161, B162, g163⟩ := hQ161
                    have N164 := Fr.app N59 N161q
                    have Z165 : n0 ≤ T161.heap.size := Nat.le_trans Z0 K161.1
                    have g166 : n0 ≤ b_161 := Nat.le_trans Z0 g163
                    refine own_via (fun k => st161 _ k) ?_
                    show own_Go p e below s _ _ (T161.setTop (mkF m 333 #[iv p0, jv q1, .second, iv p2, jv q3, .second, iv p4, iv z3, iv 1, iv z4, iv z6, iv z8, iv z10, jv z12, .second, jv z15, .second, jv z18, .second, jv z21, .second, jv z24, .second, jv z27, .second, jv z34, .second, jv z42, .second, jv z50, .second, jv z58, .second, jv (z3.toInt64), .second, jv z60, .second, jv z61, .second, jv z62, .second, jv z63, .second, jv z64, .second, .unset, .unset, .unset, .unset, .unset] [(.ref b_161)]))
                    refine own_via (fun k => XS.astore X161.here hx rfl (hb hby at_333) rfl rfl (l' := #[iv p0, jv q1, .second, iv p2, jv q3, .second, iv p4, iv z3, iv 1, iv z4, iv z6, iv z8, iv z10, jv z12, .second, jv z15, .second, jv z18, .second, jv z21, .second, jv z24, .second, jv z27, .second, jv z34, .second, jv z42, .second, jv z50, .second, jv z58, .second, jv (z3.toInt64), .second, jv z60, .second, jv z61, .second, jv z62, .second, jv z63, .second, jv z64, .second, rv b_161, .unset, .unset, .unset, .unset]) rfl (XS.iload X161.here hx rfl (hb hby at_335) rfl  k)) ?_
                    show own_Go p e below s _ _ (T161.setTop (mkF m 337 #[iv p0, jv q1, .second, iv p2, jv q3, .second, iv p4, iv z3, iv 1, iv z4, iv z6, iv z8, iv z10, jv z12, .second, jv z15, .second, jv z18, .second, jv z21, .second, jv z24, .second, jv z27, .second, jv z34, .second, jv z42, .second, jv z50, .second, jv z58, .second, jv (z3.toInt64), .second, jv z60, .second, jv z61, .second, jv z62, .second, jv z63, .second, jv z64, .second, rv b_161, .unset, .unset, .unset, .unset] [(.int 1)]))
                    refine own_via (fun k => XS.ifYes X161.here hx rfl (pc0 := 337) (pc' := 344) rfl (hb hby at_337) rfl (by decide) (by decide) (by decide) k) ?_
                    show own_Go p e below s _ _ (T161.setTop (mkF m 344 #[iv p0, jv q1, .second, iv p2, jv q3, .second, iv p4, iv z3, iv 1, iv z4, iv z6, iv z8, iv z10, jv z12, .second, jv z15, .second, jv z18, .second, jv z21, .second, jv z24, .second, jv z27, .second, jv z34, .second, jv z42, .second, jv z50, .second, jv z58, .second, jv (z3.toInt64), .second, jv z60, .second, jv z61, .second, jv z62, .second, jv z63, .second, jv z64, .second, rv b_161, .unset, .unset, .unset, .unset] []))
                    refine own_via (fun k => XS.iconst X161.here hx rfl (hb hby at_344) (XS.iload X161.here hx rfl (hb hby at_345) rfl  (XS.iconst X161.here hx rfl (hb hby at_347) (XS.isub X161.here hx rfl (hb hby at_348) rfl k)))) ?_
                    show own_Go p e below s _ _ (T161.setTop (mkF m 349 #[iv p0, jv q1, .second, iv p2, jv q3, .second, iv p4, iv z3, iv 1, iv z4, iv z6, iv z8, iv z10, jv z12, .second, jv z15, .second, jv z18, .second, jv z21, .second, jv z24, .second, jv z27, .second, jv z34, .second, jv z42, .second, jv z50, .second, jv z58, .second, jv (z3.toInt64), .second, jv z60, .second, jv z61, .second, jv z62, .second, jv z63, .second, jv z64, .second, rv b_161, .unset, .unset, .unset, .unset] [(.int 0), (.int 1)]))
                    refine own_via (fun k => XS.ishl X161.here hx rfl (hb hby at_349) rfl (XS.iconst X161.here hx rfl (hb hby at_350) (XS.isub X161.here hx rfl (hb hby at_351) rfl (XS.istore X161.here hx rfl (hb hby at_352) rfl (l' := #[iv p0, jv q1, .second, iv p2, jv q3, .second, iv p4, iv z3, iv 1, iv z4, iv z6, iv z8, iv z10, jv z12, .second, jv z15, .second, jv z18, .second, jv z21, .second, jv z24, .second, jv z27, .second, jv z34, .second, jv z42, .second, jv z50, .second, jv z58, .second, jv (z3.toInt64), .second, jv z60, .second, jv z61, .second, jv z62, .second, jv z63, .second, jv z64, .second, rv b_161, iv 0, .unset, .unset, .unset]) rfl k)))) ?_
                    show own_Go p e below s _ _ (T161.setTop (mkF m 354 #[iv p0, jv q1, .second, iv p2, jv q3, .second, iv p4, iv z3, iv 1, iv z4, iv z6, iv z8, iv z10, jv z12, .second, jv z15, .second, jv z18, .second, jv z21, .second, jv z24, .second, jv z27, .second, jv z34, .second, jv z42, .second, jv z50, .second, jv z58, .second, jv (z3.toInt64), .second, jv z60, .second, jv z61, .second, jv z62, .second, jv z63, .second, jv z64, .second, rv b_161, iv 0, .unset, .unset, .unset] []))
                    refine own_via (fun k => XS.bipush X161.here hx rfl (hb hby at_354) k) ?_
                    show own_Go p e below s _ _ (T161.setTop (mkF m 356 #[iv p0, jv q1, .second, iv p2, jv q3, .second, iv p4, iv z3, iv 1, iv z4, iv z6, iv z8, iv z10, jv z12, .second, jv z15, .second, jv z18, .second, jv z21, .second, jv z24, .second, jv z27, .second, jv z34, .second, jv z42, .second, jv z50, .second, jv z58, .second, jv (z3.toInt64), .second, jv z60, .second, jv z61, .second, jv z62, .second, jv z63, .second, jv z64, .second, rv b_161, iv 0, .unset, .unset, .unset] [(.int 16)]))
                    obtain ⟨T167, h167, k167, X167, e167, E167, A167, st167⟩ := newP X161 hx hZ (hw _ (List.mem_of_getElem? (i := 21) rfl)) rfl (g := (mkF m 356 #[iv p0, jv q1, .second, iv p2, jv q3, .second, iv p4, iv z3, iv 1, iv z4, iv z6, iv z8, iv z10, jv z12, .second, jv z15, .second, jv z18, .second, jv z21, .second, jv z24, .second, jv z27, .second, jv z34, .second, jv z42, .second, jv z50, .second, jv z58, .second, jv (z3.toInt64), .second, jv z60, .second, jv z61, .second, jv z62, .second, jv z63, .second, jv z64, .second, rv b_161, iv 0, .unset, .unset, .unset] [(.int 16)])) rfl (hb hby at_356) rfl (by decide) (cap := 16) (by decide) (by decide) (by decide) (by decide)
                    obtain ⟨b167, g167⟩ : ∃ z, z = T161.heap.size := ⟨_, rfl⟩
                    rw [← g167] at A167 st167
                    refine own_via (fun k => st167 _ k) ?_
                    show own_Go p e below s _ _ (T167.setTop (mkF m 358 #[iv p0, jv q1, .second, iv p2, jv q3, .second, iv p4, iv z3, iv 1, iv z4, iv z6, iv z8, iv z10, jv z12, .second, jv z15, .second, jv z18, .second, jv z21, .second, jv z24, .second, jv z27, .second, jv z34, .second, jv z42, .second, jv z50, .second, jv z58, .second, jv (z3.toInt64), .second, jv z60, .second, jv z61, .second, jv z62, .second, jv z63, .second, jv z64, .second, rv b_161, iv 0, .unset, .unset, .unset] [(.ref b167)]))
                    have g168 : n0 ≤ b167 := Nat.le_trans Z165 (Nat.le_of_eq g167.symm)
                    have ne169 : b_161 ≠ b167 := Nat.ne_of_lt (Nat.lt_of_lt_of_le B162.lt (Nat.le_of_eq g167.symm))
                    have B170 := B162.ext E167
                    have Z171 : n0 ≤ h167.size := Nat.le_trans Z165 E167.1
                    have B172 : Arv Z h167 b167 k167 .int (16 : Int32) [(.int 0), (.int 0), (.int 0), (.int 0), (.int 0), (.int 0), (.int 0), (.int 0), (.int 0), (.int 0), (.int 0), (.int 0), (.int 0), (.int 0), (.int 0), (.int 0)] (.int 0) := (Arv.new A167 (by decide)).pad (pad_rep [] (.int 0) 16)
                    refine own_via (fun k => XS.dup X167.here hx rfl (hb hby at_358) rfl rfl (XS.iconst X167.here hx rfl (hb hby at_359) (XS.iconst X167.here hx rfl (hb hby at_360) k))) ?_
                    show own_Go p e below s _ _ (T167.setTop (mkF m 361 #[iv p0, jv q1, .second, iv p2, jv q3, .second, iv p4, iv z3, iv 1, iv z4, iv z6, iv z8, iv z10, jv z12, .second, jv z15, .second, jv z18, .second, jv z21, .second, jv z24, .second, jv z27, .second, jv z34, .second, jv z42, .second, jv z50, .second, jv z58, .second, jv (z3.toInt64), .second, jv z60, .second, jv z61, .second, jv z62, .second, jv z63, .second, jv z64, .second, rv b_161, iv 0, .unset, .unset, .unset] [(.int 0), (.int 0), (.ref b167), (.ref b167)]))
                    obtain ⟨cl173, Ar173, q173, S173, NN173, H173, G173⟩ := id B172
                    have hin173 : ¬ ((0 : Int32) < 0 ∨ cl173.slots.size ≤ ((0 : Int32)).toNatClampNeg) := inb_of S173 ⟨by decide, by decide⟩
                    obtain ⟨T173, h173, X173, e173, W173, st173⟩ := stI X167 hx hZ e167 Ar173 (j := (0 : Int32)) hin173 (g := (mkF m 361 #[iv p0, jv q1, .second, iv p2, jv q3, .second, iv p4, iv z3, iv 1, iv z4, iv z6, iv z8, iv z10, jv z12, .second, jv z15, .second, jv z18, .second, jv z21, .second, jv z24, .second, jv z27, .second, jv z34, .second, jv z42, .second, jv z50, .second, jv z58, .second, jv (z3.toInt64), .second, jv z60, .second, jv z61, .second, jv z62, .second, jv z63, .second, jv z64, .second, rv b_161, iv 0, .unset, .unset, .unset] [(.int 0), (.int 0), (.ref b167), (.ref b167)])) rfl rfl (hb hby at_361)
                    refine own_via (fun k => st173 _ k) ?_
                    show own_Go p e below s _ _ (T173.setTop (mkF m 362 #[iv p0, jv q1, .second, iv p2, jv q3, .second, iv p4, iv z3, iv 1, iv z4, iv z6, iv z8, iv z10, jv z12, .second, jv z15, .second, jv z18, .second, jv z21, .second, jv z24, .second, jv z27, .second, jv z34, .second, jv z42, .second, jv z50, .second, jv z58, .second, jv (z3.toInt64), .second, jv z60, .second, jv z61, .second, jv z62, .second, jv z63, .second, jv z64, .second, rv b_161, iv 0, .unset, .unset, .unset] [(.ref b167)]))
                    have B174 := B170.other W173 ne169
                    have B175 : Arv Z h173 b167 k167 .int (16 : Int32) [(.int 0), (.int 0), (.int 0), (.int 0), (.int 0), (.int 0), (.int 0), (.int 0), (.int 0), (.int 0), (.int 0), (.int 0), (.int 0), (.int 0), (.int 0), (.int 0)] (.int 0) := Arv.set Ar173 q173 S173 NN173 H173 G173 rfl W173 0 rfl (Nat.le_of_ble_eq_true rfl)
                    have N176 := Fr.snoc X173 N164 g168
                    have Z177 : n0 ≤ h173.size := Nat.le_trans Z171 (Keep.of_wr W173).1
                    refine own_via (fun k => XS.dup X173.here hx rfl (hb hby at_362) rfl rfl (XS.iconst X173.here hx rfl (hb hby at_363) (XS.iconst X173.here hx rfl (hb hby at_364) k))) ?_
                    show own_Go p e below s _ _ (T173.setTop (mkF m 365 #[iv p0, jv q1, .second, iv p2, jv q3, .second, iv p4, iv z3, iv 1, iv z4, iv z6, iv z8, iv z10, jv z12, .second, jv z15, .second, jv z18, .second, jv z21, .second, jv z24, .second, jv z27, .second, jv z34, .second, jv z42, .second, jv z50, .second, jv z58, .second, jv (z3.toInt64), .second, jv z60, .second, jv z61, .second, jv z62, .second, jv z63, .second, jv z64, .second, rv b_161, iv 0, .unset, .unset, .unset] [(.int 1), (.int 1), (.ref b167), (.ref b167)]))
                    obtain ⟨cl178, Ar178, q178, S178, NN178, H178, G178⟩ := id B175
                    have hin178 : ¬ ((1 : Int32) < 0 ∨ cl178.slots.size ≤ ((1 : Int32)).toNatClampNeg) := inb_of S178 ⟨by decide, by decide⟩
                    obtain ⟨T178, h178, X178, e178, W178, st178⟩ := stI X173 hx hZ e173 Ar178 (j := (1 : Int32)) hin178 (g := (mkF m 365 #[iv p0, jv q1, .second, iv p2, jv q3, .second, iv p4, iv z3, iv 1, iv z4, iv z6, iv z8, iv z10, jv z12, .second, jv z15, .second, jv z18, .second, jv z21, .second, jv z24, .second, jv z27, .second, jv z34, .second, jv z42, .second, jv z50, .second, jv z58, .second, jv (z3.toInt64), .second, jv z60, .second, jv z61, .second, jv z62, .second, jv z63, .second, jv z64, .second, rv b_161, iv 0, .unset, .unset, .unset] [(.int 1), (.int 1), (.ref b167), (.ref b167)])) rfl rfl (hb hby at_365)
                    refine own_via (fun k => st178 _ k) ?_
                    show own_Go p e below s _ _ (T178.setTop (mkF m 366 #[iv p0, jv q1, .second, iv p2, jv q3, .second, iv p4, iv z3, iv 1, iv z4, iv z6, iv z8, iv z10, jv z12, .second, jv z15, .second, jv z18, .second, jv z21, .second, jv z24, .second, jv z27, .second, jv z34, .second, jv z42, .second, jv z50, .second, jv z58, .second, jv (z3.toInt64), .second, jv z60, .second, jv z61, .second, jv z62, .second, jv z63, .second, jv z64, .second, rv b_161, iv 0, .unset, .unset, .unset] [(.ref b167)]))
                    have B179 := B174.other W178 ne169
                    have B180 : Arv Z h178 b167 k167 .int (16 : Int32) [(.int 0), (.int 1), (.int 0), (.int 0), (.int 0), (.int 0), (.int 0), (.int 0), (.int 0), (.int 0), (.int 0), (.int 0), (.int 0), (.int 0), (.int 0), (.int 0)] (.int 0) := Arv.set Ar178 q178 S178 NN178 H178 G178 rfl W178 1 rfl (Nat.le_of_ble_eq_true rfl)
                    have N181 := Fr.snoc X178 N176 g168
                    have Z182 : n0 ≤ h178.size := Nat.le_trans Z177 (Keep.of_wr W178).1
                    refine own_via (fun k => XS.dup X178.here hx rfl (hb hby at_366) rfl rfl (XS.iconst X178.here hx rfl (hb hby at_367) (XS.iconst X178.here hx rfl (hb hby at_368) k))) ?_
                    show own_Go p e below s _ _ (T178.setTop (mkF m 369 #[iv p0, jv q1, .second, iv p2, jv q3, .second, iv p4, iv z3, iv 1, iv z4, iv z6, iv z8, iv z10, jv z12, .second, jv z15, .second, jv z18, .second, jv z21, .second, jv z24, .second, jv z27, .second, jv z34, .second, jv z42, .second, jv z50, .second, jv z58, .second, jv (z3.toInt64), .second, jv z60, .second, jv z61, .second, jv z62, .second, jv z63, .second, jv z64, .second, rv b_161, iv 0, .unset, .unset, .unset] [(.int 1), (.int 2), (.ref b167), (.ref b167)]))
                    obtain ⟨cl183, Ar183, q183, S183, NN183, H183, G183⟩ := id B180
                    have hin183 : ¬ ((2 : Int32) < 0 ∨ cl183.slots.size ≤ ((2 : Int32)).toNatClampNeg) := inb_of S183 ⟨by decide, by decide⟩
                    obtain ⟨T183, h183, X183, e183, W183, st183⟩ := stI X178 hx hZ e178 Ar183 (j := (2 : Int32)) hin183 (g := (mkF m 369 #[iv p0, jv q1, .second, iv p2, jv q3, .second, iv p4, iv z3, iv 1, iv z4, iv z6, iv z8, iv z10, jv z12, .second, jv z15, .second, jv z18, .second, jv z21, .second, jv z24, .second, jv z27, .second, jv z34, .second, jv z42, .second, jv z50, .second, jv z58, .second, jv (z3.toInt64), .second, jv z60, .second, jv z61, .second, jv z62, .second, jv z63, .second, jv z64, .second, rv b_161, iv 0, .unset, .unset, .unset] [(.int 1), (.int 2), (.ref b167), (.ref b167)])) rfl rfl (hb hby at_369)
                    refine own_via (fun k => st183 _ k) ?_
                    show own_Go p e below s _ _ (T183.setTop (mkF m 370 #[iv p0, jv q1, .second, iv p2, jv q3, .second, iv p4, iv z3, iv 1, iv z4, iv z6, iv z8, iv z10, jv z12, .second, jv z15, .second, jv z18, .second, jv z21, .second, jv z24, .second, jv z27, .second, jv z34, .second, jv z42, .second, jv z50, .second, jv z58, .second, jv (z3.toInt64), .second, jv z60, .second, jv z61, .second, jv z62, .second, jv z63, .second, jv z64, .second, rv b_161, iv 0, .unset, .unset, .unset] [(.ref b167)]))
                    have B184 := B179.other W183 ne169
                    have B185 : Arv Z h183 b167 k167 .int (16 : Int32) [(.int 0), (.int 1), (.int 1), (.int 0), (.int 0), (.int 0), (.int 0), (.int 0), (.int 0), (.int 0), (.int 0), (.int 0), (.int 0), (.int 0), (.int 0), (.int 0)] (.int 0) := Arv.set Ar183 q183 S183 NN183 H183 G183 rfl W183 2 rfl (Nat.le_of_ble_eq_true rfl)
                    have N186 := Fr.snoc X183 N181 g168
                    have Z187 : n0 ≤ h183.size := Nat.le_trans Z182 (Keep.of_wr W183).1
                    refine own_via (fun k => XS.dup X183.here hx rfl (hb hby at_370) rfl rfl (XS.iconst X183.here hx rfl (hb hby at_371) (XS.iconst X183.here hx rfl (hb hby at_372) k))) ?_
                    show own_Go p e below s _ _ (T183.setTop (mkF m 373 #[iv p0, jv q1, .second, iv p2, jv q3, .second, iv p4, iv z3, iv 1, iv z4, iv z6, iv z8, iv z10, jv z12, .second, jv z15, .second, jv z18, .second, jv z21, .second, jv z24, .second, jv z27, .second, jv z34, .second, jv z42, .second, jv z50, .second, jv z58, .second, jv (z3.toInt64), .second, jv z60, .second, jv z61, .second, jv z62, .second, jv z63, .second, jv z64, .second, rv b_161, iv 0, .unset, .unset, .unset] [(.int 1), (.int 3), (.ref b167), (.ref b167)]))
                    obtain ⟨cl188, Ar188, q188, S188, NN188, H188, G188⟩ := id B185
                    have hin188 : ¬ ((3 : Int32) < 0 ∨ cl188.slots.size ≤ ((3 : Int32)).toNatClampNeg) := inb_of S188 ⟨by decide, by decide⟩
                    obtain ⟨T188, h188, X188, e188, W188, st188⟩ := stI X183 hx hZ e183 Ar188 (j := (3 : Int32)) hin188 (g := (mkF m 373 #[iv p0, jv q1, .second, iv p2, jv q3, .second, iv p4, iv z3, iv 1, iv z4, iv z6, iv z8, iv z10, jv z12, .second, jv z15, .second, jv z18, .second, jv z21, .second, jv z24, .second, jv z27, .second, jv z34, .second, jv z42, .second, jv z50, .second, jv z58, .second, jv (z3.toInt64), .second, jv z60, .second, jv z61, .second, jv z62, .second, jv z63, .second, jv z64, .second, rv b_161, iv 0, .unset, .unset, .unset] [(.int 1), (.int 3), (.ref b167), (.ref b167)])) rfl rfl (hb hby at_373)
                    refine own_via (fun k => st188 _ k) ?_
                    show own_Go p e below s _ _ (T188.setTop (mkF m 374 #[iv p0, jv q1, .second, iv p2, jv q3, .second, iv p4, iv z3, iv 1, iv z4, iv z6, iv z8, iv z10, jv z12, .second, jv z15, .second, jv z18, .second, jv z21, .second, jv z24, .second, jv z27, .second, jv z34, .second, jv z42, .second, jv z50, .second, jv z58, .second, jv (z3.toInt64), .second, jv z60, .second, jv z61, .second, jv z62, .second, jv z63, .second, jv z64, .second, rv b_161, iv 0, .unset, .unset, .unset] [(.ref b167)]))
                    have B189 := B184.other W188 ne169
                    have B190 : Arv Z h188 b167 k167 .int (16 : Int32) [(.int 0), (.int 1), (.int 1), (.int 1), (.int 0), (.int 0), (.int 0), (.int 0), (.int 0), (.int 0), (.int 0), (.int 0), (.int 0), (.int 0), (.int 0), (.int 0)] (.int 0) := Arv.set Ar188 q188 S188 NN188 H188 G188 rfl W188 3 rfl (Nat.le_of_ble_eq_true rfl)
                    have N191 := Fr.snoc X188 N186 g168
                    have Z192 : n0 ≤ h188.size := Nat.le_trans Z187 (Keep.of_wr W188).1
                    refine own_via (fun k => XS.dup X188.here hx rfl (hb hby at_374) rfl rfl (XS.iconst X188.here hx rfl (hb hby at_375) (XS.iconst X188.here hx rfl (hb hby at_376) k))) ?_
                    show own_Go p e below s _ _ (T188.setTop (mkF m 377 #[iv p0, jv q1, .second, iv p2, jv q3, .second, iv p4, iv z3, iv 1, iv z4, iv z6, iv z8, iv z10, jv z12, .second, jv z15, .second, jv z18, .second, jv z21, .second, jv z24, .second, jv z27, .second, jv z34, .second, jv z42, .second, jv z50, .second, jv z58, .second, jv (z3.toInt64), .second, jv z60, .second, jv z61, .second, jv z62, .second, jv z63, .second, jv z64, .second, rv b_161, iv 0, .unset, .unset, .unset] [(.int 1), (.int 4), (.ref b167), (.ref b167)]))
                    obtain ⟨cl193, Ar193, q193, S193, NN193, H193, G193⟩ := id B190
                    have hin193 : ¬ ((4 : Int32) < 0 ∨ cl193.slots.size ≤ ((4 : Int32)).toNatClampNeg) := inb_of S193 ⟨by decide, by decide⟩
                    obtain ⟨T193, h193, X193, e193, W193, st193⟩ := stI X188 hx hZ e188 Ar193 (j := (4 : Int32)) hin193 (g := (mkF m 377 #[iv p0, jv q1, .second, iv p2, jv q3, .second, iv p4, iv z3, iv 1, iv z4, iv z6, iv z8, iv z10, jv z12, .second, jv z15, .second, jv z18, .second, jv z21, .second, jv z24, .second, jv z27, .second, jv z34, .second, jv z42, .second, jv z50, .second, jv z58, .second, jv (z3.toInt64), .second, jv z60, .second, jv z61, .second, jv z62, .second, jv z63, .second, jv z64, .second, rv b_161, iv 0, .unset, .unset, .unset] [(.int 1), (.int 4), (.ref b167), (.ref b167)])) rfl rfl (hb hby at_377)
                    refine own_via (fun k => st193 _ k) ?_
                    show own_Go p e below s _ _ (T193.setTop (mkF m 378 #[iv p0, jv q1, .second, iv p2, jv q3, .second, iv p4, iv z3, iv 1, iv z4, iv z6, iv z8, iv z10, jv z12, .second, jv z15, .second, jv z18, .second, jv z21, .second, jv z24, .second, jv z27, .second, jv z34, .second, jv z42, .second, jv z50, .second, jv z58, .second, jv (z3.toInt64), .second, jv z60, .second, jv z61, .second, jv z62, .second, jv z63, .second, jv z64, .second, rv b_161, iv 0, .unset, .unset, .unset] [(.ref b167)]))
                    have B194 := B189.other W193 ne169
                    have B195 : Arv Z h193 b167 k167 .int (16 : Int32) [(.int 0), (.int 1), (.int 1), (.int 1), (.int 1), (.int 0), (.int 0), (.int 0), (.int 0), (.int 0), (.int 0), (.int 0), (.int 0), (.int 0), (.int 0), (.int 0)] (.int 0) := Arv.set Ar193 q193 S193 NN193 H193 G193 rfl W193 4 rfl (Nat.le_of_ble_eq_true rfl)
                    have N196 := Fr.snoc X193 N191 g168
                    have Z197 : n0 ≤ h193.size := Nat.le_trans Z192 (Keep.of_wr W193).1
                    refine own_via (fun k => XS.dup X193.here hx rfl (hb hby at_378) rfl rfl (XS.iconst X193.here hx rfl (hb hby at_379) (XS.iconst X193.here hx rfl (hb hby at_380) k))) ?_
                    show own_Go p e below s _ _ (T193.setTop (mkF m 381 #[iv p0, jv q1, .second, iv p2, jv q3, .second, iv p4, iv z3, iv 1, iv z4, iv z6, iv z8, iv z10, jv z12, .second, jv z15, .second, jv z18, .second, jv z21, .second, jv z24, .second, jv z27, .second, jv z34, .second, jv z42, .second, jv z50, .second, jv z58, .second, jv (z3.toInt64), .second, jv z60, .second, jv z61, .second, jv z62, .second, jv z63, .second, jv z64, .second, rv b_161, iv 0, .unset, .unset, .unset] [(.int 2), (.int 5), (.ref b167), (.ref b167)]))
                    obtain ⟨cl198, Ar198, q198, S198, NN198, H198, G198⟩ := id B195
                    have hin198 : ¬ ((5 : Int32) < 0 ∨ cl198.slots.size ≤ ((5 : Int32)).toNatClampNeg) := inb_of S198 ⟨by decide, by decide⟩
                    obtain ⟨T198, h198, X198, e198, W198, st198⟩ := stI X193 hx hZ e193 Ar198 (j := (5 : Int32)) hin198 (g := (mkF m 381 #[iv p0, jv q1, .second, iv p2, jv q3, .second, iv p4, iv z3, iv 1, iv z4, iv z6, iv z8, iv z10, jv z12, .second, jv z15, .second, jv z18, .second, jv z21, .second, jv z24, .second, jv z27, .second, jv z34, .second, jv z42, .second, jv z50, .second, jv z58, .second, jv (z3.toInt64), .second, jv z60, .second, jv z61, .second, jv z62, .second, jv z63, .second, jv z64, .second, rv b_161, iv 0, .unset, .unset, .unset] [(.int 2), (.int 5), (.ref b167), (.ref b167)])) rfl rfl (hb hby at_381)
                    refine own_via (fun k => st198 _ k) ?_
                    show own_Go p e below s _ _ (T198.setTop (mkF m 382 #[iv p0, jv q1, .second, iv p2, jv q3, .second, iv p4, iv z3, iv 1, iv z4, iv z6, iv z8, iv z10, jv z12, .second, jv z15, .second, jv z18, .second, jv z21, .second, jv z24, .second, jv z27, .second, jv z34, .second, jv z42, .second, jv z50, .second, jv z58, .second, jv (z3.toInt64), .second, jv z60, .second, jv z61, .second, jv z62, .second, jv z63, .second, jv z64, .second, rv b_161, iv 0, .unset, .unset, .unset] [(.ref b167)]))
                    have B199 := B194.other W198 ne169
                    have B200 : Arv Z h198 b167 k167 .int (16 : Int32) [(.int 0), (.int 1), (.int 1), (.int 1), (.int 1), (.int 2), (.int 0), (.int 0), (.int 0), (.int 0), (.int 0), (.int 0), (.int 0), (.int 0), (.int 0), (.int 0)] (.int 0) := Arv.set Ar198 q198 S198 NN198 H198 G198 rfl W198 5 rfl (Nat.le_of_ble_eq_true rfl)
                    have N201 := Fr.snoc X198 N196 g168
                    have Z202 : n0 ≤ h198.size := Nat.le_trans Z197 (Keep.of_wr W198).1
                    refine own_via (fun k => XS.dup X198.here hx rfl (hb hby at_382) rfl rfl (XS.bipush X198.here hx rfl (hb hby at_383) (XS.iconst X198.here hx rfl (hb hby at_385) k))) ?_
                    show own_Go p e below s _ _ (T198.setTop (mkF m 386 #[iv p0, jv q1, .second, iv p2, jv q3, .second, iv p4, iv z3, iv 1, iv z4, iv z6, iv z8, iv z10, jv z12, .second, jv z15, .second, jv z18, .second, jv z21, .second, jv z24, .second, jv z27, .second, jv z34, .second, jv z42, .second, jv z50, .second, jv z58, .second, jv (z3.toInt64), .second, jv z60, .second, jv z61, .second, jv z62, .second, jv z63, .second, jv z64, .second, rv b_161, iv 0, .unset, .unset, .unset] [(.int 1), (.int 6), (.ref b167), (.ref b167)]))
                    obtain ⟨cl203, Ar203, q203, S203, NN203, H203, G203⟩ := id B200
                    have hin203 : ¬ ((6 : Int32) < 0 ∨ cl203.slots.size ≤ ((6 : Int32)).toNatClampNeg) := inb_of S203 ⟨by decide, by decide⟩
                    obtain ⟨T203, h203, X203, e203, W203, st203⟩ := stI X198 hx hZ e198 Ar203 (j := (6 : Int32)) hin203 (g := (mkF m 386 #[iv p0, jv q1, .second, iv p2, jv q3, .second, iv p4, iv z3, iv 1, iv z4, iv z6, iv z8, iv z10, jv z12, .second, jv z15, .second, jv z18, .second, jv z21, .second, jv z24, .second, jv z27, .second, jv z34, .second, jv z42, .second, jv z50, .second, jv z58, .second, jv (z3.toInt64), .second, jv z60, .second, jv z61, .second, jv z62, .second, jv z63, .second, jv z64, .second, rv b_161, iv 0, .unset, .unset, .unset] [(.int 1), (.int 6), (.ref b167), (.ref b167)])) rfl rfl (hb hby at_386)
                    refine own_via (fun k => st203 _ k) ?_
                    show own_Go p e below s _ _ (T203.setTop (mkF m 387 #[iv p0, jv q1, .second, iv p2, jv q3, .second, iv p4, iv z3, iv 1, iv z4, iv z6, iv z8, iv z10, jv z12, .second, jv z15, .second, jv z18, .second, jv z21, .second, jv z24, .second, jv z27, .second, jv z34, .second, jv z42, .second, jv z50, .second, jv z58, .second, jv (z3.toInt64), .second, jv z60, .second, jv z61, .second, jv z62, .second, jv z63, .second, jv z64, .second, rv b_161, iv 0, .unset, .unset, .unset] [(.ref b167)]))
                    have B204 := B199.other W203 ne169
                    have B205 : Arv Z h203 b167 k167 .int (16 : Int32) [(.int 0), (.int 1), (.int 1), (.int 1), (.int 1), (.int 2), (.int 1), (.int 0), (.int 0), (.int 0), (.int 0), (.int 0), (.int 0), (.int 0), (.int 0), (.int 0)] (.int 0) := Arv.set Ar203 q203 S203 NN203 H203 G203 rfl W203 6 rfl (Nat.le_of_ble_eq_true rfl)
                    have N206 := Fr.snoc X203 N201 g168
                    have Z207 : n0 ≤ h203.size := Nat.le_trans Z202 (Keep.of_wr W203).1
                    refine own_via (fun k => XS.dup X203.here hx rfl (hb hby at_387) rfl rfl (XS.bipush X203.here hx rfl (hb hby at_388) (XS.iconst X203.here hx rfl (hb hby at_390) k))) ?_
                    show own_Go p e below s _ _ (T203.setTop (mkF m 391 #[iv p0, jv q1, .second, iv p2, jv q3, .second, iv p4, iv z3, iv 1, iv z4, iv z6, iv z8, iv z10, jv z12, .second, jv z15, .second, jv z18, .second, jv z21, .second, jv z24, .second, jv z27, .second, jv z34, .second, jv z42, .second, jv z50, .second, jv z58, .second, jv (z3.toInt64), .second, jv z60, .second, jv z61, .second, jv z62, .second, jv z63, .second, jv z64, .second, rv b_161, iv 0, .unset, .unset, .unset] [(.int 1), (.int 7), (.ref b167), (.ref b167)]))
                    obtain ⟨cl208, Ar208, q208, S208, NN208, H208, G208⟩ := id B205
                    have hin208 : ¬ ((7 : Int32) < 0 ∨ cl208.slots.size ≤ ((7 : Int32)).toNatClampNeg) := inb_of S208 ⟨by decide, by decide⟩
                    obtain ⟨T208, h208, X208, e208, W208, st208⟩ := stI X203 hx hZ e203 Ar208 (j := (7 : Int32)) hin208 (g := (mkF m 391 #[iv p0, jv q1, .second, iv p2, jv q3, .second, iv p4, iv z3, iv 1, iv z4, iv z6, iv z8, iv z10, jv z12, .second, jv z15, .second, jv z18, .second, jv z21, .second, jv z24, .second, jv z27, .second, jv z34, .second, jv z42, .second, jv z50, .second, jv z58, .second, jv (z3.toInt64), .second, jv z60, .second, jv z61, .second, jv z62, .second, jv z63, .second, jv z64, .second, rv b_161, iv 0, .unset, .unset, .unset] [(.int 1), (.int 7), (.ref b167), (.ref b167)])) rfl rfl (hb hby at_391)
                    refine own_via (fun k => st208 _ k) ?_
                    show own_Go p e below s _ _ (T208.setTop (mkF m 392 #[iv p0, jv q1, .second, iv p2, jv q3, .second, iv p4, iv z3, iv 1, iv z4, iv z6, iv z8, iv z10, jv z12, .second, jv z15, .second, jv z18, .second, jv z21, .second, jv z24, .second, jv z27, .second, jv z34, .second, jv z42, .second, jv z50, .second, jv z58, .second, jv (z3.toInt64), .second, jv z60, .second, jv z61, .second, jv z62, .second, jv z63, .second, jv z64, .second, rv b_161, iv 0, .unset, .unset, .unset] [(.ref b167)]))
                    have B209 := B204.other W208 ne169
                    have B210 : Arv Z h208 b167 k167 .int (16 : Int32) [(.int 0), (.int 1), (.int 1), (.int 1), (.int 1), (.int 2), (.int 1), (.int 1), (.int 0), (.int 0), (.int 0), (.int 0), (.int 0), (.int 0), (.int 0), (.int 0)] (.int 0) := Arv.set Ar208 q208 S208 NN208 H208 G208 rfl W208 7 rfl (Nat.le_of_ble_eq_true rfl)
                    have N211 := Fr.snoc X208 N206 g168
                    have Z212 : n0 ≤ h208.size := Nat.le_trans Z207 (Keep.of_wr W208).1
                    refine own_via (fun k => XS.dup X208.here hx rfl (hb hby at_392) rfl rfl (XS.bipush X208.here hx rfl (hb hby at_393) (XS.iconst X208.here hx rfl (hb hby at_395) k))) ?_
                    show own_Go p e below s _ _ (T208.setTop (mkF m 396 #[iv p0, jv q1, .second, iv p2, jv q3, .second, iv p4, iv z3, iv 1, iv z4, iv z6, iv z8, iv z10, jv z12, .second, jv z15, .second, jv z18, .second, jv z21, .second, jv z24, .second, jv z27, .second, jv z34, .second, jv z42, .second, jv z50, .second, jv z58, .second, jv (z3.toInt64), .second, jv z60, .second, jv z61, .second, jv z62, .second, jv z63, .second, jv z64, .second, rv b_161, iv 0, .unset, .unset, .unset] [(.int 1), (.int 8), (.ref b167), (.ref b167)]))
                    obtain ⟨cl213, Ar213, q213, S213, NN213, H213, G213⟩ := id B210
                    have hin213 : ¬ ((8 : Int32) < 0 ∨ cl213.slots.size ≤ ((8 : Int32)).toNatClampNeg) := inb_of S213 ⟨by decide, by decide⟩
                    obtain ⟨T213, h213, X213, e213, W213, st213⟩ := stI X208 hx hZ e208 Ar213 (j := (8 : Int32)) hin213 (g := (mkF m 396 #[iv p0, jv q1, .second, iv p2, jv q3, .second, iv p4, iv z3, iv 1, iv z4, iv z6, iv z8, iv z10, jv z12, .second, jv z15, .second, jv z18, .second, jv z21, .second, jv z24, .second, jv z27, .second, jv z34, .second, jv z42, .second, jv z50, .second, jv z58, .second, jv (z3.toInt64), .second, jv z60, .second, jv z61, .second, jv z62, .second, jv z63, .second, jv z64, .second, rv b_161, iv 0, .unset, .unset, .unset] [(.int 1), (.int 8), (.ref b167), (.ref b167)])) rfl rfl (hb hby at_396)
                    refine own_via (fun k => st213 _ k) ?_
                    show own_Go p e below s _ _ (T213.setTop (mkF m 397 #[iv p0, jv q1, .second, iv p2, jv q3, .second, iv p4, iv z3, iv 1, iv z4, iv z6, iv z8, iv z10, jv z12, .second, jv z15, .second, jv z18, .second, jv z21, .second, jv z24, .second, jv z27, .second, jv z34, .second, jv z42, .second, jv z50, .second, jv z58, .second, jv (z3.toInt64), .second, jv z60, .second, jv z61, .second, jv z62, .second, jv z63, .second, jv z64, .second, rv b_161, iv 0, .unset, .unset, .unset] [(.ref b167)]))
                    have B214 := B209.other W213 ne169
                    have B215 : Arv Z h213 b167 k167 .int (16 : Int32) [(.int 0), (.int 1), (.int 1), (.int 1), (.int 1), (.int 2), (.int 1), (.int 1), (.int 1), (.int 0), (.int 0), (.int 0), (.int 0), (.int 0), (.int 0), (.int 0)] (.int 0) := Arv.set Ar213 q213 S213 NN213 H213 G213 rfl W213 8 rfl (Nat.le_of_ble_eq_true rfl)
                    have N216 := Fr.snoc X213 N211 g168
                    have Z217 : n0 ≤ h213.size := Nat.le_trans Z212 (Keep.of_wr W213).1
                    refine own_via (fun k => XS.dup X213.here hx rfl (hb hby at_397) rfl rfl (XS.bipush X213.here hx rfl (hb hby at_398) (XS.iconst X213.here hx rfl (hb hby at_400) k))) ?_
                    show own_Go p e below s _ _ (T213.setTop (mkF m 401 #[iv p0, jv q1, .second, iv p2, jv q3, .second, iv p4, iv z3, iv 1, iv z4, iv z6, iv z8, iv z10, jv z12, .second, jv z15, .second, jv z18, .second, jv z21, .second, jv z24, .second, jv z27, .second, jv z34, .second, jv z42, .second, jv z50, .second, jv z58, .second, jv (z3.toInt64), .second, jv z60, .second, jv z61, .second, jv z62, .second, jv z63, .second, jv z64, .second, rv b_161, iv 0, .unset, .unset, .unset] [(.int 2), (.int 9), (.ref b167), (.ref b167)]))
                    obtain ⟨cl218, Ar218, q218, S218, NN218, H218, G218⟩ := id B215
                    have hin218 : ¬ ((9 : Int32) < 0 ∨ cl218.slots.size ≤ ((9 : Int32)).toNatClampNeg) := inb_of S218 ⟨by decide, by decide⟩
                    obtain ⟨T218, h218, X218, e218, W218, st218⟩ := stI X213 hx hZ e213 Ar218 (j := (9 : Int32)) hin218 (g := (mkF m 401 #[iv p0, jv q1, .second, iv p2, jv q3, .second, iv p4, iv z3, iv 1, iv z4, iv z6, iv z8, iv z10, jv z12, .second, jv z15, .second, jv z18, .second, jv z21, .second, jv z24, .second, jv z27, .second, jv z34, .second, jv z42, .second, jv z50, .second, jv z58, .second, jv (z3.toInt64), .second, jv z60, .second, jv z61, .second, jv z62, .second, jv z63, .second, jv z64, .second, rv b_161, iv 0, .unset, .unset, .unset] [(.int 2), (.int 9), (.ref b167), (.ref b167)])) rfl rfl (hb hby at_401)
                    refine own_via (fun k => st218 _ k) ?_
                    show own_Go p e below s _ _ (T218.setTop (mkF m 402 #[iv p0, jv q1, .second, iv p2, jv q3, .second, iv p4, iv z3, iv 1, iv z4, iv z6, iv z8, iv z10, jv z12, .second, jv z15, .second, jv z18, .second, jv z21, .second, jv z24, .second, jv z27, .second, jv z34, .second, jv z42, .second, jv z50, .second, jv z58, .second, jv (z3.toInt64), .second, jv z60, .second, jv z61, .second, jv z62, .second, jv z63, .second, jv z64, .second, rv b_161, iv 0, .unset, .unset, .unset] [(.ref b167)]))
                    have B219 := B214.other W218 ne169
                    have B220 : Arv Z h218 b167 k167 .int (16 : Int32) [(.int 0), (.int 1), (.int 1), (.int 1), (.int 1), (.int 2), (.int 1), (.int 1), (.int 1), (.int 2), (.int 0), (.int 0), (.int 0), (.int 0), (.int 0), (.int 0)] (.int 0) := Arv.set Ar218 q218 S218 NN218 H218 G218 rfl W218 9 rfl (Nat.le_of_ble_eq_true rfl)
                    have N221 := Fr.snoc X218 N216 g168
                    have Z222 : n0 ≤ h218.size := Nat.le_trans Z217 (Keep.of_wr W218).1
                    refine own_via (fun k => XS.dup X218.here hx rfl (hb hby at_402) rfl rfl (XS.bipush X218.here hx rfl (hb hby at_403) (XS.iconst X218.here hx rfl (hb hby at_405) k))) ?_
                    show own_Go p e below s _ _ (T218.setTop (mkF m 406 #[iv p0, jv q1, .second, iv p2, jv q3, .second, iv p4, iv z3, iv 1, iv z4, iv z6, iv z8, iv z10, jv z12, .second, jv z15, .second, jv z18, .second, jv z21, .second, jv z24, .second, jv z27, .second, jv z34, .second, jv z42, .second, jv z50, .second, jv z58, .second, jv (z3.toInt64), .second, jv z60, .second, jv z61, .second, jv z62, .second, jv z63, .second, jv z64, .second, rv b_161, iv 0, .unset, .unset, .unset] [(.int 2), (.int 10), (.ref b167), (.ref b167)]))
                    obtain ⟨cl223, Ar223, q223, S223, NN223, H223, G223⟩ := id B220
                    have hin223 : ¬ ((10 : Int32) < 0 ∨ cl223.slots.size ≤ ((10 : Int32)).toNatClampNeg) := inb_of S223 ⟨by decide, by decide⟩
                    obtain ⟨T223, h223, X223, e223, W223, st223⟩ := stI X218 hx hZ e218 Ar223 (j := (10 : Int32)) hin223 (g := (mkF m 406 #[iv p0, jv q1, .second, iv p2, jv q3, .second, iv p4, iv z3, iv 1, iv z4, iv z6, iv z8, iv z10, jv z12, .second, jv z15, .second, jv z18, .second, jv z21, .second, jv z24, .second, jv z27, .second, jv z34, .second, jv z42, .second, jv z50, .second, jv z58, .second, jv (z3.toInt64), .second, jv z60, .second, jv z61, .second, jv z62, .second, jv z63, .second, jv z64, .second, rv b_161, iv 0, .unset, .unset, .unset] [(.int 2), (.int 10), (.ref b167), (.ref b167)])) rfl rfl (hb hby at_406)
                    refine own_via (fun k => st223 _ k) ?_
                    show own_Go p e below s _ _ (T223.setTop (mkF m 407 #[iv p0, jv q1, .second, iv p2, jv q3, .second, iv p4, iv z3, iv 1, iv z4, iv z6, iv z8, iv z10, jv z12, .second, jv z15, .second, jv z18, .second, jv z21, .second, jv z24, .second, jv z27, .second, jv z34, .second, jv z42, .second, jv z50, .second, jv z58, .second, jv (z3.toInt64), .second, jv z60, .second, jv z61, .second, jv z62, .second, jv z63, .second, jv z64, .second, rv b_161, iv 0, .unset, .unset, .unset] [(.ref b167)]))
                    have B224 := B219.other W223 ne169
                    have B225 : Arv Z h223 b167 k167 .int (16 : Int32) [(.int 0), (.int 1), (.int 1), (.int 1), (.int 1), (.int 2), (.int 1), (.int 1), (.int 1), (.int 2), (.int 2), (.int 0), (.int 0), (.int 0), (.int 0), (.int 0)] (.int 0) := Arv.set Ar223 q223 S223 NN223 H223 G223 rfl W223 10 rfl (Nat.le_of_ble_eq_true rfl)
                    have N226 := Fr.snoc X223 N221 g168
                    have Z227 : n0 ≤ h223.size := Nat.le_trans Z222 (Keep.of_wr W223).1
                    refine own_via (fun k => XS.dup X223.here hx rfl (hb hby at_407) rfl rfl (XS.bipush X223.here hx rfl (hb hby at_408) (XS.iconst X223.here hx rfl (hb hby at_410) k))) ?_
                    show own_Go p e below s _ _ (T223.setTop (mkF m 411 #[iv p0, jv q1, .second, iv p2, jv q3, .second, iv p4, iv z3, iv 1, iv z4, iv z6, iv z8, iv z10, jv z12, .second, jv z15, .second, jv z18, .second, jv z21, .second, jv z24, .second, jv z27, .second, jv z34, .second, jv z42, .second, jv z50, .second, jv z58, .second, jv (z3.toInt64), .second, jv z60, .second, jv z61, .second, jv z62, .second, jv z63, .second, jv z64, .second, rv b_161, iv 0, .unset, .unset, .unset] [(.int 2), (.int 11), (.ref b167), (.ref b167)]))
                    obtain ⟨cl228, Ar228, q228, S228, NN228, H228, G228⟩ := id B225
                    have hin228 : ¬ ((11 : Int32) < 0 ∨ cl228.slots.size ≤ ((11 : Int32)).toNatClampNeg) := inb_of S228 ⟨by decide, by decide⟩
                    obtain ⟨T228, h228, X228, e228, W228, st228⟩ := stI X223 hx hZ e223 Ar228 (j := (11 : Int32)) hin228 (g := (mkF m 411 #[iv p0, jv q1, .second, iv p2, jv q3, .second, iv p4, iv z3, iv 1, iv z4, iv z6, iv z8, iv z10, jv z12, .second, jv z15, .second, jv z18, .second, jv z21, .second, jv z24, .second, jv z27, .second, jv z34, .second, jv z42, .second, jv z50, .second, jv z58, .second, jv (z3.toInt64), .second, jv z60, .second, jv z61, .second, jv z62, .second, jv z63, .second, jv z64, .second, rv b_161, iv 0, .unset, .unset, .unset] [(.int 2), (.int 11), (.ref b167), (.ref b167)])) rfl rfl (hb hby at_411)
                    refine own_via (fun k => st228 _ k) ?_
                    show own_Go p e below s _ _ (T228.setTop (mkF m 412 #[iv p0, jv q1, .second, iv p2, jv q3, .second, iv p4, iv z3, iv 1, iv z4, iv z6, iv z8, iv z10, jv z12, .second, jv z15, .second, jv z18, .second, jv z21, .second, jv z24, .second, jv z27, .second, jv z34, .second, jv z42, .second, jv z50, .second, jv z58, .second, jv (z3.toInt64), .second, jv z60, .second, jv z61, .second, jv z62, .second, jv z63, .second, jv z64, .second, rv b_161, iv 0, .unset, .unset, .unset] [(.ref b167)]))
                    have B229 := B224.other W228 ne169
                    have B230 : Arv Z h228 b167 k167 .int (16 : Int32) [(.int 0), (.int 1), (.int 1), (.int 1), (.int 1), (.int 2), (.int 1), (.int 1), (.int 1), (.int 2), (.int 2), (.int 2), (.int 0), (.int 0), (.int 0), (.int 0)] (.int 0) := Arv.set Ar228 q228 S228 NN228 H228 G228 rfl W228 11 rfl (Nat.le_of_ble_eq_true rfl)
                    have N231 := Fr.snoc X228 N226 g168
                    have Z232 : n0 ≤ h228.size := Nat.le_trans Z227 (Keep.of_wr W228).1
                    refine own_via (fun k => XS.dup X228.here hx rfl (hb hby at_412) rfl rfl (XS.bipush X228.here hx rfl (hb hby at_413) (XS.iconst X228.here hx rfl (hb hby at_415) k))) ?_
                    show own_Go p e below s _ _ (T228.setTop (mkF m 416 #[iv p0, jv q1, .second, iv p2, jv q3, .second, iv p4, iv z3, iv 1, iv z4, iv z6, iv z8, iv z10, jv z12, .second, jv z15, .second, jv z18, .second, jv z21, .second, jv z24, .second, jv z27, .second, jv z34, .second, jv z42, .second, jv z50, .second, jv z58, .second, jv (z3.toInt64), .second, jv z60, .second, jv z61, .second, jv z62, .second, jv z63, .second, jv z64, .second, rv b_161, iv 0, .unset, .unset, .unset] [(.int 1), (.int 12), (.ref b167), (.ref b167)]))
                    obtain ⟨cl233, Ar233, q233, S233, NN233, H233, G233⟩ := id B230
                    have hin233 : ¬ ((12 : Int32) < 0 ∨ cl233.slots.size ≤ ((12 : Int32)).toNatClampNeg) := inb_of S233 ⟨by decide, by decide⟩
                    obtain ⟨T233, h233, X233, e233, W233, st233⟩ := stI X228 hx hZ e228 Ar233 (j := (12 : Int32)) hin233 (g := (mkF m 416 #[iv p0, jv q1, .second, iv p2, jv q3, .second, iv p4, iv z3, iv 1, iv z4, iv z6, iv z8, iv z10, jv z12, .second, jv z15, .second, jv z18, .second, jv z21, .second, jv z24, .second, jv z27, .second, jv z34, .second, jv z42, .second, jv z50, .second, jv z58, .second, jv (z3.toInt64), .second, jv z60, .second, jv z61, .second, jv z62, .second, jv z63, .second, jv z64, .second, rv b_161, iv 0, .unset, .unset, .unset] [(.int 1), (.int 12), (.ref b167), (.ref b167)])) rfl rfl (hb hby at_416)
                    refine own_via (fun k => st233 _ k) ?_
                    show own_Go p e below s _ _ (T233.setTop (mkF m 417 #[iv p0, jv q1, .second, iv p2, jv q3, .second, iv p4, iv z3, iv 1, iv z4, iv z6, iv z8, iv z10, jv z12, .second, jv z15, .second, jv z18, .second, jv z21, .second, jv z24, .second, jv z27, .second, jv z34, .second, jv z42, .second, jv z50, .second, jv z58, .second, jv (z3.toInt64), .second, jv z60, .second, jv z61, .second, jv z62, .second, jv z63, .second, jv z64, .second, rv b_161, iv 0, .unset, .unset, .unset] [(.ref b167)]))
                    have B234 := B229.other W233 ne169
                    have B235 : Arv Z h233 b167 k167 .int (16 : Int32) [(.int 0), (.int 1), (.int 1), (.int 1), (.int 1), (.int 2), (.int 1), (.int 1), (.int 1), (.int 2), (.int 2), (.int 2), (.int 1), (.int 0), (.int 0), (.int 0)] (.int 0) := Arv.set Ar233 q233 S233 NN233 H233 G233 rfl W233 12 rfl (Nat.le_of_ble_eq_true rfl)
                    have N236 := Fr.snoc X233 N231 g168
                    have Z237 : n0 ≤ h233.size := Nat.le_trans Z232 (Keep.of_wr W233).1
                    refine own_via (fun k => XS.dup X233.here hx rfl (hb hby at_417) rfl rfl (XS.bipush X233.here hx rfl (hb hby at_418) (XS.iconst X233.here hx rfl (hb hby at_420) k))) ?_
                    show own_Go p e below s _ _ (T233.setTop (mkF m 421 #[iv p0, jv q1, .second, iv p2, jv q3, .second, iv p4, iv z3, iv 1, iv z4, iv z6, iv z8, iv z10, jv z12, .second, jv z15, .second, jv z18, .second, jv z21, .second, jv z24, .second, jv z27, .second, jv z34, .second, jv z42, .second, jv z50, .second, jv z58, .second, jv (z3.toInt64), .second, jv z60, .second, jv z61, .second, jv z62, .second, jv z63, .second, jv z64, .second, rv b_161, iv 0, .unset, .unset, .unset] [(.int 2), (.int 13), (.ref b167), (.ref b167)]))
                    obtain ⟨cl238, Ar238, q238, S238, NN238, H238, G238⟩ := id B235
                    have hin238 : ¬ ((13 : Int32) < 0 ∨ cl238.slots.size ≤ ((13 : Int32)).toNatClampNeg) := inb_of S238 ⟨by decide, by decide⟩
                    obtain ⟨T238, h238, X238, e238, W238, st238⟩ := stI X233 hx hZ e233 Ar238 (j := (13 : Int32)) hin238 (g := (mkF m 421 #[iv p0, jv q1, .second, iv p2, jv q3, .second, iv p4, iv z3, iv 1, iv z4, iv z6, iv z8, iv z10, jv z12, .second, jv z15, .second, jv z18, .second, jv z21, .second, jv z24, .second, jv z27, .second, jv z34, .second, jv z42, .second, jv z50, .second, jv z58, .second, jv (z3.toInt64), .second, jv z60, .second, jv z61, .second, jv z62, .second, jv z63, .second, jv z64, .second, rv b_161, iv 0, .unset, .unset, .unset] [(.int 2), (.int 13), (.ref b167), (.ref b167)])) rfl rfl (hb hby at_421)
                    refine own_via (fun k => st238 _ k) ?_
                    show own_Go p e below s _ _ (T238.setTop (mkF m 422 #[iv p0, jv q1, .second, iv p2, jv q3, .second, iv p4, iv z3, iv 1, iv z4, iv z6, iv z8, iv z10, jv z12, .second, jv z15, .second, jv z18, .second, jv z21, .second, jv z24, .second, jv z27, .second, jv z34, .second, jv z42, .second, jv z50, .second, jv z58, .second, jv (z3.toInt64), .second, jv z60, .second, jv z61, .second, jv z62, .second, jv z63, .second, jv z64, .second, rv b_161, iv 0, .unset, .unset, .unset] [(.ref b167)]))
                    have B239 := B234.other W238 ne169
                    have B240 : Arv Z h238 b167 k167 .int (16 : Int32) [(.int 0), (.int 1), (.int 1), (.int 1), (.int 1), (.int 2), (.int 1), (.int 1), (.int 1), (.int 2), (.int 2), (.int 2), (.int 1), (.int 2), (.int 0), (.int 0)] (.int 0) := Arv.set Ar238 q238 S238 NN238 H238 G238 rfl W238 13 rfl (Nat.le_of_ble_eq_true rfl)
                    have N241 := Fr.snoc X238 N236 g168
                    have Z242 : n0 ≤ h238.size := Nat.le_trans Z237 (Keep.of_wr W238).1
                    refine own_via (fun k => XS.dup X238.here hx rfl (hb hby at_422) rfl rfl (XS.bipush X238.here hx rfl (hb hby at_423) (XS.iconst X238.here hx rfl (hb hby at_425) k))) ?_
                    show own_Go p e below s _ _ (T238.setTop (mkF m 426 #[iv p0, jv q1, .second, iv p2, jv q3, .second, iv p4, iv z3, iv 1, iv z4, iv z6, iv z8, iv z10, jv z12, .second, jv z15, .second, jv z18, .second, jv z21, .second, jv z24, .second, jv z27, .second, jv z34, .second, jv z42, .second, jv z50, .second, jv z58, .second, jv (z3.toInt64), .second, jv z60, .second, jv z61, .second, jv z62, .second, jv z63, .second, jv z64, .second, rv b_161, iv 0, .unset, .unset, .unset] [(.int 1), (.int 14), (.ref b167), (.ref b167)]))
                    obtain ⟨cl243, Ar243, q243, S243, NN243, H243, G243⟩ := id B240
                    have hin243 : ¬ ((14 : Int32) < 0 ∨ cl243.slots.size ≤ ((14 : Int32)).toNatClampNeg) := inb_of S243 ⟨by decide, by decide⟩
                    obtain ⟨T243, h243, X243, e243, W243, st243⟩ := stI X238 hx hZ e238 Ar243 (j := (14 : Int32)) hin243 (g := (mkF m 426 #[iv p0, jv q1, .second, iv p2, jv q3, .second, iv p4, iv z3, iv 1, iv z4, iv z6, iv z8, iv z10, jv z12, .second, jv z15, .second, jv z18, .second, jv z21, .second, jv z24, .second, jv z27, .second, jv z34, .second, jv z42, .second, jv z50, .second, jv z58, .second, jv (z3.toInt64), .second, jv z60, .second, jv z61, .second, jv z62, .second, jv z63, .second, jv z64, .second, rv b_161, iv 0, .unset, .unset, .unset] [(.int 1), (.int 14), (.ref b167), (.ref b167)])) rfl rfl (hb hby at_426)
                    refine own_via (fun k => st243 _ k) ?_
                    show own_Go p e below s _ _ (T243.setTop (mkF m 427 #[iv p0, jv q1, .second, iv p2, jv q3, .second, iv p4, iv z3, iv 1, iv z4, iv z6, iv z8, iv z10, jv z12, .second, jv z15, .second, jv z18, .second, jv z21, .second, jv z24, .second, jv z27, .second, jv z34, .second, jv z42, .second, jv z50, .second, jv z58, .second, jv (z3.toInt64), .second, jv z60, .second, jv z61, .second, jv z62, .second, jv z63, .second, jv z64, .second, rv b_161, iv 0, .unset, .unset, .unset] [(.ref b167)]))
                    have B244 := B239.other W243 ne169
                    have B245 : Arv Z h243 b167 k167 .int (16 : Int32) [(.int 0), (.int 1), (.int 1), (.int 1), (.int 1), (.int 2), (.int 1), (.int 1), (.int 1), (.int 2), (.int 2), (.int 2), (.int 1), (.int 2), (.int 1), (.int 0)] (.int 0) := Arv.set Ar243 q243 S243 NN243 H243 G243 rfl W243 14 rfl (Nat.le_of_ble_eq_true rfl)
                    have N246 := Fr.snoc X243 N241 g168
                    have Z247 : n0 ≤ h243.size := Nat.le_trans Z242 (Keep.of_wr W243).1
                    refine own_via (fun k => XS.dup X243.here hx rfl (hb hby at_427) rfl rfl (XS.bipush X243.here hx rfl (hb hby at_428) (XS.iconst X243.here hx rfl (hb hby at_430) k))) ?_
                    show own_Go p e below s _ _ (T243.setTop (mkF m 431 #[iv p0, jv q1, .second, iv p2, jv q3, .second, iv p4, iv z3, iv 1, iv z4, iv z6, iv z8, iv z10, jv z12, .second, jv z15, .second, jv z18, .second, jv z21, .second, jv z24, .second, jv z27, .second, jv z34, .second, jv z42, .second, jv z50, .second, jv z58, .second, jv (z3.toInt64), .second, jv z60, .second, jv z61, .second, jv z62, .second, jv z63, .second, jv z64, .second, rv b_161, iv 0, .unset, .unset, .unset] [(.int 1), (.int 15), (.ref b167), (.ref b167)]))
                    obtain ⟨cl248, Ar248, q248, S248, NN248, H248, G248⟩ := id B245
                    have hin248 : ¬ ((15 : Int32) < 0 ∨ cl248.slots.size ≤ ((15 : Int32)).toNatClampNeg) := inb_of S248 ⟨by decide, by decide⟩
                    obtain ⟨T248, h248, X248, e248, W248, st248⟩ := stI X243 hx hZ e243 Ar248 (j := (15 : Int32)) hin248 (g := (mkF m 431 #[iv p0, jv q1, .second, iv p2, jv q3, .second, iv p4, iv z3, iv 1, iv z4, iv z6, iv z8, iv z10, jv z12, .second, jv z15, .second, jv z18, .second, jv z21, .second, jv z24, .second, jv z27, .second, jv z34, .second, jv z42, .second, jv z50, .second, jv z58, .second, jv (z3.toInt64), .second, jv z60, .second, jv z61, .second, jv z62, .second, jv z63, .second, jv z64, .second, rv b_161, iv 0, .unset, .unset, .unset] [(.int 1), (.int 15), (.ref b167), (.ref b167)])) rfl rfl (hb hby at_431)
                    refine own_via (fun k => st248 _ k) ?_
                    show own_Go p e below s _ _ (T248.setTop (mkF m 432 #[iv p0, jv q1, .second, iv p2, jv q3, .second, iv p4, iv z3, iv 1, iv z4, iv z6, iv z8, iv z10, jv z12, .second, jv z15, .second, jv z18, .second, jv z21, .second, jv z24, .second, jv z27, .second, jv z34, .second, jv z42, .second, jv z50, .second, jv z58, .second, jv (z3.toInt64), .second, jv z60, .second, jv z61, .second, jv z62, .second, jv z63, .second, jv z64, .second, rv b_161, iv 0, .unset, .unset, .unset] [(.ref b167)]))
                    have B249 := B244.other W248 ne169
                    have B250 : Arv Z h248 b167 k167 .int (16 : Int32) [(.int 0), (.int 1), (.int 1), (.int 1), (.int 1), (.int 2), (.int 1), (.int 1), (.int 1), (.int 2), (.int 2), (.int 2), (.int 1), (.int 2), (.int 1), (.int 1)] (.int 0) := Arv.set Ar248 q248 S248 NN248 H248 G248 rfl W248 15 rfl (Nat.le_of_ble_eq_true rfl)
                    have N251 := Fr.snoc X248 N246 g168
                    have Z252 : n0 ≤ h248.size := Nat.le_trans Z247 (Keep.of_wr W248).1
                    refine own_via (fun k => XS.astore X248.here hx rfl (hb hby at_432) rfl rfl (l' := #[iv p0, jv q1, .second, iv p2, jv q3, .second, iv p4, iv z3, iv 1, iv z4, iv z6, iv z8, iv z10, jv z12, .second, jv z15, .second, jv z18, .second, jv z21, .second, jv z24, .second, jv z27, .second, jv z34, .second, jv z42, .second, jv z50, .second, jv z58, .second, jv (z3.toInt64), .second, jv z60, .second, jv z61, .second, jv z62, .second, jv z63, .second, jv z64, .second, rv b_161, iv 0, rv b167, .unset, .unset]) rfl (XS.aload X248.here hx rfl (hb hby at_434) rfl rfl  (XS.iloadN X248.here hx rfl (hb hby at_436) rfl  (XS.iload X248.here hx rfl (hb hby at_437) rfl  k)))) ?_
                    show own_Go p e below s _ _ (T248.setTop (mkF m 439 #[iv p0, jv q1, .second, iv p2, jv q3, .second, iv p4, iv z3, iv 1, iv z4, iv z6, iv z8, iv z10, jv z12, .second, jv z15, .second, jv z18, .second, jv z21, .second, jv z24, .second, jv z27, .second, jv z34, .second, jv z42, .second, jv z50, .second, jv z58, .second, jv (z3.toInt64), .second, jv z60, .second, jv z61, .second, jv z62, .second, jv z63, .second, jv z64, .second, rv b_161, iv 0, rv b167, .unset, .unset] [(.int 0), (.int p2), (.ref b167)]))
                    refine own_via (fun k => XS.iand X248.here hx rfl (hb hby at_439) rfl k) ?_
                    show own_Go p e below s _ _ (T248.setTop (mkF m 440 #[iv p0, jv q1, .second, iv p2, jv q3, .second, iv p4, iv z3, iv 1, iv z4, iv z6, iv z8, iv z10, jv z12, .second, jv z15, .second, jv z18, .second, jv z21, .second, jv z24, .second, jv z27, .second, jv z34, .second, jv z42, .second, jv z50, .second, jv z58, .second, jv (z3.toInt64), .second, jv z60, .second, jv z61, .second, jv z62, .second, jv z63, .second, jv z64, .second, rv b_161, iv 0, rv b167, .unset, .unset] [(.int (p2 &&& (0 : Int32))), (.ref b167)]))
                    obtain ⟨cl253, Ar253, q253, S253, NN253, H253, G253⟩ := id B250
                    have hin253 : ¬ ((p2 &&& (0 : Int32)) < 0 ∨ cl253.slots.size ≤ ((p2 &&& (0 : Int32))).toNatClampNeg) := inb_of S253 (own_in1 p2 hl65)
                    have hat253 : cl253.slots[((p2 &&& (0 : Int32))).toNatClampNeg]? = some (.int (own_tab (p2 &&& (0 : Int32)))) := H253.at hin253 (own_tabget (p2 &&& (0 : Int32)) (own_in1 p2 hl65))
                    refine own_via (fun k => X248.iaload hx (j := (p2 &&& (0 : Int32))) (v := (.int (own_tab (p2 &&& (0 : Int32))))) (by rw [e248]; exact Ar253.1) (State.isArrayOf_alike hZ.alike Ar253.2.1) Ar253.2.2 hin253 hat253 (g := (mkF m 440 #[iv p0, jv q1, .second, iv p2, jv q3, .second, iv p4, iv z3, iv 1, iv z4, iv z6, iv z8, iv z10, jv z12, .second, jv z15, .second, jv z18, .second, jv z21, .second, jv z24, .second, jv z27, .second, jv z34, .second, jv z42, .second, jv z50, .second, jv z58, .second, jv (z3.toInt64), .second, jv z60, .second, jv z61, .second, jv z62, .second, jv z63, .second, jv z64, .second, rv b_161, iv 0, rv b167, .unset, .unset] [(.int (p2 &&& (0 : Int32))), (.ref b167)])) rfl rfl (hb hby at_440) _ k) ?_
                    show own_Go p e below s _ _ (T248.setTop (mkF m 441 #[iv p0, jv q1, .second, iv p2, jv q3, .second, iv p4, iv z3, iv 1, iv z4, iv z6, iv z8, iv z10, jv z12, .second, jv z15, .second, jv z18, .second, jv z21, .second, jv z24, .second, jv z27, .second, jv z34, .second, jv z42, .second, jv z50, .second, jv z58, .second, jv (z3.toInt64), .second, jv z60, .second, jv z61, .second, jv z62, .second, jv z63, .second, jv z64, .second, rv b_161, iv 0, rv b167, .unset, .unset] [(.int (own_tab (p2 &&& (0 : Int32))))]))
                    refine own_via (fun k => XS.i2l X248.here hx rfl (hb hby at_441) rfl (XS.lstore X248.here hx rfl (hb hby at_442) rfl (l' := #[iv p0, jv q1, .second, iv p2, jv q3, .second, iv p4, iv z3, iv 1, iv z4, iv z6, iv z8, iv z10, jv z12, .second, jv z15, .second, jv z18, .second, jv z21, .second, jv z24, .second, jv z27, .second, jv z34, .second, jv z42, .second, jv z50, .second, jv z58, .second, jv (z3.toInt64), .second, jv z60, .second, jv z61, .second, jv z62, .second, jv z63, .second, jv z64, .second, rv b_161, iv 0, rv b167, jv ((own_tab (p2 &&& (0 : Int32))).toInt64), .second]) rfl (XS.aload X248.here hx rfl (hb hby at_444) rfl rfl  (XS.iload X248.here hx rfl (hb hby at_446) rfl  k)))) ?_
                    show own_Go p e below s _ _ (T248.setTop (mkF m 448 #[iv p0, jv q1, .second, iv p2, jv q3, .second, iv p4, iv z3, iv 1, iv z4, iv z6, iv z8, iv z10, jv z12, .second, jv z15, .second, jv z18, .second, jv z21, .second, jv z24, .second, jv z27, .second, jv z34, .second, jv z42, .second, jv z50, .second, jv z58, .second, jv (z3.toInt64), .second, jv z60, .second, jv z61, .second, jv z62, .second, jv z63, .second, jv z64, .second, rv b_161, iv 0, rv b167, jv ((own_tab (p2 &&& (0 : Int32))).toInt64), .second] [(.int z3), (.ref b_161)]))
                    obtain ⟨_, _, ⟨T254, L254, k254, n254⟩, -, X254, ⟨Lc254, hQ254, l254, y254, z254⟩, st254⟩ := Jvm.LawKit.callS X248 hx (y := (⟨"com/example/waveslot/waveslot/core/CheckerSteps", "repeatedQuotients", "([JI)J"⟩ : MethodName)) hown (mvT hZ (hw _ (List.mem_of_getElem? (i := 22) rfl))) (mvT hZ (hw _ (List.mem_of_getElem? (i := 23) rfl))) (mvT hZ (hw _ (List.mem_of_getElem? (i := 24) rfl))) (mvT hZ (hw _ (List.mem_of_getElem? (i := 25) rfl))) (by decide) (backOf (W := 0) (rm6_1 l Z aw hw [] b_161 z3 k_161 z60 h248 n0 Z252 B249 (own_hhn6_1 p0 p2 z3 hz3 hl65)) hZ (hw _ (List.mem_of_getElem? (i := 25) rfl)) (hw _ (List.mem_of_getElem? (i := 24) rfl)) (by decide) (by decide)) (g := (mkF m 448 #[iv p0, jv q1, .second, iv p2, jv q3, .second, iv p4, iv z3, iv 1, iv z4, iv z6, iv z8, iv z10, jv z12, .second, jv z15, .second, jv z18, .second, jv z21, .second, jv z24, .second, jv z27, .second, jv z34, .second, jv z42, .second, jv z50, .second, jv z58, .second, jv (z3.toInt64), .second, jv z60, .second, jv z61, .second, jv z62, .second, jv z63, .second, jv z64, .second, rv b_161, iv 0, rv b167, jv ((own_tab (p2 &&& (0 : Int32))).toInt64), .second] [(.int z3), (.ref b_161)])) rfl (by rw [hml]; rfl) (argsL := [(.ref b_161), (.int z3)]) (rest := []) (lenOf pd_5 rfl) rfl (by show 2 * 0 + _ ≤ _; exact Nat.le_of_eq rfl) (hb hby at_448) (fun _ _ => ⟨rfl, e248, (by decide : 2 + 0 ≤ _), (by decide : 17 + 0 ≤ _)⟩)
                    dsimp only [Pt.U, Pt.locs, Pt.cells, Pt.slots] at X254 l254 y254 z254 st254 hQ254
                    subst l254 y254 z254
                    obtain ⟨rfl, N254q, eh254⟩ := hQ254
                    have N255 := Fr.app N251 N254q
                    refine own_via (fun k => st254 _ k) ?_
                    show own_Go p e below s _ _ (T254.setTop (mkF m 451 #[iv p0, jv q1, .second, iv p2, jv q3, .second, iv p4, iv z3, iv 1, iv z4, iv z6, iv z8, iv z10, jv z12, .second, jv z15, .second, jv z18, .second, jv z21, .second, jv z24, .second, jv z27, .second, jv z34, .second, jv z42, .second, jv z50, .second, jv z58, .second, jv (z3.toInt64), .second, jv z60, .second, jv z61, .second, jv z62, .second, jv z63, .second, jv z64, .second, rv b_161, iv 0, rv b167, jv ((own_tab (p2 &&& (0 : Int32))).toInt64), .second] [(.long own_f6_1)]))
                    refine own_via (fun k => XS.lload X254.here hx rfl (hb hby at_451) rfl  (XS.lcmp X254.here hx rfl (hb hby at_453) rfl k)) ?_
                    show own_Go p e below s _ _ (T254.setTop (mkF m 454 #[iv p0, jv q1, .second, iv p2, jv q3, .second, iv p4, iv z3, iv 1, iv z4, iv z6, iv z8, iv z10, jv z12, .second, jv z15, .second, jv z18, .second, jv z21, .second, jv z24, .second, jv z27, .second, jv z34, .second, jv z42, .second, jv z50, .second, jv z58, .second, jv (z3.toInt64), .second, jv z60, .second, jv z61, .second, jv z62, .second, jv z63, .second, jv z64, .second, rv b_161, iv 0, rv b167, jv ((own_tab (p2 &&& (0 : Int32))).toInt64), .second] [(.int (lcmpW own_f6_1 ((own_tab (p2 &&& (0 : Int32))).toInt64)))]))
                    refine own_via (fun k => XS.ifNo X254.here hx rfl (hb hby at_454) rfl ((if0 _ _).trans (teq ((lw_eq _ _).mpr (own_law1 p2 hl65))).2) k) ?_
                    show own_Go p e below s _ _ (T254.setTop (mkF m 457 #[iv p0, jv q1, .second, iv p2, jv q3, .second, iv p4, iv z3, iv 1, iv z4, iv z6, iv z8, iv z10, jv z12, .second, jv z15, .second, jv z18, .second, jv z21, .second, jv z24, .second, jv z27, .second, jv z34, .second, jv z42, .second, jv z50, .second, jv z58, .second, jv (z3.toInt64), .second, jv z60, .second, jv z61, .second, jv z62, .second, jv z63, .second, jv z64, .second, rv b_161, iv 0, rv b167, jv ((own_tab (p2 &&& (0 : Int32))).toInt64), .second] []))
                    refine own_via (fun k => XS.iconst X254.here hx rfl (hb hby at_457) (XS.goto X254.here hx rfl (pc0 := 458) (pc' := 462) rfl (hb hby at_458) (by decide) (by decide) k)) ?_
                    show own_Go p e below s _ _ (T254.setTop (mkF m 462 #[iv p0, jv q1, .second, iv p2, jv q3, .second, iv p4, iv z3, iv 1, iv z4, iv z6, iv z8, iv z10, jv z12, .second, jv z15, .second, jv z18, .second, jv z21, .second, jv z24, .second, jv z27, .second, jv z34, .second, jv z42, .second, jv z50, .second, jv z58, .second, jv (z3.toInt64), .second, jv z60, .second, jv z61, .second, jv z62, .second, jv z63, .second, jv z64, .second, rv b_161, iv 0, rv b167, jv ((own_tab (p2 &&& (0 : Int32))).toInt64), .second] [(.int 1)]))
                    exact own_retN X254 hx hlk (t := .boolean) Bd.returns (by simp) (hb hby at_462) (Q := (Q0 Z p0 q1 p2 q3 p4 h0 n0)) ⟨rfl, N255⟩ (by decide) (by decide)
                  · rw [hl65]
                    show own_Go p e below s _ _ (T59.setTop (mkF m 318 #[iv p0, jv q1, .second, iv p2, jv q3, .second, iv p4, iv z3, iv 2, iv z4, iv z6, iv z8, iv z10, jv z12, .second, jv z15, .second, jv z18, .second, jv z21, .second, jv z24, .second, jv z27, .second, jv z34, .second, jv z42, .second, jv z50, .second, jv z58, .second, jv (z3.toInt64), .second, jv z60, .second, jv z61, .second, jv z62, .second, jv z63, .second, jv z64, .second, .unset, .unset, .unset, .unset, .unset] []))
                    refine own_via (fun k => XS.iload X59.here hx rfl (hb hby at_318) rfl  (XS.lload X59.here hx rfl (hb hby at_320) rfl  (XS.lload X59.here hx rfl (hb hby at_322) rfl  (XS.lload X59.here hx rfl (hb hby at_324) rfl  k)))) ?_
                    show own_Go p e below s _ _ (T59.setTop (mkF m 326 #[iv p0, jv q1, .second, iv p2, jv q3, .second, iv p4, iv z3, iv 2, iv z4, iv z6, iv z8, iv z10, jv z12, .second, jv z15, .second, jv z18, .second, jv z21, .second, jv z24, .second, jv z27, .second, jv z34, .second, jv z42, .second, jv z50, .second, jv z58, .second, jv (z3.toInt64), .second, jv z60, .second, jv z61, .second, jv z62, .second, jv z63, .second, jv z64, .second, .unset, .unset, .unset, .unset, .unset] [(.long z62), (.long z61), (.long z60), (.int 2)]))
                    refine own_via (fun k => XS.lload X59.here hx rfl (hb hby at_326) rfl  (XS.lload X59.here hx rfl (hb hby at_328) rfl  k)) ?_
                    show own_Go p e below s _ _ (T59.setTop (mkF m 330 #[iv p0, jv q1, .second, iv p2, jv q3, .second, iv p4, iv z3, iv 2, iv z4, iv z6, iv z8, iv z10, jv z12, .second, jv z15, .second, jv z18, .second, jv z21, .second, jv z24, .second, jv z27, .second, jv z34, .second, jv z42, .second, jv z50, .second, jv z58, .second, jv (z3.toInt64), .second, jv z60, .second, jv z61, .second, jv z62, .second, jv z63, .second, jv z64, .second, .unset, .unset, .unset, .unset, .unset] [(.long z64), (.long z63), (.long z62), (.long z61), (.long z60), (.int 2)]))
                    obtain ⟨_, _, ⟨T256, L256, k256, n256⟩, -, X256, ⟨Lc256, hQ256, l256, y256, z256⟩, st256⟩ := Jvm.LawKit.callS X59 hx (y := (⟨"com/example/waveslot/waveslot/core/CheckerStepsRepeatedQuotientsPinLaw", "prefix", "(IJJJJJ)[J"⟩ : MethodName)) hown (mvT hZ (hw _ (List.mem_of_getElem? (i := 17) rfl))) (mvT hZ (hw _ (List.mem_of_getElem? (i := 18) rfl))) (mvT hZ (hw _ (List.mem_of_getElem? (i := 8) rfl))) (mvT hZ (hw _ (List.mem_of_getElem? (i := 19) rfl))) (by decide) (backOf (W := 0) (rm5_2 l Z aw hw [] z60 z61 z62 z63 z64 h0 n0 Z0) hZ (hw _ (List.mem_of_getElem? (i := 19) rfl)) (hw _ (List.mem_of_getElem? (i := 8) rfl)) (by decide) (by decide)) (g := (mkF m 330 #[iv p0, jv q1, .second, iv p2, jv q3, .second, iv p4, iv z3, iv 2, iv z4, iv z6, iv z8, iv z10, jv z12, .second, jv z15, .second, jv z18, .second, jv z21, .second, jv z24, .second, jv z27, .second, jv z34, .second, jv z42, .second, jv z50, .second, jv z58, .second, jv (z3.toInt64), .second, jv z60, .second, jv z61, .second, jv z62, .second, jv z63, .second, jv z64, .second, .unset, .unset, .unset, .unset, .unset] [(.long z64), (.long z63), (.long z62), (.long z61), (.long z60), (.int 2)])) rfl (by rw [hml]; rfl) (argsL := [(.int 2), (.long z60), (.long z61), (.long z62), (.long z63), (.long z64)]) (rest := []) (lenOf pd_4 rfl) rfl (by show 2 * 0 + _ ≤ _; exact Nat.le_of_eq rfl) (hb hby at_330) (fun _ _ => ⟨rfl, e59, (by decide : 0 + 1 ≤ _), (by decide : 0 + 2 ≤ _)⟩)
                    dsimp only [Pt.U, Pt.locs, Pt.cells, Pt.slots] at X256 l256 y256 z256 st256 hQ256
                    subst l256 y256 z256
                    obtain ⟨b_256, k_256, rfl, N256q, K256, B257, g258⟩ := hQ256
                    have N259 := Fr.app N59 N256q
                    have Z260 : n0 ≤ T256.heap.size := Nat.le_trans Z0 K256.1
                    have g261 : n0 ≤ b_256 := Nat.le_trans Z0 g258
                    refine own_via (fun k => st256 _ k) ?_
                    show own_Go p e below s _ _ (T256.setTop (mkF m 333 #[iv p0, jv q1, .second, iv p2, jv q3, .second, iv p4, iv z3, iv 2, iv z4, iv z6, iv z8, iv z10, jv z12, .second, jv z15, .second, jv z18, .second, jv z21, .second, jv z24, .second, jv z27, .second, jv z34, .second, jv z42, .second, jv z50, .second, jv z58, .second, jv (z3.toInt64), .second, jv z60, .second, jv z61, .second, jv z62, .second, jv z63, .second, jv z64, .second, .unset, .unset, .unset, .unset, .unset] [(.ref b_256)]))
                    refine own_via (fun k => XS.astore X256.here hx rfl (hb hby at_333) rfl rfl (l' := #[iv p0, jv q1, .second, iv p2, jv q3, .second, iv p4, iv z3, iv 2, iv z4, iv z6, iv z8, iv z10, jv z12, .second, jv z15, .second, jv z18, .second, jv z21, .second, jv z24, .second, jv z27, .second, jv z34, .second, jv z42, .second, jv z50, .second, jv z58, .second, jv (z3.toInt64), .second, jv z60, .second, jv z61, .second, jv z62, .second, jv z63, .second, jv z64, .second, rv b_256, .unset, .unset, .unset, .unset]) rfl (XS.iload X256.here hx rfl (hb hby at_335) rfl  k)) ?_
                    show own_Go p e below s _ _ (T256.setTop (mkF m 337 #[iv p0, jv q1, .second, iv p2, jv q3, .second, iv p4, iv z3, iv 2, iv z4, iv z6, iv z8, iv z10, jv z12, .second, jv z15, .second, jv z18, .second, jv z21, .second, jv z24, .second, jv z27, .second, jv z34, .second, jv z42, .second, jv z50, .second, jv z58, .second, jv (z3.toInt64), .second, jv z60, .second, jv z61, .second, jv z62, .second, jv z63, .second, jv z64, .second, rv b_256, .unset, .unset, .unset, .unset] [(.int 2)]))
                    refine own_via (fun k => XS.ifYes X256.here hx rfl (pc0 := 337) (pc' := 344) rfl (hb hby at_337) rfl (by decide) (by decide) (by decide) k) ?_
                    show own_Go p e below s _ _ (T256.setTop (mkF m 344 #[iv p0, jv q1, .second, iv p2, jv q3, .second, iv p4, iv z3, iv 2, iv z4, iv z6, iv z8, iv z10, jv z12, .second, jv z15, .second, jv z18, .second, jv z21, .second, jv z24, .second, jv z27, .second, jv z34, .second, jv z42, .second, jv z50, .second, jv z58, .second, jv (z3.toInt64), .second, jv z60, .second, jv z61, .second, jv z62, .second, jv z63, .second, jv z64, .second, rv b_256, .unset, .unset, .unset, .unset] []))
                    refine own_via (fun k => XS.iconst X256.here hx rfl (hb hby at_344) (XS.iload X256.here hx rfl (hb hby at_345) rfl  (XS.iconst X256.here hx rfl (hb hby at_347) (XS.isub X256.here hx rfl (hb hby at_348) rfl k)))) ?_
                    show own_Go p e below s _ _ (T256.setTop (mkF m 349 #[iv p0, jv q1, .second, iv p2, jv q3, .second, iv p4, iv z3, iv 2, iv z4, iv z6, iv z8, iv z10, jv z12, .second, jv z15, .second, jv z18, .second, jv z21, .second, jv z24, .second, jv z27, .second, jv z34, .second, jv z42, .second, jv z50, .second, jv z58, .second, jv (z3.toInt64), .second, jv z60, .second, jv z61, .second, jv z62, .second, jv z63, .second, jv z64, .second, rv b_256, .unset, .unset, .unset, .unset] [(.int 1), (.int 1)]))
                    refine own_via (fun k => XS.ishl X256.here hx rfl (hb hby at_349) rfl (XS.iconst X256.here hx rfl (hb hby at_350) (XS.isub X256.here hx rfl (hb hby at_351) rfl (XS.istore X256.here hx rfl (hb hby at_352) rfl (l' := #[iv p0, jv q1, .second, iv p2, jv q3, .second, iv p4, iv z3, iv 2, iv z4, iv z6, iv z8, iv z10, jv z12, .second, jv z15, .second, jv z18, .second, jv z21, .second, jv z24, .second, jv z27, .second, jv z34, .second, jv z42, .second, jv z50, .second, jv z58, .second, jv (z3.toInt64), .second, jv z60, .second, jv z61, .second, jv z62, .second, jv z63, .second, jv z64, .second, rv b_256, iv 1, .unset, .unset, .unset]) rfl k)))) ?_
                    show own_Go p e below s _ _ (T256.setTop (mkF m 354 #[iv p0, jv q1, .second, iv p2, jv q3, .second, iv p4, iv z3, iv 2, iv z4, iv z6, iv z8, iv z10, jv z12, .second, jv z15, .second, jv z18, .second, jv z21, .second, jv z24, .second, jv z27, .second, jv z34, .second, jv z42, .second, jv z50, .second, jv z58, .second, jv (z3.toInt64), .second, jv z60, .second, jv z61, .second, jv z62, .second, jv z63, .second, jv z64, .second, rv b_256, iv 1, .unset, .unset, .unset] []))
                    refine own_via (fun k => XS.bipush X256.here hx rfl (hb hby at_354) k) ?_
                    show own_Go p e below s _ _ (T256.setTop (mkF m 356 #[iv p0, jv q1, .second, iv p2, jv q3, .second, iv p4, iv z3, iv 2, iv z4, iv z6, iv z8, iv z10, jv z12, .second, jv z15, .second, jv z18, .second, jv z21, .second, jv z24, .second, jv z27, .second, jv z34, .second, jv z42, .second, jv z50, .second, jv z58, .second, jv (z3.toInt64), .second, jv z60, .second, jv z61, .second, jv z62, .second, jv z63, .second, jv z64, .second, rv b_256, iv 1, .unset, .unset, .unset] [(.int 16)]))
                    obtain ⟨T262, h262, k262, X262, e262, E262, A262, st262⟩ := newP X256 hx hZ (hw _ (List.mem_of_getElem? (i := 21) rfl)) rfl (g := (mkF m 356 #[iv p0, jv q1, .second, iv p2, jv q3, .second, iv p4, iv z3, iv 2, iv z4, iv z6, iv z8, iv z10, jv z12, .second, jv z15, .second, jv z18, .second, jv z21, .second, jv z24, .second, jv z27, .second, jv z34, .second, jv z42, .second, jv z50, .second, jv z58, .second, jv (z3.toInt64), .second, jv z60, .second, jv z61, .second, jv z62, .second, jv z63, .second, jv z64, .second, rv b_256, iv 1, .unset, .unset, .unset] [(.int 16)])) rfl (hb hby at_356) rfl (by decide) (cap := 16) (by decide) (by decide) (by decide) (by decide)
                    obtain ⟨b262, g262⟩ : ∃ z, z = T256.heap.size := ⟨_, rfl⟩
                    rw [← g262] at A262 st262
                    refine own_via (fun k => st262 _ k) ?_
                    show own_Go p e below s _ _ (T262.setTop (mkF m 358 #[iv p0, jv q1, .second, iv p2, jv q3, .second, iv p4, iv z3, iv 2, iv z4, iv z6, iv z8, iv z10, jv z12, .second, jv z15, .second, jv z18, .second, jv z21, .second, jv z24, .second, jv z27, .second, jv z34, .second, jv z42, .second, jv z50, .second, jv z58, .second, jv (z3.toInt64), .second, jv z60, .second, jv z61, .second, jv z62, .second, jv z63, .second, jv z64, .second, rv b_256, iv 1, .unset, .unset, .unset] [(.ref b262)]))
                    have g263 : n0 ≤ b262 := Nat.le_trans Z260 (Nat.le_of_eq g262.symm)
                    have ne264 : b_256 ≠ b262 := Nat.ne_of_lt (Nat.lt_of_lt_of_le B257.lt (Nat.le_of_eq g262.symm))
                    have B265 := B257.ext E262
                    have Z266 : n0 ≤ h262.size := Nat.le_trans Z260 E262.1
                    have B267 : Arv Z h262 b262 k262 .int (16 : Int32) [(.int 0), (.int 0), (.int 0), (.int 0), (.int 0), (.int 0), (.int 0), (.int 0), (.int 0), (.int 0), (.int 0), (.int 0), (.int 0), (.int 0), (.int 0), (.int 0)] (.int 0) := (Arv.new A262 (by decide)).pad (pad_rep [] (.int 0) 16)
                    refine own_via (fun k => XS.dup X262.here hx rfl (hb hby at_358) rfl rfl (XS.iconst X262.here hx rfl (hb hby at_359) (XS.iconst X262.here hx rfl (hb hby at_360) k))) ?_
                    show own_Go p e below s _ _ (T262.setTop (mkF m 361 #[iv p0, jv q1, .second, iv p2, jv q3, .second, iv p4, iv z3, iv 2, iv z4, iv z6, iv z8, iv z10, jv z12, .second, jv z15, .second, jv z18, .second, jv z21, .second, jv z24, .second, jv z27, .second, jv z34, .second, jv z42, .second, jv z50, .second, jv z58, .second, jv (z3.toInt64), .second, jv z60, .second, jv z61, .second, jv z62, .second, jv z63, .second, jv z64, .second, rv b_256, iv 1, .unset, .unset, .unset] [(.int 0), (.int 0), (.ref b262), (.ref b262)]))
                    obtain ⟨cl268, Ar268, q268, S268, NN268, H268, G268⟩ := id B267
                    have hin268 : ¬ ((0 : Int32) < 0 ∨ cl268.slots.size ≤ ((0 : Int32)).toNatClampNeg) := inb_of S268 ⟨by decide, by decide⟩
                    obtain ⟨T268, h268, X268, e268, W268, st268⟩ := stI X262 hx hZ e262 Ar268 (j := (0 : Int32)) hin268 (g := (mkF m 361 #[iv p0, jv q1, .second, iv p2, jv q3, .second, iv p4, iv z3, iv 2, iv z4, iv z6, iv z8, iv z10, jv z12, .second, jv z15, .second, jv z18, .second, jv z21, .second, jv z24, .second, jv z27, .second, jv z34, .second, jv z42, .second, jv z50, .second, jv z58, .second, jv (z3.toInt64), .second, jv z60, .second, jv z61, .second, jv z62, .second, jv z63, .second, jv z64, .second, rv b_256, iv 1, .unset, .unset, .unset] [(.int 0), (.int 0), (.ref b262), (.ref b262)])) rfl rfl (hb hby at_361)
                    refine own_via (fun k => st268 _ k) ?_
                    show own_Go p e below s _ _ (T268.setTop (mkF m 362 #[iv p0, jv q1, .second, iv p2, jv q3, .second, iv p4, iv z3, iv 2, iv z4, iv z6, iv z8, iv z10, jv z12, .second, jv z15, .second, jv z18, .second, jv z21, .second, jv z24, .second, jv z27, .second, jv z34, .second, jv z42, .second, jv z50, .second, jv z58, .second, jv (z3.toInt64), .second, jv z60, .second, jv z61, .second, jv z62, .second, jv z63, .second, jv z64, .second, rv b_256, iv 1, .unset, .unset, .unset] [(.ref b262)]))
                    have B269 := B265.other W268 ne264
                    have B270 : Arv Z h268 b262 k262 .int (16 : Int32) [(.int 0), (.int 0), (.int 0), (.int 0), (.int 0), (.int 0), (.int 0), (.int 0), (.int 0), (.int 0), (.int 0), (.int 0), (.int 0), (.int 0), (.int 0), (.int 0)] (.int 0) := Arv.set Ar268 q268 S268 NN268 H268 G268 rfl W268 0 rfl (Nat.le_of_ble_eq_true rfl)
                    have N271 := Fr.snoc X268 N259 g263
                    have Z272 : n0 ≤ h268.size := Nat.le_trans Z266 (Keep.of_wr W268).1
                    refine own_via (fun k => XS.dup X268.here hx rfl (hb hby at_362) rfl rfl (XS.iconst X268.here hx rfl (hb hby at_363) (XS.iconst X268.here hx rfl (hb hby at_364) k))) ?_
                    show own_Go p e below s _ _ (T268.setTop (mkF m 365 #[iv p0, jv q1, .second, iv p2, jv q3, .second, iv p4, iv z3, iv 2, iv z4, iv z6, iv z8, iv z10, jv z12, .second, jv z15, .second, jv z18, .second, jv z21, .second, jv z24, .second, jv z27, .second, jv z34, .second, jv z42, .second, jv z50, .second, jv z58, .second, jv (z3.toInt64), .second, jv z60, .second, jv z61, .second, jv z62, .second, jv z63, .second, jv z64, .second, rv b_256, iv 1, .unset, .unset, .unset] [(.int 1), (.int 1), (.ref b262), (.ref b262)]))
                    obtain ⟨cl273, Ar273, q273, S273, NN273, H273, G273⟩ := id B270
                    have hin273 : ¬ ((1 : Int32) < 0 ∨ cl273.slots.size ≤ ((1 : Int32)).toNatClampNeg) := inb_of S273 ⟨by decide, by decide⟩
                    obtain ⟨T273, h273, X273, e273, W273, st273⟩ := stI X268 hx hZ e268 Ar273 (j := (1 : Int32)) hin273 (g := (mkF m 365 #[iv p0, jv q1, .second, iv p2, jv q3, .second, iv p4, iv z3, iv 2, iv z4, iv z6, iv z8, iv z10, jv z12, .second, jv z15, .second, jv z18, .second, jv z21, .second, jv z24, .second, jv z27, .second, jv z34, .second, jv z42, .second, jv z50, .second, jv z58, .second, jv (z3.toInt64), .second, jv z60, .second, jv z61, .second, jv z62, .second, jv z63, .second, jv z64, .second, rv b_256, iv 1, .unset, .unset, .unset] [(.int 1), (.int 1), (.ref b262), (.ref b262)])) rfl rfl (hb hby at_365)
                    refine own_via (fun k => st273 _ k) ?_
                    show own_Go p e below s _ _ (T273.setTop (mkF m 366 #[iv p0, jv q1, .second, iv p2, jv q3, .second, iv p4, iv z3, iv 2, iv z4, iv z6, iv z8, iv z10, jv z12, .second, jv z15, .second, jv z18, .second, jv z21, .second, jv z24, .second, jv z27, .second, jv z34, .second, jv z42, .second, jv z50, .second, jv z58, .second, jv (z3.toInt64), .second, jv z60, .second, jv z61, .second, jv z62, .second, jv z63, .second, jv z64, .second, rv b_256, iv 1, .unset, .unset, .unset] [(.ref b262)]))
                    have B274 := B269.other W273 ne264
                    have B275 : Arv Z h273 b262 k262 .int (16 : Int32) [(.int 0), (.int 1), (.int 0), (.int 0), (.int 0), (.int 0), (.int 0), (.int 0), (.int 0), (.int 0), (.int 0), (.int 0), (.int 0), (.int 0), (.int 0), (.int 0)] (.int 0) := Arv.set Ar273 q273 S273 NN273 H273 G273 rfl W273 1 rfl (Nat.le_of_ble_eq_true rfl)
                    have N276 := Fr.snoc X273 N271 g263
                    have Z277 : n0 ≤ h273.size := Nat.le_trans Z272 (Keep.of_wr W273).1
                    refine own_via (fun k => XS.dup X273.here hx rfl (hb hby at_366) rfl rfl (XS.iconst X273.here hx rfl (hb hby at_367) (XS.iconst X273.here hx rfl (hb hby at_368) k))) ?_
                    show own_Go p e below s _ _ (T273.setTop (mkF m 369 #[iv p0, jv q1, .second, iv p2, jv q3, .second, iv p4, iv z3, iv 2, iv z4, iv z6, iv z8, iv z10, jv z12, .second, jv z15, .second, jv z18, .second, jv z21, .second, jv z24, .second, jv z27, .second, jv z34, .second, jv z42, .second, jv z50, .second, jv z58, .second, jv (z3.toInt64), .second, jv z60, .second, jv z61, .second, jv z62, .second, jv z63, .second, jv z64, .second, rv b_256, iv 1, .unset, .unset, .unset] [(.int 1), (.int 2), (.ref b262), (.ref b262)]))
                    obtain ⟨cl278, Ar278, q278, S278, NN278, H278, G278⟩ := id B275
                    have hin278 : ¬ ((2 : Int32) < 0 ∨ cl278.slots.size ≤ ((2 : Int32)).toNatClampNeg) := inb_of S278 ⟨by decide, by decide⟩
                    obtain ⟨T278, h278, X278, e278, W278, st278⟩ := stI X273 hx hZ e273 Ar278 (j := (2 : Int32)) hin278 (g := (mkF m 369 #[iv p0, jv q1, .second, iv p2, jv q3, .second, iv p4, iv z3, iv 2, iv z4, iv z6, iv z8, iv z10, jv z12, .second, jv z15, .second, jv z18, .second, jv z21, .second, jv z24, .second, jv z27, .second, jv z34, .second, jv z42, .second, jv z50, .second, jv z58, .second, jv (z3.toInt64), .second, jv z60, .second, jv z61, .second, jv z62, .second, jv z63, .second, jv z64, .second, rv b_256, iv 1, .unset, .unset, .unset] [(.int 1), (.int 2), (.ref b262), (.ref b262)])) rfl rfl (hb hby at_369)
                    refine own_via (fun k => st278 _ k) ?_
                    show own_Go p e below s _ _ (T278.setTop (mkF m 370 #[iv p0, jv q1, .second, iv p2, jv q3, .second, iv p4, iv z3, iv 2, iv z4, iv z6, iv z8, iv z10, jv z12, .second, jv z15, .second, jv z18, .second, jv z21, .second, jv z24, .second, jv z27, .second, jv z34, .second, jv z42, .second, jv z50, .second, jv z58, .second, jv (z3.toInt64), .second, jv z60, .second, jv z61, .second, jv z62, .second, jv z63, .second, jv z64, .second, rv b_256, iv 1, .unset, .unset, .unset] [(.ref b262)]))
                    have B279 := B274.other W278 ne264
                    have B280 : Arv Z h278 b262 k262 .int (16 : Int32) [(.int 0), (.int 1), (.int 1), (.int 0), (.int 0), (.int 0), (.int 0), (.int 0), (.int 0), (.int 0), (.int 0), (.int 0), (.int 0), (.int 0), (.int 0), (.int 0)] (.int 0) := Arv.set Ar278 q278 S278 NN278 H278 G278 rfl W278 2 rfl (Nat.le_of_ble_eq_true rfl)
                    have N281 := Fr.snoc X278 N276 g263
                    have Z282 : n0 ≤ h278.size := Nat.le_trans Z277 (Keep.of_wr W278).1
                    refine own_via (fun k => XS.dup X278.here hx rfl (hb hby at_370) rfl rfl (XS.iconst X278.here hx rfl (hb hby at_371) (XS.iconst X278.here hx rfl (hb hby at_372) k))) ?_
                    show own_Go p e below s _ _ (T278.setTop (mkF m 373 #[iv p0, jv q1, .second, iv p2, jv q3, .second, iv p4, iv z3, iv 2, iv z4, iv z6, iv z8, iv z10, jv z12, .second, jv z15, .second, jv z18, .second, jv z21, .second, jv z24, .second, jv z27, .second, jv z34, .second, jv z42, .second, jv z50, .second, jv z58, .second, jv (z3.toInt64), .second, jv z60, .second, jv z61, .second, jv z62, .second, jv z63, .second, jv z64, .second, rv b_256, iv 1, .unset, .unset, .unset] [(.int 1), (.int 3), (.ref b262), (.ref b262)]))
                    obtain ⟨cl283, Ar283, q283, S283, NN283, H283, G283⟩ := id B280
                    have hin283 : ¬ ((3 : Int32) < 0 ∨ cl283.slots.size ≤ ((3 : Int32)).toNatClampNeg) := inb_of S283 ⟨by decide, by decide⟩
                    obtain ⟨T283, h283, X283, e283, W283, st283⟩ := stI X278 hx hZ e278 Ar283 (j := (3 : Int32)) hin283 (g := (mkF m 373 #[iv p0, jv q1, .second, iv p2, jv q3, .second, iv p4, iv z3, iv 2, iv z4, iv z6, iv z8, iv z10, jv z12, .second, jv z15, .second, jv z18, .second, jv z21, .second, jv z24, .second, jv z27, .second, jv z34, .second, jv z42, .second, jv z50, .second, jv z58, .second, jv (z3.toInt64), .second, jv z60, .second, jv z61, .second, jv z62, .second, jv z63, .second, jv z64, .second, rv b_256, iv 1, .unset, .unset, .unset] [(.int 1), (.int 3), (.ref b262), (.ref b262)])) rfl rfl (hb hby at_373)
                    refine own_via (fun k => st283 _ k) ?_
                    show own_Go p e below s _ _ (T283.setTop (mkF m 374 #[iv p0, jv q1, .second, iv p2, jv q3, .second, iv p4, iv z3, iv 2, iv z4, iv z6, iv z8, iv z10, jv z12, .second, jv z15, .second, jv z18, .second, jv z21, .second, jv z24, .second, jv z27, .second, jv z34, .second, jv z42, .second, jv z50, .second, jv z58, .second, jv (z3.toInt64), .second, jv z60, .second, jv z61, .second, jv z62, .second, jv z63, .second, jv z64, .second, rv b_256, iv 1, .unset, .unset, .unset] [(.ref b262)]))
                    have B284 := B279.other W283 ne264
                    have B285 : Arv Z h283 b262 k262 .int (16 : Int32) [(.int 0), (.int 1), (.int 1), (.int 1), (.int 0), (.int 0), (.int 0), (.int 0), (.int 0), (.int 0), (.int 0), (.int 0), (.int 0), (.int 0), (.int 0), (.int 0)] (.int 0) := Arv.set Ar283 q283 S283 NN283 H283 G283 rfl W283 3 rfl (Nat.le_of_ble_eq_true rfl)
                    have N286 := Fr.snoc X283 N281 g263
                    have Z287 : n0 ≤ h283.size := Nat.le_trans Z282 (Keep.of_wr W283).1
                    refine own_via (fun k => XS.dup X283.here hx rfl (hb hby at_374) rfl rfl (XS.iconst X283.here hx rfl (hb hby at_375) (XS.iconst X283.here hx rfl (hb hby at_376) k))) ?_
                    show own_Go p e below s _ _ (T283.setTop (mkF m 377 #[iv p0, jv q1, .second, iv p2, jv q3, .second, iv p4, iv z3, iv 2, iv z4, iv z6, iv z8, iv z10, jv z12, .second, jv z15, .second, jv z18, .second, jv z21, .second, jv z24, .second, jv z27, .second, jv z34, .second, jv z42, .second, jv z50, .second, jv z58, .second, jv (z3.toInt64), .second, jv z60, .second, jv z61, .second, jv z62, .second, jv z63, .second, jv z64, .second, rv b_256, iv 1, .unset, .unset, .unset] [(.int 1), (.int 4), (.ref b262), (.ref b262)]))
                    obtain ⟨cl288, Ar288, q288, S288, NN288, H288, G288⟩ := id B285
                    have hin288 : ¬ ((4 : Int32) < 0 ∨ cl288.slots.size ≤ ((4 : Int32)).toNatClampNeg) := inb_of S288 ⟨by decide, by decide⟩
                    obtain ⟨T288, h288, X288, e288, W288, st288⟩ := stI X283 hx hZ e283 Ar288 (j := (4 : Int32)) hin288 (g := (mkF m 377 #[iv p0, jv q1, .second, iv p2, jv q3, .second, iv p4, iv z3, iv 2, iv z4, iv z6, iv z8, iv z10, jv z12, .second, jv z15, .second, jv z18, .second, jv z21, .second, jv z24, .second, jv z27, .second, jv z34, .second, jv z42, .second, jv z50, .second, jv z58, .second, jv (z3.toInt64), .second, jv z60, .second, jv z61, .second, jv z62, .second, jv z63, .second, jv z64, .second, rv b_256, iv 1, .unset, .unset, .unset] [(.int 1), (.int 4), (.ref b262), (.ref b262)])) rfl rfl (hb hby at_377)
                    refine own_via (fun k => st288 _ k) ?_
                    show own_Go p e below s _ _ (T288.setTop (mkF m 378 #[iv p0, jv q1, .second, iv p2, jv q3, .second, iv p4, iv z3, iv 2, iv z4, iv z6, iv z8, iv z10, jv z12, .second, jv z15, .second, jv z18, .second, jv z21, .second, jv z24, .second, jv z27, .second, jv z34, .second, jv z42, .second, jv z50, .second, jv z58, .second, jv (z3.toInt64), .second, jv z60, .second, jv z61, .second, jv z62, .second, jv z63, .second, jv z64, .second, rv b_256, iv 1, .unset, .unset, .unset] [(.ref b262)]))
                    have B289 := B284.other W288 ne264
                    have B290 : Arv Z h288 b262 k262 .int (16 : Int32) [(.int 0), (.int 1), (.int 1), (.int 1), (.int 1), (.int 0), (.int 0), (.int 0), (.int 0), (.int 0), (.int 0), (.int 0), (.int 0), (.int 0), (.int 0), (.int 0)] (.int 0) := Arv.set Ar288 q288 S288 NN288 H288 G288 rfl W288 4 rfl (Nat.le_of_ble_eq_true rfl)
                    have N291 := Fr.snoc X288 N286 g263
                    have Z292 : n0 ≤ h288.size := Nat.le_trans Z287 (Keep.of_wr W288).1
                    refine own_via (fun k => XS.dup X288.here hx rfl (hb hby at_378) rfl rfl (XS.iconst X288.here hx rfl (hb hby at_379) (XS.iconst X288.here hx rfl (hb hby at_380) k))) ?_
                    show own_Go p e below s _ _ (T288.setTop (mkF m 381 #[iv p0, jv q1, .second, iv p2, jv q3, .second, iv p4, iv z3, iv 2, iv z4, iv z6, iv z8, iv z10, jv z12, .second, jv z15, .second, jv z18, .second, jv z21, .second, jv z24, .second, jv z27, .second, jv z34, .second, jv z42, .second, jv z50, .second, jv z58, .second, jv (z3.toInt64), .second, jv z60, .second, jv z61, .second, jv z62, .second, jv z63, .second, jv z64, .second, rv b_256, iv 1, .unset, .unset, .unset] [(.int 2), (.int 5), (.ref b262), (.ref b262)]))
                    obtain ⟨cl293, Ar293, q293, S293, NN293, H293, G293⟩ := id B290
                    have hin293 : ¬ ((5 : Int32) < 0 ∨ cl293.slots.size ≤ ((5 : Int32)).toNatClampNeg) := inb_of S293 ⟨by decide, by decide⟩
                    obtain ⟨T293, h293, X293, e293, W293, st293⟩ := stI X288 hx hZ e288 Ar293 (j := (5 : Int32)) hin293 (g := (mkF m 381 #[iv p0, jv q1, .second, iv p2, jv q3, .second, iv p4, iv z3, iv 2, iv z4, iv z6, iv z8, iv z10, jv z12, .second, jv z15, .second, jv z18, .second, jv z21, .second, jv z24, .second, jv z27, .second, jv z34, .second, jv z42, .second, jv z50, .second, jv z58, .second, jv (z3.toInt64), .second, jv z60, .second, jv z61, .second, jv z62, .second, jv z63, .second, jv z64, .second, rv b_256, iv 1, .unset, .unset, .unset] [(.int 2), (.int 5), (.ref b262), (.ref b262)])) rfl rfl (hb hby at_381)
                    refine own_via (fun k => st293 _ k) ?_
                    show own_Go p e below s _ _ (T293.setTop (mkF m 382 #[iv p0, jv q1, .second, iv p2, jv q3, .second, iv p4, iv z3, iv 2, iv z4, iv z6, iv z8, iv z10, jv z12, .second, jv z15, .second, jv z18, .second, jv z21, .second, jv z24, .second, jv z27, .second, jv z34, .second, jv z42, .second, jv z50, .second, jv z58, .second, jv (z3.toInt64), .second, jv z60, .second, jv z61, .second, jv z62, .second, jv z63, .second, jv z64, .second, rv b_256, iv 1, .unset, .unset, .unset] [(.ref b262)]))
                    have B294 := B289.other W293 ne264
                    have B295 : Arv Z h293 b262 k262 .int (16 : Int32) [(.int 0), (.int 1), (.int 1), (.int 1), (.int 1), (.int 2), (.int 0), (.int 0), (.int 0), (.int 0), (.int 0), (.int 0), (.int 0), (.int 0), (.int 0), (.int 0)] (.int 0) := Arv.set Ar293 q293 S293 NN293 H293 G293 rfl W293 5 rfl (Nat.le_of_ble_eq_true rfl)
                    have N296 := Fr.snoc X293 N291 g263
                    have Z297 : n0 ≤ h293.size := Nat.le_trans Z292 (Keep.of_wr W293).1
                    refine own_via (fun k => XS.dup X293.here hx rfl (hb hby at_382) rfl rfl (XS.bipush X293.here hx rfl (hb hby at_383) (XS.iconst X293.here hx rfl (hb hby at_385) k))) ?_
                    show own_Go p e below s _ _ (T293.setTop (mkF m 386 #[iv p0, jv q1, .second, iv p2, jv q3, .second, iv p4, iv z3, iv 2, iv z4, iv z6, iv z8, iv z10, jv z12, .second, jv z15, .second, jv z18, .second, jv z21, .second, jv z24, .second, jv z27, .second, jv z34, .second, jv z42, .second, jv z50, .second, jv z58, .second, jv (z3.toInt64), .second, jv z60, .second, jv z61, .second, jv z62, .second, jv z63, .second, jv z64, .second, rv b_256, iv 1, .unset, .unset, .unset] [(.int 1), (.int 6), (.ref b262), (.ref b262)]))
                    obtain ⟨cl298, Ar298, q298, S298, NN298, H298, G298⟩ := id B295
                    have hin298 : ¬ ((6 : Int32) < 0 ∨ cl298.slots.size ≤ ((6 : Int32)).toNatClampNeg) := inb_of S298 ⟨by decide, by decide⟩
                    obtain ⟨T298, h298, X298, e298, W298, st298⟩ := stI X293 hx hZ e293 Ar298 (j := (6 : Int32)) hin298 (g := (mkF m 386 #[iv p0, jv q1, .second, iv p2, jv q3, .second, iv p4, iv z3, iv 2, iv z4, iv z6, iv z8, iv z10, jv z12, .second, jv z15, .second, jv z18, .second, jv z21, .second, jv z24, .second, jv z27, .second, jv z34, .second, jv z42, .second, jv z50, .second, jv z58, .second, jv (z3.toInt64), .second, jv z60, .second, jv z61, .second, jv z62, .second, jv z63, .second, jv z64, .second, rv b_256, iv 1, .unset, .unset, .unset] [(.int 1), (.int 6), (.ref b262), (.ref b262)])) rfl rfl (hb hby at_386)
                    refine own_via (fun k => st298 _ k) ?_
                    show own_Go p e below s _ _ (T298.setTop (mkF m 387 #[iv p0, jv q1, .second, iv p2, jv q3, .second, iv p4, iv z3, iv 2, iv z4, iv z6, iv z8, iv z10, jv z12, .second, jv z15, .second, jv z18, .second, jv z21, .second, jv z24, .second, jv z27, .second, jv z34, .second, jv z42, .second, jv z50, .second, jv z58, .second, jv (z3.toInt64), .second, jv z60, .second, jv z61, .second, jv z62, .second, jv z63, .second, jv z64, .second, rv b_256, iv 1, .unset, .unset, .unset] [(.ref b262)]))
                    have B299 := B294.other W298 ne264
                    have B300 : Arv Z h298 b262 k262 .int (16 : Int32) [(.int 0), (.int 1), (.int 1), (.int 1), (.int 1), (.int 2), (.int 1), (.int 0), (.int 0), (.int 0), (.int 0), (.int 0), (.int 0), (.int 0), (.int 0), (.int 0)] (.int 0) := Arv.set Ar298 q298 S298 NN298 H298 G298 rfl W298 6 rfl (Nat.le_of_ble_eq_true rfl)
                    have N301 := Fr.snoc X298 N296 g263
                    have Z302 : n0 ≤ h298.size := Nat.le_trans Z297 (Keep.of_wr W298).1
                    refine own_via (fun k => XS.dup X298.here hx rfl (hb hby at_387) rfl rfl (XS.bipush X298.here hx rfl (hb hby at_388) (XS.iconst X298.here hx rfl (hb hby at_390) k))) ?_
                    show own_Go p e below s _ _ (T298.setTop (mkF m 391 #[iv p0, jv q1, .second, iv p2, jv q3, .second, iv p4, iv z3, iv 2, iv z4, iv z6, iv z8, iv z10, jv z12, .second, jv z15, .second, jv z18, .second, jv z21, .second, jv z24, .second, jv z27, .second, jv z34, .second, jv z42, .second, jv z50, .second, jv z58, .second, jv (z3.toInt64), .second, jv z60, .second, jv z61, .second, jv z62, .second, jv z63, .second, jv z64, .second, rv b_256, iv 1, .unset, .unset, .unset] [(.int 1), (.int 7), (.ref b262), (.ref b262)]))
                    obtain ⟨cl303, Ar303, q303, S303, NN303, H303, G303⟩ := id B300
                    have hin303 : ¬ ((7 : Int32) < 0 ∨ cl303.slots.size ≤ ((7 : Int32)).toNatClampNeg) := inb_of S303 ⟨by decide, by decide⟩
                    obtain ⟨T303, h303, X303, e303, W303, st303⟩ := stI X298 hx hZ e298 Ar303 (j := (7 : Int32)) hin303 (g := (mkF m 391 #[iv p0, jv q1, .second, iv p2, jv q3, .second, iv p4, iv z3, iv 2, iv z4, iv z6, iv z8, iv z10, jv z12, .second, jv z15, .second, jv z18, .second, jv z21, .second, jv z24, .second, jv z27, .second, jv z34, .second, jv z42, .second, jv z50, .second, jv z58, .second, jv (z3.toInt64), .second, jv z60, .second, jv z61, .second, jv z62, .second, jv z63, .second, jv z64, .second, rv b_256, iv 1, .unset, .unset, .unset] [(.int 1), (.int 7), (.ref b262), (.ref b262)])) rfl rfl (hb hby at_391)
                    refine own_via (fun k => st303 _ k) ?_
                    show own_Go p e below s _ _ (T303.setTop (mkF m 392 #[iv p0, jv q1, .second, iv p2, jv q3, .second, iv p4, iv z3, iv 2, iv z4, iv z6, iv z8, iv z10, jv z12, .second, jv z15, .second, jv z18, .second, jv z21, .second, jv z24, .second, jv z27, .second, jv z34, .second, jv z42, .second, jv z50, .second, jv z58, .second, jv (z3.toInt64), .second, jv z60, .second, jv z61, .second, jv z62, .second, jv z63, .second, jv z64, .second, rv b_256, iv 1, .unset, .unset, .unset] [(.ref b262)]))
                    have B304 := B299.other W303 ne264
                    have B305 : Arv Z h303 b262 k262 .int (16 : Int32) [(.int 0), (.int 1), (.int 1), (.int 1), (.int 1), (.int 2), (.int 1), (.int 1), (.int 0), (.int 0), (.int 0), (.int 0), (.int 0), (.int 0), (.int 0), (.int 0)] (.int 0) := Arv.set Ar303 q303 S303 NN303 H303 G303 rfl W303 7 rfl (Nat.le_of_ble_eq_true rfl)
                    have N306 := Fr.snoc X303 N301 g263
                    have Z307 : n0 ≤ h303.size := Nat.le_trans Z302 (Keep.of_wr W303).1
                    refine own_via (fun k => XS.dup X303.here hx rfl (hb hby at_392) rfl rfl (XS.bipush X303.here hx rfl (hb hby at_393) (XS.iconst X303.here hx rfl (hb hby at_395) k))) ?_
                    show own_Go p e below s _ _ (T303.setTop (mkF m 396 #[iv p0, jv q1, .second, iv p2, jv q3, .second, iv p4, iv z3, iv 2, iv z4, iv z6, iv z8, iv z10, jv z12, .second, jv z15, .second, jv z18, .second, jv z21, .second, jv z24, .second, jv z27, .second, jv z34, .second, jv z42, .second, jv z50, .second, jv z58, .second, jv (z3.toInt64), .second, jv z60, .second, jv z61, .second, jv z62, .second, jv z63, .second, jv z64, .second, rv b_256, iv 1, .unset, .unset, .unset] [(.int 1), (.int 8), (.ref b262), (.ref b262)]))
                    obtain ⟨cl308, Ar308, q308, S308, NN308, H308, G308⟩ := id B305
                    have hin308 : ¬ ((8 : Int32) < 0 ∨ cl308.slots.size ≤ ((8 : Int32)).toNatClampNeg) := inb_of S308 ⟨by decide, by decide⟩
                    obtain ⟨T308, h308, X308, e308, W308, st308⟩ := stI X303 hx hZ e303 Ar308 (j := (8 : Int32)) hin308 (g := (mkF m 396 #[iv p0, jv q1, .second, iv p2, jv q3, .second, iv p4, iv z3, iv 2, iv z4, iv z6, iv z8, iv z10, jv z12, .second, jv z15, .second, jv z18, .second, jv z21, .second, jv z24, .second, jv z27, .second, jv z34, .second, jv z42, .second, jv z50, .second, jv z58, .second, jv (z3.toInt64), .second, jv z60, .second, jv z61, .second, jv z62, .second, jv z63, .second, jv z64, .second, rv b_256, iv 1, .unset, .unset, .unset] [(.int 1), (.int 8), (.ref b262), (.ref b262)])) rfl rfl (hb hby at_396)
                    refine own_via (fun k => st308 _ k) ?_
                    show own_Go p e below s _ _ (T308.setTop (mkF m 397 #[iv p0, jv q1, .second, iv p2, jv q3, .second, iv p4, iv z3, iv 2, iv z4, iv z6, iv z8, iv z10, jv z12, .second, jv z15, .second, jv z18, .second, jv z21, .second, jv z24, .second, jv z27, .second, jv z34, .second, jv z42, .second, jv z50, .second, jv z58, .second, jv (z3.toInt64), .second, jv z60, .second, jv z61, .second, jv z62, .second, jv z63, .second, jv z64, .second, rv b_256, iv 1, .unset, .unset, .unset] [(.ref b262)]))
                    have B309 := B304.other W308 ne264
                    have B310 : Arv Z h308 b262 k262 .int (16 : Int32) [(.int 0), (.int 1), (.int 1), (.int 1), (.int 1), (.int 2), (.int 1), (.int 1), (.int 1), (.int 0), (.int 0), (.int 0), (.int 0), (.int 0), (.int 0), (.int 0)] (.int 0) := Arv.set Ar308 q308 S308 NN308 H308 G308 rfl W308 8 rfl (Nat.le_of_ble_eq_true rfl)
                    have N311 := Fr.snoc X308 N306 g263
                    have Z312 : n0 ≤ h308.size := Nat.le_trans Z307 (Keep.of_wr W308).1
                    refine own_via (fun k => XS.dup X308.here hx rfl (hb hby at_397) rfl rfl (XS.bipush X308.here hx rfl (hb hby at_398) (XS.iconst X308.here hx rfl (hb hby at_400) k))) ?_
                    show own_Go p e below s _ _ (T308.setTop (mkF m 401 #[iv p0, jv q1, .second, iv p2, jv q3, .second, iv p4, iv z3, iv 2, iv z4, iv z6, iv z8, iv z10, jv z12, .second, jv z15, .second, jv z18, .second, jv z21, .second, jv z24, .second, jv z27, .second, jv z34, .second, jv z42, .second, jv z50, .second, jv z58, .second, jv (z3.toInt64), .second, jv z60, .second, jv z61, .second, jv z62, .second, jv z63, .second, jv z64, .second, rv b_256, iv 1, .unset, .unset, .unset] [(.int 2), (.int 9), (.ref b262), (.ref b262)]))
                    obtain ⟨cl313, Ar313, q313, S313, NN313, H313, G313⟩ := id B310
                    have hin313 : ¬ ((9 : Int32) < 0 ∨ cl313.slots.size ≤ ((9 : Int32)).toNatClampNeg) := inb_of S313 ⟨by decide, by decide⟩
                    obtain ⟨T313, h313, X313, e313, W313, st313⟩ := stI X308 hx hZ e308 Ar313 (j := (9 : Int32)) hin313 (g := (mkF m 401 #[iv p0, jv q1, .second, iv p2, jv q3, .second, iv p4, iv z3, iv 2, iv z4, iv z6, iv z8, iv z10, jv z12, .second, jv z15, .second, jv z18, .second, jv z21, .second, jv z24, .second, jv z27, .second, jv z34, .second, jv z42, .second, jv z50, .second, jv z58, .second, jv (z3.toInt64), .second, jv z60, .second, jv z61, .second, jv z62, .second, jv z63, .second, jv z64, .second, rv b_256, iv 1, .unset, .unset, .unset] [(.int 2), (.int 9), (.ref b262), (.ref b262)])) rfl rfl (hb hby at_401)
                    refine own_via (fun k => st313 _ k) ?_
                    show own_Go p e below s _ _ (T313.setTop (mkF m 402 #[iv p0, jv q1, .second, iv p2, jv q3, .second, iv p4, iv z3, iv 2, iv z4, iv z6, iv z8, iv z10, jv z12, .second, jv z15, .second, jv z18, .second, jv z21, .second, jv z24, .second, jv z27, .second, jv z34, .second, jv z42, .second, jv z50, .second, jv z58, .second, jv (z3.toInt64), .second, jv z60, .second, jv z61, .second, jv z62, .second, jv z63, .second, jv z64, .second, rv b_256, iv 1, .unset, .unset, .unset] [(.ref b262)]))
                    have B314 := B309.other W313 ne264
                    have B315 : Arv Z h313 b262 k262 .int (16 : Int32) [(.int 0), (.int 1), (.int 1), (.int 1), (.int 1), (.int 2), (.int 1), (.int 1), (.int 1), (.int 2), (.int 0), (.int 0), (.int 0), (.int 0), (.int 0), (.int 0)] (.int 0) := Arv.set Ar313 q313 S313 NN313 H313 G313 rfl W313 9 rfl (Nat.le_of_ble_eq_true rfl)
                    have N316 := Fr.snoc X313 N311 g263
                    have Z317 : n0 ≤ h313.size := Nat.le_trans Z312 (Keep.of_wr W313).1
                    refine own_via (fun k => XS.dup X313.here hx rfl (hb hby at_402) rfl rfl (XS.bipush X313.here hx rfl (hb hby at_403) (XS.iconst X313.here hx rfl (hb hby at_405) k))) ?_
                    show own_Go p e below s _ _ (T313.setTop (mkF m 406 #[iv p0, jv q1, .second, iv p2, jv q3, .second, iv p4, iv z3, iv 2, iv z4, iv z6, iv z8, iv z10, jv z12, .second, jv z15, .second, jv z18, .second, jv z21, .second, jv z24, .second, jv z27, .second, jv z34, .second, jv z42, .second, jv z50, .second, jv z58, .second, jv (z3.toInt64), .second, jv z60, .second, jv z61, .second, jv z62, .second, jv z63, .second, jv z64, .second, rv b_256, iv 1, .unset, .unset, .unset] [(.int 2), (.int 10), (.ref b262), (.ref b262)]))
                    obtain ⟨cl318, Ar318, q318, S318, NN318, H318, G318⟩ := id B315
                    have hin318 : ¬ ((10 : Int32) < 0 ∨ cl318.slots.size ≤ ((10 : Int32)).toNatClampNeg) := inb_of S318 ⟨by decide, by decide⟩
                    obtain ⟨T318, h318, X318, e318, W318, st318⟩ := stI X313 hx hZ e313 Ar318 (j := (10 : Int32)) hin318 (g := (mkF m 406 #[iv p0, jv q1, .second, iv p2, jv q3, .second, iv p4, iv z3, iv 2, iv z4, iv z6, iv z8, iv z10, jv z12, .second, jv z15, .second, jv z18, .second, jv z21, .second, jv z24, .second, jv z27, .second, jv z34, .second, jv z42, .second, jv z50, .second, jv z58, .second, jv (z3.toInt64), .second, jv z60, .second, jv z61, .second, jv z62, .second, jv z63, .second, jv z64, .second, rv b_256, iv 1, .unset, .unset, .unset] [(.int 2), (.int 10), (.ref b262), (.ref b262)])) rfl rfl (hb hby at_406)
                    refine own_via (fun k => st318 _ k) ?_
                    show own_Go p e below s _ _ (T318.setTop (mkF m 407 #[iv p0, jv q1, .second, iv p2, jv q3, .second, iv p4, iv z3, iv 2, iv z4, iv z6, iv z8, iv z10, jv z12, .second, jv z15, .second, jv z18, .second, jv z21, .second, jv z24, .second, jv z27, .second, jv z34, .second, jv z42, .second, jv z50, .second, jv z58, .second, jv (z3.toInt64), .second, jv z60, .second, jv z61, .second, jv z62, .second, jv z63, .second, jv z64, .second, rv b_256, iv 1, .unset, .unset, .unset] [(.ref b262)]))
                    have B319 := B314.other W318 ne264
                    have B320 : Arv Z h318 b262 k262 .int (16 : Int32) [(.int 0), (.int 1), (.int 1), (.int 1), (.int 1), (.int 2), (.int 1), (.int 1), (.int 1), (.int 2), (.int 2), (.int 0), (.int 0), (.int 0), (.int 0), (.int 0)] (.int 0) := Arv.set Ar318 q318 S318 NN318 H318 G318 rfl W318 10 rfl (Nat.le_of_ble_eq_true rfl)
                    have N321 := Fr.snoc X318 N316 g263
                    have Z322 : n0 ≤ h318.size := Nat.le_trans Z317 (Keep.of_wr W318).1
                    refine own_via (fun k => XS.dup X318.here hx rfl (hb hby at_407) rfl rfl (XS.bipush X318.here hx rfl (hb hby at_408) (XS.iconst X318.here hx rfl (hb hby at_410) k))) ?_
                    show own_Go p e below s _ _ (T318.setTop (mkF m 411 #[iv p0, jv q1, .second, iv p2, jv q3, .second, iv p4, iv z3, iv 2, iv z4, iv z6, iv z8, iv z10, jv z12, .second, jv z15, .second, jv z18, .second, jv z21, .second, jv z24, .second, jv z27, .second, jv z34, .second, jv z42, .second, jv z50, .second, jv z58, .second, jv (z3.toInt64), .second, jv z60, .second, jv z61, .second, jv z62, .second, jv z63, .second, jv z64, .second, rv b_256, iv 1, .unset, .unset, .unset] [(.int 2), (.int 11), (.ref b262), (.ref b262)]))
                    obtain ⟨cl323, Ar323, q323, S323, NN323, H323, G323⟩ := id B320
                    have hin323 : ¬ ((11 : Int32) < 0 ∨ cl323.slots.size ≤ ((11 : Int32)).toNatClampNeg) := inb_of S323 ⟨by decide, by decide⟩
                    obtain ⟨T323, h323, X323, e323, W323, st323⟩ := stI X318 hx hZ e318 Ar323 (j := (11 : Int32)) hin323 (g := (mkF m 411 #[iv p0, jv q1, .second, iv p2, jv q3, .second, iv p4, iv z3, iv 2, iv z4, iv z6, iv z8, iv z10, jv z12, .second, jv z15, .second, jv z18, .second, jv z21, .second, jv z24, .second, jv z27, .second, jv z34, .second, jv z42, .second, jv z50, .second, jv z58, .second, jv (z3.toInt64), .second, jv z60, .second, jv z61, .second, jv z62, .second, jv z63, .second, jv z64, .second, rv b_256, iv 1, .unset, .unset, .unset] [(.int 2), (.int 11), (.ref b262), (.ref b262)])) rfl rfl (hb hby at_411)
                    refine own_via (fun k => st323 _ k) ?_
                    show own_Go p e below s _ _ (T323.setTop (mkF m 412 #[iv p0, jv q1, .second, iv p2, jv q3, .second, iv p4, iv z3, iv 2, iv z4, iv z6, iv z8, iv z10, jv z12, .second, jv z15, .second, jv z18, .second, jv z21, .second, jv z24, .second, jv z27, .second, jv z34, .second, jv z42, .second, jv z50, .second, jv z58, .second, jv (z3.toInt64), .second, jv z60, .second, jv z61, .second, jv z62, .second, jv z63, .second, jv z64, .second, rv b_256, iv 1, .unset, .unset, .unset] [(.ref b262)]))
                    have B324 := B319.other W323 ne264
                    have B325 : Arv Z h323 b262 k262 .int (16 : Int32) [(.int 0), (.int 1), (.int 1), (.int 1), (.int 1), (.int 2), (.int 1), (.int 1), (.int 1), (.int 2), (.int 2), (.int 2), (.int 0), (.int 0), (.int 0), (.int 0)] (.int 0) := Arv.set Ar323 q323 S323 NN323 H323 G323 rfl W323 11 rfl (Nat.le_of_ble_eq_true rfl)
                    have N326 := Fr.snoc X323 N321 g263
                    have Z327 : n0 ≤ h323.size := Nat.le_trans Z322 (Keep.of_wr W323).1
                    refine own_via (fun k => XS.dup X323.here hx rfl (hb hby at_412) rfl rfl (XS.bipush X323.here hx rfl (hb hby at_413) (XS.iconst X323.here hx rfl (hb hby at_415) k))) ?_
                    show own_Go p e below s _ _ (T323.setTop (mkF m 416 #[iv p0, jv q1, .second, iv p2, jv q3, .second, iv p4, iv z3, iv 2, iv z4, iv z6, iv z8, iv z10, jv z12, .second, jv z15, .second, jv z18, .second, jv z21, .second, jv z24, .second, jv z27, .second, jv z34, .second, jv z42, .second, jv z50, .second, jv z58, .second, jv (z3.toInt64), .second, jv z60, .second, jv z61, .second, jv z62, .second, jv z63, .second, jv z64, .second, rv b_256, iv 1, .unset, .unset, .unset] [(.int 1), (.int 12), (.ref b262), (.ref b262)]))
                    obtain ⟨cl328, Ar328, q328, S328, NN328, H328, G328⟩ := id B325
                    have hin328 : ¬ ((12 : Int32) < 0 ∨ cl328.slots.size ≤ ((12 : Int32)).toNatClampNeg) := inb_of S328 ⟨by decide, by decide⟩
                    obtain ⟨T328, h328, X328, e328, W328, st328⟩ := stI X323 hx hZ e323 Ar328 (j := (12 : Int32)) hin328 (g := (mkF m 416 #[iv p0, jv q1, .second, iv p2, jv q3, .second, iv p4, iv z3, iv 2, iv z4, iv z6, iv z8, iv z10, jv z12, .second, jv z15, .second, jv z18, .second, jv z21, .second, jv z24, .second, jv z27, .second, jv z34, .second, jv z42, .second, jv z50, .second, jv z58, .second, jv (z3.toInt64), .second, jv z60, .second, jv z61, .second, jv z62, .second, jv z63, .second, jv z64, .second, rv b_256, iv 1, .unset, .unset, .unset] [(.int 1), (.int 12), (.ref b262), (.ref b262)])) rfl rfl (hb hby at_416)
                    refine own_via (fun k => st328 _ k) ?_
                    show own_Go p e below s _ _ (T328.setTop (mkF m 417 #[iv p0, jv q1, .second, iv p2, jv q3, .second, iv p4, iv z3, iv 2, iv z4, iv z6, iv z8, iv z10, jv z12, .second, jv z15, .second, jv z18, .second, jv z21, .second, jv z24, .second, jv z27, .second, jv z34, .second, jv z42, .second, jv z50, .second, jv z58, .second, jv (z3.toInt64), .second, jv z60, .second, jv z61, .second, jv z62, .second, jv z63, .second, jv z64, .second, rv b_256, iv 1, .unset, .unset, .unset] [(.ref b262)]))
                    have B329 := B324.other W328 ne264
                    have B330 : Arv Z h328 b262 k262 .int (16 : Int32) [(.int 0), (.int 1), (.int 1), (.int 1), (.int 1), (.int 2), (.int 1), (.int 1), (.int 1), (.int 2), (.int 2), (.int 2), (.int 1), (.int 0), (.int 0), (.int 0)] (.int 0) := Arv.set Ar328 q328 S328 NN328 H328 G328 rfl W328 12 rfl (Nat.le_of_ble_eq_true rfl)
                    have N331 := Fr.snoc X328 N326 g263
                    have Z332 : n0 ≤ h328.size := Nat.le_trans Z327 (Keep.of_wr W328).1
                    refine own_via (fun k => XS.dup X328.here hx rfl (hb hby at_417) rfl rfl (XS.bipush X328.here hx rfl (hb hby at_418) (XS.iconst X328.here hx rfl (hb hby at_420) k))) ?_
                    show own_Go p e below s _ _ (T328.setTop (mkF m 421 #[iv p0, jv q1, .second, iv p2, jv q3, .second, iv p4, iv z3, iv 2, iv z4, iv z6, iv z8, iv z10, jv z12, .second, jv z15, .second, jv z18, .second, jv z21, .second, jv z24, .second, jv z27, .second, jv z34, .second, jv z42, .second, jv z50, .second, jv z58, .second, jv (z3.toInt64), .second, jv z60, .second, jv z61, .second, jv z62, .second, jv z63, .second, jv z64, .second, rv b_256, iv 1, .unset, .unset, .unset] [(.int 2), (.int 13), (.ref b262), (.ref b262)]))
                    obtain ⟨cl333, Ar333, q333, S333, NN333, H333, G333⟩ := id B330
                    have hin333 : ¬ ((13 : Int32) < 0 ∨ cl333.slots.size ≤ ((13 : Int32)).toNatClampNeg) := inb_of S333 ⟨by decide, by decide⟩
                    obtain ⟨T333, h333, X333, e333, W333, st333⟩ := stI X328 hx hZ e328 Ar333 (j := (13 : Int32)) hin333 (g := (mkF m 421 #[iv p0, jv q1, .second, iv p2, jv q3, .second, iv p4, iv z3, iv 2, iv z4, iv z6, iv z8, iv z10, jv z12, .second, jv z15, .second, jv z18, .second, jv z21, .second, jv z24, .second, jv z27, .second, jv z34, .second, jv z42, .second, jv z50, .second, jv z58, .second, jv (z3.toInt64), .second, jv z60, .second, jv z61, .second, jv z62, .second, jv z63, .second, jv z64, .second, rv b_256, iv 1, .unset, .unset, .unset] [(.int 2), (.int 13), (.ref b262), (.ref b262)])) rfl rfl (hb hby at_421)
                    refine own_via (fun k => st333 _ k) ?_
                    show own_Go p e below s _ _ (T333.setTop (mkF m 422 #[iv p0, jv q1, .second, iv p2, jv q3, .second, iv p4, iv z3, iv 2, iv z4, iv z6, iv z8, iv z10, jv z12, .second, jv z15, .second, jv z18, .second, jv z21, .second, jv z24, .second, jv z27, .second, jv z34, .second, jv z42, .second, jv z50, .second, jv z58, .second, jv (z3.toInt64), .second, jv z60, .second, jv z61, .second, jv z62, .second, jv z63, .second, jv z64, .second, rv b_256, iv 1, .unset, .unset, .unset] [(.ref b262)]))
                    have B334 := B329.other W333 ne264
                    have B335 : Arv Z h333 b262 k262 .int (16 : Int32) [(.int 0), (.int 1), (.int 1), (.int 1), (.int 1), (.int 2), (.int 1), (.int 1), (.int 1), (.int 2), (.int 2), (.int 2), (.int 1), (.int 2), (.int 0), (.int 0)] (.int 0) := Arv.set Ar333 q333 S333 NN333 H333 G333 rfl W333 13 rfl (Nat.le_of_ble_eq_true rfl)
                    have N336 := Fr.snoc X333 N331 g263
                    have Z337 : n0 ≤ h333.size := Nat.le_trans Z332 (Keep.of_wr W333).1
                    refine own_via (fun k => XS.dup X333.here hx rfl (hb hby at_422) rfl rfl (XS.bipush X333.here hx rfl (hb hby at_423) (XS.iconst X333.here hx rfl (hb hby at_425) k))) ?_
                    show own_Go p e below s _ _ (T333.setTop (mkF m 426 #[iv p0, jv q1, .second, iv p2, jv q3, .second, iv p4, iv z3, iv 2, iv z4, iv z6, iv z8, iv z10, jv z12, .second, jv z15, .second, jv z18, .second, jv z21, .second, jv z24, .second, jv z27, .second, jv z34, .second, jv z42, .second, jv z50, .second, jv z58, .second, jv (z3.toInt64), .second, jv z60, .second, jv z61, .second, jv z62, .second, jv z63, .second, jv z64, .second, rv b_256, iv 1, .unset, .unset, .unset] [(.int 1), (.int 14), (.ref b262), (.ref b262)]))
                    obtain ⟨cl338, Ar338, q338, S338, NN338, H338, G338⟩ := id B335
                    have hin338 : ¬ ((14 : Int32) < 0 ∨ cl338.slots.size ≤ ((14 : Int32)).toNatClampNeg) := inb_of S338 ⟨by decide, by decide⟩
                    obtain ⟨T338, h338, X338, e338, W338, st338⟩ := stI X333 hx hZ e333 Ar338 (j := (14 : Int32)) hin338 (g := (mkF m 426 #[iv p0, jv q1, .second, iv p2, jv q3, .second, iv p4, iv z3, iv 2, iv z4, iv z6, iv z8, iv z10, jv z12, .second, jv z15, .second, jv z18, .second, jv z21, .second, jv z24, .second, jv z27, .second, jv z34, .second, jv z42, .second, jv z50, .second, jv z58, .second, jv (z3.toInt64), .second, jv z60, .second, jv z61, .second, jv z62, .second, jv z63, .second, jv z64, .second, rv b_256, iv 1, .unset, .unset, .unset] [(.int 1), (.int 14), (.ref b262), (.ref b262)])) rfl rfl (hb hby at_426)
                    refine own_via (fun k => st338 _ k) ?_
                    show own_Go p e below s _ _ (T338.setTop (mkF m 427 #[iv p0, jv q1, .second, iv p2, jv q3, .second, iv p4, iv z3, iv 2, iv z4, iv z6, iv z8, iv z10, jv z12, .second, jv z15, .second, jv z18, .second, jv z21, .second, jv z24, .second, jv z27, .second, jv z34, .second, jv z42, .second, jv z50, .second, jv z58, .second, jv (z3.toInt64), .second, jv z60, .second, jv z61, .second, jv z62, .second, jv z63, .second, jv z64, .second, rv b_256, iv 1, .unset, .unset, .unset] [(.ref b262)]))
                    have B339 := B334.other W338 ne264
                    have B340 : Arv Z h338 b262 k262 .int (16 : Int32) [(.int 0), (.int 1), (.int 1), (.int 1), (.int 1), (.int 2), (.int 1), (.int 1), (.int 1), (.int 2), (.int 2), (.int 2), (.int 1), (.int 2), (.int 1), (.int 0)] (.int 0) := Arv.set Ar338 q338 S338 NN338 H338 G338 rfl W338 14 rfl (Nat.le_of_ble_eq_true rfl)
                    have N341 := Fr.snoc X338 N336 g263
                    have Z342 : n0 ≤ h338.size := Nat.le_trans Z337 (Keep.of_wr W338).1
                    refine own_via (fun k => XS.dup X338.here hx rfl (hb hby at_427) rfl rfl (XS.bipush X338.here hx rfl (hb hby at_428) (XS.iconst X338.here hx rfl (hb hby at_430) k))) ?_
                    show own_Go p e below s _ _ (T338.setTop (mkF m 431 #[iv p0, jv q1, .second, iv p2, jv q3, .second, iv p4, iv z3, iv 2, iv z4, iv z6, iv z8, iv z10, jv z12, .second, jv z15, .second, jv z18, .second, jv z21, .second, jv z24, .second, jv z27, .second, jv z34, .second, jv z42, .second, jv z50, .second, jv z58, .second, jv (z3.toInt64), .second, jv z60, .second, jv z61, .second, jv z62, .second, jv z63, .second, jv z64, .second, rv b_256, iv 1, .unset, .unset, .unset] [(.int 1), (.int 15), (.ref b262), (.ref b262)]))
                    obtain ⟨cl343, Ar343, q343, S343, NN343, H343, G343⟩ := id B340
                    have hin343 : ¬ ((15 : Int32) < 0 ∨ cl343.slots.size ≤ ((15 : Int32)).toNatClampNeg) := inb_of S343 ⟨by decide, by decide⟩
                    obtain ⟨T343, h343, X343, e343, W343, st343⟩ := stI X338 hx hZ e338 Ar343 (j := (15 : Int32)) hin343 (g := (mkF m 431 #[iv p0, jv q1, .second, iv p2, jv q3, .second, iv p4, iv z3, iv 2, iv z4, iv z6, iv z8, iv z10, jv z12, .second, jv z15, .second, jv z18, .second, jv z21, .second, jv z24, .second, jv z27, .second, jv z34, .second, jv z42, .second, jv z50, .second, jv z58, .second, jv (z3.toInt64), .second, jv z60, .second, jv z61, .second, jv z62, .second, jv z63, .second, jv z64, .second, rv b_256, iv 1, .unset, .unset, .unset] [(.int 1), (.int 15), (.ref b262), (.ref b262)])) rfl rfl (hb hby at_431)
                    refine own_via (fun k => st343 _ k) ?_
                    show own_Go p e below s _ _ (T343.setTop (mkF m 432 #[iv p0, jv q1, .second, iv p2, jv q3, .second, iv p4, iv z3, iv 2, iv z4, iv z6, iv z8, iv z10, jv z12, .second, jv z15, .second, jv z18, .second, jv z21, .second, jv z24, .second, jv z27, .second, jv z34, .second, jv z42, .second, jv z50, .second, jv z58, .second, jv (z3.toInt64), .second, jv z60, .second, jv z61, .second, jv z62, .second, jv z63, .second, jv z64, .second, rv b_256, iv 1, .unset, .unset, .unset] [(.ref b262)]))
                    have B344 := B339.other W343 ne264
                    have B345 : Arv Z h343 b262 k262 .int (16 : Int32) [(.int 0), (.int 1), (.int 1), (.int 1), (.int 1), (.int 2), (.int 1), (.int 1), (.int 1), (.int 2), (.int 2), (.int 2), (.int 1), (.int 2), (.int 1), (.int 1)] (.int 0) := Arv.set Ar343 q343 S343 NN343 H343 G343 rfl W343 15 rfl (Nat.le_of_ble_eq_true rfl)
                    have N346 := Fr.snoc X343 N341 g263
                    have Z347 : n0 ≤ h343.size := Nat.le_trans Z342 (Keep.of_wr W343).1
                    refine own_via (fun k => XS.astore X343.here hx rfl (hb hby at_432) rfl rfl (l' := #[iv p0, jv q1, .second, iv p2, jv q3, .second, iv p4, iv z3, iv 2, iv z4, iv z6, iv z8, iv z10, jv z12, .second, jv z15, .second, jv z18, .second, jv z21, .second, jv z24, .second, jv z27, .second, jv z34, .second, jv z42, .second, jv z50, .second, jv z58, .second, jv (z3.toInt64), .second, jv z60, .second, jv z61, .second, jv z62, .second, jv z63, .second, jv z64, .second, rv b_256, iv 1, rv b262, .unset, .unset]) rfl (XS.aload X343.here hx rfl (hb hby at_434) rfl rfl  (XS.iloadN X343.here hx rfl (hb hby at_436) rfl  (XS.iload X343.here hx rfl (hb hby at_437) rfl  k)))) ?_
                    show own_Go p e below s _ _ (T343.setTop (mkF m 439 #[iv p0, jv q1, .second, iv p2, jv q3, .second, iv p4, iv z3, iv 2, iv z4, iv z6, iv z8, iv z10, jv z12, .second, jv z15, .second, jv z18, .second, jv z21, .second, jv z24, .second, jv z27, .second, jv z34, .second, jv z42, .second, jv z50, .second, jv z58, .second, jv (z3.toInt64), .second, jv z60, .second, jv z61, .second, jv z62, .second, jv z63, .second, jv z64, .second, rv b_256, iv 1, rv b262, .unset, .unset] [(.int 1), (.int p2), (.ref b262)]))
                    refine own_via (fun k => XS.iand X343.here hx rfl (hb hby at_439) rfl k) ?_
                    show own_Go p e below s _ _ (T343.setTop (mkF m 440 #[iv p0, jv q1, .second, iv p2, jv q3, .second, iv p4, iv z3, iv 2, iv z4, iv z6, iv z8, iv z10, jv z12, .second, jv z15, .second, jv z18, .second, jv z21, .second, jv z24, .second, jv z27, .second, jv z34, .second, jv z42, .second, jv z50, .second, jv z58, .second, jv (z3.toInt64), .second, jv z60, .second, jv z61, .second, jv z62, .second, jv z63, .second, jv z64, .second, rv b_256, iv 1, rv b262, .unset, .unset] [(.int (p2 &&& (1 : Int32))), (.ref b262)]))
                    obtain ⟨cl348, Ar348, q348, S348, NN348, H348, G348⟩ := id B345
                    have hin348 : ¬ ((p2 &&& (1 : Int32)) < 0 ∨ cl348.slots.size ≤ ((p2 &&& (1 : Int32))).toNatClampNeg) := inb_of S348 (own_in2 p2 hl65)
                    have hat348 : cl348.slots[((p2 &&& (1 : Int32))).toNatClampNeg]? = some (.int (own_tab (p2 &&& (1 : Int32)))) := H348.at hin348 (own_tabget (p2 &&& (1 : Int32)) (own_in2 p2 hl65))
                    refine own_via (fun k => X343.iaload hx (j := (p2 &&& (1 : Int32))) (v := (.int (own_tab (p2 &&& (1 : Int32))))) (by rw [e343]; exact Ar348.1) (State.isArrayOf_alike hZ.alike Ar348.2.1) Ar348.2.2 hin348 hat348 (g := (mkF m 440 #[iv p0, jv q1, .second, iv p2, jv q3, .second, iv p4, iv z3, iv 2, iv z4, iv z6, iv z8, iv z10, jv z12, .second, jv z15, .second, jv z18, .second, jv z21, .second, jv z24, .second, jv z27, .second, jv z34, .second, jv z42, .second, jv z50, .second, jv z58, .second, jv (z3.toInt64), .second, jv z60, .second, jv z61, .second, jv z62, .second, jv z63, .second, jv z64, .second, rv b_256, iv 1, rv b262, .unset, .unset] [(.int (p2 &&& (1 : Int32))), (.ref b262)])) rfl rfl (hb hby at_440) _ k) ?_
                    show own_Go p e below s _ _ (T343.setTop (mkF m 441 #[iv p0, jv q1, .second, iv p2, jv q3, .second, iv p4, iv z3, iv 2, iv z4, iv z6, iv z8, iv z10, jv z12, .second, jv z15, .second, jv z18, .second, jv z21, .second, jv z24, .second, jv z27, .second, jv z34, .second, jv z42, .second, jv z50, .second, jv z58, .second, jv (z3.toInt64), .second, jv z60, .second, jv z61, .second, jv z62, .second, jv z63, .second, jv z64, .second, rv b_256, iv 1, rv b262, .unset, .unset] [(.int (own_tab (p2 &&& (1 : Int32))))]))
                    refine own_via (fun k => XS.i2l X343.here hx rfl (hb hby at_441) rfl (XS.lstore X343.here hx rfl (hb hby at_442) rfl (l' := #[iv p0, jv q1, .second, iv p2, jv q3, .second, iv p4, iv z3, iv 2, iv z4, iv z6, iv z8, iv z10, jv z12, .second, jv z15, .second, jv z18, .second, jv z21, .second, jv z24, .second, jv z27, .second, jv z34, .second, jv z42, .second, jv z50, .second, jv z58, .second, jv (z3.toInt64), .second, jv z60, .second, jv z61, .second, jv z62, .second, jv z63, .second, jv z64, .second, rv b_256, iv 1, rv b262, jv ((own_tab (p2 &&& (1 : Int32))).toInt64), .second]) rfl (XS.aload X343.here hx rfl (hb hby at_444) rfl rfl  (XS.iload X343.here hx rfl (hb hby at_446) rfl  k)))) ?_
                    show own_Go p e below s _ _ (T343.setTop (mkF m 448 #[iv p0, jv q1, .second, iv p2, jv q3, .second, iv p4, iv z3, iv 2, iv z4, iv z6, iv z8, iv z10, jv z12, .second, jv z15, .second, jv z18, .second, jv z21, .second, jv z24, .second, jv z27, .second, jv z34, .second, jv z42, .second, jv z50, .second, jv z58, .second, jv (z3.toInt64), .second, jv z60, .second, jv z61, .second, jv z62, .second, jv z63, .second, jv z64, .second, rv b_256, iv 1, rv b262, jv ((own_tab (p2 &&& (1 : Int32))).toInt64), .second] [(.int z3), (.ref b_256)]))
                    obtain ⟨_, _, ⟨T349, L349, k349, n349⟩, -, X349, ⟨Lc349, hQ349, l349, y349, z349⟩, st349⟩ := Jvm.LawKit.callS X343 hx (y := (⟨"com/example/waveslot/waveslot/core/CheckerSteps", "repeatedQuotients", "([JI)J"⟩ : MethodName)) hown (mvT hZ (hw _ (List.mem_of_getElem? (i := 22) rfl))) (mvT hZ (hw _ (List.mem_of_getElem? (i := 23) rfl))) (mvT hZ (hw _ (List.mem_of_getElem? (i := 24) rfl))) (mvT hZ (hw _ (List.mem_of_getElem? (i := 25) rfl))) (by decide) (backOf (W := 0) (rm6_2 l Z aw hw [] b_256 z3 k_256 z60 z61 h343 n0 Z347 B344 (own_hhn6_2 p0 p2 z3 hz3 hl65)) hZ (hw _ (List.mem_of_getElem? (i := 25) rfl)) (hw _ (List.mem_of_getElem? (i := 24) rfl)) (by decide) (by decide)) (g := (mkF m 448 #[iv p0, jv q1, .second, iv p2, jv q3, .second, iv p4, iv z3, iv 2, iv z4, iv z6, iv z8, iv z10, jv z12, .second, jv z15, .second, jv z18, .second, jv z21, .second, jv z24, .second, jv z27, .second, jv z34, .second, jv z42, .second, jv z50, .second, jv z58, .second, jv (z3.toInt64), .second, jv z60, .second, jv z61, .second, jv z62, .second, jv z63, .second, jv z64, .second, rv b_256, iv 1, rv b262, jv ((own_tab (p2 &&& (1 : Int32))).toInt64), .second] [(.int z3), (.ref b_256)])) rfl (by rw [hml]; rfl) (argsL := [(.ref b_256), (.int z3)]) (rest := []) (lenOf pd_5 rfl) rfl (by show 2 * 0 + _ ≤ _; exact Nat.le_of_eq rfl) (hb hby at_448) (fun _ _ => ⟨rfl, e343, (by decide : 2 + 0 ≤ _), (by decide : 18 + 0 ≤ _)⟩)
                    dsimp only [Pt.U, Pt.locs, Pt.cells, Pt.slots] at X349 l349 y349 z349 st349 hQ349
                    subst l349 y349 z349
                    obtain ⟨rfl, N349q, eh349⟩ := hQ349
                    have N350 := Fr.app N346 N349q
                    refine own_via (fun k => st349 _ k) ?_
                    show own_Go p e below s _ _ (T349.setTop (mkF m 451 #[iv p0, jv q1, .second, iv p2, jv q3, .second, iv p4, iv z3, iv 2, iv z4, iv z6, iv z8, iv z10, jv z12, .second, jv z15, .second, jv z18, .second, jv z21, .second, jv z24, .second, jv z27, .second, jv z34, .second, jv z42, .second, jv z50, .second, jv z58, .second, jv (z3.toInt64), .second, jv z60, .second, jv z61, .second, jv z62, .second, jv z63, .second, jv z64, .second, rv b_256, iv 1, rv b262, jv ((own_tab (p2 &&& (1 : Int32))).toInt64), .second] [(.long (own_f6_2 z3 z60 z61))]))
                    refine own_via (fun k => XS.lload X349.here hx rfl (hb hby at_451) rfl  (XS.lcmp X349.here hx rfl (hb hby at_453) rfl k)) ?_
                    show own_Go p e below s _ _ (T349.setTop (mkF m 454 #[iv p0, jv q1, .second, iv p2, jv q3, .second, iv p4, iv z3, iv 2, iv z4, iv z6, iv z8, iv z10, jv z12, .second, jv z15, .second, jv z18, .second, jv z21, .second, jv z24, .second, jv z27, .second, jv z34, .second, jv z42, .second, jv z50, .second, jv z58, .second, jv (z3.toInt64), .second, jv z60, .second, jv z61, .second, jv z62, .second, jv z63, .second, jv z64, .second, rv b_256, iv 1, rv b262, jv ((own_tab (p2 &&& (1 : Int32))).toInt64), .second] [(.int (lcmpW (own_f6_2 z3 z60 z61) ((own_tab (p2 &&& (1 : Int32))).toInt64)))]))
                    refine own_via (fun k => XS.ifNo X349.here hx rfl (hb hby at_454) rfl ((if0 _ _).trans (teq ((lw_eq _ _).mpr (own_law2 p0 q1 p2 q3 p4 z3 hz3 z4 hz4 z12 hz12 z15 hz15 z27 hz27 z34 hz34 z60 hz60 z61 hz61 hl65))).2) k) ?_
                    show own_Go p e below s _ _ (T349.setTop (mkF m 457 #[iv p0, jv q1, .second, iv p2, jv q3, .second, iv p4, iv z3, iv 2, iv z4, iv z6, iv z8, iv z10, jv z12, .second, jv z15, .second, jv z18, .second, jv z21, .second, jv z24, .second, jv z27, .second, jv z34, .second, jv z42, .second, jv z50, .second, jv z58, .second, jv (z3.toInt64), .second, jv z60, .second, jv z61, .second, jv z62, .second, jv z63, .second, jv z64, .second, rv b_256, iv 1, rv b262, jv ((own_tab (p2 &&& (1 : Int32))).toInt64), .second] []))
                    refine own_via (fun k => XS.iconst X349.here hx rfl (hb hby at_457) (XS.goto X349.here hx rfl (pc0 := 458) (pc' := 462) rfl (hb hby at_458) (by decide) (by decide) k)) ?_
                    show own_Go p e below s _ _ (T349.setTop (mkF m 462 #[iv p0, jv q1, .second, iv p2, jv q3, .second, iv p4, iv z3, iv 2, iv z4, iv z6, iv z8, iv z10, jv z12, .second, jv z15, .second, jv z18, .second, jv z21, .second, jv z24, .second, jv z27, .second, jv z34, .second, jv z42, .second, jv z50, .second, jv z58, .second, jv (z3.toInt64), .second, jv z60, .second, jv z61, .second, jv z62, .second, jv z63, .second, jv z64, .second, rv b_256, iv 1, rv b262, jv ((own_tab (p2 &&& (1 : Int32))).toInt64), .second] [(.int 1)]))
                    exact own_retN X349 hx hlk (t := .boolean) Bd.returns (by simp) (hb hby at_462) (Q := (Q0 Z p0 q1 p2 q3 p4 h0 n0)) ⟨rfl, N350⟩ (by decide) (by decide)
                  · rw [hl65]
                    show own_Go p e below s _ _ (T59.setTop (mkF m 318 #[iv p0, jv q1, .second, iv p2, jv q3, .second, iv p4, iv z3, iv 3, iv z4, iv z6, iv z8, iv z10, jv z12, .second, jv z15, .second, jv z18, .second, jv z21, .second, jv z24, .second, jv z27, .second, jv z34, .second, jv z42, .second, jv z50, .second, jv z58, .second, jv (z3.toInt64), .second, jv z60, .second, jv z61, .second, jv z62, .second, jv z63, .second, jv z64, .second, .unset, .unset, .unset, .unset, .unset] []))
                    refine own_via (fun k => XS.iload X59.here hx rfl (hb hby at_318) rfl  (XS.lload X59.here hx rfl (hb hby at_320) rfl  (XS.lload X59.here hx rfl (hb hby at_322) rfl  (XS.lload X59.here hx rfl (hb hby at_324) rfl  k)))) ?_
                    show own_Go p e below s _ _ (T59.setTop (mkF m 326 #[iv p0, jv q1, .second, iv p2, jv q3, .second, iv p4, iv z3, iv 3, iv z4, iv z6, iv z8, iv z10, jv z12, .second, jv z15, .second, jv z18, .second, jv z21, .second, jv z24, .second, jv z27, .second, jv z34, .second, jv z42, .second, jv z50, .second, jv z58, .second, jv (z3.toInt64), .second, jv z60, .second, jv z61, .second, jv z62, .second, jv z63, .second, jv z64, .second, .unset, .unset, .unset, .unset, .unset] [(.long z62), (.long z61), (.long z60), (.int 3)]))
                    refine own_via (fun k => XS.lload X59.here hx rfl (hb hby at_326) rfl  (XS.lload X59.here hx rfl (hb hby at_328) rfl  k)) ?_
                    show own_Go p e below s _ _ (T59.setTop (mkF m 330 #[iv p0, jv q1, .second, iv p2, jv q3, .second, iv p4, iv z3, iv 3, iv z4, iv z6, iv z8, iv z10, jv z12, .second, jv z15, .second, jv z18, .second, jv z21, .second, jv z24, .second, jv z27, .second, jv z34, .second, jv z42, .second, jv z50, .second, jv z58, .second, jv (z3.toInt64), .second, jv z60, .second, jv z61, .second, jv z62, .second, jv z63, .second, jv z64, .second, .unset, .unset, .unset, .unset, .unset] [(.long z64), (.long z63), (.long z62), (.long z61), (.long z60), (.int 3)]))
                    obtain ⟨_, _, ⟨T351, L351, k351, n351⟩, -, X351, ⟨Lc351, hQ351, l351, y351, z351⟩, st351⟩ := Jvm.LawKit.callS X59 hx (y := (⟨"com/example/waveslot/waveslot/core/CheckerStepsRepeatedQuotientsPinLaw", "prefix", "(IJJJJJ)[J"⟩ : MethodName)) hown (mvT hZ (hw _ (List.mem_of_getElem? (i := 17) rfl))) (mvT hZ (hw _ (List.mem_of_getElem? (i := 18) rfl))) (mvT hZ (hw _ (List.mem_of_getElem? (i := 8) rfl))) (mvT hZ (hw _ (List.mem_of_getElem? (i := 19) rfl))) (by decide) (backOf (W := 0) (rm5_3 l Z aw hw [] z60 z61 z62 z63 z64 h0 n0 Z0) hZ (hw _ (List.mem_of_getElem? (i := 19) rfl)) (hw _ (List.mem_of_getElem? (i := 8) rfl)) (by decide) (by decide)) (g := (mkF m 330 #[iv p0, jv q1, .second, iv p2, jv q3, .second, iv p4, iv z3, iv 3, iv z4, iv z6, iv z8, iv z10, jv z12, .second, jv z15, .second, jv z18, .second, jv z21, .second, jv z24, .second, jv z27, .second, jv z34, .second, jv z42, .second, jv z50, .second, jv z58, .second, jv (z3.toInt64), .second, jv z60, .second, jv z61, .second, jv z62, .second, jv z63, .second, jv z64, .second, .unset, .unset, .unset, .unset, .unset] [(.long z64), (.long z63), (.long z62), (.long z61), (.long z60), (.int 3)])) rfl (by rw [hml]; rfl) (argsL := [(.int 3), (.long z60), (.long z61), (.long z62), (.long z63), (.long z64)]) (rest := []) (lenOf pd_4 rfl) rfl (by show 2 * 0 + _ ≤ _; exact Nat.le_of_eq rfl) (hb hby at_330) (fun _ _ => ⟨rfl, e59, (by decide : 0 + 1 ≤ _), (by decide : 0 + 3 ≤ _)⟩)
                    dsimp only [Pt.U, Pt.locs, Pt.cells, Pt.slots] at X351 l351 y351 z351 st351 hQ351
                    subst l351 y351 z351
                    obtain ⟨b_351, k_351, rfl, N351q, K351, B352, g353⟩ := hQ351
                    have N354 := Fr.app N59 N351q
                    have Z355 : n0 ≤ T351.heap.size := Nat.le_trans Z0 K351.1
                    have g356 : n0 ≤ b_351 := Nat.le_trans Z0 g353
                    refine own_via (fun k => st351 _ k) ?_
                    show own_Go p e below s _ _ (T351.setTop (mkF m 333 #[iv p0, jv q1, .second, iv p2, jv q3, .second, iv p4, iv z3, iv 3, iv z4, iv z6, iv z8, iv z10, jv z12, .second, jv z15, .second, jv z18, .second, jv z21, .second, jv z24, .second, jv z27, .second, jv z34, .second, jv z42, .second, jv z50, .second, jv z58, .second, jv (z3.toInt64), .second, jv z60, .second, jv z61, .second, jv z62, .second, jv z63, .second, jv z64, .second, .unset, .unset, .unset, .unset, .unset] [(.ref b_351)]))
                    refine own_via (fun k => XS.astore X351.here hx rfl (hb hby at_333) rfl rfl (l' := #[iv p0, jv q1, .second, iv p2, jv q3, .second, iv p4, iv z3, iv 3, iv z4, iv z6, iv z8, iv z10, jv z12, .second, jv z15, .second, jv z18, .second, jv z21, .second, jv z24, .second, jv z27, .second, jv z34, .second, jv z42, .second, jv z50, .second, jv z58, .second, jv (z3.toInt64), .second, jv z60, .second, jv z61, .second, jv z62, .second, jv z63, .second, jv z64, .second, rv b_351, .unset, .unset, .unset, .unset]) rfl (XS.iload X351.here hx rfl (hb hby at_335) rfl  k)) ?_
                    show own_Go p e below s _ _ (T351.setTop (mkF m 337 #[iv p0, jv q1, .second, iv p2, jv q3, .second, iv p4, iv z3, iv 3, iv z4, iv z6, iv z8, iv z10, jv z12, .second, jv z15, .second, jv z18, .second, jv z21, .second, jv z24, .second, jv z27, .second, jv z34, .second, jv z42, .second, jv z50, .second, jv z58, .second, jv (z3.toInt64), .second, jv z60, .second, jv z61, .second, jv z62, .second, jv z63, .second, jv z64, .second, rv b_351, .unset, .unset, .unset, .unset] [(.int 3)]))
                    refine own_via (fun k => XS.ifYes X351.here hx rfl (pc0 := 337) (pc' := 344) rfl (hb hby at_337) rfl (by decide) (by decide) (by decide) k) ?_
                    show own_Go p e below s _ _ (T351.setTop (mkF m 344 #[iv p0, jv q1, .second, iv p2, jv q3, .second, iv p4, iv z3, iv 3, iv z4, iv z6, iv z8, iv z10, jv z12, .second, jv z15, .second, jv z18, .second, jv z21, .second, jv z24, .second, jv z27, .second, jv z34, .second, jv z42, .second, jv z50, .second, jv z58, .second, jv (z3.toInt64), .second, jv z60, .second, jv z61, .second, jv z62, .second, jv z63, .second, jv z64, .second, rv b_351, .unset, .unset, .unset, .unset] []))
                    refine own_via (fun k => XS.iconst X351.here hx rfl (hb hby at_344) (XS.iload X351.here hx rfl (hb hby at_345) rfl  (XS.iconst X351.here hx rfl (hb hby at_347) (XS.isub X351.here hx rfl (hb hby at_348) rfl k)))) ?_
                    show own_Go p e below s _ _ (T351.setTop (mkF m 349 #[iv p0, jv q1, .second, iv p2, jv q3, .second, iv p4, iv z3, iv 3, iv z4, iv z6, iv z8, iv z10, jv z12, .second, jv z15, .second, jv z18, .second, jv z21, .second, jv z24, .second, jv z27, .second, jv z34, .second, jv z42, .second, jv z50, .second, jv z58, .second, jv (z3.toInt64), .second, jv z60, .second, jv z61, .second, jv z62, .second, jv z63, .second, jv z64, .second, rv b_351, .unset, .unset, .unset, .unset] [(.int 2), (.int 1)]))
                    refine own_via (fun k => XS.ishl X351.here hx rfl (hb hby at_349) rfl (XS.iconst X351.here hx rfl (hb hby at_350) (XS.isub X351.here hx rfl (hb hby at_351) rfl (XS.istore X351.here hx rfl (hb hby at_352) rfl (l' := #[iv p0, jv q1, .second, iv p2, jv q3, .second, iv p4, iv z3, iv 3, iv z4, iv z6, iv z8, iv z10, jv z12, .second, jv z15, .second, jv z18, .second, jv z21, .second, jv z24, .second, jv z27, .second, jv z34, .second, jv z42, .second, jv z50, .second, jv z58, .second, jv (z3.toInt64), .second, jv z60, .second, jv z61, .second, jv z62, .second, jv z63, .second, jv z64, .second, rv b_351, iv 3, .unset, .unset, .unset]) rfl k)))) ?_
                    show own_Go p e below s _ _ (T351.setTop (mkF m 354 #[iv p0, jv q1, .second, iv p2, jv q3, .second, iv p4, iv z3, iv 3, iv z4, iv z6, iv z8, iv z10, jv z12, .second, jv z15, .second, jv z18, .second, jv z21, .second, jv z24, .second, jv z27, .second, jv z34, .second, jv z42, .second, jv z50, .second, jv z58, .second, jv (z3.toInt64), .second, jv z60, .second, jv z61, .second, jv z62, .second, jv z63, .second, jv z64, .second, rv b_351, iv 3, .unset, .unset, .unset] []))
                    refine own_via (fun k => XS.bipush X351.here hx rfl (hb hby at_354) k) ?_
                    show own_Go p e below s _ _ (T351.setTop (mkF m 356 #[iv p0, jv q1, .second, iv p2, jv q3, .second, iv p4, iv z3, iv 3, iv z4, iv z6, iv z8, iv z10, jv z12, .second, jv z15, .second, jv z18, .second, jv z21, .second, jv z24, .second, jv z27, .second, jv z34, .second, jv z42, .second, jv z50, .second, jv z58, .second, jv (z3.toInt64), .second, jv z60, .second, jv z61, .second, jv z62, .second, jv z63, .second, jv z64, .second, rv b_351, iv 3, .unset, .unset, .unset] [(.int 16)]))
                    obtain ⟨T357, h357, k357, X357, e357, E357, A357, st357⟩ := newP X351 hx hZ (hw _ (List.mem_of_getElem? (i := 21) rfl)) rfl (g := (mkF m 356 #[iv p0, jv q1, .second, iv p2, jv q3, .second, iv p4, iv z3, iv 3, iv z4, iv z6, iv z8, iv z10, jv z12, .second, jv z15, .second, jv z18, .second, jv z21, .second, jv z24, .second, jv z27, .second, jv z34, .second, jv z42, .second, jv z50, .second, jv z58, .second, jv (z3.toInt64), .second, jv z60, .second, jv z61, .second, jv z62, .second, jv z63, .second, jv z64, .second, rv b_351, iv 3, .unset, .unset, .unset] [(.int 16)])) rfl (hb hby at_356) rfl (by decide) (cap := 16) (by decide) (by decide) (by decide) (by decide)
                    obtain ⟨b357, g357⟩ : ∃ z, z = T351.heap.size := ⟨_, rfl⟩
                    rw [← g357] at A357 st357
                    refine own_via (fun k => st357 _ k) ?_
                    show own_Go p e below s _ _ (T357.setTop (mkF m 358 #[iv p0, jv q1, .second, iv p2, jv q3, .second, iv p4, iv z3, iv 3, iv z4, iv z6, iv z8, iv z10, jv z12, .second, jv z15, .second, jv z18, .second, jv z21, .second, jv z24, .second, jv z27, .second, jv z34, .second, jv z42, .second, jv z50, .second, jv z58, .second, jv (z3.toInt64), .second, jv z60, .second, jv z61, .second, jv z62, .second, jv z63, .second, jv z64, .second, rv b_351, iv 3, .unset, .unset, .unset] [(.ref b357)]))
                    have g358 : n0 ≤ b357 := Nat.le_trans Z355 (Nat.le_of_eq g357.symm)
                    have ne359 : b_351 ≠ b357 := Nat.ne_of_lt (Nat.lt_of_lt_of_le B352.lt (Nat.le_of_eq g357.symm))
                    have B360 := B352.ext E357
                    have Z361 : n0 ≤ h357.size := Nat.le_trans Z355 E357.1
                    have B362 : Arv Z h357 b357 k357 .int (16 : Int32) [(.int 0), (.int 0), (.int 0), (.int 0), (.int 0), (.int 0), (.int 0), (.int 0), (.int 0), (.int 0), (.int 0), (.int 0), (.int 0), (.int 0), (.int 0), (.int 0)] (.int 0) := (Arv.new A357 (by decide)).pad (pad_rep [] (.int 0) 16)
                    refine own_via (fun k => XS.dup X357.here hx rfl (hb hby at_358) rfl rfl (XS.iconst X357.here hx rfl (hb hby at_359) (XS.iconst X357.here hx rfl (hb hby at_360) k))) ?_
                    show own_Go p e below s _ _ (T357.setTop (mkF m 361 #[iv p0, jv q1, .second, iv p2, jv q3, .second, iv p4, iv z3, iv 3, iv z4, iv z6, iv z8, iv z10, jv z12, .second, jv z15, .second, jv z18, .second, jv z21, .second, jv z24, .second, jv z27, .second, jv z34, .second, jv z42, .second, jv z50, .second, jv z58, .second, jv (z3.toInt64), .second, jv z60, .second, jv z61, .second, jv z62, .second, jv z63, .second, jv z64, .second, rv b_351, iv 3, .unset, .unset, .unset] [(.int 0), (.int 0), (.ref b357), (.ref b357)]))
                    obtain ⟨cl363, Ar363, q363, S363, NN363, H363, G363⟩ := id B362
                    have hin363 : ¬ ((0 : Int32) < 0 ∨ cl363.slots.size ≤ ((0 : Int32)).toNatClampNeg) := inb_of S363 ⟨by decide, by decide⟩
                    obtain ⟨T363, h363, X363, e363, W363, st363⟩ := stI X357 hx hZ e357 Ar363 (j := (0 : Int32)) hin363 (g := (mkF m 361 #[iv p0, jv q1, .second, iv p2, jv q3, .second, iv p4, iv z3, iv 3, iv z4, iv z6, iv z8, iv z10, jv z12, .second, jv z15, .second, jv z18, .second, jv z21, .second, jv z24, .second, jv z27, .second, jv z34, .second, jv z42, .second, jv z50, .second, jv z58, .second, jv (z3.toInt64), .second, jv z60, .second, jv z61, .second, jv z62, .second, jv z63, .second, jv z64, .second, rv b_351, iv 3, .unset, .unset, .unset] [(.int 0), (.int 0), (.ref b357), (.ref b357)])) rfl rfl (hb hby at_361)
                    refine own_via (fun k => st363 _ k) ?_
                    show own_Go p e below s _ _ (T363.setTop (mkF m 362 #[iv p0, jv q1, .second, iv p2, jv q3, .second, iv p4, iv z3, iv 3, iv z4, iv z6, iv z8, iv z10, jv z12, .second, jv z15, .second, jv z18, .second, jv z21, .second, jv z24, .second, jv z27, .second, jv z34, .second, jv z42, .second, jv z50, .second, jv z58, .second, jv (z3.toInt64), .second, jv z60, .second, jv z61, .second, jv z62, .second, jv z63, .second, jv z64, .second, rv b_351, iv 3, .unset, .unset, .unset] [(.ref b357)]))
                    have B364 := B360.other W363 ne359
                    have B365 : Arv Z h363 b357 k357 .int (16 : Int32) [(.int 0), (.int 0), (.int 0), (.int 0), (.int 0), (.int 0), (.int 0), (.int 0), (.int 0), (.int 0), (.int 0), (.int 0), (.int 0), (.int 0), (.int 0), (.int 0)] (.int 0) := Arv.set Ar363 q363 S363 NN363 H363 G363 rfl W363 0 rfl (Nat.le_of_ble_eq_true rfl)
                    have N366 := Fr.snoc X363 N354 g358
                    have Z367 : n0 ≤ h363.size := Nat.le_trans Z361 (Keep.of_wr W363).1
                    refine own_via (fun k => XS.dup X363.here hx rfl (hb hby at_362) rfl rfl (XS.iconst X363.here hx rfl (hb hby at_363) (XS.iconst X363.here hx rfl (hb hby at_364) k))) ?_
                    show own_Go p e below s _ _ (T363.setTop (mkF m 365 #[iv p0, jv q1, .second, iv p2, jv q3, .second, iv p4, iv z3, iv 3, iv z4, iv z6, iv z8, iv z10, jv z12, .second, jv z15, .second, jv z18, .second, jv z21, .second, jv z24, .second, jv z27, .second, jv z34, .second, jv z42, .second, jv z50, .second, jv z58, .second, jv (z3.toInt64), .second, jv z60, .second, jv z61, .second, jv z62, .second, jv z63, .second, jv z64, .second, rv b_351, iv 3, .unset, .unset, .unset] [(.int 1), (.int 1), (.ref b357), (.ref b357)]))
                    obtain ⟨cl368, Ar368, q368, S368, NN368, H368, G368⟩ := id B365
                    have hin368 : ¬ ((1 : Int32) < 0 ∨ cl368.slots.size ≤ ((1 : Int32)).toNatClampNeg) := inb_of S368 ⟨by decide, by decide⟩
                    obtain ⟨T368, h368, X368, e368, W368, st368⟩ := stI X363 hx hZ e363 Ar368 (j := (1 : Int32)) hin368 (g := (mkF m 365 #[iv p0, jv q1, .second, iv p2, jv q3, .second, iv p4, iv z3, iv 3, iv z4, iv z6, iv z8, iv z10, jv z12, .second, jv z15, .second, jv z18, .second, jv z21, .second, jv z24, .second, jv z27, .second, jv z34, .second, jv z42, .second, jv z50, .second, jv z58, .second, jv (z3.toInt64), .second, jv z60, .second, jv z61, .second, jv z62, .second, jv z63, .second, jv z64, .second, rv b_351, iv 3, .unset, .unset, .unset] [(.int 1), (.int 1), (.ref b357), (.ref b357)])) rfl rfl (hb hby at_365)
                    refine own_via (fun k => st368 _ k) ?_
                    show own_Go p e below s _ _ (T368.setTop (mkF m 366 #[iv p0, jv q1, .second, iv p2, jv q3, .second, iv p4, iv z3, iv 3, iv z4, iv z6, iv z8, iv z10, jv z12, .second, jv z15, .second, jv z18, .second, jv z21, .second, jv z24, .second, jv z27, .second, jv z34, .second, jv z42, .second, jv z50, .second, jv z58, .second, jv (z3.toInt64), .second, jv z60, .second, jv z61, .second, jv z62, .second, jv z63, .second, jv z64, .second, rv b_351, iv 3, .unset, .unset, .unset] [(.ref b357)]))
                    have B369 := B364.other W368 ne359
                    have B370 : Arv Z h368 b357 k357 .int (16 : Int32) [(.int 0), (.int 1), (.int 0), (.int 0), (.int 0), (.int 0), (.int 0), (.int 0), (.int 0), (.int 0), (.int 0), (.int 0), (.int 0), (.int 0), (.int 0), (.int 0)] (.int 0) := Arv.set Ar368 q368 S368 NN368 H368 G368 rfl W368 1 rfl (Nat.le_of_ble_eq_true rfl)
                    have N371 := Fr.snoc X368 N366 g358
                    have Z372 : n0 ≤ h368.size := Nat.le_trans Z367 (Keep.of_wr W368).1
                    refine own_via (fun k => XS.dup X368.here hx rfl (hb hby at_366) rfl rfl (XS.iconst X368.here hx rfl (hb hby at_367) (XS.iconst X368.here hx rfl (hb hby at_368) k))) ?_
                    show own_Go p e below s _ _ (T368.setTop (mkF m 369 #[iv p0, jv q1, .second, iv p2, jv q3, .second, iv p4, iv z3, iv 3, iv z4, iv z6, iv z8, iv z10, jv z12, .second, jv z15, .second, jv z18, .second, jv z21, .second, jv z24, .second, jv z27, .second, jv z34, .second, jv z42, .second, jv z50, .second, jv z58, .second, jv (z3.toInt64), .second, jv z60, .second, jv z61, .second, jv z62, .second, jv z63, .second, jv z64, .second, rv b_351, iv 3, .unset, .unset, .unset] [(.int 1), (.int 2), (.ref b357), (.ref b357)]))
                    obtain ⟨cl373, Ar373, q373, S373, NN373, H373, G373⟩ := id B370
                    have hin373 : ¬ ((2 : Int32) < 0 ∨ cl373.slots.size ≤ ((2 : Int32)).toNatClampNeg) := inb_of S373 ⟨by decide, by decide⟩
                    obtain ⟨T373, h373, X373, e373, W373, st373⟩ := stI X368 hx hZ e368 Ar373 (j := (2 : Int32)) hin373 (g := (mkF m 369 #[iv p0, jv q1, .second, iv p2, jv q3, .second, iv p4, iv z3, iv 3, iv z4, iv z6, iv z8, iv z10, jv z12, .second, jv z15, .second, jv z18, .second, jv z21, .second, jv z24, .second, jv z27, .second, jv z34, .second, jv z42, .second, jv z50, .second, jv z58, .second, jv (z3.toInt64), .second, jv z60, .second, jv z61, .second, jv z62, .second, jv z63, .second, jv z64, .second, rv b_351, iv 3, .unset, .unset, .unset] [(.int 1), (.int 2), (.ref b357), (.ref b357)])) rfl rfl (hb hby at_369)
                    refine own_via (fun k => st373 _ k) ?_
                    show own_Go p e below s _ _ (T373.setTop (mkF m 370 #[iv p0, jv q1, .second, iv p2, jv q3, .second, iv p4, iv z3, iv 3, iv z4, iv z6, iv z8, iv z10, jv z12, .second, jv z15, .second, jv z18, .second, jv z21, .second, jv z24, .second, jv z27, .second, jv z34, .second, jv z42, .second, jv z50, .second, jv z58, .second, jv (z3.toInt64), .second, jv z60, .second, jv z61, .second, jv z62, .second, jv z63, .second, jv z64, .second, rv b_351, iv 3, .unset, .unset, .unset] [(.ref b357)]))
                    have B374 := B369.other W373 ne359
                    have B375 : Arv Z h373 b357 k357 .int (16 : Int32) [(.int 0), (.int 1), (.int 1), (.int 0), (.int 0), (.int 0), (.int 0), (.int 0), (.int 0), (.int 0), (.int 0), (.int 0), (.int 0), (.int 0), (.int 0), (.int 0)] (.int 0) := Arv.set Ar373 q373 S373 NN373 H373 G373 rfl W373 2 rfl (Nat.le_of_ble_eq_true rfl)
                    have N376 := Fr.snoc X373 N371 g358
                    have Z377 : n0 ≤ h373.size := Nat.le_trans Z372 (Keep.of_wr W373).1
                    refine own_via (fun k => XS.dup X373.here hx rfl (hb hby at_370) rfl rfl (XS.iconst X373.here hx rfl (hb hby at_371) (XS.iconst X373.here hx rfl (hb hby at_372) k))) ?_
                    show own_Go p e below s _ _ (T373.setTop (mkF m 373 #[iv p0, jv q1, .second, iv p2, jv q3, .second, iv p4, iv z3, iv 3, iv z4, iv z6, iv z8, iv z10, jv z12, .second, jv z15, .second, jv z18, .second, jv z21, .second, jv z24, .second, jv z27, .second, jv z34, .second, jv z42, .second, jv z50, .second, jv z58, .second, jv (z3.toInt64), .second, jv z60, .second, jv z61, .second, jv z62, .second, jv z63, .second, jv z64, .second, rv b_351, iv 3, .unset, .unset, .unset] [(.int 1), (.int 3), (.ref b357), (.ref b357)]))
                    obtain ⟨cl378, Ar378, q378, S378, NN378, H378, G378⟩ := id B375
                    have hin378 : ¬ ((3 : Int32) < 0 ∨ cl378.slots.size ≤ ((3 : Int32)).toNatClampNeg) := inb_of S378 ⟨by decide, by decide⟩
                    obtain ⟨T378, h378, X378, e378, W378, st378⟩ := stI X373 hx hZ e373 Ar378 (j := (3 : Int32)) hin378 (g := (mkF m 373 #[iv p0, jv q1, .second, iv p2, jv q3, .second, iv p4, iv z3, iv 3, iv z4, iv z6, iv z8, iv z10, jv z12, .second, jv z15, .second, jv z18, .second, jv z21, .second, jv z24, .second, jv z27, .second, jv z34, .second, jv z42, .second, jv z50, .second, jv z58, .second, jv (z3.toInt64), .second, jv z60, .second, jv z61, .second, jv z62, .second, jv z63, .second, jv z64, .second, rv b_351, iv 3, .unset, .unset, .unset] [(.int 1), (.int 3), (.ref b357), (.ref b357)])) rfl rfl (hb hby at_373)
                    refine own_via (fun k => st378 _ k) ?_
                    show own_Go p e below s _ _ (T378.setTop (mkF m 374 #[iv p0, jv q1, .second, iv p2, jv q3, .second, iv p4, iv z3, iv 3, iv z4, iv z6, iv z8, iv z10, jv z12, .second, jv z15, .second, jv z18, .second, jv z21, .second, jv z24, .second, jv z27, .second, jv z34, .second, jv z42, .second, jv z50, .second, jv z58, .second, jv (z3.toInt64), .second, jv z60, .second, jv z61, .second, jv z62, .second, jv z63, .second, jv z64, .second, rv b_351, iv 3, .unset, .unset, .unset] [(.ref b357)]))
                    have B379 := B374.other W378 ne359
                    have B380 : Arv Z h378 b357 k357 .int (16 : Int32) [(.int 0), (.int 1), (.int 1), (.int 1), (.int 0), (.int 0), (.int 0), (.int 0), (.int 0), (.int 0), (.int 0), (.int 0), (.int 0), (.int 0), (.int 0), (.int 0)] (.int 0) := Arv.set Ar378 q378 S378 NN378 H378 G378 rfl W378 3 rfl (Nat.le_of_ble_eq_true rfl)
                    have N381 := Fr.snoc X378 N376 g358
                    have Z382 : n0 ≤ h378.size := Nat.le_trans Z377 (Keep.of_wr W378).1
                    refine own_via (fun k => XS.dup X378.here hx rfl (hb hby at_374) rfl rfl (XS.iconst X378.here hx rfl (hb hby at_375) (XS.iconst X378.here hx rfl (hb hby at_376) k))) ?_
                    show own_Go p e below s _ _ (T378.setTop (mkF m 377 #[iv p0, jv q1, .second, iv p2, jv q3, .second, iv p4, iv z3, iv 3, iv z4, iv z6, iv z8, iv z10, jv z12, .second, jv z15, .second, jv z18, .second, jv z21, .second, jv z24, .second, jv z27, .second, jv z34, .second, jv z42, .second, jv z50, .second, jv z58, .second, jv (z3.toInt64), .second, jv z60, .second, jv z61, .second, jv z62, .second, jv z63, .second, jv z64, .second, rv b_351, iv 3, .unset, .unset, .unset] [(.int 1), (.int 4), (.ref b357), (.ref b357)]))
                    obtain ⟨cl383, Ar383, q383, S383, NN383, H383, G383⟩ := id B380
                    have hin383 : ¬ ((4 : Int32) < 0 ∨ cl383.slots.size ≤ ((4 : Int32)).toNatClampNeg) := inb_of S383 ⟨by decide, by decide⟩
                    obtain ⟨T383, h383, X383, e383, W383, st383⟩ := stI X378 hx hZ e378 Ar383 (j := (4 : Int32)) hin383 (g := (mkF m 377 #[iv p0, jv q1, .second, iv p2, jv q3, .second, iv p4, iv z3, iv 3, iv z4, iv z6, iv z8, iv z10, jv z12, .second, jv z15, .second, jv z18, .second, jv z21, .second, jv z24, .second, jv z27, .second, jv z34, .second, jv z42, .second, jv z50, .second, jv z58, .second, jv (z3.toInt64), .second, jv z60, .second, jv z61, .second, jv z62, .second, jv z63, .second, jv z64, .second, rv b_351, iv 3, .unset, .unset, .unset] [(.int 1), (.int 4), (.ref b357), (.ref b357)])) rfl rfl (hb hby at_377)
                    refine own_via (fun k => st383 _ k) ?_
                    show own_Go p e below s _ _ (T383.setTop (mkF m 378 #[iv p0, jv q1, .second, iv p2, jv q3, .second, iv p4, iv z3, iv 3, iv z4, iv z6, iv z8, iv z10, jv z12, .second, jv z15, .second, jv z18, .second, jv z21, .second, jv z24, .second, jv z27, .second, jv z34, .second, jv z42, .second, jv z50, .second, jv z58, .second, jv (z3.toInt64), .second, jv z60, .second, jv z61, .second, jv z62, .second, jv z63, .second, jv z64, .second, rv b_351, iv 3, .unset, .unset, .unset] [(.ref b357)]))
                    have B384 := B379.other W383 ne359
                    have B385 : Arv Z h383 b357 k357 .int (16 : Int32) [(.int 0), (.int 1), (.int 1), (.int 1), (.int 1), (.int 0), (.int 0), (.int 0), (.int 0), (.int 0), (.int 0), (.int 0), (.int 0), (.int 0), (.int 0), (.int 0)] (.int 0) := Arv.set Ar383 q383 S383 NN383 H383 G383 rfl W383 4 rfl (Nat.le_of_ble_eq_true rfl)
                    have N386 := Fr.snoc X383 N381 g358
                    have Z387 : n0 ≤ h383.size := Nat.le_trans Z382 (Keep.of_wr W383).1
                    refine own_via (fun k => XS.dup X383.here hx rfl (hb hby at_378) rfl rfl (XS.iconst X383.here hx rfl (hb hby at_379) (XS.iconst X383.here hx rfl (hb hby at_380) k))) ?_
                    show own_Go p e below s _ _ (T383.setTop (mkF m 381 #[iv p0, jv q1, .second, iv p2, jv q3, .second, iv p4, iv z3, iv 3, iv z4, iv z6, iv z8, iv z10, jv z12, .second, jv z15, .second, jv z18, .second, jv z21, .second, jv z24, .second, jv z27, .second, jv z34, .second, jv z42, .second, jv z50, .second, jv z58, .second, jv (z3.toInt64), .second, jv z60, .second, jv z61, .second, jv z62, .second, jv z63, .second, jv z64, .second, rv b_351, iv 3, .unset, .unset, .unset] [(.int 2), (.int 5), (.ref b357), (.ref b357)]))
                    obtain ⟨cl388, Ar388, q388, S388, NN388, H388, G388⟩ := id B385
                    have hin388 : ¬ ((5 : Int32) < 0 ∨ cl388.slots.size ≤ ((5 : Int32)).toNatClampNeg) := inb_of S388 ⟨by decide, by decide⟩
                    obtain ⟨T388, h388, X388, e388, W388, st388⟩ := stI X383 hx hZ e383 Ar388 (j := (5 : Int32)) hin388 (g := (mkF m 381 #[iv p0, jv q1, .second, iv p2, jv q3, .second, iv p4, iv z3, iv 3, iv z4, iv z6, iv z8, iv z10, jv z12, .second, jv z15, .second, jv z18, .second, jv z21, .second, jv z24, .second, jv z27, .second, jv z34, .second, jv z42, .second, jv z50, .second, jv z58, .second, jv (z3.toInt64), .second, jv z60, .second, jv z61, .second, jv z62, .second, jv z63, .second, jv z64, .second, rv b_351, iv 3, .unset, .unset, .unset] [(.int 2), (.int 5), (.ref b357), (.ref b357)])) rfl rfl (hb hby at_381)
                    refine own_via (fun k => st388 _ k) ?_
                    show own_Go p e below s _ _ (T388.setTop (mkF m 382 #[iv p0, jv q1, .second, iv p2, jv q3, .second, iv p4, iv z3, iv 3, iv z4, iv z6, iv z8, iv z10, jv z12, .second, jv z15, .second, jv z18, .second, jv z21, .second, jv z24, .second, jv z27, .second, jv z34, .second, jv z42, .second, jv z50, .second, jv z58, .second, jv (z3.toInt64), .second, jv z60, .second, jv z61, .second, jv z62, .second, jv z63, .second, jv z64, .second, rv b_351, iv 3, .unset, .unset, .unset] [(.ref b357)]))
                    have B389 := B384.other W388 ne359
                    have B390 : Arv Z h388 b357 k357 .int (16 : Int32) [(.int 0), (.int 1), (.int 1), (.int 1), (.int 1), (.int 2), (.int 0), (.int 0), (.int 0), (.int 0), (.int 0), (.int 0), (.int 0), (.int 0), (.int 0), (.int 0)] (.int 0) := Arv.set Ar388 q388 S388 NN388 H388 G388 rfl W388 5 rfl (Nat.le_of_ble_eq_true rfl)
                    have N391 := Fr.snoc X388 N386 g358
                    have Z392 : n0 ≤ h388.size := Nat.le_trans Z387 (Keep.of_wr W388).1
                    refine own_via (fun k => XS.dup X388.here hx rfl (hb hby at_382) rfl rfl (XS.bipush X388.here hx rfl (hb hby at_383) (XS.iconst X388.here hx rfl (hb hby at_385) k))) ?_
                    show own_Go p e below s _ _ (T388.setTop (mkF m 386 #[iv p0, jv q1, .second, iv p2, jv q3, .second, iv p4, iv z3, iv 3, iv z4, iv z6, iv z8, iv z10, jv z12, .second, jv z15, .second, jv z18, .second, jv z21, .second, jv z24, .second, jv z27, .second, jv z34, .second, jv z42, .second, jv z50, .second, jv z58, .second, jv (z3.toInt64), .second, jv z60, .second, jv z61, .second, jv z62, .second, jv z63, .second, jv z64, .second, rv b_351, iv 3, .unset, .unset, .unset] [(.int 1), (.int 6), (.ref b357), (.ref b357)]))
                    obtain ⟨cl393, Ar393, q393, S393, NN393, H393, G393⟩ := id B390
                    have hin393 : ¬ ((6 : Int32) < 0 ∨ cl393.slots.size ≤ ((6 : Int32)).toNatClampNeg) := inb_of S393 ⟨by decide, by decide⟩
                    obtain ⟨T393, h393, X393, e393, W393, st393⟩ := stI X388 hx hZ e388 Ar393 (j := (6 : Int32)) hin393 (g := (mkF m 386 #[iv p0, jv q1, .second, iv p2, jv q3, .second, iv p4, iv z3, iv 3, iv z4, iv z6, iv z8, iv z10, jv z12, .second, jv z15, .second, jv z18, .second, jv z21, .second, jv z24, .second, jv z27, .second, jv z34, .second, jv z42, .second, jv z50, .second, jv z58, .second, jv (z3.toInt64), .second, jv z60, .second, jv z61, .second, jv z62, .second, jv z63, .second, jv z64, .second, rv b_351, iv 3, .unset, .unset, .unset] [(.int 1), (.int 6), (.ref b357), (.ref b357)])) rfl rfl (hb hby at_386)
                    refine own_via (fun k => st393 _ k) ?_
                    show own_Go p e below s _ _ (T393.setTop (mkF m 387 #[iv p0, jv q1, .second, iv p2, jv q3, .second, iv p4, iv z3, iv 3, iv z4, iv z6, iv z8, iv z10, jv z12, .second, jv z15, .second, jv z18, .second, jv z21, .second, jv z24, .second, jv z27, .second, jv z34, .second, jv z42, .second, jv z50, .second, jv z58, .second, jv (z3.toInt64), .second, jv z60, .second, jv z61, .second, jv z62, .second, jv z63, .second, jv z64, .second, rv b_351, iv 3, .unset, .unset, .unset] [(.ref b357)]))
                    have B394 := B389.other W393 ne359
                    have B395 : Arv Z h393 b357 k357 .int (16 : Int32) [(.int 0), (.int 1), (.int 1), (.int 1), (.int 1), (.int 2), (.int 1), (.int 0), (.int 0), (.int 0), (.int 0), (.int 0), (.int 0), (.int 0), (.int 0), (.int 0)] (.int 0) := Arv.set Ar393 q393 S393 NN393 H393 G393 rfl W393 6 rfl (Nat.le_of_ble_eq_true rfl)
                    have N396 := Fr.snoc X393 N391 g358
                    have Z397 : n0 ≤ h393.size := Nat.le_trans Z392 (Keep.of_wr W393).1
                    refine own_via (fun k => XS.dup X393.here hx rfl (hb hby at_387) rfl rfl (XS.bipush X393.here hx rfl (hb hby at_388) (XS.iconst X393.here hx rfl (hb hby at_390) k))) ?_
                    show own_Go p e below s _ _ (T393.setTop (mkF m 391 #[iv p0, jv q1, .second, iv p2, jv q3, .second, iv p4, iv z3, iv 3, iv z4, iv z6, iv z8, iv z10, jv z12, .second, jv z15, .second, jv z18, .second, jv z21, .second, jv z24, .second, jv z27, .second, jv z34, .second, jv z42, .second, jv z50, .second, jv z58, .second, jv (z3.toInt64), .second, jv z60, .second, jv z61, .second, jv z62, .second, jv z63, .second, jv z64, .second, rv b_351, iv 3, .unset, .unset, .unset] [(.int 1), (.int 7), (.ref b357), (.ref b357)]))
                    obtain ⟨cl398, Ar398, q398, S398, NN398, H398, G398⟩ := id B395
                    have hin398 : ¬ ((7 : Int32) < 0 ∨ cl398.slots.size ≤ ((7 : Int32)).toNatClampNeg) := inb_of S398 ⟨by decide, by decide⟩
                    obtain ⟨T398, h398, X398, e398, W398, st398⟩ := stI X393 hx hZ e393 Ar398 (j := (7 : Int32)) hin398 (g := (mkF m 391 #[iv p0, jv q1, .second, iv p2, jv q3, .second, iv p4, iv z3, iv 3, iv z4, iv z6, iv z8, iv z10, jv z12, .second, jv z15, .second, jv z18, .second, jv z21, .second, jv z24, .second, jv z27, .second, jv z34, .second, jv z42, .second, jv z50, .second, jv z58, .second, jv (z3.toInt64), .second, jv z60, .second, jv z61, .second, jv z62, .second, jv z63, .second, jv z64, .second, rv b_351, iv 3, .unset, .unset, .unset] [(.int 1), (.int 7), (.ref b357), (.ref b357)])) rfl rfl (hb hby at_391)
                    refine own_via (fun k => st398 _ k) ?_
                    show own_Go p e below s _ _ (T398.setTop (mkF m 392 #[iv p0, jv q1, .second, iv p2, jv q3, .second, iv p4, iv z3, iv 3, iv z4, iv z6, iv z8, iv z10, jv z12, .second, jv z15, .second, jv z18, .second, jv z21, .second, jv z24, .second, jv z27, .second, jv z34, .second, jv z42, .second, jv z50, .second, jv z58, .second, jv (z3.toInt64), .second, jv z60, .second, jv z61, .second, jv z62, .second, jv z63, .second, jv z64, .second, rv b_351, iv 3, .unset, .unset, .unset] [(.ref b357)]))
                    have B399 := B394.other W398 ne359
                    have B400 : Arv Z h398 b357 k357 .int (16 : Int32) [(.int 0), (.int 1), (.int 1), (.int 1), (.int 1), (.int 2), (.int 1), (.int 1), (.int 0), (.int 0), (.int 0), (.int 0), (.int 0), (.int 0), (.int 0), (.int 0)] (.int 0) := Arv.set Ar398 q398 S398 NN398 H398 G398 rfl W398 7 rfl (Nat.le_of_ble_eq_true rfl)
                    have N401 := Fr.snoc X398 N396 g358
                    have Z402 : n0 ≤ h398.size := Nat.le_trans Z397 (Keep.of_wr W398).1
                    refine own_via (fun k => XS.dup X398.here hx rfl (hb hby at_392) rfl rfl (XS.bipush X398.here hx rfl (hb hby at_393) (XS.iconst X398.here hx rfl (hb hby at_395) k))) ?_
                    show own_Go p e below s _ _ (T398.setTop (mkF m 396 #[iv p0, jv q1, .second, iv p2, jv q3, .second, iv p4, iv z3, iv 3, iv z4, iv z6, iv z8, iv z10, jv z12, .second, jv z15, .second, jv z18, .second, jv z21, .second, jv z24, .second, jv z27, .second, jv z34, .second, jv z42, .second, jv z50, .second, jv z58, .second, jv (z3.toInt64), .second, jv z60, .second, jv z61, .second, jv z62, .second, jv z63, .second, jv z64, .second, rv b_351, iv 3, .unset, .unset, .unset] [(.int 1), (.int 8), (.ref b357), (.ref b357)]))
                    obtain ⟨cl403, Ar403, q403, S403, NN403, H403, G403⟩ := id B400
                    have hin403 : ¬ ((8 : Int32) < 0 ∨ cl403.slots.size ≤ ((8 : Int32)).toNatClampNeg) := inb_of S403 ⟨by decide, by decide⟩
                    obtain ⟨T403, h403, X403, e403, W403, st403⟩ := stI X398 hx hZ e398 Ar403 (j := (8 : Int32)) hin403 (g := (mkF m 396 #[iv p0, jv q1, .second, iv p2, jv q3, .second, iv p4, iv z3, iv 3, iv z4, iv z6, iv z8, iv z10, jv z12, .second, jv z15, .second, jv z18, .second, jv z21, .second, jv z24, .second, jv z27, .second, jv z34, .second, jv z42, .second, jv z50, .second, jv z58, .second, jv (z3.toInt64), .second, jv z60, .second, jv z61, .second, jv z62, .second, jv z63, .second, jv z64, .second, rv b_351, iv 3, .unset, .unset, .unset] [(.int 1), (.int 8), (.ref b357), (.ref b357)])) rfl rfl (hb hby at_396)
                    refine own_via (fun k => st403 _ k) ?_
                    show own_Go p e below s _ _ (T403.setTop (mkF m 397 #[iv p0, jv q1, .second, iv p2, jv q3, .second, iv p4, iv z3, iv 3, iv z4, iv z6, iv z8, iv z10, jv z12, .second, jv z15, .second, jv z18, .second, jv z21, .second, jv z24, .second, jv z27, .second, jv z34, .second, jv z42, .second, jv z50, .second, jv z58, .second, jv (z3.toInt64), .second, jv z60, .second, jv z61, .second, jv z62, .second, jv z63, .second, jv z64, .second, rv b_351, iv 3, .unset, .unset, .unset] [(.ref b357)]))
                    have B404 := B399.other W403 ne359
                    have B405 : Arv Z h403 b357 k357 .int (16 : Int32) [(.int 0), (.int 1), (.int 1), (.int 1), (.int 1), (.int 2), (.int 1), (.int 1), (.int 1), (.int 0), (.int 0), (.int 0), (.int 0), (.int 0), (.int 0), (.int 0)] (.int 0) := Arv.set Ar403 q403 S403 NN403 H403 G403 rfl W403 8 rfl (Nat.le_of_ble_eq_true rfl)
                    have N406 := Fr.snoc X403 N401 g358
                    have Z407 : n0 ≤ h403.size := Nat.le_trans Z402 (Keep.of_wr W403).1
                    refine own_via (fun k => XS.dup X403.here hx rfl (hb hby at_397) rfl rfl (XS.bipush X403.here hx rfl (hb hby at_398) (XS.iconst X403.here hx rfl (hb hby at_400) k))) ?_
                    show own_Go p e below s _ _ (T403.setTop (mkF m 401 #[iv p0, jv q1, .second, iv p2, jv q3, .second, iv p4, iv z3, iv 3, iv z4, iv z6, iv z8, iv z10, jv z12, .second, jv z15, .second, jv z18, .second, jv z21, .second, jv z24, .second, jv z27, .second, jv z34, .second, jv z42, .second, jv z50, .second, jv z58, .second, jv (z3.toInt64), .second, jv z60, .second, jv z61, .second, jv z62, .second, jv z63, .second, jv z64, .second, rv b_351, iv 3, .unset, .unset, .unset] [(.int 2), (.int 9), (.ref b357), (.ref b357)]))
                    obtain ⟨cl408, Ar408, q408, S408, NN408, H408, G408⟩ := id B405
                    have hin408 : ¬ ((9 : Int32) < 0 ∨ cl408.slots.size ≤ ((9 : Int32)).toNatClampNeg) := inb_of S408 ⟨by decide, by decide⟩
                    obtain ⟨T408, h408, X408, e408, W408, st408⟩ := stI X403 hx hZ e403 Ar408 (j := (9 : Int32)) hin408 (g := (mkF m 401 #[iv p0, jv q1, .second, iv p2, jv q3, .second, iv p4, iv z3, iv 3, iv z4, iv z6, iv z8, iv z10, jv z12, .second, jv z15, .second, jv z18, .second, jv z21, .second, jv z24, .second, jv z27, .second, jv z34, .second, jv z42, .second, jv z50, .second, jv z58, .second, jv (z3.toInt64), .second, jv z60, .second, jv z61, .second, jv z62, .second, jv z63, .second, jv z64, .second, rv b_351, iv 3, .unset, .unset, .unset] [(.int 2), (.int 9), (.ref b357), (.ref b357)])) rfl rfl (hb hby at_401)
                    refine own_via (fun k => st408 _ k) ?_
                    show own_Go p e below s _ _ (T408.setTop (mkF m 402 #[iv p0, jv q1, .second, iv p2, jv q3, .second, iv p4, iv z3, iv 3, iv z4, iv z6, iv z8, iv z10, jv z12, .second, jv z15, .second, jv z18, .second, jv z21, .second, jv z24, .second, jv z27, .second, jv z34, .second, jv z42, .second, jv z50, .second, jv z58, .second, jv (z3.toInt64), .second, jv z60, .second, jv z61, .second, jv z62, .second, jv z63, .second, jv z64, .second, rv b_351, iv 3, .unset, .unset, .unset] [(.ref b357)]))
                    have B409 := B404.other W408 ne359
                    have B410 : Arv Z h408 b357 k357 .int (16 : Int32) [(.int 0), (.int 1), (.int 1), (.int 1), (.int 1), (.int 2), (.int 1), (.int 1), (.int 1), (.int 2), (.int 0), (.int 0), (.int 0), (.int 0), (.int 0), (.int 0)] (.int 0) := Arv.set Ar408 q408 S408 NN408 H408 G408 rfl W408 9 rfl (Nat.le_of_ble_eq_true rfl)
                    have N411 := Fr.snoc X408 N406 g358
                    have Z412 : n0 ≤ h408.size := Nat.le_trans Z407 (Keep.of_wr W408).1
                    refine own_via (fun k => XS.dup X408.here hx rfl (hb hby at_402) rfl rfl (XS.bipush X408.here hx rfl (hb hby at_403) (XS.iconst X408.here hx rfl (hb hby at_405) k))) ?_
                    show own_Go p e below s _ _ (T408.setTop (mkF m 406 #[iv p0, jv q1, .second, iv p2, jv q3, .second, iv p4, iv z3, iv 3, iv z4, iv z6, iv z8, iv z10, jv z12, .second, jv z15, .second, jv z18, .second, jv z21, .second, jv z24, .second, jv z27, .second, jv z34, .second, jv z42, .second, jv z50, .second, jv z58, .second, jv (z3.toInt64), .second, jv z60, .second, jv z61, .second, jv z62, .second, jv z63, .second, jv z64, .second, rv b_351, iv 3, .unset, .unset, .unset] [(.int 2), (.int 10), (.ref b357), (.ref b357)]))
                    obtain ⟨cl413, Ar413, q413, S413, NN413, H413, G413⟩ := id B410
                    have hin413 : ¬ ((10 : Int32) < 0 ∨ cl413.slots.size ≤ ((10 : Int32)).toNatClampNeg) := inb_of S413 ⟨by decide, by decide⟩
                    obtain ⟨T413, h413, X413, e413, W413, st413⟩ := stI X408 hx hZ e408 Ar413 (j := (10 : Int32)) hin413 (g := (mkF m 406 #[iv p0, jv q1, .second, iv p2, jv q3, .second, iv p4, iv z3, iv 3, iv z4, iv z6, iv z8, iv z10, jv z12, .second, jv z15, .second, jv z18, .second, jv z21, .second, jv z24, .second, jv z27, .second, jv z34, .second, jv z42, .second, jv z50, .second, jv z58, .second, jv (z3.toInt64), .second, jv z60, .second, jv z61, .second, jv z62, .second, jv z63, .second, jv z64, .second, rv b_351, iv 3, .unset, .unset, .unset] [(.int 2), (.int 10), (.ref b357), (.ref b357)])) rfl rfl (hb hby at_406)
                    refine own_via (fun k => st413 _ k) ?_
                    show own_Go p e below s _ _ (T413.setTop (mkF m 407 #[iv p0, jv q1, .second, iv p2, jv q3, .second, iv p4, iv z3, iv 3, iv z4, iv z6, iv z8, iv z10, jv z12, .second, jv z15, .second, jv z18, .second, jv z21, .second, jv z24, .second, jv z27, .second, jv z34, .second, jv z42, .second, jv z50, .second, jv z58, .second, jv (z3.toInt64), .second, jv z60, .second, jv z61, .second, jv z62, .second, jv z63, .second, jv z64, .second, rv b_351, iv 3, .unset, .unset, .unset] [(.ref b357)]))
                    have B414 := B409.other W413 ne359
                    have B415 : Arv Z h413 b357 k357 .int (16 : Int32) [(.int 0), (.int 1), (.int 1), (.int 1), (.int 1), (.int 2), (.int 1), (.int 1), (.int 1), (.int 2), (.int 2), (.int 0), (.int 0), (.int 0), (.int 0), (.int 0)] (.int 0) := Arv.set Ar413 q413 S413 NN413 H413 G413 rfl W413 10 rfl (Nat.le_of_ble_eq_true rfl)
                    have N416 := Fr.snoc X413 N411 g358
                    have Z417 : n0 ≤ h413.size := Nat.le_trans Z412 (Keep.of_wr W413).1
                    refine own_via (fun k => XS.dup X413.here hx rfl (hb hby at_407) rfl rfl (XS.bipush X413.here hx rfl (hb hby at_408) (XS.iconst X413.here hx rfl (hb hby at_410) k))) ?_
                    show own_Go p e below s _ _ (T413.setTop (mkF m 411 #[iv p0, jv q1, .second, iv p2, jv q3, .second, iv p4, iv z3, iv 3, iv z4, iv z6, iv z8, iv z10, jv z12, .second, jv z15, .second, jv z18, .second, jv z21, .second, jv z24, .second, jv z27, .second, jv z34, .second, jv z42, .second, jv z50, .second, jv z58, .second, jv (z3.toInt64), .second, jv z60, .second, jv z61, .second, jv z62, .second, jv z63, .second, jv z64, .second, rv b_351, iv 3, .unset, .unset, .unset] [(.int 2), (.int 11), (.ref b357), (.ref b357)]))
                    obtain ⟨cl418, Ar418, q418, S418, NN418, H418, G418⟩ := id B415
                    have hin418 : ¬ ((11 : Int32) < 0 ∨ cl418.slots.size ≤ ((11 : Int32)).toNatClampNeg) := inb_of S418 ⟨by decide, by decide⟩
                    obtain ⟨T418, h418, X418, e418, W418, st418⟩ := stI X413 hx hZ e413 Ar418 (j := (11 : Int32)) hin418 (g := (mkF m 411 #[iv p0, jv q1, .second, iv p2, jv q3, .second, iv p4, iv z3, iv 3, iv z4, iv z6, iv z8, iv z10, jv z12, .second, jv z15, .second, jv z18, .second, jv z21, .second, jv z24, .second, jv z27, .second, jv z34, .second, jv z42, .second, jv z50, .second, jv z58, .second, jv (z3.toInt64), .second, jv z60, .second, jv z61, .second, jv z62, .second, jv z63, .second, jv z64, .second, rv b_351, iv 3, .unset, .unset, .unset] [(.int 2), (.int 11), (.ref b357), (.ref b357)])) rfl rfl (hb hby at_411)
                    refine own_via (fun k => st418 _ k) ?_
                    show own_Go p e below s _ _ (T418.setTop (mkF m 412 #[iv p0, jv q1, .second, iv p2, jv q3, .second, iv p4, iv z3, iv 3, iv z4, iv z6, iv z8, iv z10, jv z12, .second, jv z15, .second, jv z18, .second, jv z21, .second, jv z24, .second, jv z27, .second, jv z34, .second, jv z42, .second, jv z50, .second, jv z58, .second, jv (z3.toInt64), .second, jv z60, .second, jv z61, .second, jv z62, .second, jv z63, .second, jv z64, .second, rv b_351, iv 3, .unset, .unset, .unset] [(.ref b357)]))
                    have B419 := B414.other W418 ne359
                    have B420 : Arv Z h418 b357 k357 .int (16 : Int32) [(.int 0), (.int 1), (.int 1), (.int 1), (.int 1), (.int 2), (.int 1), (.int 1), (.int 1), (.int 2), (.int 2), (.int 2), (.int 0), (.int 0), (.int 0), (.int 0)] (.int 0) := Arv.set Ar418 q418 S418 NN418 H418 G418 rfl W418 11 rfl (Nat.le_of_ble_eq_true rfl)
                    have N421 := Fr.snoc X418 N416 g358
                    have Z422 : n0 ≤ h418.size := Nat.le_trans Z417 (Keep.of_wr W418).1
                    refine own_via (fun k => XS.dup X418.here hx rfl (hb hby at_412) rfl rfl (XS.bipush X418.here hx rfl (hb hby at_413) (XS.iconst X418.here hx rfl (hb hby at_415) k))) ?_
                    show own_Go p e below s _ _ (T418.setTop (mkF m 416 #[iv p0, jv q1, .second, iv p2, jv q3, .second, iv p4, iv z3, iv 3, iv z4, iv z6, iv z8, iv z10, jv z12, .second, jv z15, .second, jv z18, .second, jv z21, .second, jv z24, .second, jv z27, .second, jv z34, .second, jv z42, .second, jv z50, .second, jv z58, .second, jv (z3.toInt64), .second, jv z60, .second, jv z61, .second, jv z62, .second, jv z63, .second, jv z64, .second, rv b_351, iv 3, .unset, .unset, .unset] [(.int 1), (.int 12), (.ref b357), (.ref b357)]))
                    obtain ⟨cl423, Ar423, q423, S423, NN423, H423, G423⟩ := id B420
                    have hin423 : ¬ ((12 : Int32) < 0 ∨ cl423.slots.size ≤ ((12 : Int32)).toNatClampNeg) := inb_of S423 ⟨by decide, by decide⟩
                    obtain ⟨T423, h423, X423, e423, W423, st423⟩ := stI X418 hx hZ e418 Ar423 (j := (12 : Int32)) hin423 (g := (mkF m 416 #[iv p0, jv q1, .second, iv p2, jv q3, .second, iv p4, iv z3, iv 3, iv z4, iv z6, iv z8, iv z10, jv z12, .second, jv z15, .second, jv z18, .second, jv z21, .second, jv z24, .second, jv z27, .second, jv z34, .second, jv z42, .second, jv z50, .second, jv z58, .second, jv (z3.toInt64), .second, jv z60, .second, jv z61, .second, jv z62, .second, jv z63, .second, jv z64, .second, rv b_351, iv 3, .unset, .unset, .unset] [(.int 1), (.int 12), (.ref b357), (.ref b357)])) rfl rfl (hb hby at_416)
                    refine own_via (fun k => st423 _ k) ?_
                    show own_Go p e below s _ _ (T423.setTop (mkF m 417 #[iv p0, jv q1, .second, iv p2, jv q3, .second, iv p4, iv z3, iv 3, iv z4, iv z6, iv z8, iv z10, jv z12, .second, jv z15, .second, jv z18, .second, jv z21, .second, jv z24, .second, jv z27, .second, jv z34, .second, jv z42, .second, jv z50, .second, jv z58, .second, jv (z3.toInt64), .second, jv z60, .second, jv z61, .second, jv z62, .second, jv z63, .second, jv z64, .second, rv b_351, iv 3, .unset, .unset, .unset] [(.ref b357)]))
                    have B424 := B419.other W423 ne359
                    have B425 : Arv Z h423 b357 k357 .int (16 : Int32) [(.int 0), (.int 1), (.int 1), (.int 1), (.int 1), (.int 2), (.int 1), (.int 1), (.int 1), (.int 2), (.int 2), (.int 2), (.int 1), (.int 0), (.int 0), (.int 0)] (.int 0) := Arv.set Ar423 q423 S423 NN423 H423 G423 rfl W423 12 rfl (Nat.le_of_ble_eq_true rfl)
                    have N426 := Fr.snoc X423 N421 g358
                    have Z427 : n0 ≤ h423.size := Nat.le_trans Z422 (Keep.of_wr W423).1
                    refine own_via (fun k => XS.dup X423.here hx rfl (hb hby at_417) rfl rfl (XS.bipush X423.here hx rfl (hb hby at_418) (XS.iconst X423.here hx rfl (hb hby at_420) k))) ?_
                    show own_Go p e below s _ _ (T423.setTop (mkF m 421 #[iv p0, jv q1, .second, iv p2, jv q3, .second, iv p4, iv z3, iv 3, iv z4, iv z6, iv z8, iv z10, jv z12, .second, jv z15, .second, jv z18, .second, jv z21, .second, jv z24, .second, jv z27, .second, jv z34, .second, jv z42, .second, jv z50, .second, jv z58, .second, jv (z3.toInt64), .second, jv z60, .second, jv z61, .second, jv z62, .second, jv z63, .second, jv z64, .second, rv b_351, iv 3, .unset, .unset, .unset] [(.int 2), (.int 13), (.ref b357), (.ref b357)]))
                    obtain ⟨cl428, Ar428, q428, S428, NN428, H428, G428⟩ := id B425
                    have hin428 : ¬ ((13 : Int32) < 0 ∨ cl428.slots.size ≤ ((13 : Int32)).toNatClampNeg) := inb_of S428 ⟨by decide, by decide⟩
                    obtain ⟨T428, h428, X428, e428, W428, st428⟩ := stI X423 hx hZ e423 Ar428 (j := (13 : Int32)) hin428 (g := (mkF m 421 #[iv p0, jv q1, .second, iv p2, jv q3, .second, iv p4, iv z3, iv 3, iv z4, iv z6, iv z8, iv z10, jv z12, .second, jv z15, .second, jv z18, .second, jv z21, .second, jv z24, .second, jv z27, .second, jv z34, .second, jv z42, .second, jv z50, .second, jv z58, .second, jv (z3.toInt64), .second, jv z60, .second, jv z61, .second, jv z62, .second, jv z63, .second, jv z64, .second, rv b_351, iv 3, .unset, .unset, .unset] [(.int 2), (.int 13), (.ref b357), (.ref b357)])) rfl rfl (hb hby at_421)
                    refine own_via (fun k => st428 _ k) ?_
                    show own_Go p e below s _ _ (T428.setTop (mkF m 422 #[iv p0, jv q1, .second, iv p2, jv q3, .second, iv p4, iv z3, iv 3, iv z4, iv z6, iv z8, iv z10, jv z12, .second, jv z15, .second, jv z18, .second, jv z21, .second, jv z24, .second, jv z27, .second, jv z34, .second, jv z42, .second, jv z50, .second, jv z58, .second, jv (z3.toInt64), .second, jv z60, .second, jv z61, .second, jv z62, .second, jv z63, .second, jv z64, .second, rv b_351, iv 3, .unset, .unset, .unset] [(.ref b357)]))
                    have B429 := B424.other W428 ne359
                    have B430 : Arv Z h428 b357 k357 .int (16 : Int32) [(.int 0), (.int 1), (.int 1), (.int 1), (.int 1), (.int 2), (.int 1), (.int 1), (.int 1), (.int 2), (.int 2), (.int 2), (.int 1), (.int 2), (.int 0), (.int 0)] (.int 0) := Arv.set Ar428 q428 S428 NN428 H428 G428 rfl W428 13 rfl (Nat.le_of_ble_eq_true rfl)
                    have N431 := Fr.snoc X428 N426 g358
                    have Z432 : n0 ≤ h428.size := Nat.le_trans Z427 (Keep.of_wr W428).1
                    refine own_via (fun k => XS.dup X428.here hx rfl (hb hby at_422) rfl rfl (XS.bipush X428.here hx rfl (hb hby at_423) (XS.iconst X428.here hx rfl (hb hby at_425) k))) ?_
                    show own_Go p e below s _ _ (T428.setTop (mkF m 426 #[iv p0, jv q1, .second, iv p2, jv q3, .second, iv p4, iv z3, iv 3, iv z4, iv z6, iv z8, iv z10, jv z12, .second, jv z15, .second, jv z18, .second, jv z21, .second, jv z24, .second, jv z27, .second, jv z34, .second, jv z42, .second, jv z50, .second, jv z58, .second, jv (z3.toInt64), .second, jv z60, .second, jv z61, .second, jv z62, .second, jv z63, .second, jv z64, .second, rv b_351, iv 3, .unset, .unset, .unset] [(.int 1), (.int 14), (.ref b357), (.ref b357)]))
                    obtain ⟨cl433, Ar433, q433, S433, NN433, H433, G433⟩ := id B430
                    have hin433 : ¬ ((14 : Int32) < 0 ∨ cl433.slots.size ≤ ((14 : Int32)).toNatClampNeg) := inb_of S433 ⟨by decide, by decide⟩
                    obtain ⟨T433, h433, X433, e433, W433, st433⟩ := stI X428 hx hZ e428 Ar433 (j := (14 : Int32)) hin433 (g := (mkF m 426 #[iv p0, jv q1, .second, iv p2, jv q3, .second, iv p4, iv z3, iv 3, iv z4, iv z6, iv z8, iv z10, jv z12, .second, jv z15, .second, jv z18, .second, jv z21, .second, jv z24, .second, jv z27, .second, jv z34, .second, jv z42, .second, jv z50, .second, jv z58, .second, jv (z3.toInt64), .second, jv z60, .second, jv z61, .second, jv z62, .second, jv z63, .second, jv z64, .second, rv b_351, iv 3, .unset, .unset, .unset] [(.int 1), (.int 14), (.ref b357), (.ref b357)])) rfl rfl (hb hby at_426)
                    refine own_via (fun k => st433 _ k) ?_
                    show own_Go p e below s _ _ (T433.setTop (mkF m 427 #[iv p0, jv q1, .second, iv p2, jv q3, .second, iv p4, iv z3, iv 3, iv z4, iv z6, iv z8, iv z10, jv z12, .second, jv z15, .second, jv z18, .second, jv z21, .second, jv z24, .second, jv z27, .second, jv z34, .second, jv z42, .second, jv z50, .second, jv z58, .second, jv (z3.toInt64), .second, jv z60, .second, jv z61, .second, jv z62, .second, jv z63, .second, jv z64, .second, rv b_351, iv 3, .unset, .unset, .unset] [(.ref b357)]))
                    have B434 := B429.other W433 ne359
                    have B435 : Arv Z h433 b357 k357 .int (16 : Int32) [(.int 0), (.int 1), (.int 1), (.int 1), (.int 1), (.int 2), (.int 1), (.int 1), (.int 1), (.int 2), (.int 2), (.int 2), (.int 1), (.int 2), (.int 1), (.int 0)] (.int 0) := Arv.set Ar433 q433 S433 NN433 H433 G433 rfl W433 14 rfl (Nat.le_of_ble_eq_true rfl)
                    have N436 := Fr.snoc X433 N431 g358
                    have Z437 : n0 ≤ h433.size := Nat.le_trans Z432 (Keep.of_wr W433).1
                    refine own_via (fun k => XS.dup X433.here hx rfl (hb hby at_427) rfl rfl (XS.bipush X433.here hx rfl (hb hby at_428) (XS.iconst X433.here hx rfl (hb hby at_430) k))) ?_
                    show own_Go p e below s _ _ (T433.setTop (mkF m 431 #[iv p0, jv q1, .second, iv p2, jv q3, .second, iv p4, iv z3, iv 3, iv z4, iv z6, iv z8, iv z10, jv z12, .second, jv z15, .second, jv z18, .second, jv z21, .second, jv z24, .second, jv z27, .second, jv z34, .second, jv z42, .second, jv z50, .second, jv z58, .second, jv (z3.toInt64), .second, jv z60, .second, jv z61, .second, jv z62, .second, jv z63, .second, jv z64, .second, rv b_351, iv 3, .unset, .unset, .unset] [(.int 1), (.int 15), (.ref b357), (.ref b357)]))
                    obtain ⟨cl438, Ar438, q438, S438, NN438, H438, G438⟩ := id B435
                    have hin438 : ¬ ((15 : Int32) < 0 ∨ cl438.slots.size ≤ ((15 : Int32)).toNatClampNeg) := inb_of S438 ⟨by decide, by decide⟩
                    obtain ⟨T438, h438, X438, e438, W438, st438⟩ := stI X433 hx hZ e433 Ar438 (j := (15 : Int32)) hin438 (g := (mkF m 431 #[iv p0, jv q1, .second, iv p2, jv q3, .second, iv p4, iv z3, iv 3, iv z4, iv z6, iv z8, iv z10, jv z12, .second, jv z15, .second, jv z18, .second, jv z21, .second, jv z24, .second, jv z27, .second, jv z34, .second, jv z42, .second, jv z50, .second, jv z58, .second, jv (z3.toInt64), .second, jv z60, .second, jv z61, .second, jv z62, .second, jv z63, .second, jv z64, .second, rv b_351, iv 3, .unset, .unset, .unset] [(.int 1), (.int 15), (.ref b357), (.ref b357)])) rfl rfl (hb hby at_431)
                    refine own_via (fun k => st438 _ k) ?_
                    show own_Go p e below s _ _ (T438.setTop (mkF m 432 #[iv p0, jv q1, .second, iv p2, jv q3, .second, iv p4, iv z3, iv 3, iv z4, iv z6, iv z8, iv z10, jv z12, .second, jv z15, .second, jv z18, .second, jv z21, .second, jv z24, .second, jv z27, .second, jv z34, .second, jv z42, .second, jv z50, .second, jv z58, .second, jv (z3.toInt64), .second, jv z60, .second, jv z61, .second, jv z62, .second, jv z63, .second, jv z64, .second, rv b_351, iv 3, .unset, .unset, .unset] [(.ref b357)]))
                    have B439 := B434.other W438 ne359
                    have B440 : Arv Z h438 b357 k357 .int (16 : Int32) [(.int 0), (.int 1), (.int 1), (.int 1), (.int 1), (.int 2), (.int 1), (.int 1), (.int 1), (.int 2), (.int 2), (.int 2), (.int 1), (.int 2), (.int 1), (.int 1)] (.int 0) := Arv.set Ar438 q438 S438 NN438 H438 G438 rfl W438 15 rfl (Nat.le_of_ble_eq_true rfl)
                    have N441 := Fr.snoc X438 N436 g358
                    have Z442 : n0 ≤ h438.size := Nat.le_trans Z437 (Keep.of_wr W438).1
                    refine own_via (fun k => XS.astore X438.here hx rfl (hb hby at_432) rfl rfl (l' := #[iv p0, jv q1, .second, iv p2, jv q3, .second, iv p4, iv z3, iv 3, iv z4, iv z6, iv z8, iv z10, jv z12, .second, jv z15, .second, jv z18, .second, jv z21, .second, jv z24, .second, jv z27, .second, jv z34, .second, jv z42, .second, jv z50, .second, jv z58, .second, jv (z3.toInt64), .second, jv z60, .second, jv z61, .second, jv z62, .second, jv z63, .second, jv z64, .second, rv b_351, iv 3, rv b357, .unset, .unset]) rfl (XS.aload X438.here hx rfl (hb hby at_434) rfl rfl  (XS.iloadN X438.here hx rfl (hb hby at_436) rfl  (XS.iload X438.here hx rfl (hb hby at_437) rfl  k)))) ?_
                    show own_Go p e below s _ _ (T438.setTop (mkF m 439 #[iv p0, jv q1, .second, iv p2, jv q3, .second, iv p4, iv z3, iv 3, iv z4, iv z6, iv z8, iv z10, jv z12, .second, jv z15, .second, jv z18, .second, jv z21, .second, jv z24, .second, jv z27, .second, jv z34, .second, jv z42, .second, jv z50, .second, jv z58, .second, jv (z3.toInt64), .second, jv z60, .second, jv z61, .second, jv z62, .second, jv z63, .second, jv z64, .second, rv b_351, iv 3, rv b357, .unset, .unset] [(.int 3), (.int p2), (.ref b357)]))
                    refine own_via (fun k => XS.iand X438.here hx rfl (hb hby at_439) rfl k) ?_
                    show own_Go p e below s _ _ (T438.setTop (mkF m 440 #[iv p0, jv q1, .second, iv p2, jv q3, .second, iv p4, iv z3, iv 3, iv z4, iv z6, iv z8, iv z10, jv z12, .second, jv z15, .second, jv z18, .second, jv z21, .second, jv z24, .second, jv z27, .second, jv z34, .second, jv z42, .second, jv z50, .second, jv z58, .second, jv (z3.toInt64), .second, jv z60, .second, jv z61, .second, jv z62, .second, jv z63, .second, jv z64, .second, rv b_351, iv 3, rv b357, .unset, .unset] [(.int (p2 &&& (3 : Int32))), (.ref b357)]))
                    obtain ⟨cl443, Ar443, q443, S443, NN443, H443, G443⟩ := id B440
                    have hin443 : ¬ ((p2 &&& (3 : Int32)) < 0 ∨ cl443.slots.size ≤ ((p2 &&& (3 : Int32))).toNatClampNeg) := inb_of S443 (own_in3 p2 hl65)
                    have hat443 : cl443.slots[((p2 &&& (3 : Int32))).toNatClampNeg]? = some (.int (own_tab (p2 &&& (3 : Int32)))) := H443.at hin443 (own_tabget (p2 &&& (3 : Int32)) (own_in3 p2 hl65))
                    refine own_via (fun k => X438.iaload hx (j := (p2 &&& (3 : Int32))) (v := (.int (own_tab (p2 &&& (3 : Int32))))) (by rw [e438]; exact Ar443.1) (State.isArrayOf_alike hZ.alike Ar443.2.1) Ar443.2.2 hin443 hat443 (g := (mkF m 440 #[iv p0, jv q1, .second, iv p2, jv q3, .second, iv p4, iv z3, iv 3, iv z4, iv z6, iv z8, iv z10, jv z12, .second, jv z15, .second, jv z18, .second, jv z21, .second, jv z24, .second, jv z27, .second, jv z34, .second, jv z42, .second, jv z50, .second, jv z58, .second, jv (z3.toInt64), .second, jv z60, .second, jv z61, .second, jv z62, .second, jv z63, .second, jv z64, .second, rv b_351, iv 3, rv b357, .unset, .unset] [(.int (p2 &&& (3 : Int32))), (.ref b357)])) rfl rfl (hb hby at_440) _ k) ?_
                    show own_Go p e below s _ _ (T438.setTop (mkF m 441 #[iv p0, jv q1, .second, iv p2, jv q3, .second, iv p4, iv z3, iv 3, iv z4, iv z6, iv z8, iv z10, jv z12, .second, jv z15, .second, jv z18, .second, jv z21, .second, jv z24, .second, jv z27, .second, jv z34, .second, jv z42, .second, jv z50, .second, jv z58, .second, jv (z3.toInt64), .second, jv z60, .second, jv z61, .second, jv z62, .second, jv z63, .second, jv z64, .second, rv b_351, iv 3, rv b357, .unset, .unset] [(.int (own_tab (p2 &&& (3 : Int32))))]))
                    refine own_via (fun k => XS.i2l X438.here hx rfl (hb hby at_441) rfl (XS.lstore X438.here hx rfl (hb hby at_442) rfl (l' := #[iv p0, jv q1, .second, iv p2, jv q3, .second, iv p4, iv z3, iv 3, iv z4, iv z6, iv z8, iv z10, jv z12, .second, jv z15, .second, jv z18, .second, jv z21, .second, jv z24, .second, jv z27, .second, jv z34, .second, jv z42, .second, jv z50, .second, jv z58, .second, jv (z3.toInt64), .second, jv z60, .second, jv z61, .second, jv z62, .second, jv z63, .second, jv z64, .second, rv b_351, iv 3, rv b357, jv ((own_tab (p2 &&& (3 : Int32))).toInt64), .second]) rfl (XS.aload X438.here hx rfl (hb hby at_444) rfl rfl  (XS.iload X438.here hx rfl (hb hby at_446) rfl  k)))) ?_
                    show own_Go p e below s _ _ (T438.setTop (mkF m 448 #[iv p0, jv q1, .second, iv p2, jv q3, .second, iv p4, iv z3, iv 3, iv z4, iv z6, iv z8, iv z10, jv z12, .second, jv z15, .second, jv z18, .second, jv z21, .second, jv z24, .second, jv z27, .second, jv z34, .second, jv z42, .second, jv z50, .second, jv z58, .second, jv (z3.toInt64), .second, jv z60, .second, jv z61, .second, jv z62, .second, jv z63, .second, jv z64, .second, rv b_351, iv 3, rv b357, jv ((own_tab (p2 &&& (3 : Int32))).toInt64), .second] [(.int z3), (.ref b_351)]))
                    obtain ⟨_, _, ⟨T444, L444, k444, n444⟩, -, X444, ⟨Lc444, hQ444, l444, y444, z444⟩, st444⟩ := Jvm.LawKit.callS X438 hx (y := (⟨"com/example/waveslot/waveslot/core/CheckerSteps", "repeatedQuotients", "([JI)J"⟩ : MethodName)) hown (mvT hZ (hw _ (List.mem_of_getElem? (i := 22) rfl))) (mvT hZ (hw _ (List.mem_of_getElem? (i := 23) rfl))) (mvT hZ (hw _ (List.mem_of_getElem? (i := 24) rfl))) (mvT hZ (hw _ (List.mem_of_getElem? (i := 25) rfl))) (by decide) (backOf (W := 0) (rm6_3 l Z aw hw [] b_351 z3 k_351 z60 z61 z62 h438 n0 Z442 B439 (own_hhn6_3 p0 p2 z3 hz3 hl65)) hZ (hw _ (List.mem_of_getElem? (i := 25) rfl)) (hw _ (List.mem_of_getElem? (i := 24) rfl)) (by decide) (by decide)) (g := (mkF m 448 #[iv p0, jv q1, .second, iv p2, jv q3, .second, iv p4, iv z3, iv 3, iv z4, iv z6, iv z8, iv z10, jv z12, .second, jv z15, .second, jv z18, .second, jv z21, .second, jv z24, .second, jv z27, .second, jv z34, .second, jv z42, .second, jv z50, .second, jv z58, .second, jv (z3.toInt64), .second, jv z60, .second, jv z61, .second, jv z62, .second, jv z63, .second, jv z64, .second, rv b_351, iv 3, rv b357, jv ((own_tab (p2 &&& (3 : Int32))).toInt64), .second] [(.int z3), (.ref b_351)])) rfl (by rw [hml]; rfl) (argsL := [(.ref b_351), (.int z3)]) (rest := []) (lenOf pd_5 rfl) rfl (by show 2 * 0 + _ ≤ _; exact Nat.le_of_eq rfl) (hb hby at_448) (fun _ _ => ⟨rfl, e438, (by decide : 2 + 0 ≤ _), (by decide : 19 + 0 ≤ _)⟩)
                    dsimp only [Pt.U, Pt.locs, Pt.cells, Pt.slots] at X444 l444 y444 z444 st444 hQ444
                    subst l444 y444 z444
                    obtain ⟨rfl, N444q, eh444⟩ := hQ444
                    have N445 := Fr.app N441 N444q
                    refine own_via (fun k => st444 _ k) ?_
                    show own_Go p e below s _ _ (T444.setTop (mkF m 451 #[iv p0, jv q1, .second, iv p2, jv q3, .second, iv p4, iv z3, iv 3, iv z4, iv z6, iv z8, iv z10, jv z12, .second, jv z15, .second, jv z18, .second, jv z21, .second, jv z24, .second, jv z27, .second, jv z34, .second, jv z42, .second, jv z50, .second, jv z58, .second, jv (z3.toInt64), .second, jv z60, .second, jv z61, .second, jv z62, .second, jv z63, .second, jv z64, .second, rv b_351, iv 3, rv b357, jv ((own_tab (p2 &&& (3 : Int32))).toInt64), .second] [(.long (own_f6_3 z3 z60 z61 z62))]))
                    refine own_via (fun k => XS.lload X444.here hx rfl (hb hby at_451) rfl  (XS.lcmp X444.here hx rfl (hb hby at_453) rfl k)) ?_
                    show own_Go p e below s _ _ (T444.setTop (mkF m 454 #[iv p0, jv q1, .second, iv p2, jv q3, .second, iv p4, iv z3, iv 3, iv z4, iv z6, iv z8, iv z10, jv z12, .second, jv z15, .second, jv z18, .second, jv z21, .second, jv z24, .second, jv z27, .second, jv z34, .second, jv z42, .second, jv z50, .second, jv z58, .second, jv (z3.toInt64), .second, jv z60, .second, jv z61, .second, jv z62, .second, jv z63, .second, jv z64, .second, rv b_351, iv 3, rv b357, jv ((own_tab (p2 &&& (3 : Int32))).toInt64), .second] [(.int (lcmpW (own_f6_3 z3 z60 z61 z62) ((own_tab (p2 &&& (3 : Int32))).toInt64)))]))
                    refine own_via (fun k => XS.ifNo X444.here hx rfl (hb hby at_454) rfl ((if0 _ _).trans (teq ((lw_eq _ _).mpr (own_law3 p0 q1 p2 q3 p4 z3 hz3 z4 hz4 z6 hz6 z12 hz12 z15 hz15 z18 hz18 z27 hz27 z34 hz34 z42 hz42 z60 hz60 z61 hz61 z62 hz62 hl65))).2) k) ?_
                    show own_Go p e below s _ _ (T444.setTop (mkF m 457 #[iv p0, jv q1, .second, iv p2, jv q3, .second, iv p4, iv z3, iv 3, iv z4, iv z6, iv z8, iv z10, jv z12, .second, jv z15, .second, jv z18, .second, jv z21, .second, jv z24, .second, jv z27, .second, jv z34, .second, jv z42, .second, jv z50, .second, jv z58, .second, jv (z3.toInt64), .second, jv z60, .second, jv z61, .second, jv z62, .second, jv z63, .second, jv z64, .second, rv b_351, iv 3, rv b357, jv ((own_tab (p2 &&& (3 : Int32))).toInt64), .second] []))
                    refine own_via (fun k => XS.iconst X444.here hx rfl (hb hby at_457) (XS.goto X444.here hx rfl (pc0 := 458) (pc' := 462) rfl (hb hby at_458) (by decide) (by decide) k)) ?_
                    show own_Go p e below s _ _ (T444.setTop (mkF m 462 #[iv p0, jv q1, .second, iv p2, jv q3, .second, iv p4, iv z3, iv 3, iv z4, iv z6, iv z8, iv z10, jv z12, .second, jv z15, .second, jv z18, .second, jv z21, .second, jv z24, .second, jv z27, .second, jv z34, .second, jv z42, .second, jv z50, .second, jv z58, .second, jv (z3.toInt64), .second, jv z60, .second, jv z61, .second, jv z62, .second, jv z63, .second, jv z64, .second, rv b_351, iv 3, rv b357, jv ((own_tab (p2 &&& (3 : Int32))).toInt64), .second] [(.int 1)]))
                    exact own_retN X444 hx hlk (t := .boolean) Bd.returns (by simp) (hb hby at_462) (Q := (Q0 Z p0 q1 p2 q3 p4 h0 n0)) ⟨rfl, N445⟩ (by decide) (by decide)
                  · rw [hl65]
                    show own_Go p e below s _ _ (T59.setTop (mkF m 318 #[iv p0, jv q1, .second, iv p2, jv q3, .second, iv p4, iv z3, iv 4, iv z4, iv z6, iv z8, iv z10, jv z12, .second, jv z15, .second, jv z18, .second, jv z21, .second, jv z24, .second, jv z27, .second, jv z34, .second, jv z42, .second, jv z50, .second, jv z58, .second, jv (z3.toInt64), .second, jv z60, .second, jv z61, .second, jv z62, .second, jv z63, .second, jv z64, .second, .unset, .unset, .unset, .unset, .unset] []))
                    refine own_via (fun k => XS.iload X59.here hx rfl (hb hby at_318) rfl  (XS.lload X59.here hx rfl (hb hby at_320) rfl  (XS.lload X59.here hx rfl (hb hby at_322) rfl  (XS.lload X59.here hx rfl (hb hby at_324) rfl  k)))) ?_
                    show own_Go p e below s _ _ (T59.setTop (mkF m 326 #[iv p0, jv q1, .second, iv p2, jv q3, .second, iv p4, iv z3, iv 4, iv z4, iv z6, iv z8, iv z10, jv z12, .second, jv z15, .second, jv z18, .second, jv z21, .second, jv z24, .second, jv z27, .second, jv z34, .second, jv z42, .second, jv z50, .second, jv z58, .second, jv (z3.toInt64), .second, jv z60, .second, jv z61, .second, jv z62, .second, jv z63, .second, jv z64, .second, .unset, .unset, .unset, .unset, .unset] [(.long z62), (.long z61), (.long z60), (.int 4)]))
                    refine own_via (fun k => XS.lload X59.here hx rfl (hb hby at_326) rfl  (XS.lload X59.here hx rfl (hb hby at_328) rfl  k)) ?_
                    show own_Go p e below s _ _ (T59.setTop (mkF m 330 #[iv p0, jv q1, .second, iv p2, jv q3, .second, iv p4, iv z3, iv 4, iv z4, iv z6, iv z8, iv z10, jv z12, .second, jv z15, .second, jv z18, .second, jv z21, .second, jv z24, .second, jv z27, .second, jv z34, .second, jv z42, .second, jv z50, .second, jv z58, .second, jv (z3.toInt64), .second, jv z60, .second, jv z61, .second, jv z62, .second, jv z63, .second, jv z64, .second, .unset, .unset, .unset, .unset, .unset] [(.long z64), (.long z63), (.long z62), (.long z61), (.long z60), (.int 4)]))
                    obtain ⟨_, _, ⟨T446, L446, k446, n446⟩, -, X446, ⟨Lc446, hQ446, l446, y446, z446⟩, st446⟩ := Jvm.LawKit.callS X59 hx (y := (⟨"com/example/waveslot/waveslot/core/CheckerStepsRepeatedQuotientsPinLaw", "prefix", "(IJJJJJ)[J"⟩ : MethodName)) hown (mvT hZ (hw _ (List.mem_of_getElem? (i := 17) rfl))) (mvT hZ (hw _ (List.mem_of_getElem? (i := 18) rfl))) (mvT hZ (hw _ (List.mem_of_getElem? (i := 8) rfl))) (mvT hZ (hw _ (List.mem_of_getElem? (i := 19) rfl))) (by decide) (backOf (W := 0) (rm5_4 l Z aw hw [] z60 z61 z62 z63 z64 h0 n0 Z0) hZ (hw _ (List.mem_of_getElem? (i := 19) rfl)) (hw _ (List.mem_of_getElem? (i := 8) rfl)) (by decide) (by decide)) (g := (mkF m 330 #[iv p0, jv q1, .second, iv p2, jv q3, .second, iv p4, iv z3, iv 4, iv z4, iv z6, iv z8, iv z10, jv z12, .second, jv z15, .second, jv z18, .second, jv z21, .second, jv z24, .second, jv z27, .second, jv z34, .second, jv z42, .second, jv z50, .second, jv z58, .second, jv (z3.toInt64), .second, jv z60, .second, jv z61, .second, jv z62, .second, jv z63, .second, jv z64, .second, .unset, .unset, .unset, .unset, .unset] [(.long z64), (.long z63), (.long z62), (.long z61), (.long z60), (.int 4)])) rfl (by rw [hml]; rfl) (argsL := [(.int 4), (.long z60), (.long z61), (.long z62), (.long z63), (.long z64)]) (rest := []) (lenOf pd_4 rfl) rfl (by show 2 * 0 + _ ≤ _; exact Nat.le_of_eq rfl) (hb hby at_330) (fun _ _ => ⟨rfl, e59, (by decide : 0 + 1 ≤ _), (by decide : 0 + 4 ≤ _)⟩)
                    dsimp only [Pt.U, Pt.locs, Pt.cells, Pt.slots] at X446 l446 y446 z446 st446 hQ446
                    subst l446 y446 z446
                    obtain ⟨b_446, k_446, rfl, N446q, K446, B447, g448⟩ := hQ446
                    have N449 := Fr.app N59 N446q
                    have Z450 : n0 ≤ T446.heap.size := Nat.le_trans Z0 K446.1
                    have g451 : n0 ≤ b_446 := Nat.le_trans Z0 g448
                    refine own_via (fun k => st446 _ k) ?_
                    show own_Go p e below s _ _ (T446.setTop (mkF m 333 #[iv p0, jv q1, .second, iv p2, jv q3, .second, iv p4, iv z3, iv 4, iv z4, iv z6, iv z8, iv z10, jv z12, .second, jv z15, .second, jv z18, .second, jv z21, .second, jv z24, .second, jv z27, .second, jv z34, .second, jv z42, .second, jv z50, .second, jv z58, .second, jv (z3.toInt64), .second, jv z60, .second, jv z61, .second, jv z62, .second, jv z63, .second, jv z64, .second, .unset, .unset, .unset, .unset, .unset] [(.ref b_446)]))
                    refine own_via (fun k => XS.astore X446.here hx rfl (hb hby at_333) rfl rfl (l' := #[iv p0, jv q1, .second, iv p2, jv q3, .second, iv p4, iv z3, iv 4, iv z4, iv z6, iv z8, iv z10, jv z12, .second, jv z15, .second, jv z18, .second, jv z21, .second, jv z24, .second, jv z27, .second, jv z34, .second, jv z42, .second, jv z50, .second, jv z58, .second, jv (z3.toInt64), .second, jv z60, .second, jv z61, .second, jv z62, .second, jv z63, .second, jv z64, .second, rv b_446, .unset, .unset, .unset, .unset]) rfl (XS.iload X446.here hx rfl (hb hby at_335) rfl  k)) ?_
                    show own_Go p e below s _ _ (T446.setTop (mkF m 337 #[iv p0, jv q1, .second, iv p2, jv q3, .second, iv p4, iv z3, iv 4, iv z4, iv z6, iv z8, iv z10, jv z12, .second, jv z15, .second, jv z18, .second, jv z21, .second, jv z24, .second, jv z27, .second, jv z34, .second, jv z42, .second, jv z50, .second, jv z58, .second, jv (z3.toInt64), .second, jv z60, .second, jv z61, .second, jv z62, .second, jv z63, .second, jv z64, .second, rv b_446, .unset, .unset, .unset, .unset] [(.int 4)]))
                    refine own_via (fun k => XS.ifYes X446.here hx rfl (pc0 := 337) (pc' := 344) rfl (hb hby at_337) rfl (by decide) (by decide) (by decide) k) ?_
                    show own_Go p e below s _ _ (T446.setTop (mkF m 344 #[iv p0, jv q1, .second, iv p2, jv q3, .second, iv p4, iv z3, iv 4, iv z4, iv z6, iv z8, iv z10, jv z12, .second, jv z15, .second, jv z18, .second, jv z21, .second, jv z24, .second, jv z27, .second, jv z34, .second, jv z42, .second, jv z50, .second, jv z58, .second, jv (z3.toInt64), .second, jv z60, .second, jv z61, .second, jv z62, .second, jv z63, .second, jv z64, .second, rv b_446, .unset, .unset, .unset, .unset] []))
                    refine own_via (fun k => XS.iconst X446.here hx rfl (hb hby at_344) (XS.iload X446.here hx rfl (hb hby at_345) rfl  (XS.iconst X446.here hx rfl (hb hby at_347) (XS.isub X446.here hx rfl (hb hby at_348) rfl k)))) ?_
                    show own_Go p e below s _ _ (T446.setTop (mkF m 349 #[iv p0, jv q1, .second, iv p2, jv q3, .second, iv p4, iv z3, iv 4, iv z4, iv z6, iv z8, iv z10, jv z12, .second, jv z15, .second, jv z18, .second, jv z21, .second, jv z24, .second, jv z27, .second, jv z34, .second, jv z42, .second, jv z50, .second, jv z58, .second, jv (z3.toInt64), .second, jv z60, .second, jv z61, .second, jv z62, .second, jv z63, .second, jv z64, .second, rv b_446, .unset, .unset, .unset, .unset] [(.int 3), (.int 1)]))
                    refine own_via (fun k => XS.ishl X446.here hx rfl (hb hby at_349) rfl (XS.iconst X446.here hx rfl (hb hby at_350) (XS.isub X446.here hx rfl (hb hby at_351) rfl (XS.istore X446.here hx rfl (hb hby at_352) rfl (l' := #[iv p0, jv q1, .second, iv p2, jv q3, .second, iv p4, iv z3, iv 4, iv z4, iv z6, iv z8, iv z10, jv z12, .second, jv z15, .second, jv z18, .second, jv z21, .second, jv z24, .second, jv z27, .second, jv z34, .second, jv z42, .second, jv z50, .second, jv z58, .second, jv (z3.toInt64), .second, jv z60, .second, jv z61, .second, jv z62, .second, jv z63, .second, jv z64, .second, rv b_446, iv 7, .unset, .unset, .unset]) rfl k)))) ?_
                    show own_Go p e below s _ _ (T446.setTop (mkF m 354 #[iv p0, jv q1, .second, iv p2, jv q3, .second, iv p4, iv z3, iv 4, iv z4, iv z6, iv z8, iv z10, jv z12, .second, jv z15, .second, jv z18, .second, jv z21, .second, jv z24, .second, jv z27, .second, jv z34, .second, jv z42, .second, jv z50, .second, jv z58, .second, jv (z3.toInt64), .second, jv z60, .second, jv z61, .second, jv z62, .second, jv z63, .second, jv z64, .second, rv b_446, iv 7, .unset, .unset, .unset] []))
                    refine own_via (fun k => XS.bipush X446.here hx rfl (hb hby at_354) k) ?_
                    show own_Go p e below s _ _ (T446.setTop (mkF m 356 #[iv p0, jv q1, .second, iv p2, jv q3, .second, iv p4, iv z3, iv 4, iv z4, iv z6, iv z8, iv z10, jv z12, .second, jv z15, .second, jv z18, .second, jv z21, .second, jv z24, .second, jv z27, .second, jv z34, .second, jv z42, .second, jv z50, .second, jv z58, .second, jv (z3.toInt64), .second, jv z60, .second, jv z61, .second, jv z62, .second, jv z63, .second, jv z64, .second, rv b_446, iv 7, .unset, .unset, .unset] [(.int 16)]))
                    obtain ⟨T452, h452, k452, X452, e452, E452, A452, st452⟩ := newP X446 hx hZ (hw _ (List.mem_of_getElem? (i := 21) rfl)) rfl (g := (mkF m 356 #[iv p0, jv q1, .second, iv p2, jv q3, .second, iv p4, iv z3, iv 4, iv z4, iv z6, iv z8, iv z10, jv z12, .second, jv z15, .second, jv z18, .second, jv z21, .second, jv z24, .second, jv z27, .second, jv z34, .second, jv z42, .second, jv z50, .second, jv z58, .second, jv (z3.toInt64), .second, jv z60, .second, jv z61, .second, jv z62, .second, jv z63, .second, jv z64, .second, rv b_446, iv 7, .unset, .unset, .unset] [(.int 16)])) rfl (hb hby at_356) rfl (by decide) (cap := 16) (by decide) (by decide) (by decide) (by decide)
                    obtain ⟨b452, g452⟩ : ∃ z, z = T446.heap.size := ⟨_, rfl⟩
                    rw [← g452] at A452 st452
                    refine own_via (fun k => st452 _ k) ?_
                    show own_Go p e below s _ _ (T452.setTop (mkF m 358 #[iv p0, jv q1, .second, iv p2, jv q3, .second, iv p4, iv z3, iv 4, iv z4, iv z6, iv z8, iv z10, jv z12, .second, jv z15, .second, jv z18, .second, jv z21, .second, jv z24, .second, jv z27, .second, jv z34, .second, jv z42, .second, jv z50, .second, jv z58, .second, jv (z3.toInt64), .second, jv z60, .second, jv z61, .second, jv z62, .second, jv z63, .second, jv z64, .second, rv b_446, iv 7, .unset, .unset, .unset] [(.ref b452)]))
                    have g453 : n0 ≤ b452 := Nat.le_trans Z450 (Nat.le_of_eq g452.symm)
                    have ne454 : b_446 ≠ b452 := Nat.ne_of_lt (Nat.lt_of_lt_of_le B447.lt (Nat.le_of_eq g452.symm))
                    have B455 := B447.ext E452
                    have Z456 : n0 ≤ h452.size := Nat.le_trans Z450 E452.1
                    have B457 : Arv Z h452 b452 k452 .int (16 : Int32) [(.int 0), (.int 0), (.int 0), (.int 0), (.int 0), (.int 0), (.int 0), (.int 0), (.int 0), (.int 0), (.int 0), (.int 0), (.int 0), (.int 0), (.int 0), (.int 0)] (.int 0) := (Arv.new A452 (by decide)).pad (pad_rep [] (.int 0) 16)
                    refine own_via (fun k => XS.dup X452.here hx rfl (hb hby at_358) rfl rfl (XS.iconst X452.here hx rfl (hb hby at_359) (XS.iconst X452.here hx rfl (hb hby at_360) k))) ?_
                    show own_Go p e below s _ _ (T452.setTop (mkF m 361 #[iv p0, jv q1, .second, iv p2, jv q3, .second, iv p4, iv z3, iv 4, iv z4, iv z6, iv z8, iv z10, jv z12, .second, jv z15, .second, jv z18, .second, jv z21, .second, jv z24, .second, jv z27, .second, jv z34, .second, jv z42, .second, jv z50, .second, jv z58, .second, jv (z3.toInt64), .second, jv z60, .second, jv z61, .second, jv z62, .second, jv z63, .second, jv z64, .second, rv b_446, iv 7, .unset, .unset, .unset] [(.int 0), (.int 0), (.ref b452), (.ref b452)]))
                    obtain ⟨cl458, Ar458, q458, S458, NN458, H458, G458⟩ := id B457
                    have hin458 : ¬ ((0 : Int32) < 0 ∨ cl458.slots.size ≤ ((0 : Int32)).toNatClampNeg) := inb_of S458 ⟨by decide, by decide⟩
                    obtain ⟨T458, h458, X458, e458, W458, st458⟩ := stI X452 hx hZ e452 Ar458 (j := (0 : Int32)) hin458 (g := (mkF m 361 #[iv p0, jv q1, .second, iv p2, jv q3, .second, iv p4, iv z3, iv 4, iv z4, iv z6, iv z8, iv z10, jv z12, .second, jv z15, .second, jv z18, .second, jv z21, .second, jv z24, .second, jv z27, .second, jv z34, .second, jv z42, .second, jv z50, .second, jv z58, .second, jv (z3.toInt64), .second, jv z60, .second, jv z61, .second, jv z62, .second, jv z63, .second, jv z64, .second, rv b_446, iv 7, .unset, .unset, .unset] [(.int 0), (.int 0), (.ref b452), (.ref b452)])) rfl rfl (hb hby at_361)
                    refine own_via (fun k => st458 _ k) ?_
                    show own_Go p e below s _ _ (T458.setTop (mkF m 362 #[iv p0, jv q1, .second, iv p2, jv q3, .second, iv p4, iv z3, iv 4, iv z4, iv z6, iv z8, iv z10, jv z12, .second, jv z15, .second, jv z18, .second, jv z21, .second, jv z24, .second, jv z27, .second, jv z34, .second, jv z42, .second, jv z50, .second, jv z58, .second, jv (z3.toInt64), .second, jv z60, .second, jv z61, .second, jv z62, .second, jv z63, .second, jv z64, .second, rv b_446, iv 7, .unset, .unset, .unset] [(.ref b452)]))
                    have B459 := B455.other W458 ne454
                    have B460 : Arv Z h458 b452 k452 .int (16 : Int32) [(.int 0), (.int 0), (.int 0), (.int 0), (.int 0), (.int 0), (.int 0), (.int 0), (.int 0), (.int 0), (.int 0), (.int 0), (.int 0), (.int 0), (.int 0), (.int 0)] (.int 0) := Arv.set Ar458 q458 S458 NN458 H458 G458 rfl W458 0 rfl (Nat.le_of_ble_eq_true rfl)
                    have N461 := Fr.snoc X458 N449 g453
                    have Z462 : n0 ≤ h458.size := Nat.le_trans Z456 (Keep.of_wr W458).1
                    refine own_via (fun k => XS.dup X458.here hx rfl (hb hby at_362) rfl rfl (XS.iconst X458.here hx rfl (hb hby at_363) (XS.iconst X458.here hx rfl (hb hby at_364) k))) ?_
                    show own_Go p e below s _ _ (T458.setTop (mkF m 365 #[iv p0, jv q1, .second, iv p2, jv q3, .second, iv p4, iv z3, iv 4, iv z4, iv z6, iv z8, iv z10, jv z12, .second, jv z15, .second, jv z18, .second, jv z21, .second, jv z24, .second, jv z27, .second, jv z34, .second, jv z42, .second, jv z50, .second, jv z58, .second, jv (z3.toInt64), .second, jv z60, .second, jv z61, .second, jv z62, .second, jv z63, .second, jv z64, .second, rv b_446, iv 7, .unset, .unset, .unset] [(.int 1), (.int 1), (.ref b452), (.ref b452)]))
                    obtain ⟨cl463, Ar463, q463, S463, NN463, H463, G463⟩ := id B460
                    have hin463 : ¬ ((1 : Int32) < 0 ∨ cl463.slots.size ≤ ((1 : Int32)).toNatClampNeg) := inb_of S463 ⟨by decide, by decide⟩
                    obtain ⟨T463, h463, X463, e463, W463, st463⟩ := stI X458 hx hZ e458 Ar463 (j := (1 : Int32)) hin463 (g := (mkF m 365 #[iv p0, jv q1, .second, iv p2, jv q3, .second, iv p4, iv z3, iv 4, iv z4, iv z6, iv z8, iv z10, jv z12, .second, jv z15, .second, jv z18, .second, jv z21, .second, jv z24, .second, jv z27, .second, jv z34, .second, jv z42, .second, jv z50, .second, jv z58, .second, jv (z3.toInt64), .second, jv z60, .second, jv z61, .second, jv z62, .second, jv z63, .second, jv z64, .second, rv b_446, iv 7, .unset, .unset, .unset] [(.int 1), (.int 1), (.ref b452), (.ref b452)])) rfl rfl (hb hby at_365)
                    refine own_via (fun k => st463 _ k) ?_
                    show own_Go p e below s _ _ (T463.setTop (mkF m 366 #[iv p0, jv q1, .second, iv p2, jv q3, .second, iv p4, iv z3, iv 4, iv z4, iv z6, iv z8, iv z10, jv z12, .second, jv z15, .second, jv z18, .second, jv z21, .second, jv z24, .second, jv z27, .second, jv z34, .second, jv z42, .second, jv z50, .second, jv z58, .second, jv (z3.toInt64), .second, jv z60, .second, jv z61, .second, jv z62, .second, jv z63, .second, jv z64, .second, rv b_446, iv 7, .unset, .unset, .unset] [(.ref b452)]))
                    have B464 := B459.other W463 ne454
                    have B465 : Arv Z h463 b452 k452 .int (16 : Int32) [(.int 0), (.int 1), (.int 0), (.int 0), (.int 0), (.int 0), (.int 0), (.int 0), (.int 0), (.int 0), (.int 0), (.int 0), (.int 0), (.int 0), (.int 0), (.int 0)] (.int 0) := Arv.set Ar463 q463 S463 NN463 H463 G463 rfl W463 1 rfl (Nat.le_of_ble_eq_true rfl)
                    have N466 := Fr.snoc X463 N461 g453
                    have Z467 : n0 ≤ h463.size := Nat.le_trans Z462 (Keep.of_wr W463).1
                    refine own_via (fun k => XS.dup X463.here hx rfl (hb hby at_366) rfl rfl (XS.iconst X463.here hx rfl (hb hby at_367) (XS.iconst X463.here hx rfl (hb hby at_368) k))) ?_
                    show own_Go p e below s _ _ (T463.setTop (mkF m 369 #[iv p0, jv q1, .second, iv p2, jv q3, .second, iv p4, iv z3, iv 4, iv z4, iv z6, iv z8, iv z10, jv z12, .second, jv z15, .second, jv z18, .second, jv z21, .second, jv z24, .second, jv z27, .second, jv z34, .second, jv z42, .second, jv z50, .second, jv z58, .second, jv (z3.toInt64), .second, jv z60, .second, jv z61, .second, jv z62, .second, jv z63, .second, jv z64, .second, rv b_446, iv 7, .unset, .unset, .unset] [(.int 1), (.int 2), (.ref b452), (.ref b452)]))
                    obtain ⟨cl468, Ar468, q468, S468, NN468, H468, G468⟩ := id B465
                    have hin468 : ¬ ((2 : Int32) < 0 ∨ cl468.slots.size ≤ ((2 : Int32)).toNatClampNeg) := inb_of S468 ⟨by decide, by decide⟩
                    obtain ⟨T468, h468, X468, e468, W468, st468⟩ := stI X463 hx hZ e463 Ar468 (j := (2 : Int32)) hin468 (g := (mkF m 369 #[iv p0, jv q1, .second, iv p2, jv q3, .second, iv p4, iv z3, iv 4, iv z4, iv z6, iv z8, iv z10, jv z12, .second, jv z15, .second, jv z18, .second, jv z21, .second, jv z24, .second, jv z27, .second, jv z34, .second, jv z42, .second, jv z50, .second, jv z58, .second, jv (z3.toInt64), .second, jv z60, .second, jv z61, .second, jv z62, .second, jv z63, .second, jv z64, .second, rv b_446, iv 7, .unset, .unset, .unset] [(.int 1), (.int 2), (.ref b452), (.ref b452)])) rfl rfl (hb hby at_369)
                    refine own_via (fun k => st468 _ k) ?_
                    show own_Go p e below s _ _ (T468.setTop (mkF m 370 #[iv p0, jv q1, .second, iv p2, jv q3, .second, iv p4, iv z3, iv 4, iv z4, iv z6, iv z8, iv z10, jv z12, .second, jv z15, .second, jv z18, .second, jv z21, .second, jv z24, .second, jv z27, .second, jv z34, .second, jv z42, .second, jv z50, .second, jv z58, .second, jv (z3.toInt64), .second, jv z60, .second, jv z61, .second, jv z62, .second, jv z63, .second, jv z64, .second, rv b_446, iv 7, .unset, .unset, .unset] [(.ref b452)]))
                    have B469 := B464.other W468 ne454
                    have B470 : Arv Z h468 b452 k452 .int (16 : Int32) [(.int 0), (.int 1), (.int 1), (.int 0), (.int 0), (.int 0), (.int 0), (.int 0), (.int 0), (.int 0), (.int 0), (.int 0), (.int 0), (.int 0), (.int 0), (.int 0)] (.int 0) := Arv.set Ar468 q468 S468 NN468 H468 G468 rfl W468 2 rfl (Nat.le_of_ble_eq_true rfl)
                    have N471 := Fr.snoc X468 N466 g453
                    have Z472 : n0 ≤ h468.size := Nat.le_trans Z467 (Keep.of_wr W468).1
                    refine own_via (fun k => XS.dup X468.here hx rfl (hb hby at_370) rfl rfl (XS.iconst X468.here hx rfl (hb hby at_371) (XS.iconst X468.here hx rfl (hb hby at_372) k))) ?_
                    show own_Go p e below s _ _ (T468.setTop (mkF m 373 #[iv p0, jv q1, .second, iv p2, jv q3, .second, iv p4, iv z3, iv 4, iv z4, iv z6, iv z8, iv z10, jv z12, .second, jv z15, .second, jv z18, .second, jv z21, .second, jv z24, .second, jv z27, .second, jv z34, .second, jv z42, .second, jv z50, .second, jv z58, .second, jv (z3.toInt64), .second, jv z60, .second, jv z61, .second, jv z62, .second, jv z63, .second, jv z64, .second, rv b_446, iv 7, .unset, .unset, .unset] [(.int 1), (.int 3), (.ref b452), (.ref b452)]))
                    obtain ⟨cl473, Ar473, q473, S473, NN473, H473, G473⟩ := id B470
                    have hin473 : ¬ ((3 : Int32) < 0 ∨ cl473.slots.size ≤ ((3 : Int32)).toNatClampNeg) := inb_of S473 ⟨by decide, by decide⟩
                    obtain ⟨T473, h473, X473, e473, W473, st473⟩ := stI X468 hx hZ e468 Ar473 (j := (3 : Int32)) hin473 (g := (mkF m 373 #[iv p0, jv q1, .second, iv p2, jv q3, .second, iv p4, iv z3, iv 4, iv z4, iv z6, iv z8, iv z10, jv z12, .second, jv z15, .second, jv z18, .second, jv z21, .second, jv z24, .second, jv z27, .second, jv z34, .second, jv z42, .second, jv z50, .second, jv z58, .second, jv (z3.toInt64), .second, jv z60, .second, jv z61, .second, jv z62, .second, jv z63, .second, jv z64, .second, rv b_446, iv 7, .unset, .unset, .unset] [(.int 1), (.int 3), (.ref b452), (.ref b452)])) rfl rfl (hb hby at_373)
                    refine own_via (fun k => st473 _ k) ?_
                    show own_Go p e below s _ _ (T473.setTop (mkF m 374 #[iv p0, jv q1, .second, iv p2, jv q3, .second, iv p4, iv z3, iv 4, iv z4, iv z6, iv z8, iv z10, jv z12, .second, jv z15, .second, jv z18, .second, jv z21, .second, jv z24, .second, jv z27, .second, jv z34, .second, jv z42, .second, jv z50, .second, jv z58, .second, jv (z3.toInt64), .second, jv z60, .second, jv z61, .second, jv z62, .second, jv z63, .second, jv z64, .second, rv b_446, iv 7, .unset, .unset, .unset] [(.ref b452)]))
                    have B474 := B469.other W473 ne454
                    have B475 : Arv Z h473 b452 k452 .int (16 : Int32) [(.int 0), (.int 1), (.int 1), (.int 1), (.int 0), (.int 0), (.int 0), (.int 0), (.int 0), (.int 0), (.int 0), (.int 0), (.int 0), (.int 0), (.int 0), (.int 0)] (.int 0) := Arv.set Ar473 q473 S473 NN473 H473 G473 rfl W473 3 rfl (Nat.le_of_ble_eq_true rfl)
                    have N476 := Fr.snoc X473 N471 g453
                    have Z477 : n0 ≤ h473.size := Nat.le_trans Z472 (Keep.of_wr W473).1
                    refine own_via (fun k => XS.dup X473.here hx rfl (hb hby at_374) rfl rfl (XS.iconst X473.here hx rfl (hb hby at_375) (XS.iconst X473.here hx rfl (hb hby at_376) k))) ?_
                    show own_Go p e below s _ _ (T473.setTop (mkF m 377 #[iv p0, jv q1, .second, iv p2, jv q3, .second, iv p4, iv z3, iv 4, iv z4, iv z6, iv z8, iv z10, jv z12, .second, jv z15, .second, jv z18, .second, jv z21, .second, jv z24, .second, jv z27, .second, jv z34, .second, jv z42, .second, jv z50, .second, jv z58, .second, jv (z3.toInt64), .second, jv z60, .second, jv z61, .second, jv z62, .second, jv z63, .second, jv z64, .second, rv b_446, iv 7, .unset, .unset, .unset] [(.int 1), (.int 4), (.ref b452), (.ref b452)]))
                    obtain ⟨cl478, Ar478, q478, S478, NN478, H478, G478⟩ := id B475
                    have hin478 : ¬ ((4 : Int32) < 0 ∨ cl478.slots.size ≤ ((4 : Int32)).toNatClampNeg) := inb_of S478 ⟨by decide, by decide⟩
                    obtain ⟨T478, h478, X478, e478, W478, st478⟩ := stI X473 hx hZ e473 Ar478 (j := (4 : Int32)) hin478 (g := (mkF m 377 #[iv p0, jv q1, .second, iv p2, jv q3, .second, iv p4, iv z3, iv 4, iv z4, iv z6, iv z8, iv z10, jv z12, .second, jv z15, .second, jv z18, .second, jv z21, .second, jv z24, .second, jv z27, .second, jv z34, .second, jv z42, .second, jv z50, .second, jv z58, .second, jv (z3.toInt64), .second, jv z60, .second, jv z61, .second, jv z62, .second, jv z63, .second, jv z64, .second, rv b_446, iv 7, .unset, .unset, .unset] [(.int 1), (.int 4), (.ref b452), (.ref b452)])) rfl rfl (hb hby at_377)
                    refine own_via (fun k => st478 _ k) ?_
                    show own_Go p e below s _ _ (T478.setTop (mkF m 378 #[iv p0, jv q1, .second, iv p2, jv q3, .second, iv p4, iv z3, iv 4, iv z4, iv z6, iv z8, iv z10, jv z12, .second, jv z15, .second, jv z18, .second, jv z21, .second, jv z24, .second, jv z27, .second, jv z34, .second, jv z42, .second, jv z50, .second, jv z58, .second, jv (z3.toInt64), .second, jv z60, .second, jv z61, .second, jv z62, .second, jv z63, .second, jv z64, .second, rv b_446, iv 7, .unset, .unset, .unset] [(.ref b452)]))
                    have B479 := B474.other W478 ne454
                    have B480 : Arv Z h478 b452 k452 .int (16 : Int32) [(.int 0), (.int 1), (.int 1), (.int 1), (.int 1), (.int 0), (.int 0), (.int 0), (.int 0), (.int 0), (.int 0), (.int 0), (.int 0), (.int 0), (.int 0), (.int 0)] (.int 0) := Arv.set Ar478 q478 S478 NN478 H478 G478 rfl W478 4 rfl (Nat.le_of_ble_eq_true rfl)
                    have N481 := Fr.snoc X478 N476 g453
                    have Z482 : n0 ≤ h478.size := Nat.le_trans Z477 (Keep.of_wr W478).1
                    refine own_via (fun k => XS.dup X478.here hx rfl (hb hby at_378) rfl rfl (XS.iconst X478.here hx rfl (hb hby at_379) (XS.iconst X478.here hx rfl (hb hby at_380) k))) ?_
                    show own_Go p e below s _ _ (T478.setTop (mkF m 381 #[iv p0, jv q1, .second, iv p2, jv q3, .second, iv p4, iv z3, iv 4, iv z4, iv z6, iv z8, iv z10, jv z12, .second, jv z15, .second, jv z18, .second, jv z21, .second, jv z24, .second, jv z27, .second, jv z34, .second, jv z42, .second, jv z50, .second, jv z58, .second, jv (z3.toInt64), .second, jv z60, .second, jv z61, .second, jv z62, .second, jv z63, .second, jv z64, .second, rv b_446, iv 7, .unset, .unset, .unset] [(.int 2), (.int 5), (.ref b452), (.ref b452)]))
                    obtain ⟨cl483, Ar483, q483, S483, NN483, H483, G483⟩ := id B480
                    have hin483 : ¬ ((5 : Int32) < 0 ∨ cl483.slots.size ≤ ((5 : Int32)).toNatClampNeg) := inb_of S483 ⟨by decide, by decide⟩
                    obtain ⟨T483, h483, X483, e483, W483, st483⟩ := stI X478 hx hZ e478 Ar483 (j := (5 : Int32)) hin483 (g := (mkF m 381 #[iv p0, jv q1, .second, iv p2, jv q3, .second, iv p4, iv z3, iv 4, iv z4, iv z6, iv z8, iv z10, jv z12, .second, jv z15, .second, jv z18, .second, jv z21, .second, jv z24, .second, jv z27, .second, jv z34, .second, jv z42, .second, jv z50, .second, jv z58, .second, jv (z3.toInt64), .second, jv z60, .second, jv z61, .second, jv z62, .second, jv z63, .second, jv z64, .second, rv b_446, iv 7, .unset, .unset, .unset] [(.int 2), (.int 5), (.ref b452), (.ref b452)])) rfl rfl (hb hby at_381)
                    refine own_via (fun k => st483 _ k) ?_
                    show own_Go p e below s _ _ (T483.setTop (mkF m 382 #[iv p0, jv q1, .second, iv p2, jv q3, .second, iv p4, iv z3, iv 4, iv z4, iv z6, iv z8, iv z10, jv z12, .second, jv z15, .second, jv z18, .second, jv z21, .second, jv z24, .second, jv z27, .second, jv z34, .second, jv z42, .second, jv z50, .second, jv z58, .second, jv (z3.toInt64), .second, jv z60, .second, jv z61, .second, jv z62, .second, jv z63, .second, jv z64, .second, rv b_446, iv 7, .unset, .unset, .unset] [(.ref b452)]))
                    have B484 := B479.other W483 ne454
                    have B485 : Arv Z h483 b452 k452 .int (16 : Int32) [(.int 0), (.int 1), (.int 1), (.int 1), (.int 1), (.int 2), (.int 0), (.int 0), (.int 0), (.int 0), (.int 0), (.int 0), (.int 0), (.int 0), (.int 0), (.int 0)] (.int 0) := Arv.set Ar483 q483 S483 NN483 H483 G483 rfl W483 5 rfl (Nat.le_of_ble_eq_true rfl)
                    have N486 := Fr.snoc X483 N481 g453
                    have Z487 : n0 ≤ h483.size := Nat.le_trans Z482 (Keep.of_wr W483).1
                    refine own_via (fun k => XS.dup X483.here hx rfl (hb hby at_382) rfl rfl (XS.bipush X483.here hx rfl (hb hby at_383) (XS.iconst X483.here hx rfl (hb hby at_385) k))) ?_
                    show own_Go p e below s _ _ (T483.setTop (mkF m 386 #[iv p0, jv q1, .second, iv p2, jv q3, .second, iv p4, iv z3, iv 4, iv z4, iv z6, iv z8, iv z10, jv z12, .second, jv z15, .second, jv z18, .second, jv z21, .second, jv z24, .second, jv z27, .second, jv z34, .second, jv z42, .second, jv z50, .second, jv z58, .second, jv (z3.toInt64), .second, jv z60, .second, jv z61, .second, jv z62, .second, jv z63, .second, jv z64, .second, rv b_446, iv 7, .unset, .unset, .unset] [(.int 1), (.int 6), (.ref b452), (.ref b452)]))
                    obtain ⟨cl488, Ar488, q488, S488, NN488, H488, G488⟩ := id B485
                    have hin488 : ¬ ((6 : Int32) < 0 ∨ cl488.slots.size ≤ ((6 : Int32)).toNatClampNeg) := inb_of S488 ⟨by decide, by decide⟩
                    obtain ⟨T488, h488, X488, e488, W488, st488⟩ := stI X483 hx hZ e483 Ar488 (j := (6 : Int32)) hin488 (g := (mkF m 386 #[iv p0, jv q1, .second, iv p2, jv q3, .second, iv p4, iv z3, iv 4, iv z4, iv z6, iv z8, iv z10, jv z12, .second, jv z15, .second, jv z18, .second, jv z21, .second, jv z24, .second, jv z27, .second, jv z34, .second, jv z42, .second, jv z50, .second, jv z58, .second, jv (z3.toInt64), .second, jv z60, .second, jv z61, .second, jv z62, .second, jv z63, .second, jv z64, .second, rv b_446, iv 7, .unset, .unset, .unset] [(.int 1), (.int 6), (.ref b452), (.ref b452)])) rfl rfl (hb hby at_386)
                    refine own_via (fun k => st488 _ k) ?_
                    show own_Go p e below s _ _ (T488.setTop (mkF m 387 #[iv p0, jv q1, .second, iv p2, jv q3, .second, iv p4, iv z3, iv 4, iv z4, iv z6, iv z8, iv z10, jv z12, .second, jv z15, .second, jv z18, .second, jv z21, .second, jv z24, .second, jv z27, .second, jv z34, .second, jv z42, .second, jv z50, .second, jv z58, .second, jv (z3.toInt64), .second, jv z60, .second, jv z61, .second, jv z62, .second, jv z63, .second, jv z64, .second, rv b_446, iv 7, .unset, .unset, .unset] [(.ref b452)]))
                    have B489 := B484.other W488 ne454
                    have B490 : Arv Z h488 b452 k452 .int (16 : Int32) [(.int 0), (.int 1), (.int 1), (.int 1), (.int 1), (.int 2), (.int 1), (.int 0), (.int 0), (.int 0), (.int 0), (.int 0), (.int 0), (.int 0), (.int 0), (.int 0)] (.int 0) := Arv.set Ar488 q488 S488 NN488 H488 G488 rfl W488 6 rfl (Nat.le_of_ble_eq_true rfl)
                    have N491 := Fr.snoc X488 N486 g453
                    have Z492 : n0 ≤ h488.size := Nat.le_trans Z487 (Keep.of_wr W488).1
                    refine own_via (fun k => XS.dup X488.here hx rfl (hb hby at_387) rfl rfl (XS.bipush X488.here hx rfl (hb hby at_388) (XS.iconst X488.here hx rfl (hb hby at_390) k))) ?_
                    show own_Go p e below s _ _ (T488.setTop (mkF m 391 #[iv p0, jv q1, .second, iv p2, jv q3, .second, iv p4, iv z3, iv 4, iv z4, iv z6, iv z8, iv z10, jv z12, .second, jv z15, .second, jv z18, .second, jv z21, .second, jv z24, .second, jv z27, .second, jv z34, .second, jv z42, .second, jv z50, .second, jv z58, .second, jv (z3.toInt64), .second, jv z60, .second, jv z61, .second, jv z62, .second, jv z63, .second, jv z64, .second, rv b_446, iv 7, .unset, .unset, .unset] [(.int 1), (.int 7), (.ref b452), (.ref b452)]))
                    obtain ⟨cl493, Ar493, q493, S493, NN493, H493, G493⟩ := id B490
                    have hin493 : ¬ ((7 : Int32) < 0 ∨ cl493.slots.size ≤ ((7 : Int32)).toNatClampNeg) := inb_of S493 ⟨by decide, by decide⟩
                    obtain ⟨T493, h493, X493, e493, W493, st493⟩ := stI X488 hx hZ e488 Ar493 (j := (7 : Int32)) hin493 (g := (mkF m 391 #[iv p0, jv q1, .second, iv p2, jv q3, .second, iv p4, iv z3, iv 4, iv z4, iv z6, iv z8, iv z10, jv z12, .second, jv z15, .second, jv z18, .second, jv z21, .second, jv z24, .second, jv z27, .second, jv z34, .second, jv z42, .second, jv z50, .second, jv z58, .second, jv (z3.toInt64), .second, jv z60, .second, jv z61, .second, jv z62, .second, jv z63, .second, jv z64, .second, rv b_446, iv 7, .unset, .unset, .unset] [(.int 1), (.int 7), (.ref b452), (.ref b452)])) rfl rfl (hb hby at_391)
                    refine own_via (fun k => st493 _ k) ?_
                    show own_Go p e below s _ _ (T493.setTop (mkF m 392 #[iv p0, jv q1, .second, iv p2, jv q3, .second, iv p4, iv z3, iv 4, iv z4, iv z6, iv z8, iv z10, jv z12, .second, jv z15, .second, jv z18, .second, jv z21, .second, jv z24, .second, jv z27, .second, jv z34, .second, jv z42, .second, jv z50, .second, jv z58, .second, jv (z3.toInt64), .second, jv z60, .second, jv z61, .second, jv z62, .second, jv z63, .second, jv z64, .second, rv b_446, iv 7, .unset, .unset, .unset] [(.ref b452)]))
                    have B494 := B489.other W493 ne454
                    have B495 : Arv Z h493 b452 k452 .int (16 : Int32) [(.int 0), (.int 1), (.int 1), (.int 1), (.int 1), (.int 2), (.int 1), (.int 1), (.int 0), (.int 0), (.int 0), (.int 0), (.int 0), (.int 0), (.int 0), (.int 0)] (.int 0) := Arv.set Ar493 q493 S493 NN493 H493 G493 rfl W493 7 rfl (Nat.le_of_ble_eq_true rfl)
                    have N496 := Fr.snoc X493 N491 g453
                    have Z497 : n0 ≤ h493.size := Nat.le_trans Z492 (Keep.of_wr W493).1
                    refine own_via (fun k => XS.dup X493.here hx rfl (hb hby at_392) rfl rfl (XS.bipush X493.here hx rfl (hb hby at_393) (XS.iconst X493.here hx rfl (hb hby at_395) k))) ?_
                    show own_Go p e below s _ _ (T493.setTop (mkF m 396 #[iv p0, jv q1, .second, iv p2, jv q3, .second, iv p4, iv z3, iv 4, iv z4, iv z6, iv z8, iv z10, jv z12, .second, jv z15, .second, jv z18, .second, jv z21, .second, jv z24, .second, jv z27, .second, jv z34, .second, jv z42, .second, jv z50, .second, jv z58, .second, jv (z3.toInt64), .second, jv z60, .second, jv z61, .second, jv z62, .second, jv z63, .second, jv z64, .second, rv b_446, iv 7, .unset, .unset, .unset] [(.int 1), (.int 8), (.ref b452), (.ref b452)]))
                    obtain ⟨cl498, Ar498, q498, S498, NN498, H498, G498⟩ := id B495
                    have hin498 : ¬ ((8 : Int32) < 0 ∨ cl498.slots.size ≤ ((8 : Int32)).toNatClampNeg) := inb_of S498 ⟨by decide, by decide⟩
                    obtain ⟨T498, h498, X498, e498, W498, st498⟩ := stI X493 hx hZ e493 Ar498 (j := (8 : Int32)) hin498 (g := (mkF m 396 #[iv p0, jv q1, .second, iv p2, jv q3, .second, iv p4, iv z3, iv 4, iv z4, iv z6, iv z8, iv z10, jv z12, .second, jv z15, .second, jv z18, .second, jv z21, .second, jv z24, .second, jv z27, .second, jv z34, .second, jv z42, .second, jv z50, .second, jv z58, .second, jv (z3.toInt64), .second, jv z60, .second, jv z61, .second, jv z62, .second, jv z63, .second, jv z64, .second, rv b_446, iv 7, .unset, .unset, .unset] [(.int 1), (.int 8), (.ref b452), (.ref b452)])) rfl rfl (hb hby at_396)
                    refine own_via (fun k => st498 _ k) ?_
                    show own_Go p e below s _ _ (T498.setTop (mkF m 397 #[iv p0, jv q1, .second, iv p2, jv q3, .second, iv p4, iv z3, iv 4, iv z4, iv z6, iv z8, iv z10, jv z12, .second, jv z15, .second, jv z18, .second, jv z21, .second, jv z24, .second, jv z27, .second, jv z34, .second, jv z42, .second, jv z50, .second, jv z58, .second, jv (z3.toInt64), .second, jv z60, .second, jv z61, .second, jv z62, .second, jv z63, .second, jv z64, .second, rv b_446, iv 7, .unset, .unset, .unset] [(.ref b452)]))
                    have B499 := B494.other W498 ne454
                    have B500 : Arv Z h498 b452 k452 .int (16 : Int32) [(.int 0), (.int 1), (.int 1), (.int 1), (.int 1), (.int 2), (.int 1), (.int 1), (.int 1), (.int 0), (.int 0), (.int 0), (.int 0), (.int 0), (.int 0), (.int 0)] (.int 0) := Arv.set Ar498 q498 S498 NN498 H498 G498 rfl W498 8 rfl (Nat.le_of_ble_eq_true rfl)
                    have N501 := Fr.snoc X498 N496 g453
                    have Z502 : n0 ≤ h498.size := Nat.le_trans Z497 (Keep.of_wr W498).1
                    refine own_via (fun k => XS.dup X498.here hx rfl (hb hby at_397) rfl rfl (XS.bipush X498.here hx rfl (hb hby at_398) (XS.iconst X498.here hx rfl (hb hby at_400) k))) ?_
                    show own_Go p e below s _ _ (T498.setTop (mkF m 401 #[iv p0, jv q1, .second, iv p2, jv q3, .second, iv p4, iv z3, iv 4, iv z4, iv z6, iv z8, iv z10, jv z12, .second, jv z15, .second, jv z18, .second, jv z21, .second, jv z24, .second, jv z27, .second, jv z34, .second, jv z42, .second, jv z50, .second, jv z58, .second, jv (z3.toInt64), .second, jv z60, .second, jv z61, .second, jv z62, .second, jv z63, .second, jv z64, .second, rv b_446, iv 7, .unset, .unset, .unset] [(.int 2), (.int 9), (.ref b452), (.ref b452)]))
                    obtain ⟨cl503, Ar503, q503, S503, NN503, H503, G503⟩ := id B500
                    have hin503 : ¬ ((9 : Int32) < 0 ∨ cl503.slots.size ≤ ((9 : Int32)).toNatClampNeg) := inb_of S503 ⟨by decide, by decide⟩
                    obtain ⟨T503, h503, X503, e503, W503, st503⟩ := stI X498 hx hZ e498 Ar503 (j := (9 : Int32)) hin503 (g := (mkF m 401 #[iv p0, jv q1, .second, iv p2, jv q3, .second, iv p4, iv z3, iv 4, iv z4, iv z6, iv z8, iv z10, jv z12, .second, jv z15, .second, jv z18, .second, jv z21, .second, jv z24, .second, jv z27, .second, jv z34, .second, jv z42, .second, jv z50, .second, jv z58, .second, jv (z3.toInt64), .second, jv z60, .second, jv z61, .second, jv z62, .second, jv z63, .second, jv z64, .second, rv b_446, iv 7, .unset, .unset, .unset] [(.int 2), (.int 9), (.ref b452), (.ref b452)])) rfl rfl (hb hby at_401)
                    refine own_via (fun k => st503 _ k) ?_
                    show own_Go p e below s _ _ (T503.setTop (mkF m 402 #[iv p0, jv q1, .second, iv p2, jv q3, .second, iv p4, iv z3, iv 4, iv z4, iv z6, iv z8, iv z10, jv z12, .second, jv z15, .second, jv z18, .second, jv z21, .second, jv z24, .second, jv z27, .second, jv z34, .second, jv z42, .second, jv z50, .second, jv z58, .second, jv (z3.toInt64), .second, jv z60, .second, jv z61, .second, jv z62, .second, jv z63, .second, jv z64, .second, rv b_446, iv 7, .unset, .unset, .unset] [(.ref b452)]))
                    have B504 := B499.other W503 ne454
                    have B505 : Arv Z h503 b452 k452 .int (16 : Int32) [(.int 0), (.int 1), (.int 1), (.int 1), (.int 1), (.int 2), (.int 1), (.int 1), (.int 1), (.int 2), (.int 0), (.int 0), (.int 0), (.int 0), (.int 0), (.int 0)] (.int 0) := Arv.set Ar503 q503 S503 NN503 H503 G503 rfl W503 9 rfl (Nat.le_of_ble_eq_true rfl)
                    have N506 := Fr.snoc X503 N501 g453
                    have Z507 : n0 ≤ h503.size := Nat.le_trans Z502 (Keep.of_wr W503).1
                    refine own_via (fun k => XS.dup X503.here hx rfl (hb hby at_402) rfl rfl (XS.bipush X503.here hx rfl (hb hby at_403) (XS.iconst X503.here hx rfl (hb hby at_405) k))) ?_
                    show own_Go p e below s _ _ (T503.setTop (mkF m 406 #[iv p0, jv q1, .second, iv p2, jv q3, .second, iv p4, iv z3, iv 4, iv z4, iv z6, iv z8, iv z10, jv z12, .second, jv z15, .second, jv z18, .second, jv z21, .second, jv z24, .second, jv z27, .second, jv z34, .second, jv z42, .second, jv z50, .second, jv z58, .second, jv (z3.toInt64), .second, jv z60, .second, jv z61, .second, jv z62, .second, jv z63, .second, jv z64, .second, rv b_446, iv 7, .unset, .unset, .unset] [(.int 2), (.int 10), (.ref b452), (.ref b452)]))
                    obtain ⟨cl508, Ar508, q508, S508, NN508, H508, G508⟩ := id B505
                    have hin508 : ¬ ((10 : Int32) < 0 ∨ cl508.slots.size ≤ ((10 : Int32)).toNatClampNeg) := inb_of S508 ⟨by decide, by decide⟩
                    obtain ⟨T508, h508, X508, e508, W508, st508⟩ := stI X503 hx hZ e503 Ar508 (j := (10 : Int32)) hin508 (g := (mkF m 406 #[iv p0, jv q1, .second, iv p2, jv q3, .second, iv p4, iv z3, iv 4, iv z4, iv z6, iv z8, iv z10, jv z12, .second, jv z15, .second, jv z18, .second, jv z21, .second, jv z24, .second, jv z27, .second, jv z34, .second, jv z42, .second, jv z50, .second, jv z58, .second, jv (z3.toInt64), .second, jv z60, .second, jv z61, .second, jv z62, .second, jv z63, .second, jv z64, .second, rv b_446, iv 7, .unset, .unset, .unset] [(.int 2), (.int 10), (.ref b452), (.ref b452)])) rfl rfl (hb hby at_406)
                    refine own_via (fun k => st508 _ k) ?_
                    show own_Go p e below s _ _ (T508.setTop (mkF m 407 #[iv p0, jv q1, .second, iv p2, jv q3, .second, iv p4, iv z3, iv 4, iv z4, iv z6, iv z8, iv z10, jv z12, .second, jv z15, .second, jv z18, .second, jv z21, .second, jv z24, .second, jv z27, .second, jv z34, .second, jv z42, .second, jv z50, .second, jv z58, .second, jv (z3.toInt64), .second, jv z60, .second, jv z61, .second, jv z62, .second, jv z63, .second, jv z64, .second, rv b_446, iv 7, .unset, .unset, .unset] [(.ref b452)]))
                    have B509 := B504.other W508 ne454
                    have B510 : Arv Z h508 b452 k452 .int (16 : Int32) [(.int 0), (.int 1), (.int 1), (.int 1), (.int 1), (.int 2), (.int 1), (.int 1), (.int 1), (.int 2), (.int 2), (.int 0), (.int 0), (.int 0), (.int 0), (.int 0)] (.int 0) := Arv.set Ar508 q508 S508 NN508 H508 G508 rfl W508 10 rfl (Nat.le_of_ble_eq_true rfl)
                    have N511 := Fr.snoc X508 N506 g453
                    have Z512 : n0 ≤ h508.size := Nat.le_trans Z507 (Keep.of_wr W508).1
                    refine own_via (fun k => XS.dup X508.here hx rfl (hb hby at_407) rfl rfl (XS.bipush X508.here hx rfl (hb hby at_408) (XS.iconst X508.here hx rfl (hb hby at_410) k))) ?_
                    show own_Go p e below s _ _ (T508.setTop (mkF m 411 #[iv p0, jv q1, .second, iv p2, jv q3, .second, iv p4, iv z3, iv 4, iv z4, iv z6, iv z8, iv z10, jv z12, .second, jv z15, .second, jv z18, .second, jv z21, .second, jv z24, .second, jv z27, .second, jv z34, .second, jv z42, .second, jv z50, .second, jv z58, .second, jv (z3.toInt64), .second, jv z60, .second, jv z61, .second, jv z62, .second, jv z63, .second, jv z64, .second, rv b_446, iv 7, .unset, .unset, .unset] [(.int 2), (.int 11), (.ref b452), (.ref b452)]))
                    obtain ⟨cl513, Ar513, q513, S513, NN513, H513, G513⟩ := id B510
                    have hin513 : ¬ ((11 : Int32) < 0 ∨ cl513.slots.size ≤ ((11 : Int32)).toNatClampNeg) := inb_of S513 ⟨by decide, by decide⟩
                    obtain ⟨T513, h513, X513, e513, W513, st513⟩ := stI X508 hx hZ e508 Ar513 (j := (11 : Int32)) hin513 (g := (mkF m 411 #[iv p0, jv q1, .second, iv p2, jv q3, .second, iv p4, iv z3, iv 4, iv z4, iv z6, iv z8, iv z10, jv z12, .second, jv z15, .second, jv z18, .second, jv z21, .second, jv z24, .second, jv z27, .second, jv z34, .second, jv z42, .second, jv z50, .second, jv z58, .second, jv (z3.toInt64), .second, jv z60, .second, jv z61, .second, jv z62, .second, jv z63, .second, jv z64, .second, rv b_446, iv 7, .unset, .unset, .unset] [(.int 2), (.int 11), (.ref b452), (.ref b452)])) rfl rfl (hb hby at_411)
                    refine own_via (fun k => st513 _ k) ?_
                    show own_Go p e below s _ _ (T513.setTop (mkF m 412 #[iv p0, jv q1, .second, iv p2, jv q3, .second, iv p4, iv z3, iv 4, iv z4, iv z6, iv z8, iv z10, jv z12, .second, jv z15, .second, jv z18, .second, jv z21, .second, jv z24, .second, jv z27, .second, jv z34, .second, jv z42, .second, jv z50, .second, jv z58, .second, jv (z3.toInt64), .second, jv z60, .second, jv z61, .second, jv z62, .second, jv z63, .second, jv z64, .second, rv b_446, iv 7, .unset, .unset, .unset] [(.ref b452)]))
                    have B514 := B509.other W513 ne454
                    have B515 : Arv Z h513 b452 k452 .int (16 : Int32) [(.int 0), (.int 1), (.int 1), (.int 1), (.int 1), (.int 2), (.int 1), (.int 1), (.int 1), (.int 2), (.int 2), (.int 2), (.int 0), (.int 0), (.int 0), (.int 0)] (.int 0) := Arv.set Ar513 q513 S513 NN513 H513 G513 rfl W513 11 rfl (Nat.le_of_ble_eq_true rfl)
                    have N516 := Fr.snoc X513 N511 g453
                    have Z517 : n0 ≤ h513.size := Nat.le_trans Z512 (Keep.of_wr W513).1
                    refine own_via (fun k => XS.dup X513.here hx rfl (hb hby at_412) rfl rfl (XS.bipush X513.here hx rfl (hb hby at_413) (XS.iconst X513.here hx rfl (hb hby at_415) k))) ?_
                    show own_Go p e below s _ _ (T513.setTop (mkF m 416 #[iv p0, jv q1, .second, iv p2, jv q3, .second, iv p4, iv z3, iv 4, iv z4, iv z6, iv z8, iv z10, jv z12, .second, jv z15, .second, jv z18, .second, jv z21, .second, jv z24, .second, jv z27, .second, jv z34, .second, jv z42, .second, jv z50, .second, jv z58, .second, jv (z3.toInt64), .second, jv z60, .second, jv z61, .second, jv z62, .second, jv z63, .second, jv z64, .second, rv b_446, iv 7, .unset, .unset, .unset] [(.int 1), (.int 12), (.ref b452), (.ref b452)]))
                    obtain ⟨cl518, Ar518, q518, S518, NN518, H518, G518⟩ := id B515
                    have hin518 : ¬ ((12 : Int32) < 0 ∨ cl518.slots.size ≤ ((12 : Int32)).toNatClampNeg) := inb_of S518 ⟨by decide, by decide⟩
                    obtain ⟨T518, h518, X518, e518, W518, st518⟩ := stI X513 hx hZ e513 Ar518 (j := (12 : Int32)) hin518 (g := (mkF m 416 #[iv p0, jv q1, .second, iv p2, jv q3, .second, iv p4, iv z3, iv 4, iv z4, iv z6, iv z8, iv z10, jv z12, .second, jv z15, .second, jv z18, .second, jv z21, .second, jv z24, .second, jv z27, .second, jv z34, .second, jv z42, .second, jv z50, .second, jv z58, .second, jv (z3.toInt64), .second, jv z60, .second, jv z61, .second, jv z62, .second, jv z63, .second, jv z64, .second, rv b_446, iv 7, .unset, .unset, .unset] [(.int 1), (.int 12), (.ref b452), (.ref b452)])) rfl rfl (hb hby at_416)
                    refine own_via (fun k => st518 _ k) ?_
                    show own_Go p e below s _ _ (T518.setTop (mkF m 417 #[iv p0, jv q1, .second, iv p2, jv q3, .second, iv p4, iv z3, iv 4, iv z4, iv z6, iv z8, iv z10, jv z12, .second, jv z15, .second, jv z18, .second, jv z21, .second, jv z24, .second, jv z27, .second, jv z34, .second, jv z42, .second, jv z50, .second, jv z58, .second, jv (z3.toInt64), .second, jv z60, .second, jv z61, .second, jv z62, .second, jv z63, .second, jv z64, .second, rv b_446, iv 7, .unset, .unset, .unset] [(.ref b452)]))
                    have B519 := B514.other W518 ne454
                    have B520 : Arv Z h518 b452 k452 .int (16 : Int32) [(.int 0), (.int 1), (.int 1), (.int 1), (.int 1), (.int 2), (.int 1), (.int 1), (.int 1), (.int 2), (.int 2), (.int 2), (.int 1), (.int 0), (.int 0), (.int 0)] (.int 0) := Arv.set Ar518 q518 S518 NN518 H518 G518 rfl W518 12 rfl (Nat.le_of_ble_eq_true rfl)
                    have N521 := Fr.snoc X518 N516 g453
                    have Z522 : n0 ≤ h518.size := Nat.le_trans Z517 (Keep.of_wr W518).1
                    refine own_via (fun k => XS.dup X518.here hx rfl (hb hby at_417) rfl rfl (XS.bipush X518.here hx rfl (hb hby at_418) (XS.iconst X518.here hx rfl (hb hby at_420) k))) ?_
                    show own_Go p e below s _ _ (T518.setTop (mkF m 421 #[iv p0, jv q1, .second, iv p2, jv q3, .second, iv p4, iv z3, iv 4, iv z4, iv z6, iv z8, iv z10, jv z12, .second, jv z15, .second, jv z18, .second, jv z21, .second, jv z24, .second, jv z27, .second, jv z34, .second, jv z42, .second, jv z50, .second, jv z58, .second, jv (z3.toInt64), .second, jv z60, .second, jv z61, .second, jv z62, .second, jv z63, .second, jv z64, .second, rv b_446, iv 7, .unset, .unset, .unset] [(.int 2), (.int 13), (.ref b452), (.ref b452)]))
                    obtain ⟨cl523, Ar523, q523, S523, NN523, H523, G523⟩ := id B520
                    have hin523 : ¬ ((13 : Int32) < 0 ∨ cl523.slots.size ≤ ((13 : Int32)).toNatClampNeg) := inb_of S523 ⟨by decide, by decide⟩
                    obtain ⟨T523, h523, X523, e523, W523, st523⟩ := stI X518 hx hZ e518 Ar523 (j := (13 : Int32)) hin523 (g := (mkF m 421 #[iv p0, jv q1, .second, iv p2, jv q3, .second, iv p4, iv z3, iv 4, iv z4, iv z6, iv z8, iv z10, jv z12, .second, jv z15, .second, jv z18, .second, jv z21, .second, jv z24, .second, jv z27, .second, jv z34, .second, jv z42, .second, jv z50, .second, jv z58, .second, jv (z3.toInt64), .second, jv z60, .second, jv z61, .second, jv z62, .second, jv z63, .second, jv z64, .second, rv b_446, iv 7, .unset, .unset, .unset] [(.int 2), (.int 13), (.ref b452), (.ref b452)])) rfl rfl (hb hby at_421)
                    refine own_via (fun k => st523 _ k) ?_
                    show own_Go p e below s _ _ (T523.setTop (mkF m 422 #[iv p0, jv q1, .second, iv p2, jv q3, .second, iv p4, iv z3, iv 4, iv z4, iv z6, iv z8, iv z10, jv z12, .second, jv z15, .second, jv z18, .second, jv z21, .second, jv z24, .second, jv z27, .second, jv z34, .second, jv z42, .second, jv z50, .second, jv z58, .second, jv (z3.toInt64), .second, jv z60, .second, jv z61, .second, jv z62, .second, jv z63, .second, jv z64, .second, rv b_446, iv 7, .unset, .unset, .unset] [(.ref b452)]))
                    have B524 := B519.other W523 ne454
                    have B525 : Arv Z h523 b452 k452 .int (16 : Int32) [(.int 0), (.int 1), (.int 1), (.int 1), (.int 1), (.int 2), (.int 1), (.int 1), (.int 1), (.int 2), (.int 2), (.int 2), (.int 1), (.int 2), (.int 0), (.int 0)] (.int 0) := Arv.set Ar523 q523 S523 NN523 H523 G523 rfl W523 13 rfl (Nat.le_of_ble_eq_true rfl)
                    have N526 := Fr.snoc X523 N521 g453
                    have Z527 : n0 ≤ h523.size := Nat.le_trans Z522 (Keep.of_wr W523).1
                    refine own_via (fun k => XS.dup X523.here hx rfl (hb hby at_422) rfl rfl (XS.bipush X523.here hx rfl (hb hby at_423) (XS.iconst X523.here hx rfl (hb hby at_425) k))) ?_
                    show own_Go p e below s _ _ (T523.setTop (mkF m 426 #[iv p0, jv q1, .second, iv p2, jv q3, .second, iv p4, iv z3, iv 4, iv z4, iv z6, iv z8, iv z10, jv z12, .second, jv z15, .second, jv z18, .second, jv z21, .second, jv z24, .second, jv z27, .second, jv z34, .second, jv z42, .second, jv z50, .second, jv z58, .second, jv (z3.toInt64), .second, jv z60, .second, jv z61, .second, jv z62, .second, jv z63, .second, jv z64, .second, rv b_446, iv 7, .unset, .unset, .unset] [(.int 1), (.int 14), (.ref b452), (.ref b452)]))
                    obtain ⟨cl528, Ar528, q528, S528, NN528, H528, G528⟩ := id B525
                    have hin528 : ¬ ((14 : Int32) < 0 ∨ cl528.slots.size ≤ ((14 : Int32)).toNatClampNeg) := inb_of S528 ⟨by decide, by decide⟩
                    obtain ⟨T528, h528, X528, e528, W528, st528⟩ := stI X523 hx hZ e523 Ar528 (j := (14 : Int32)) hin528 (g := (mkF m 426 #[iv p0, jv q1, .second, iv p2, jv q3, .second, iv p4, iv z3, iv 4, iv z4, iv z6, iv z8, iv z10, jv z12, .second, jv z15, .second, jv z18, .second, jv z21, .second, jv z24, .second, jv z27, .second, jv z34, .second, jv z42, .second, jv z50, .second, jv z58, .second, jv (z3.toInt64), .second, jv z60, .second, jv z61, .second, jv z62, .second, jv z63, .second, jv z64, .second, rv b_446, iv 7, .unset, .unset, .unset] [(.int 1), (.int 14), (.ref b452), (.ref b452)])) rfl rfl (hb hby at_426)
                    refine own_via (fun k => st528 _ k) ?_
                    show own_Go p e below s _ _ (T528.setTop (mkF m 427 #[iv p0, jv q1, .second, iv p2, jv q3, .second, iv p4, iv z3, iv 4, iv z4, iv z6, iv z8, iv z10, jv z12, .second, jv z15, .second, jv z18, .second, jv z21, .second, jv z24, .second, jv z27, .second, jv z34, .second, jv z42, .second, jv z50, .second, jv z58, .second, jv (z3.toInt64), .second, jv z60, .second, jv z61, .second, jv z62, .second, jv z63, .second, jv z64, .second, rv b_446, iv 7, .unset, .unset, .unset] [(.ref b452)]))
                    have B529 := B524.other W528 ne454
                    have B530 : Arv Z h528 b452 k452 .int (16 : Int32) [(.int 0), (.int 1), (.int 1), (.int 1), (.int 1), (.int 2), (.int 1), (.int 1), (.int 1), (.int 2), (.int 2), (.int 2), (.int 1), (.int 2), (.int 1), (.int 0)] (.int 0) := Arv.set Ar528 q528 S528 NN528 H528 G528 rfl W528 14 rfl (Nat.le_of_ble_eq_true rfl)
                    have N531 := Fr.snoc X528 N526 g453
                    have Z532 : n0 ≤ h528.size := Nat.le_trans Z527 (Keep.of_wr W528).1
                    refine own_via (fun k => XS.dup X528.here hx rfl (hb hby at_427) rfl rfl (XS.bipush X528.here hx rfl (hb hby at_428) (XS.iconst X528.here hx rfl (hb hby at_430) k))) ?_
                    show own_Go p e below s _ _ (T528.setTop (mkF m 431 #[iv p0, jv q1, .second, iv p2, jv q3, .second, iv p4, iv z3, iv 4, iv z4, iv z6, iv z8, iv z10, jv z12, .second, jv z15, .second, jv z18, .second, jv z21, .second, jv z24, .second, jv z27, .second, jv z34, .second, jv z42, .second, jv z50, .second, jv z58, .second, jv (z3.toInt64), .second, jv z60, .second, jv z61, .second, jv z62, .second, jv z63, .second, jv z64, .second, rv b_446, iv 7, .unset, .unset, .unset] [(.int 1), (.int 15), (.ref b452), (.ref b452)]))
                    obtain ⟨cl533, Ar533, q533, S533, NN533, H533, G533⟩ := id B530
                    have hin533 : ¬ ((15 : Int32) < 0 ∨ cl533.slots.size ≤ ((15 : Int32)).toNatClampNeg) := inb_of S533 ⟨by decide, by decide⟩
                    obtain ⟨T533, h533, X533, e533, W533, st533⟩ := stI X528 hx hZ e528 Ar533 (j := (15 : Int32)) hin533 (g := (mkF m 431 #[iv p0, jv q1, .second, iv p2, jv q3, .second, iv p4, iv z3, iv 4, iv z4, iv z6, iv z8, iv z10, jv z12, .second, jv z15, .second, jv z18, .second, jv z21, .second, jv z24, .second, jv z27, .second, jv z34, .second, jv z42, .second, jv z50, .second, jv z58, .second, jv (z3.toInt64), .second, jv z60, .second, jv z61, .second, jv z62, .second, jv z63, .second, jv z64, .second, rv b_446, iv 7, .unset, .unset, .unset] [(.int 1), (.int 15), (.ref b452), (.ref b452)])) rfl rfl (hb hby at_431)
                    refine own_via (fun k => st533 _ k) ?_
                    show own_Go p e below s _ _ (T533.setTop (mkF m 432 #[iv p0, jv q1, .second, iv p2, jv q3, .second, iv p4, iv z3, iv 4, iv z4, iv z6, iv z8, iv z10, jv z12, .second, jv z15, .second, jv z18, .second, jv z21, .second, jv z24, .second, jv z27, .second, jv z34, .second, jv z42, .second, jv z50, .second, jv z58, .second, jv (z3.toInt64), .second, jv z60, .second, jv z61, .second, jv z62, .second, jv z63, .second, jv z64, .second, rv b_446, iv 7, .unset, .unset, .unset] [(.ref b452)]))
                    have B534 := B529.other W533 ne454
                    have B535 : Arv Z h533 b452 k452 .int (16 : Int32) [(.int 0), (.int 1), (.int 1), (.int 1), (.int 1), (.int 2), (.int 1), (.int 1), (.int 1), (.int 2), (.int 2), (.int 2), (.int 1), (.int 2), (.int 1), (.int 1)] (.int 0) := Arv.set Ar533 q533 S533 NN533 H533 G533 rfl W533 15 rfl (Nat.le_of_ble_eq_true rfl)
                    have N536 := Fr.snoc X533 N531 g453
                    have Z537 : n0 ≤ h533.size := Nat.le_trans Z532 (Keep.of_wr W533).1
                    refine own_via (fun k => XS.astore X533.here hx rfl (hb hby at_432) rfl rfl (l' := #[iv p0, jv q1, .second, iv p2, jv q3, .second, iv p4, iv z3, iv 4, iv z4, iv z6, iv z8, iv z10, jv z12, .second, jv z15, .second, jv z18, .second, jv z21, .second, jv z24, .second, jv z27, .second, jv z34, .second, jv z42, .second, jv z50, .second, jv z58, .second, jv (z3.toInt64), .second, jv z60, .second, jv z61, .second, jv z62, .second, jv z63, .second, jv z64, .second, rv b_446, iv 7, rv b452, .unset, .unset]) rfl (XS.aload X533.here hx rfl (hb hby at_434) rfl rfl  (XS.iloadN X533.here hx rfl (hb hby at_436) rfl  (XS.iload X533.here hx rfl (hb hby at_437) rfl  k)))) ?_
                    show own_Go p e below s _ _ (T533.setTop (mkF m 439 #[iv p0, jv q1, .second, iv p2, jv q3, .second, iv p4, iv z3, iv 4, iv z4, iv z6, iv z8, iv z10, jv z12, .second, jv z15, .second, jv z18, .second, jv z21, .second, jv z24, .second, jv z27, .second, jv z34, .second, jv z42, .second, jv z50, .second, jv z58, .second, jv (z3.toInt64), .second, jv z60, .second, jv z61, .second, jv z62, .second, jv z63, .second, jv z64, .second, rv b_446, iv 7, rv b452, .unset, .unset] [(.int 7), (.int p2), (.ref b452)]))
                    refine own_via (fun k => XS.iand X533.here hx rfl (hb hby at_439) rfl k) ?_
                    show own_Go p e below s _ _ (T533.setTop (mkF m 440 #[iv p0, jv q1, .second, iv p2, jv q3, .second, iv p4, iv z3, iv 4, iv z4, iv z6, iv z8, iv z10, jv z12, .second, jv z15, .second, jv z18, .second, jv z21, .second, jv z24, .second, jv z27, .second, jv z34, .second, jv z42, .second, jv z50, .second, jv z58, .second, jv (z3.toInt64), .second, jv z60, .second, jv z61, .second, jv z62, .second, jv z63, .second, jv z64, .second, rv b_446, iv 7, rv b452, .unset, .unset] [(.int (p2 &&& (7 : Int32))), (.ref b452)]))
                    obtain ⟨cl538, Ar538, q538, S538, NN538, H538, G538⟩ := id B535
                    have hin538 : ¬ ((p2 &&& (7 : Int32)) < 0 ∨ cl538.slots.size ≤ ((p2 &&& (7 : Int32))).toNatClampNeg) := inb_of S538 (own_in4 p2 hl65)
                    have hat538 : cl538.slots[((p2 &&& (7 : Int32))).toNatClampNeg]? = some (.int (own_tab (p2 &&& (7 : Int32)))) := H538.at hin538 (own_tabget (p2 &&& (7 : Int32)) (own_in4 p2 hl65))
                    refine own_via (fun k => X533.iaload hx (j := (p2 &&& (7 : Int32))) (v := (.int (own_tab (p2 &&& (7 : Int32))))) (by rw [e533]; exact Ar538.1) (State.isArrayOf_alike hZ.alike Ar538.2.1) Ar538.2.2 hin538 hat538 (g := (mkF m 440 #[iv p0, jv q1, .second, iv p2, jv q3, .second, iv p4, iv z3, iv 4, iv z4, iv z6, iv z8, iv z10, jv z12, .second, jv z15, .second, jv z18, .second, jv z21, .second, jv z24, .second, jv z27, .second, jv z34, .second, jv z42, .second, jv z50, .second, jv z58, .second, jv (z3.toInt64), .second, jv z60, .second, jv z61, .second, jv z62, .second, jv z63, .second, jv z64, .second, rv b_446, iv 7, rv b452, .unset, .unset] [(.int (p2 &&& (7 : Int32))), (.ref b452)])) rfl rfl (hb hby at_440) _ k) ?_
                    show own_Go p e below s _ _ (T533.setTop (mkF m 441 #[iv p0, jv q1, .second, iv p2, jv q3, .second, iv p4, iv z3, iv 4, iv z4, iv z6, iv z8, iv z10, jv z12, .second, jv z15, .second, jv z18, .second, jv z21, .second, jv z24, .second, jv z27, .second, jv z34, .second, jv z42, .second, jv z50, .second, jv z58, .second, jv (z3.toInt64), .second, jv z60, .second, jv z61, .second, jv z62, .second, jv z63, .second, jv z64, .second, rv b_446, iv 7, rv b452, .unset, .unset] [(.int (own_tab (p2 &&& (7 : Int32))))]))
                    refine own_via (fun k => XS.i2l X533.here hx rfl (hb hby at_441) rfl (XS.lstore X533.here hx rfl (hb hby at_442) rfl (l' := #[iv p0, jv q1, .second, iv p2, jv q3, .second, iv p4, iv z3, iv 4, iv z4, iv z6, iv z8, iv z10, jv z12, .second, jv z15, .second, jv z18, .second, jv z21, .second, jv z24, .second, jv z27, .second, jv z34, .second, jv z42, .second, jv z50, .second, jv z58, .second, jv (z3.toInt64), .second, jv z60, .second, jv z61, .second, jv z62, .second, jv z63, .second, jv z64, .second, rv b_446, iv 7, rv b452, jv ((own_tab (p2 &&& (7 : Int32))).toInt64), .second]) rfl (XS.aload X533.here hx rfl (hb hby at_444) rfl rfl  (XS.iload X533.here hx rfl (hb hby at_446) rfl  k)))) ?_
                    show own_Go p e below s _ _ (T533.setTop (mkF m 448 #[iv p0, jv q1, .second, iv p2, jv q3, .second, iv p4, iv z3, iv 4, iv z4, iv z6, iv z8, iv z10, jv z12, .second, jv z15, .second, jv z18, .second, jv z21, .second, jv z24, .second, jv z27, .second, jv z34, .second, jv z42, .second, jv z50, .second, jv z58, .second, jv (z3.toInt64), .second, jv z60, .second, jv z61, .second, jv z62, .second, jv z63, .second, jv z64, .second, rv b_446, iv 7, rv b452, jv ((own_tab (p2 &&& (7 : Int32))).toInt64), .second] [(.int z3), (.ref b_446)]))
                    obtain ⟨_, _, ⟨T539, L539, k539, n539⟩, -, X539, ⟨Lc539, hQ539, l539, y539, z539⟩, st539⟩ := Jvm.LawKit.callS X533 hx (y := (⟨"com/example/waveslot/waveslot/core/CheckerSteps", "repeatedQuotients", "([JI)J"⟩ : MethodName)) hown (mvT hZ (hw _ (List.mem_of_getElem? (i := 22) rfl))) (mvT hZ (hw _ (List.mem_of_getElem? (i := 23) rfl))) (mvT hZ (hw _ (List.mem_of_getElem? (i := 24) rfl))) (mvT hZ (hw _ (List.mem_of_getElem? (i := 25) rfl))) (by decide) (backOf (W := 0) (rm6_4 l Z aw hw [] b_446 z3 k_446 z60 z61 z62 z63 h533 n0 Z537 B534 (own_hhn6_4 p0 p2 z3 hz3 hl65)) hZ (hw _ (List.mem_of_getElem? (i := 25) rfl)) (hw _ (List.mem_of_getElem? (i := 24) rfl)) (by decide) (by decide)) (g := (mkF m 448 #[iv p0, jv q1, .second, iv p2, jv q3, .second, iv p4, iv z3, iv 4, iv z4, iv z6, iv z8, iv z10, jv z12, .second, jv z15, .second, jv z18, .second, jv z21, .second, jv z24, .second, jv z27, .second, jv z34, .second, jv z42, .second, jv z50, .second, jv z58, .second, jv (z3.toInt64), .second, jv z60, .second, jv z61, .second, jv z62, .second, jv z63, .second, jv z64, .second, rv b_446, iv 7, rv b452, jv ((own_tab (p2 &&& (7 : Int32))).toInt64), .second] [(.int z3), (.ref b_446)])) rfl (by rw [hml]; rfl) (argsL := [(.ref b_446), (.int z3)]) (rest := []) (lenOf pd_5 rfl) rfl (by show 2 * 0 + _ ≤ _; exact Nat.le_of_eq rfl) (hb hby at_448) (fun _ _ => ⟨rfl, e533, (by decide : 2 + 0 ≤ _), (by decide : 20 + 0 ≤ _)⟩)
                    dsimp only [Pt.U, Pt.locs, Pt.cells, Pt.slots] at X539 l539 y539 z539 st539 hQ539
                    subst l539 y539 z539
                    obtain ⟨rfl, N539q, eh539⟩ := hQ539
                    have N540 := Fr.app N536 N539q
                    refine own_via (fun k => st539 _ k) ?_
                    show own_Go p e below s _ _ (T539.setTop (mkF m 451 #[iv p0, jv q1, .second, iv p2, jv q3, .second, iv p4, iv z3, iv 4, iv z4, iv z6, iv z8, iv z10, jv z12, .second, jv z15, .second, jv z18, .second, jv z21, .second, jv z24, .second, jv z27, .second, jv z34, .second, jv z42, .second, jv z50, .second, jv z58, .second, jv (z3.toInt64), .second, jv z60, .second, jv z61, .second, jv z62, .second, jv z63, .second, jv z64, .second, rv b_446, iv 7, rv b452, jv ((own_tab (p2 &&& (7 : Int32))).toInt64), .second] [(.long (own_f6_4 z3 z60 z61 z62 z63))]))
                    refine own_via (fun k => XS.lload X539.here hx rfl (hb hby at_451) rfl  (XS.lcmp X539.here hx rfl (hb hby at_453) rfl k)) ?_
                    show own_Go p e below s _ _ (T539.setTop (mkF m 454 #[iv p0, jv q1, .second, iv p2, jv q3, .second, iv p4, iv z3, iv 4, iv z4, iv z6, iv z8, iv z10, jv z12, .second, jv z15, .second, jv z18, .second, jv z21, .second, jv z24, .second, jv z27, .second, jv z34, .second, jv z42, .second, jv z50, .second, jv z58, .second, jv (z3.toInt64), .second, jv z60, .second, jv z61, .second, jv z62, .second, jv z63, .second, jv z64, .second, rv b_446, iv 7, rv b452, jv ((own_tab (p2 &&& (7 : Int32))).toInt64), .second] [(.int (lcmpW (own_f6_4 z3 z60 z61 z62 z63) ((own_tab (p2 &&& (7 : Int32))).toInt64)))]))
                    refine own_via (fun k => XS.ifNo X539.here hx rfl (hb hby at_454) rfl ((if0 _ _).trans (teq ((lw_eq _ _).mpr (own_law4 p0 q1 p2 q3 p4 z3 hz3 z4 hz4 z6 hz6 z8 hz8 z12 hz12 z15 hz15 z18 hz18 z21 hz21 z27 hz27 z34 hz34 z42 hz42 z50 hz50 z60 hz60 z61 hz61 z62 hz62 z63 hz63 hl65))).2) k) ?_
                    show own_Go p e below s _ _ (T539.setTop (mkF m 457 #[iv p0, jv q1, .second, iv p2, jv q3, .second, iv p4, iv z3, iv 4, iv z4, iv z6, iv z8, iv z10, jv z12, .second, jv z15, .second, jv z18, .second, jv z21, .second, jv z24, .second, jv z27, .second, jv z34, .second, jv z42, .second, jv z50, .second, jv z58, .second, jv (z3.toInt64), .second, jv z60, .second, jv z61, .second, jv z62, .second, jv z63, .second, jv z64, .second, rv b_446, iv 7, rv b452, jv ((own_tab (p2 &&& (7 : Int32))).toInt64), .second] []))
                    refine own_via (fun k => XS.iconst X539.here hx rfl (hb hby at_457) (XS.goto X539.here hx rfl (pc0 := 458) (pc' := 462) rfl (hb hby at_458) (by decide) (by decide) k)) ?_
                    show own_Go p e below s _ _ (T539.setTop (mkF m 462 #[iv p0, jv q1, .second, iv p2, jv q3, .second, iv p4, iv z3, iv 4, iv z4, iv z6, iv z8, iv z10, jv z12, .second, jv z15, .second, jv z18, .second, jv z21, .second, jv z24, .second, jv z27, .second, jv z34, .second, jv z42, .second, jv z50, .second, jv z58, .second, jv (z3.toInt64), .second, jv z60, .second, jv z61, .second, jv z62, .second, jv z63, .second, jv z64, .second, rv b_446, iv 7, rv b452, jv ((own_tab (p2 &&& (7 : Int32))).toInt64), .second] [(.int 1)]))
                    exact own_retN X539 hx hlk (t := .boolean) Bd.returns (by simp) (hb hby at_462) (Q := (Q0 Z p0 q1 p2 q3 p4 h0 n0)) ⟨rfl, N540⟩ (by decide) (by decide)
                  · rw [hl65]
                    show own_Go p e below s _ _ (T59.setTop (mkF m 318 #[iv p0, jv q1, .second, iv p2, jv q3, .second, iv p4, iv z3, iv 5, iv z4, iv z6, iv z8, iv z10, jv z12, .second, jv z15, .second, jv z18, .second, jv z21, .second, jv z24, .second, jv z27, .second, jv z34, .second, jv z42, .second, jv z50, .second, jv z58, .second, jv (z3.toInt64), .second, jv z60, .second, jv z61, .second, jv z62, .second, jv z63, .second, jv z64, .second, .unset, .unset, .unset, .unset, .unset] []))
                    refine own_via (fun k => XS.iload X59.here hx rfl (hb hby at_318) rfl  (XS.lload X59.here hx rfl (hb hby at_320) rfl  (XS.lload X59.here hx rfl (hb hby at_322) rfl  (XS.lload X59.here hx rfl (hb hby at_324) rfl  k)))) ?_
                    show own_Go p e below s _ _ (T59.setTop (mkF m 326 #[iv p0, jv q1, .second, iv p2, jv q3, .second, iv p4, iv z3, iv 5, iv z4, iv z6, iv z8, iv z10, jv z12, .second, jv z15, .second, jv z18, .second, jv z21, .second, jv z24, .second, jv z27, .second, jv z34, .second, jv z42, .second, jv z50, .second, jv z58, .second, jv (z3.toInt64), .second, jv z60, .second, jv z61, .second, jv z62, .second, jv z63, .second, jv z64, .second, .unset, .unset, .unset, .unset, .unset] [(.long z62), (.long z61), (.long z60), (.int 5)]))
                    refine own_via (fun k => XS.lload X59.here hx rfl (hb hby at_326) rfl  (XS.lload X59.here hx rfl (hb hby at_328) rfl  k)) ?_
                    show own_Go p e below s _ _ (T59.setTop (mkF m 330 #[iv p0, jv q1, .second, iv p2, jv q3, .second, iv p4, iv z3, iv 5, iv z4, iv z6, iv z8, iv z10, jv z12, .second, jv z15, .second, jv z18, .second, jv z21, .second, jv z24, .second, jv z27, .second, jv z34, .second, jv z42, .second, jv z50, .second, jv z58, .second, jv (z3.toInt64), .second, jv z60, .second, jv z61, .second, jv z62, .second, jv z63, .second, jv z64, .second, .unset, .unset, .unset, .unset, .unset] [(.long z64), (.long z63), (.long z62), (.long z61), (.long z60), (.int 5)]))
                    obtain ⟨_, _, ⟨T541, L541, k541, n541⟩, -, X541, ⟨Lc541, hQ541, l541, y541, z541⟩, st541⟩ := Jvm.LawKit.callS X59 hx (y := (⟨"com/example/waveslot/waveslot/core/CheckerStepsRepeatedQuotientsPinLaw", "prefix", "(IJJJJJ)[J"⟩ : MethodName)) hown (mvT hZ (hw _ (List.mem_of_getElem? (i := 17) rfl))) (mvT hZ (hw _ (List.mem_of_getElem? (i := 18) rfl))) (mvT hZ (hw _ (List.mem_of_getElem? (i := 8) rfl))) (mvT hZ (hw _ (List.mem_of_getElem? (i := 19) rfl))) (by decide) (backOf (W := 0) (rm5_5 l Z aw hw [] z60 z61 z62 z63 z64 h0 n0 Z0) hZ (hw _ (List.mem_of_getElem? (i := 19) rfl)) (hw _ (List.mem_of_getElem? (i := 8) rfl)) (by decide) (by decide)) (g := (mkF m 330 #[iv p0, jv q1, .second, iv p2, jv q3, .second, iv p4, iv z3, iv 5, iv z4, iv z6, iv z8, iv z10, jv z12, .second, jv z15, .second, jv z18, .second, jv z21, .second, jv z24, .second, jv z27, .second, jv z34, .second, jv z42, .second, jv z50, .second, jv z58, .second, jv (z3.toInt64), .second, jv z60, .second, jv z61, .second, jv z62, .second, jv z63, .second, jv z64, .second, .unset, .unset, .unset, .unset, .unset] [(.long z64), (.long z63), (.long z62), (.long z61), (.long z60), (.int 5)])) rfl (by rw [hml]; rfl) (argsL := [(.int 5), (.long z60), (.long z61), (.long z62), (.long z63), (.long z64)]) (rest := []) (lenOf pd_4 rfl) rfl (by show 2 * 0 + _ ≤ _; exact Nat.le_of_eq rfl) (hb hby at_330) (fun _ _ => ⟨rfl, e59, (by decide : 0 + 1 ≤ _), (by decide : 0 + 5 ≤ _)⟩)
                    dsimp only [Pt.U, Pt.locs, Pt.cells, Pt.slots] at X541 l541 y541 z541 st541 hQ541
                    subst l541 y541 z541
                    obtain ⟨b_541, k_541, rfl, N541q, K541, B542, g543⟩ := hQ541
                    have N544 := Fr.app N59 N541q
                    have Z545 : n0 ≤ T541.heap.size := Nat.le_trans Z0 K541.1
                    have g546 : n0 ≤ b_541 := Nat.le_trans Z0 g543
                    refine own_via (fun k => st541 _ k) ?_
                    show own_Go p e below s _ _ (T541.setTop (mkF m 333 #[iv p0, jv q1, .second, iv p2, jv q3, .second, iv p4, iv z3, iv 5, iv z4, iv z6, iv z8, iv z10, jv z12, .second, jv z15, .second, jv z18, .second, jv z21, .second, jv z24, .second, jv z27, .second, jv z34, .second, jv z42, .second, jv z50, .second, jv z58, .second, jv (z3.toInt64), .second, jv z60, .second, jv z61, .second, jv z62, .second, jv z63, .second, jv z64, .second, .unset, .unset, .unset, .unset, .unset] [(.ref b_541)]))
                    refine own_via (fun k => XS.astore X541.here hx rfl (hb hby at_333) rfl rfl (l' := #[iv p0, jv q1, .second, iv p2, jv q3, .second, iv p4, iv z3, iv 5, iv z4, iv z6, iv z8, iv z10, jv z12, .second, jv z15, .second, jv z18, .second, jv z21, .second, jv z24, .second, jv z27, .second, jv z34, .second, jv z42, .second, jv z50, .second, jv z58, .second, jv (z3.toInt64), .second, jv z60, .second, jv z61, .second, jv z62, .second, jv z63, .second, jv z64, .second, rv b_541, .unset, .unset, .unset, .unset]) rfl (XS.iload X541.here hx rfl (hb hby at_335) rfl  k)) ?_
                    show own_Go p e below s _ _ (T541.setTop (mkF m 337 #[iv p0, jv q1, .second, iv p2, jv q3, .second, iv p4, iv z3, iv 5, iv z4, iv z6, iv z8, iv z10, jv z12, .second, jv z15, .second, jv z18, .second, jv z21, .second, jv z24, .second, jv z27, .second, jv z34, .second, jv z42, .second, jv z50, .second, jv z58, .second, jv (z3.toInt64), .second, jv z60, .second, jv z61, .second, jv z62, .second, jv z63, .second, jv z64, .second, rv b_541, .unset, .unset, .unset, .unset] [(.int 5)]))
                    refine own_via (fun k => XS.ifYes X541.here hx rfl (pc0 := 337) (pc' := 344) rfl (hb hby at_337) rfl (by decide) (by decide) (by decide) k) ?_
                    show own_Go p e below s _ _ (T541.setTop (mkF m 344 #[iv p0, jv q1, .second, iv p2, jv q3, .second, iv p4, iv z3, iv 5, iv z4, iv z6, iv z8, iv z10, jv z12, .second, jv z15, .second, jv z18, .second, jv z21, .second, jv z24, .second, jv z27, .second, jv z34, .second, jv z42, .second, jv z50, .second, jv z58, .second, jv (z3.toInt64), .second, jv z60, .second, jv z61, .second, jv z62, .second, jv z63, .second, jv z64, .second, rv b_541, .unset, .unset, .unset, .unset] []))
                    refine own_via (fun k => XS.iconst X541.here hx rfl (hb hby at_344) (XS.iload X541.here hx rfl (hb hby at_345) rfl  (XS.iconst X541.here hx rfl (hb hby at_347) (XS.isub X541.here hx rfl (hb hby at_348) rfl k)))) ?_
                    show own_Go p e below s _ _ (T541.setTop (mkF m 349 #[iv p0, jv q1, .second, iv p2, jv q3, .second, iv p4, iv z3, iv 5, iv z4, iv z6, iv z8, iv z10, jv z12, .second, jv z15, .second, jv z18, .second, jv z21, .second, jv z24, .second, jv z27, .second, jv z34, .second, jv z42, .second, jv z50, .second, jv z58, .second, jv (z3.toInt64), .second, jv z60, .second, jv z61, .second, jv z62, .second, jv z63, .second, jv z64, .second, rv b_541, .unset, .unset, .unset, .unset] [(.int 4), (.int 1)]))
                    refine own_via (fun k => XS.ishl X541.here hx rfl (hb hby at_349) rfl (XS.iconst X541.here hx rfl (hb hby at_350) (XS.isub X541.here hx rfl (hb hby at_351) rfl (XS.istore X541.here hx rfl (hb hby at_352) rfl (l' := #[iv p0, jv q1, .second, iv p2, jv q3, .second, iv p4, iv z3, iv 5, iv z4, iv z6, iv z8, iv z10, jv z12, .second, jv z15, .second, jv z18, .second, jv z21, .second, jv z24, .second, jv z27, .second, jv z34, .second, jv z42, .second, jv z50, .second, jv z58, .second, jv (z3.toInt64), .second, jv z60, .second, jv z61, .second, jv z62, .second, jv z63, .second, jv z64, .second, rv b_541, iv 15, .unset, .unset, .unset]) rfl k)))) ?_
                    show own_Go p e below s _ _ (T541.setTop (mkF m 354 #[iv p0, jv q1, .second, iv p2, jv q3, .second, iv p4, iv z3, iv 5, iv z4, iv z6, iv z8, iv z10, jv z12, .second, jv z15, .second, jv z18, .second, jv z21, .second, jv z24, .second, jv z27, .second, jv z34, .second, jv z42, .second, jv z50, .second, jv z58, .second, jv (z3.toInt64), .second, jv z60, .second, jv z61, .second, jv z62, .second, jv z63, .second, jv z64, .second, rv b_541, iv 15, .unset, .unset, .unset] []))
                    refine own_via (fun k => XS.bipush X541.here hx rfl (hb hby at_354) k) ?_
                    show own_Go p e below s _ _ (T541.setTop (mkF m 356 #[iv p0, jv q1, .second, iv p2, jv q3, .second, iv p4, iv z3, iv 5, iv z4, iv z6, iv z8, iv z10, jv z12, .second, jv z15, .second, jv z18, .second, jv z21, .second, jv z24, .second, jv z27, .second, jv z34, .second, jv z42, .second, jv z50, .second, jv z58, .second, jv (z3.toInt64), .second, jv z60, .second, jv z61, .second, jv z62, .second, jv z63, .second, jv z64, .second, rv b_541, iv 15, .unset, .unset, .unset] [(.int 16)]))
                    obtain ⟨T547, h547, k547, X547, e547, E547, A547, st547⟩ := newP X541 hx hZ (hw _ (List.mem_of_getElem? (i := 21) rfl)) rfl (g := (mkF m 356 #[iv p0, jv q1, .second, iv p2, jv q3, .second, iv p4, iv z3, iv 5, iv z4, iv z6, iv z8, iv z10, jv z12, .second, jv z15, .second, jv z18, .second, jv z21, .second, jv z24, .second, jv z27, .second, jv z34, .second, jv z42, .second, jv z50, .second, jv z58, .second, jv (z3.toInt64), .second, jv z60, .second, jv z61, .second, jv z62, .second, jv z63, .second, jv z64, .second, rv b_541, iv 15, .unset, .unset, .unset] [(.int 16)])) rfl (hb hby at_356) rfl (by decide) (cap := 16) (by decide) (by decide) (by decide) (by decide)
                    obtain ⟨b547, g547⟩ : ∃ z, z = T541.heap.size := ⟨_, rfl⟩
                    rw [← g547] at A547 st547
                    refine own_via (fun k => st547 _ k) ?_
                    show own_Go p e below s _ _ (T547.setTop (mkF m 358 #[iv p0, jv q1, .second, iv p2, jv q3, .second, iv p4, iv z3, iv 5, iv z4, iv z6, iv z8, iv z10, jv z12, .second, jv z15, .second, jv z18, .second, jv z21, .second, jv z24, .second, jv z27, .second, jv z34, .second, jv z42, .second, jv z50, .second, jv z58, .second, jv (z3.toInt64), .second, jv z60, .second, jv z61, .second, jv z62, .second, jv z63, .second, jv z64, .second, rv b_541, iv 15, .unset, .unset, .unset] [(.ref b547)]))
                    have g548 : n0 ≤ b547 := Nat.le_trans Z545 (Nat.le_of_eq g547.symm)
                    have ne549 : b_541 ≠ b547 := Nat.ne_of_lt (Nat.lt_of_lt_of_le B542.lt (Nat.le_of_eq g547.symm))
                    have B550 := B542.ext E547
                    have Z551 : n0 ≤ h547.size := Nat.le_trans Z545 E547.1
                    have B552 : Arv Z h547 b547 k547 .int (16 : Int32) [(.int 0), (.int 0), (.int 0), (.int 0), (.int 0), (.int 0), (.int 0), (.int 0), (.int 0), (.int 0), (.int 0), (.int 0), (.int 0), (.int 0), (.int 0), (.int 0)] (.int 0) := (Arv.new A547 (by decide)).pad (pad_rep [] (.int 0) 16)
                    refine own_via (fun k => XS.dup X547.here hx rfl (hb hby at_358) rfl rfl (XS.iconst X547.here hx rfl (hb hby at_359) (XS.iconst X547.here hx rfl (hb hby at_360) k))) ?_
                    show own_Go p e below s _ _ (T547.setTop (mkF m 361 #[iv p0, jv q1, .second, iv p2, jv q3, .second, iv p4, iv z3, iv 5, iv z4, iv z6, iv z8, iv z10, jv z12, .second, jv z15, .second, jv z18, .second, jv z21, .second, jv z24, .second, jv z27, .second, jv z34, .second, jv z42, .second, jv z50, .second, jv z58, .second, jv (z3.toInt64), .second, jv z60, .second, jv z61, .second, jv z62, .second, jv z63, .second, jv z64, .second, rv b_541, iv 15, .unset, .unset, .unset] [(.int 0), (.int 0), (.ref b547), (.ref b547)]))
                    obtain ⟨cl553, Ar553, q553, S553, NN553, H553, G553⟩ := id B552
                    have hin553 : ¬ ((0 : Int32) < 0 ∨ cl553.slots.size ≤ ((0 : Int32)).toNatClampNeg) := inb_of S553 ⟨by decide, by decide⟩
                    obtain ⟨T553, h553, X553, e553, W553, st553⟩ := stI X547 hx hZ e547 Ar553 (j := (0 : Int32)) hin553 (g := (mkF m 361 #[iv p0, jv q1, .second, iv p2, jv q3, .second, iv p4, iv z3, iv 5, iv z4, iv z6, iv z8, iv z10, jv z12, .second, jv z15, .second, jv z18, .second, jv z21, .second, jv z24, .second, jv z27, .second, jv z34, .second, jv z42, .second, jv z50, .second, jv z58, .second, jv (z3.toInt64), .second, jv z60, .second, jv z61, .second, jv z62, .second, jv z63, .second, jv z64, .second, rv b_541, iv 15, .unset, .unset, .unset] [(.int 0), (.int 0), (.ref b547), (.ref b547)])) rfl rfl (hb hby at_361)
                    refine own_via (fun k => st553 _ k) ?_
                    show own_Go p e below s _ _ (T553.setTop (mkF m 362 #[iv p0, jv q1, .second, iv p2, jv q3, .second, iv p4, iv z3, iv 5, iv z4, iv z6, iv z8, iv z10, jv z12, .second, jv z15, .second, jv z18, .second, jv z21, .second, jv z24, .second, jv z27, .second, jv z34, .second, jv z42, .second, jv z50, .second, jv z58, .second, jv (z3.toInt64), .second, jv z60, .second, jv z61, .second, jv z62, .second, jv z63, .second, jv z64, .second, rv b_541, iv 15, .unset, .unset, .unset] [(.ref b547)]))
                    have B554 := B550.other W553 ne549
                    have B555 : Arv Z h553 b547 k547 .int (16 : Int32) [(.int 0), (.int 0), (.int 0), (.int 0), (.int 0), (.int 0), (.int 0), (.int 0), (.int 0), (.int 0), (.int 0), (.int 0), (.int 0), (.int 0), (.int 0), (.int 0)] (.int 0) := Arv.set Ar553 q553 S553 NN553 H553 G553 rfl W553 0 rfl (Nat.le_of_ble_eq_true rfl)
                    have N556 := Fr.snoc X553 N544 g548
                    have Z557 : n0 ≤ h553.size := Nat.le_trans Z551 (Keep.of_wr W553).1
                    refine own_via (fun k => XS.dup X553.here hx rfl (hb hby at_362) rfl rfl (XS.iconst X553.here hx rfl (hb hby at_363) (XS.iconst X553.here hx rfl (hb hby at_364) k))) ?_
                    show own_Go p e below s _ _ (T553.setTop (mkF m 365 #[iv p0, jv q1, .second, iv p2, jv q3, .second, iv p4, iv z3, iv 5, iv z4, iv z6, iv z8, iv z10, jv z12, .second, jv z15, .second, jv z18, .second, jv z21, .second, jv z24, .second, jv z27, .second, jv z34, .second, jv z42, .second, jv z50, .second, jv z58, .second, jv (z3.toInt64), .second, jv z60, .second, jv z61, .second, jv z62, .second, jv z63, .second, jv z64, .second, rv b_541, iv 15, .unset, .unset, .unset] [(.int 1), (.int 1), (.ref b547), (.ref b547)]))
                    obtain ⟨cl558, Ar558, q558, S558, NN558, H558, G558⟩ := id B555
                    have hin558 : ¬ ((1 : Int32) < 0 ∨ cl558.slots.size ≤ ((1 : Int32)).toNatClampNeg) := inb_of S558 ⟨by decide, by decide⟩
                    obtain ⟨T558, h558, X558, e558, W558, st558⟩ := stI X553 hx hZ e553 Ar558 (j := (1 : Int32)) hin558 (g := (mkF m 365 #[iv p0, jv q1, .second, iv p2, jv q3, .second, iv p4, iv z3, iv 5, iv z4, iv z6, iv z8, iv z10, jv z12, .second, jv z15, .second, jv z18, .second, jv z21, .second, jv z24, .second, jv z27, .second, jv z34, .second, jv z42, .second, jv z50, .second, jv z58, .second, jv (z3.toInt64), .second, jv z60, .second, jv z61, .second, jv z62, .second, jv z63, .second, jv z64, .second, rv b_541, iv 15, .unset, .unset, .unset] [(.int 1), (.int 1), (.ref b547), (.ref b547)])) rfl rfl (hb hby at_365)
                    refine own_via (fun k => st558 _ k) ?_
                    show own_Go p e below s _ _ (T558.setTop (mkF m 366 #[iv p0, jv q1, .second, iv p2, jv q3, .second, iv p4, iv z3, iv 5, iv z4, iv z6, iv z8, iv z10, jv z12, .second, jv z15, .second, jv z18, .second, jv z21, .second, jv z24, .second, jv z27, .second, jv z34, .second, jv z42, .second, jv z50, .second, jv z58, .second, jv (z3.toInt64), .second, jv z60, .second, jv z61, .second, jv z62, .second, jv z63, .second, jv z64, .second, rv b_541, iv 15, .unset, .unset, .unset] [(.ref b547)]))
                    have B559 := B554.other W558 ne549
                    have B560 : Arv Z h558 b547 k547 .int (16 : Int32) [(.int 0), (.int 1), (.int 0), (.int 0), (.int 0), (.int 0), (.int 0), (.int 0), (.int 0), (.int 0), (.int 0), (.int 0), (.int 0), (.int 0), (.int 0), (.int 0)] (.int 0) := Arv.set Ar558 q558 S558 NN558 H558 G558 rfl W558 1 rfl (Nat.le_of_ble_eq_true rfl)
                    have N561 := Fr.snoc X558 N556 g548
                    have Z562 : n0 ≤ h558.size := Nat.le_trans Z557 (Keep.of_wr W558).1
                    refine own_via (fun k => XS.dup X558.here hx rfl (hb hby at_366) rfl rfl (XS.iconst X558.here hx rfl (hb hby at_367) (XS.iconst X558.here hx rfl (hb hby at_368) k))) ?_
                    show own_Go p e below s _ _ (T558.setTop (mkF m 369 #[iv p0, jv q1, .second, iv p2, jv q3, .second, iv p4, iv z3, iv 5, iv z4, iv z6, iv z8, iv z10, jv z12, .second, jv z15, .second, jv z18, .second, jv z21, .second, jv z24, .second, jv z27, .second, jv z34, .second, jv z42, .second, jv z50, .second, jv z58, .second, jv (z3.toInt64), .second, jv z60, .second, jv z61, .second, jv z62, .second, jv z63, .second, jv z64, .second, rv b_541, iv 15, .unset, .unset, .unset] [(.int 1), (.int 2), (.ref b547), (.ref b547)]))
                    obtain ⟨cl563, Ar563, q563, S563, NN563, H563, G563⟩ := id B560
                    have hin563 : ¬ ((2 : Int32) < 0 ∨ cl563.slots.size ≤ ((2 : Int32)).toNatClampNeg) := inb_of S563 ⟨by decide, by decide⟩
                    obtain ⟨T563, h563, X563, e563, W563, st563⟩ := stI X558 hx hZ e558 Ar563 (j := (2 : Int32)) hin563 (g := (mkF m 369 #[iv p0, jv q1, .second, iv p2, jv q3, .second, iv p4, iv z3, iv 5, iv z4, iv z6, iv z8, iv z10, jv z12, .second, jv z15, .second, jv z18, .second, jv z21, .second, jv z24, .second, jv z27, .second, jv z34, .second, jv z42, .second, jv z50, .second, jv z58, .second, jv (z3.toInt64), .second, jv z60, .second, jv z61, .second, jv z62, .second, jv z63, .second, jv z64, .second, rv b_541, iv 15, .unset, .unset, .unset] [(.int 1), (.int 2), (.ref b547), (.ref b547)])) rfl rfl (hb hby at_369)
                    refine own_via (fun k => st563 _ k) ?_
                    show own_Go p e below s _ _ (T563.setTop (mkF m 370 #[iv p0, jv q1, .second, iv p2, jv q3, .second, iv p4, iv z3, iv 5, iv z4, iv z6, iv z8, iv z10, jv z12, .second, jv z15, .second, jv z18, .second, jv z21, .second, jv z24, .second, jv z27, .second, jv z34, .second, jv z42, .second, jv z50, .second, jv z58, .second, jv (z3.toInt64), .second, jv z60, .second, jv z61, .second, jv z62, .second, jv z63, .second, jv z64, .second, rv b_541, iv 15, .unset, .unset, .unset] [(.ref b547)]))
                    have B564 := B559.other W563 ne549
                    have B565 : Arv Z h563 b547 k547 .int (16 : Int32) [(.int 0), (.int 1), (.int 1), (.int 0), (.int 0), (.int 0), (.int 0), (.int 0), (.int 0), (.int 0), (.int 0), (.int 0), (.int 0), (.int 0), (.int 0), (.int 0)] (.int 0) := Arv.set Ar563 q563 S563 NN563 H563 G563 rfl W563 2 rfl (Nat.le_of_ble_eq_true rfl)
                    have N566 := Fr.snoc X563 N561 g548
                    have Z567 : n0 ≤ h563.size := Nat.le_trans Z562 (Keep.of_wr W563).1
                    refine own_via (fun k => XS.dup X563.here hx rfl (hb hby at_370) rfl rfl (XS.iconst X563.here hx rfl (hb hby at_371) (XS.iconst X563.here hx rfl (hb hby at_372) k))) ?_
                    show own_Go p e below s _ _ (T563.setTop (mkF m 373 #[iv p0, jv q1, .second, iv p2, jv q3, .second, iv p4, iv z3, iv 5, iv z4, iv z6, iv z8, iv z10, jv z12, .second, jv z15, .second, jv z18, .second, jv z21, .second, jv z24, .second, jv z27, .second, jv z34, .second, jv z42, .second, jv z50, .second, jv z58, .second, jv (z3.toInt64), .second, jv z60, .second, jv z61, .second, jv z62, .second, jv z63, .second, jv z64, .second, rv b_541, iv 15, .unset, .unset, .unset] [(.int 1), (.int 3), (.ref b547), (.ref b547)]))
                    obtain ⟨cl568, Ar568, q568, S568, NN568, H568, G568⟩ := id B565
                    have hin568 : ¬ ((3 : Int32) < 0 ∨ cl568.slots.size ≤ ((3 : Int32)).toNatClampNeg) := inb_of S568 ⟨by decide, by decide⟩
                    obtain ⟨T568, h568, X568, e568, W568, st568⟩ := stI X563 hx hZ e563 Ar568 (j := (3 : Int32)) hin568 (g := (mkF m 373 #[iv p0, jv q1, .second, iv p2, jv q3, .second, iv p4, iv z3, iv 5, iv z4, iv z6, iv z8, iv z10, jv z12, .second, jv z15, .second, jv z18, .second, jv z21, .second, jv z24, .second, jv z27, .second, jv z34, .second, jv z42, .second, jv z50, .second, jv z58, .second, jv (z3.toInt64), .second, jv z60, .second, jv z61, .second, jv z62, .second, jv z63, .second, jv z64, .second, rv b_541, iv 15, .unset, .unset, .unset] [(.int 1), (.int 3), (.ref b547), (.ref b547)])) rfl rfl (hb hby at_373)
                    refine own_via (fun k => st568 _ k) ?_
                    show own_Go p e below s _ _ (T568.setTop (mkF m 374 #[iv p0, jv q1, .second, iv p2, jv q3, .second, iv p4, iv z3, iv 5, iv z4, iv z6, iv z8, iv z10, jv z12, .second, jv z15, .second, jv z18, .second, jv z21, .second, jv z24, .second, jv z27, .second, jv z34, .second, jv z42, .second, jv z50, .second, jv z58, .second, jv (z3.toInt64), .second, jv z60, .second, jv z61, .second, jv z62, .second, jv z63, .second, jv z64, .second, rv b_541, iv 15, .unset, .unset, .unset] [(.ref b547)]))
                    have B569 := B564.other W568 ne549
                    have B570 : Arv Z h568 b547 k547 .int (16 : Int32) [(.int 0), (.int 1), (.int 1), (.int 1), (.int 0), (.int 0), (.int 0), (.int 0), (.int 0), (.int 0), (.int 0), (.int 0), (.int 0), (.int 0), (.int 0), (.int 0)] (.int 0) := Arv.set Ar568 q568 S568 NN568 H568 G568 rfl W568 3 rfl (Nat.le_of_ble_eq_true rfl)
                    have N571 := Fr.snoc X568 N566 g548
                    have Z572 : n0 ≤ h568.size := Nat.le_trans Z567 (Keep.of_wr W568).1
                    refine own_via (fun k => XS.dup X568.here hx rfl (hb hby at_374) rfl rfl (XS.iconst X568.here hx rfl (hb hby at_375) (XS.iconst X568.here hx rfl (hb hby at_376) k))) ?_
                    show own_Go p e below s _ _ (T568.setTop (mkF m 377 #[iv p0, jv q1, .second, iv p2, jv q3, .second, iv p4, iv z3, iv 5, iv z4, iv z6, iv z8, iv z10, jv z12, .second, jv z15, .second, jv z18, .second, jv z21, .second, jv z24, .second, jv z27, .second, jv z34, .second, jv z42, .second, jv z50, .second, jv z58, .second, jv (z3.toInt64), .second, jv z60, .second, jv z61, .second, jv z62, .second, jv z63, .second, jv z64, .second, rv b_541, iv 15, .unset, .unset, .unset] [(.int 1), (.int 4), (.ref b547), (.ref b547)]))
                    obtain ⟨cl573, Ar573, q573, S573, NN573, H573, G573⟩ := id B570
                    have hin573 : ¬ ((4 : Int32) < 0 ∨ cl573.slots.size ≤ ((4 : Int32)).toNatClampNeg) := inb_of S573 ⟨by decide, by decide⟩
                    obtain ⟨T573, h573, X573, e573, W573, st573⟩ := stI X568 hx hZ e568 Ar573 (j := (4 : Int32)) hin573 (g := (mkF m 377 #[iv p0, jv q1, .second, iv p2, jv q3, .second, iv p4, iv z3, iv 5, iv z4, iv z6, iv z8, iv z10, jv z12, .second, jv z15, .second, jv z18, .second, jv z21, .second, jv z24, .second, jv z27, .second, jv z34, .second, jv z42, .second, jv z50, .second, jv z58, .second, jv (z3.toInt64), .second, jv z60, .second, jv z61, .second, jv z62, .second, jv z63, .second, jv z64, .second, rv b_541, iv 15, .unset, .unset, .unset] [(.int 1), (.int 4), (.ref b547), (.ref b547)])) rfl rfl (hb hby at_377)
                    refine own_via (fun k => st573 _ k) ?_
                    show own_Go p e below s _ _ (T573.setTop (mkF m 378 #[iv p0, jv q1, .second, iv p2, jv q3, .second, iv p4, iv z3, iv 5, iv z4, iv z6, iv z8, iv z10, jv z12, .second, jv z15, .second, jv z18, .second, jv z21, .second, jv z24, .second, jv z27, .second, jv z34, .second, jv z42, .second, jv z50, .second, jv z58, .second, jv (z3.toInt64), .second, jv z60, .second, jv z61, .second, jv z62, .second, jv z63, .second, jv z64, .second, rv b_541, iv 15, .unset, .unset, .unset] [(.ref b547)]))
                    have B574 := B569.other W573 ne549
                    have B575 : Arv Z h573 b547 k547 .int (16 : Int32) [(.int 0), (.int 1), (.int 1), (.int 1), (.int 1), (.int 0), (.int 0), (.int 0), (.int 0), (.int 0), (.int 0), (.int 0), (.int 0), (.int 0), (.int 0), (.int 0)] (.int 0) := Arv.set Ar573 q573 S573 NN573 H573 G573 rfl W573 4 rfl (Nat.le_of_ble_eq_true rfl)
                    have N576 := Fr.snoc X573 N571 g548
                    have Z577 : n0 ≤ h573.size := Nat.le_trans Z572 (Keep.of_wr W573).1
                    refine own_via (fun k => XS.dup X573.here hx rfl (hb hby at_378) rfl rfl (XS.iconst X573.here hx rfl (hb hby at_379) (XS.iconst X573.here hx rfl (hb hby at_380) k))) ?_
                    show own_Go p e below s _ _ (T573.setTop (mkF m 381 #[iv p0, jv q1, .second, iv p2, jv q3, .second, iv p4, iv z3, iv 5, iv z4, iv z6, iv z8, iv z10, jv z12, .second, jv z15, .second, jv z18, .second, jv z21, .second, jv z24, .second, jv z27, .second, jv z34, .second, jv z42, .second, jv z50, .second, jv z58, .second, jv (z3.toInt64), .second, jv z60, .second, jv z61, .second, jv z62, .second, jv z63, .second, jv z64, .second, rv b_541, iv 15, .unset, .unset, .unset] [(.int 2), (.int 5), (.ref b547), (.ref b547)]))
                    obtain ⟨cl578, Ar578, q578, S578, NN578, H578, G578⟩ := id B575
                    have hin578 : ¬ ((5 : Int32) < 0 ∨ cl578.slots.size ≤ ((5 : Int32)).toNatClampNeg) := inb_of S578 ⟨by decide, by decide⟩
                    obtain ⟨T578, h578, X578, e578, W578, st578⟩ := stI X573 hx hZ e573 Ar578 (j := (5 : Int32)) hin578 (g := (mkF m 381 #[iv p0, jv q1, .second, iv p2, jv q3, .second, iv p4, iv z3, iv 5, iv z4, iv z6, iv z8, iv z10, jv z12, .second, jv z15, .second, jv z18, .second, jv z21, .second, jv z24, .second, jv z27, .second, jv z34, .second, jv z42, .second, jv z50, .second, jv z58, .second, jv (z3.toInt64), .second, jv z60, .second, jv z61, .second, jv z62, .second, jv z63, .second, jv z64, .second, rv b_541, iv 15, .unset, .unset, .unset] [(.int 2), (.int 5), (.ref b547), (.ref b547)])) rfl rfl (hb hby at_381)
                    refine own_via (fun k => st578 _ k) ?_
                    show own_Go p e below s _ _ (T578.setTop (mkF m 382 #[iv p0, jv q1, .second, iv p2, jv q3, .second, iv p4, iv z3, iv 5, iv z4, iv z6, iv z8, iv z10, jv z12, .second, jv z15, .second, jv z18, .second, jv z21, .second, jv z24, .second, jv z27, .second, jv z34, .second, jv z42, .second, jv z50, .second, jv z58, .second, jv (z3.toInt64), .second, jv z60, .second, jv z61, .second, jv z62, .second, jv z63, .second, jv z64, .second, rv b_541, iv 15, .unset, .unset, .unset] [(.ref b547)]))
                    have B579 := B574.other W578 ne549
                    have B580 : Arv Z h578 b547 k547 .int (16 : Int32) [(.int 0), (.int 1), (.int 1), (.int 1), (.int 1), (.int 2), (.int 0), (.int 0), (.int 0), (.int 0), (.int 0), (.int 0), (.int 0), (.int 0), (.int 0), (.int 0)] (.int 0) := Arv.set Ar578 q578 S578 NN578 H578 G578 rfl W578 5 rfl (Nat.le_of_ble_eq_true rfl)
                    have N581 := Fr.snoc X578 N576 g548
                    have Z582 : n0 ≤ h578.size := Nat.le_trans Z577 (Keep.of_wr W578).1
                    refine own_via (fun k => XS.dup X578.here hx rfl (hb hby at_382) rfl rfl (XS.bipush X578.here hx rfl (hb hby at_383) (XS.iconst X578.here hx rfl (hb hby at_385) k))) ?_
                    show own_Go p e below s _ _ (T578.setTop (mkF m 386 #[iv p0, jv q1, .second, iv p2, jv q3, .second, iv p4, iv z3, iv 5, iv z4, iv z6, iv z8, iv z10, jv z12, .second, jv z15, .second, jv z18, .second, jv z21, .second, jv z24, .second, jv z27, .second, jv z34, .second, jv z42, .second, jv z50, .second, jv z58, .second, jv (z3.toInt64), .second, jv z60, .second, jv z61, .second, jv z62, .second, jv z63, .second, jv z64, .second, rv b_541, iv 15, .unset, .unset, .unset] [(.int 1), (.int 6), (.ref b547), (.ref b547)]))
                    obtain ⟨cl583, Ar583, q583, S583, NN583, H583, G583⟩ := id B580
                    have hin583 : ¬ ((6 : Int32) < 0 ∨ cl583.slots.size ≤ ((6 : Int32)).toNatClampNeg) := inb_of S583 ⟨by decide, by decide⟩
                    obtain ⟨T583, h583, X583, e583, W583, st583⟩ := stI X578 hx hZ e578 Ar583 (j := (6 : Int32)) hin583 (g := (mkF m 386 #[iv p0, jv q1, .second, iv p2, jv q3, .second, iv p4, iv z3, iv 5, iv z4, iv z6, iv z8, iv z10, jv z12, .second, jv z15, .second, jv z18, .second, jv z21, .second, jv z24, .second, jv z27, .second, jv z34, .second, jv z42, .second, jv z50, .second, jv z58, .second, jv (z3.toInt64), .second, jv z60, .second, jv z61, .second, jv z62, .second, jv z63, .second, jv z64, .second, rv b_541, iv 15, .unset, .unset, .unset] [(.int 1), (.int 6), (.ref b547), (.ref b547)])) rfl rfl (hb hby at_386)
                    refine own_via (fun k => st583 _ k) ?_
                    show own_Go p e below s _ _ (T583.setTop (mkF m 387 #[iv p0, jv q1, .second, iv p2, jv q3, .second, iv p4, iv z3, iv 5, iv z4, iv z6, iv z8, iv z10, jv z12, .second, jv z15, .second, jv z18, .second, jv z21, .second, jv z24, .second, jv z27, .second, jv z34, .second, jv z42, .second, jv z50, .second, jv z58, .second, jv (z3.toInt64), .second, jv z60, .second, jv z61, .second, jv z62, .second, jv z63, .second, jv z64, .second, rv b_541, iv 15, .unset, .unset, .unset] [(.ref b547)]))
                    have B584 := B579.other W583 ne549
                    have B585 : Arv Z h583 b547 k547 .int (16 : Int32) [(.int 0), (.int 1), (.int 1), (.int 1), (.int 1), (.int 2), (.int 1), (.int 0), (.int 0), (.int 0), (.int 0), (.int 0), (.int 0), (.int 0), (.int 0), (.int 0)] (.int 0) := Arv.set Ar583 q583 S583 NN583 H583 G583 rfl W583 6 rfl (Nat.le_of_ble_eq_true rfl)
                    have N586 := Fr.snoc X583 N581 g548
                    have Z587 : n0 ≤ h583.size := Nat.le_trans Z582 (Keep.of_wr W583).1
                    refine own_via (fun k => XS.dup X583.here hx rfl (hb hby at_387) rfl rfl (XS.bipush X583.here hx rfl (hb hby at_388) (XS.iconst X583.here hx rfl (hb hby at_390) k))) ?_
                    show own_Go p e below s _ _ (T583.setTop (mkF m 391 #[iv p0, jv q1, .second, iv p2, jv q3, .second, iv p4, iv z3, iv 5, iv z4, iv z6, iv z8, iv z10, jv z12, .second, jv z15, .second, jv z18, .second, jv z21, .second, jv z24, .second, jv z27, .second, jv z34, .second, jv z42, .second, jv z50, .second, jv z58, .second, jv (z3.toInt64), .second, jv z60, .second, jv z61, .second, jv z62, .second, jv z63, .second, jv z64, .second, rv b_541, iv 15, .unset, .unset, .unset] [(.int 1), (.int 7), (.ref b547), (.ref b547)]))
                    obtain ⟨cl588, Ar588, q588, S588, NN588, H588, G588⟩ := id B585
                    have hin588 : ¬ ((7 : Int32) < 0 ∨ cl588.slots.size ≤ ((7 : Int32)).toNatClampNeg) := inb_of S588 ⟨by decide, by decide⟩
                    obtain ⟨T588, h588, X588, e588, W588, st588⟩ := stI X583 hx hZ e583 Ar588 (j := (7 : Int32)) hin588 (g := (mkF m 391 #[iv p0, jv q1, .second, iv p2, jv q3, .second, iv p4, iv z3, iv 5, iv z4, iv z6, iv z8, iv z10, jv z12, .second, jv z15, .second, jv z18, .second, jv z21, .second, jv z24, .second, jv z27, .second, jv z34, .second, jv z42, .second, jv z50, .second, jv z58, .second, jv (z3.toInt64), .second, jv z60, .second, jv z61, .second, jv z62, .second, jv z63, .second, jv z64, .second, rv b_541, iv 15, .unset, .unset, .unset] [(.int 1), (.int 7), (.ref b547), (.ref b547)])) rfl rfl (hb hby at_391)
                    refine own_via (fun k => st588 _ k) ?_
                    show own_Go p e below s _ _ (T588.setTop (mkF m 392 #[iv p0, jv q1, .second, iv p2, jv q3, .second, iv p4, iv z3, iv 5, iv z4, iv z6, iv z8, iv z10, jv z12, .second, jv z15, .second, jv z18, .second, jv z21, .second, jv z24, .second, jv z27, .second, jv z34, .second, jv z42, .second, jv z50, .second, jv z58, .second, jv (z3.toInt64), .second, jv z60, .second, jv z61, .second, jv z62, .second, jv z63, .second, jv z64, .second, rv b_541, iv 15, .unset, .unset, .unset] [(.ref b547)]))
                    have B589 := B584.other W588 ne549
                    have B590 : Arv Z h588 b547 k547 .int (16 : Int32) [(.int 0), (.int 1), (.int 1), (.int 1), (.int 1), (.int 2), (.int 1), (.int 1), (.int 0), (.int 0), (.int 0), (.int 0), (.int 0), (.int 0), (.int 0), (.int 0)] (.int 0) := Arv.set Ar588 q588 S588 NN588 H588 G588 rfl W588 7 rfl (Nat.le_of_ble_eq_true rfl)
                    have N591 := Fr.snoc X588 N586 g548
                    have Z592 : n0 ≤ h588.size := Nat.le_trans Z587 (Keep.of_wr W588).1
                    refine own_via (fun k => XS.dup X588.here hx rfl (hb hby at_392) rfl rfl (XS.bipush X588.here hx rfl (hb hby at_393) (XS.iconst X588.here hx rfl (hb hby at_395) k))) ?_
                    show own_Go p e below s _ _ (T588.setTop (mkF m 396 #[iv p0, jv q1, .second, iv p2, jv q3, .second, iv p4, iv z3, iv 5, iv z4, iv z6, iv z8, iv z10, jv z12, .second, jv z15, .second, jv z18, .second, jv z21, .second, jv z24, .second, jv z27, .second, jv z34, .second, jv z42, .second, jv z50, .second, jv z58, .second, jv (z3.toInt64), .second, jv z60, .second, jv z61, .second, jv z62, .second, jv z63, .second, jv z64, .second, rv b_541, iv 15, .unset, .unset, .unset] [(.int 1), (.int 8), (.ref b547), (.ref b547)]))
                    obtain ⟨cl593, Ar593, q593, S593, NN593, H593, G593⟩ := id B590
                    have hin593 : ¬ ((8 : Int32) < 0 ∨ cl593.slots.size ≤ ((8 : Int32)).toNatClampNeg) := inb_of S593 ⟨by decide, by decide⟩
                    obtain ⟨T593, h593, X593, e593, W593, st593⟩ := stI X588 hx hZ e588 Ar593 (j := (8 : Int32)) hin593 (g := (mkF m 396 #[iv p0, jv q1, .second, iv p2, jv q3, .second, iv p4, iv z3, iv 5, iv z4, iv z6, iv z8, iv z10, jv z12, .second, jv z15, .second, jv z18, .second, jv z21, .second, jv z24, .second, jv z27, .second, jv z34, .second, jv z42, .second, jv z50, .second, jv z58, .second, jv (z3.toInt64), .second, jv z60, .second, jv z61, .second, jv z62, .second, jv z63, .second, jv z64, .second, rv b_541, iv 15, .unset, .unset, .unset] [(.int 1), (.int 8), (.ref b547), (.ref b547)])) rfl rfl (hb hby at_396)
                    refine own_via (fun k => st593 _ k) ?_
                    show own_Go p e below s _ _ (T593.setTop (mkF m 397 #[iv p0, jv q1, .second, iv p2, jv q3, .second, iv p4, iv z3, iv 5, iv z4, iv z6, iv z8, iv z10, jv z12, .second, jv z15, .second, jv z18, .second, jv z21, .second, jv z24, .second, jv z27, .second, jv z34, .second, jv z42, .second, jv z50, .second, jv z58, .second, jv (z3.toInt64), .second, jv z60, .second, jv z61, .second, jv z62, .second, jv z63, .second, jv z64, .second, rv b_541, iv 15, .unset, .unset, .unset] [(.ref b547)]))
                    have B594 := B589.other W593 ne549
                    have B595 : Arv Z h593 b547 k547 .int (16 : Int32) [(.int 0), (.int 1), (.int 1), (.int 1), (.int 1), (.int 2), (.int 1), (.int 1), (.int 1), (.int 0), (.int 0), (.int 0), (.int 0), (.int 0), (.int 0), (.int 0)] (.int 0) := Arv.set Ar593 q593 S593 NN593 H593 G593 rfl W593 8 rfl (Nat.le_of_ble_eq_true rfl)
                    have N596 := Fr.snoc X593 N591 g548
                    have Z597 : n0 ≤ h593.size := Nat.le_trans Z592 (Keep.of_wr W593).1
                    refine own_via (fun k => XS.dup X593.here hx rfl (hb hby at_397) rfl rfl (XS.bipush X593.here hx rfl (hb hby at_398) (XS.iconst X593.here hx rfl (hb hby at_400) k))) ?_
                    show own_Go p e below s _ _ (T593.setTop (mkF m 401 #[iv p0, jv q1, .second, iv p2, jv q3, .second, iv p4, iv z3, iv 5, iv z4, iv z6, iv z8, iv z10, jv z12, .second, jv z15, .second, jv z18, .second, jv z21, .second, jv z24, .second, jv z27, .second, jv z34, .second, jv z42, .second, jv z50, .second, jv z58, .second, jv (z3.toInt64), .second, jv z60, .second, jv z61, .second, jv z62, .second, jv z63, .second, jv z64, .second, rv b_541, iv 15, .unset, .unset, .unset] [(.int 2), (.int 9), (.ref b547), (.ref b547)]))
                    obtain ⟨cl598, Ar598, q598, S598, NN598, H598, G598⟩ := id B595
                    have hin598 : ¬ ((9 : Int32) < 0 ∨ cl598.slots.size ≤ ((9 : Int32)).toNatClampNeg) := inb_of S598 ⟨by decide, by decide⟩
                    obtain ⟨T598, h598, X598, e598, W598, st598⟩ := stI X593 hx hZ e593 Ar598 (j := (9 : Int32)) hin598 (g := (mkF m 401 #[iv p0, jv q1, .second, iv p2, jv q3, .second, iv p4, iv z3, iv 5, iv z4, iv z6, iv z8, iv z10, jv z12, .second, jv z15, .second, jv z18, .second, jv z21, .second, jv z24, .second, jv z27, .second, jv z34, .second, jv z42, .second, jv z50, .second, jv z58, .second, jv (z3.toInt64), .second, jv z60, .second, jv z61, .second, jv z62, .second, jv z63, .second, jv z64, .second, rv b_541, iv 15, .unset, .unset, .unset] [(.int 2), (.int 9), (.ref b547), (.ref b547)])) rfl rfl (hb hby at_401)
                    refine own_via (fun k => st598 _ k) ?_
                    show own_Go p e below s _ _ (T598.setTop (mkF m 402 #[iv p0, jv q1, .second, iv p2, jv q3, .second, iv p4, iv z3, iv 5, iv z4, iv z6, iv z8, iv z10, jv z12, .second, jv z15, .second, jv z18, .second, jv z21, .second, jv z24, .second, jv z27, .second, jv z34, .second, jv z42, .second, jv z50, .second, jv z58, .second, jv (z3.toInt64), .second, jv z60, .second, jv z61, .second, jv z62, .second, jv z63, .second, jv z64, .second, rv b_541, iv 15, .unset, .unset, .unset] [(.ref b547)]))
                    have B599 := B594.other W598 ne549
                    have B600 : Arv Z h598 b547 k547 .int (16 : Int32) [(.int 0), (.int 1), (.int 1), (.int 1), (.int 1), (.int 2), (.int 1), (.int 1), (.int 1), (.int 2), (.int 0), (.int 0), (.int 0), (.int 0), (.int 0), (.int 0)] (.int 0) := Arv.set Ar598 q598 S598 NN598 H598 G598 rfl W598 9 rfl (Nat.le_of_ble_eq_true rfl)
                    have N601 := Fr.snoc X598 N596 g548
                    have Z602 : n0 ≤ h598.size := Nat.le_trans Z597 (Keep.of_wr W598).1
                    refine own_via (fun k => XS.dup X598.here hx rfl (hb hby at_402) rfl rfl (XS.bipush X598.here hx rfl (hb hby at_403) (XS.iconst X598.here hx rfl (hb hby at_405) k))) ?_
                    show own_Go p e below s _ _ (T598.setTop (mkF m 406 #[iv p0, jv q1, .second, iv p2, jv q3, .second, iv p4, iv z3, iv 5, iv z4, iv z6, iv z8, iv z10, jv z12, .second, jv z15, .second, jv z18, .second, jv z21, .second, jv z24, .second, jv z27, .second, jv z34, .second, jv z42, .second, jv z50, .second, jv z58, .second, jv (z3.toInt64), .second, jv z60, .second, jv z61, .second, jv z62, .second, jv z63, .second, jv z64, .second, rv b_541, iv 15, .unset, .unset, .unset] [(.int 2), (.int 10), (.ref b547), (.ref b547)]))
                    obtain ⟨cl603, Ar603, q603, S603, NN603, H603, G603⟩ := id B600
                    have hin603 : ¬ ((10 : Int32) < 0 ∨ cl603.slots.size ≤ ((10 : Int32)).toNatClampNeg) := inb_of S603 ⟨by decide, by decide⟩
                    obtain ⟨T603, h603, X603, e603, W603, st603⟩ := stI X598 hx hZ e598 Ar603 (j := (10 : Int32)) hin603 (g := (mkF m 406 #[iv p0, jv q1, .second, iv p2, jv q3, .second, iv p4, iv z3, iv 5, iv z4, iv z6, iv z8, iv z10, jv z12, .second, jv z15, .second, jv z18, .second, jv z21, .second, jv z24, .second, jv z27, .second, jv z34, .second, jv z42, .second, jv z50, .second, jv z58, .second, jv (z3.toInt64), .second, jv z60, .second, jv z61, .second, jv z62, .second, jv z63, .second, jv z64, .second, rv b_541, iv 15, .unset, .unset, .unset] [(.int 2), (.int 10), (.ref b547), (.ref b547)])) rfl rfl (hb hby at_406)
                    refine own_via (fun k => st603 _ k) ?_
                    show own_Go p e below s _ _ (T603.setTop (mkF m 407 #[iv p0, jv q1, .second, iv p2, jv q3, .second, iv p4, iv z3, iv 5, iv z4, iv z6, iv z8, iv z10, jv z12, .second, jv z15, .second, jv z18, .second, jv z21, .second, jv z24, .second, jv z27, .second, jv z34, .second, jv z42, .second, jv z50, .second, jv z58, .second, jv (z3.toInt64), .second, jv z60, .second, jv z61, .second, jv z62, .second, jv z63, .second, jv z64, .second, rv b_541, iv 15, .unset, .unset, .unset] [(.ref b547)]))
                    have B604 := B599.other W603 ne549
                    have B605 : Arv Z h603 b547 k547 .int (16 : Int32) [(.int 0), (.int 1), (.int 1), (.int 1), (.int 1), (.int 2), (.int 1), (.int 1), (.int 1), (.int 2), (.int 2), (.int 0), (.int 0), (.int 0), (.int 0), (.int 0)] (.int 0) := Arv.set Ar603 q603 S603 NN603 H603 G603 rfl W603 10 rfl (Nat.le_of_ble_eq_true rfl)
                    have N606 := Fr.snoc X603 N601 g548
                    have Z607 : n0 ≤ h603.size := Nat.le_trans Z602 (Keep.of_wr W603).1
                    refine own_via (fun k => XS.dup X603.here hx rfl (hb hby at_407) rfl rfl (XS.bipush X603.here hx rfl (hb hby at_408) (XS.iconst X603.here hx rfl (hb hby at_410) k))) ?_
                    show own_Go p e below s _ _ (T603.setTop (mkF m 411 #[iv p0, jv q1, .second, iv p2, jv q3, .second, iv p4, iv z3, iv 5, iv z4, iv z6, iv z8, iv z10, jv z12, .second, jv z15, .second, jv z18, .second, jv z21, .second, jv z24, .second, jv z27, .second, jv z34, .second, jv z42, .second, jv z50, .second, jv z58, .second, jv (z3.toInt64), .second, jv z60, .second, jv z61, .second, jv z62, .second, jv z63, .second, jv z64, .second, rv b_541, iv 15, .unset, .unset, .unset] [(.int 2), (.int 11), (.ref b547), (.ref b547)]))
                    obtain ⟨cl608, Ar608, q608, S608, NN608, H608, G608⟩ := id B605
                    have hin608 : ¬ ((11 : Int32) < 0 ∨ cl608.slots.size ≤ ((11 : Int32)).toNatClampNeg) := inb_of S608 ⟨by decide, by decide⟩
                    obtain ⟨T608, h608, X608, e608, W608, st608⟩ := stI X603 hx hZ e603 Ar608 (j := (11 : Int32)) hin608 (g := (mkF m 411 #[iv p0, jv q1, .second, iv p2, jv q3, .second, iv p4, iv z3, iv 5, iv z4, iv z6, iv z8, iv z10, jv z12, .second, jv z15, .second, jv z18, .second, jv z21, .second, jv z24, .second, jv z27, .second, jv z34, .second, jv z42, .second, jv z50, .second, jv z58, .second, jv (z3.toInt64), .second, jv z60, .second, jv z61, .second, jv z62, .second, jv z63, .second, jv z64, .second, rv b_541, iv 15, .unset, .unset, .unset] [(.int 2), (.int 11), (.ref b547), (.ref b547)])) rfl rfl (hb hby at_411)
                    refine own_via (fun k => st608 _ k) ?_
                    show own_Go p e below s _ _ (T608.setTop (mkF m 412 #[iv p0, jv q1, .second, iv p2, jv q3, .second, iv p4, iv z3, iv 5, iv z4, iv z6, iv z8, iv z10, jv z12, .second, jv z15, .second, jv z18, .second, jv z21, .second, jv z24, .second, jv z27, .second, jv z34, .second, jv z42, .second, jv z50, .second, jv z58, .second, jv (z3.toInt64), .second, jv z60, .second, jv z61, .second, jv z62, .second, jv z63, .second, jv z64, .second, rv b_541, iv 15, .unset, .unset, .unset] [(.ref b547)]))
                    have B609 := B604.other W608 ne549
                    have B610 : Arv Z h608 b547 k547 .int (16 : Int32) [(.int 0), (.int 1), (.int 1), (.int 1), (.int 1), (.int 2), (.int 1), (.int 1), (.int 1), (.int 2), (.int 2), (.int 2), (.int 0), (.int 0), (.int 0), (.int 0)] (.int 0) := Arv.set Ar608 q608 S608 NN608 H608 G608 rfl W608 11 rfl (Nat.le_of_ble_eq_true rfl)
                    have N611 := Fr.snoc X608 N606 g548
                    have Z612 : n0 ≤ h608.size := Nat.le_trans Z607 (Keep.of_wr W608).1
                    refine own_via (fun k => XS.dup X608.here hx rfl (hb hby at_412) rfl rfl (XS.bipush X608.here hx rfl (hb hby at_413) (XS.iconst X608.here hx rfl (hb hby at_415) k))) ?_
                    show own_Go p e below s _ _ (T608.setTop (mkF m 416 #[iv p0, jv q1, .second, iv p2, jv q3, .second, iv p4, iv z3, iv 5, iv z4, iv z6, iv z8, iv z10, jv z12, .second, jv z15, .second, jv z18, .second, jv z21, .second, jv z24, .second, jv z27, .second, jv z34, .second, jv z42, .second, jv z50, .second, jv z58, .second, jv (z3.toInt64), .second, jv z60, .second, jv z61, .second, jv z62, .second, jv z63, .second, jv z64, .second, rv b_541, iv 15, .unset, .unset, .unset] [(.int 1), (.int 12), (.ref b547), (.ref b547)]))
                    obtain ⟨cl613, Ar613, q613, S613, NN613, H613, G613⟩ := id B610
                    have hin613 : ¬ ((12 : Int32) < 0 ∨ cl613.slots.size ≤ ((12 : Int32)).toNatClampNeg) := inb_of S613 ⟨by decide, by decide⟩
                    obtain ⟨T613, h613, X613, e613, W613, st613⟩ := stI X608 hx hZ e608 Ar613 (j := (12 : Int32)) hin613 (g := (mkF m 416 #[iv p0, jv q1, .second, iv p2, jv q3, .second, iv p4, iv z3, iv 5, iv z4, iv z6, iv z8, iv z10, jv z12, .second, jv z15, .second, jv z18, .second, jv z21, .second, jv z24, .second, jv z27, .second, jv z34, .second, jv z42, .second, jv z50, .second, jv z58, .second, jv (z3.toInt64), .second, jv z60, .second, jv z61, .second, jv z62, .second, jv z63, .second, jv z64, .second, rv b_541, iv 15, .unset, .unset, .unset] [(.int 1), (.int 12), (.ref b547), (.ref b547)])) rfl rfl (hb hby at_416)
                    refine own_via (fun k => st613 _ k) ?_
                    show own_Go p e below s _ _ (T613.setTop (mkF m 417 #[iv p0, jv q1, .second, iv p2, jv q3, .second, iv p4, iv z3, iv 5, iv z4, iv z6, iv z8, iv z10, jv z12, .second, jv z15, .second, jv z18, .second, jv z21, .second, jv z24, .second, jv z27, .second, jv z34, .second, jv z42, .second, jv z50, .second, jv z58, .second, jv (z3.toInt64), .second, jv z60, .second, jv z61, .second, jv z62, .second, jv z63, .second, jv z64, .second, rv b_541, iv 15, .unset, .unset, .unset] [(.ref b547)]))
                    have B614 := B609.other W613 ne549
                    have B615 : Arv Z h613 b547 k547 .int (16 : Int32) [(.int 0), (.int 1), (.int 1), (.int 1), (.int 1), (.int 2), (.int 1), (.int 1), (.int 1), (.int 2), (.int 2), (.int 2), (.int 1), (.int 0), (.int 0), (.int 0)] (.int 0) := Arv.set Ar613 q613 S613 NN613 H613 G613 rfl W613 12 rfl (Nat.le_of_ble_eq_true rfl)
                    have N616 := Fr.snoc X613 N611 g548
                    have Z617 : n0 ≤ h613.size := Nat.le_trans Z612 (Keep.of_wr W613).1
                    refine own_via (fun k => XS.dup X613.here hx rfl (hb hby at_417) rfl rfl (XS.bipush X613.here hx rfl (hb hby at_418) (XS.iconst X613.here hx rfl (hb hby at_420) k))) ?_
                    show own_Go p e below s _ _ (T613.setTop (mkF m 421 #[iv p0, jv q1, .second, iv p2, jv q3, .second, iv p4, iv z3, iv 5, iv z4, iv z6, iv z8, iv z10, jv z12, .second, jv z15, .second, jv z18, .second, jv z21, .second, jv z24, .second, jv z27, .second, jv z34, .second, jv z42, .second, jv z50, .second, jv z58, .second, jv (z3.toInt64), .second, jv z60, .second, jv z61, .second, jv z62, .second, jv z63, .second, jv z64, .second, rv b_541, iv 15, .unset, .unset, .unset] [(.int 2), (.int 13), (.ref b547), (.ref b547)]))
                    obtain ⟨cl618, Ar618, q618, S618, NN618, H618, G618⟩ := id B615
                    have hin618 : ¬ ((13 : Int32) < 0 ∨ cl618.slots.size ≤ ((13 : Int32)).toNatClampNeg) := inb_of S618 ⟨by decide, by decide⟩
                    obtain ⟨T618, h618, X618, e618, W618, st618⟩ := stI X613 hx hZ e613 Ar618 (j := (13 : Int32)) hin618 (g := (mkF m 421 #[iv p0, jv q1, .second, iv p2, jv q3, .second, iv p4, iv z3, iv 5, iv z4, iv z6, iv z8, iv z10, jv z12, .second, jv z15, .second, jv z18, .second, jv z21, .second, jv z24, .second, jv z27, .second, jv z34, .second, jv z42, .second, jv z50, .second, jv z58, .second, jv (z3.toInt64), .second, jv z60, .second, jv z61, .second, jv z62, .second, jv z63, .second, jv z64, .second, rv b_541, iv 15, .unset, .unset, .unset] [(.int 2), (.int 13), (.ref b547), (.ref b547)])) rfl rfl (hb hby at_421)
                    refine own_via (fun k => st618 _ k) ?_
                    show own_Go p e below s _ _ (T618.setTop (mkF m 422 #[iv p0, jv q1, .second, iv p2, jv q3, .second, iv p4, iv z3, iv 5, iv z4, iv z6, iv z8, iv z10, jv z12, .second, jv z15, .second, jv z18, .second, jv z21, .second, jv z24, .second, jv z27, .second, jv z34, .second, jv z42, .second, jv z50, .second, jv z58, .second, jv (z3.toInt64), .second, jv z60, .second, jv z61, .second, jv z62, .second, jv z63, .second, jv z64, .second, rv b_541, iv 15, .unset, .unset, .unset] [(.ref b547)]))
                    have B619 := B614.other W618 ne549
                    have B620 : Arv Z h618 b547 k547 .int (16 : Int32) [(.int 0), (.int 1), (.int 1), (.int 1), (.int 1), (.int 2), (.int 1), (.int 1), (.int 1), (.int 2), (.int 2), (.int 2), (.int 1), (.int 2), (.int 0), (.int 0)] (.int 0) := Arv.set Ar618 q618 S618 NN618 H618 G618 rfl W618 13 rfl (Nat.le_of_ble_eq_true rfl)
                    have N621 := Fr.snoc X618 N616 g548
                    have Z622 : n0 ≤ h618.size := Nat.le_trans Z617 (Keep.of_wr W618).1
                    refine own_via (fun k => XS.dup X618.here hx rfl (hb hby at_422) rfl rfl (XS.bipush X618.here hx rfl (hb hby at_423) (XS.iconst X618.here hx rfl (hb hby at_425) k))) ?_
                    show own_Go p e below s _ _ (T618.setTop (mkF m 426 #[iv p0, jv q1, .second, iv p2, jv q3, .second, iv p4, iv z3, iv 5, iv z4, iv z6, iv z8, iv z10, jv z12, .second, jv z15, .second, jv z18, .second, jv z21, .second, jv z24, .second, jv z27, .second, jv z34, .second, jv z42, .second, jv z50, .second, jv z58, .second, jv (z3.toInt64), .second, jv z60, .second, jv z61, .second, jv z62, .second, jv z63, .second, jv z64, .second, rv b_541, iv 15, .unset, .unset, .unset] [(.int 1), (.int 14), (.ref b547), (.ref b547)]))
                    obtain ⟨cl623, Ar623, q623, S623, NN623, H623, G623⟩ := id B620
                    have hin623 : ¬ ((14 : Int32) < 0 ∨ cl623.slots.size ≤ ((14 : Int32)).toNatClampNeg) := inb_of S623 ⟨by decide, by decide⟩
                    obtain ⟨T623, h623, X623, e623, W623, st623⟩ := stI X618 hx hZ e618 Ar623 (j := (14 : Int32)) hin623 (g := (mkF m 426 #[iv p0, jv q1, .second, iv p2, jv q3, .second, iv p4, iv z3, iv 5, iv z4, iv z6, iv z8, iv z10, jv z12, .second, jv z15, .second, jv z18, .second, jv z21, .second, jv z24, .second, jv z27, .second, jv z34, .second, jv z42, .second, jv z50, .second, jv z58, .second, jv (z3.toInt64), .second, jv z60, .second, jv z61, .second, jv z62, .second, jv z63, .second, jv z64, .second, rv b_541, iv 15, .unset, .unset, .unset] [(.int 1), (.int 14), (.ref b547), (.ref b547)])) rfl rfl (hb hby at_426)
                    refine own_via (fun k => st623 _ k) ?_
                    show own_Go p e below s _ _ (T623.setTop (mkF m 427 #[iv p0, jv q1, .second, iv p2, jv q3, .second, iv p4, iv z3, iv 5, iv z4, iv z6, iv z8, iv z10, jv z12, .second, jv z15, .second, jv z18, .second, jv z21, .second, jv z24, .second, jv z27, .second, jv z34, .second, jv z42, .second, jv z50, .second, jv z58, .second, jv (z3.toInt64), .second, jv z60, .second, jv z61, .second, jv z62, .second, jv z63, .second, jv z64, .second, rv b_541, iv 15, .unset, .unset, .unset] [(.ref b547)]))
                    have B624 := B619.other W623 ne549
                    have B625 : Arv Z h623 b547 k547 .int (16 : Int32) [(.int 0), (.int 1), (.int 1), (.int 1), (.int 1), (.int 2), (.int 1), (.int 1), (.int 1), (.int 2), (.int 2), (.int 2), (.int 1), (.int 2), (.int 1), (.int 0)] (.int 0) := Arv.set Ar623 q623 S623 NN623 H623 G623 rfl W623 14 rfl (Nat.le_of_ble_eq_true rfl)
                    have N626 := Fr.snoc X623 N621 g548
                    have Z627 : n0 ≤ h623.size := Nat.le_trans Z622 (Keep.of_wr W623).1
                    refine own_via (fun k => XS.dup X623.here hx rfl (hb hby at_427) rfl rfl (XS.bipush X623.here hx rfl (hb hby at_428) (XS.iconst X623.here hx rfl (hb hby at_430) k))) ?_
                    show own_Go p e below s _ _ (T623.setTop (mkF m 431 #[iv p0, jv q1, .second, iv p2, jv q3, .second, iv p4, iv z3, iv 5, iv z4, iv z6, iv z8, iv z10, jv z12, .second, jv z15, .second, jv z18, .second, jv z21, .second, jv z24, .second, jv z27, .second, jv z34, .second, jv z42, .second, jv z50, .second, jv z58, .second, jv (z3.toInt64), .second, jv z60, .second, jv z61, .second, jv z62, .second, jv z63, .second, jv z64, .second, rv b_541, iv 15, .unset, .unset, .unset] [(.int 1), (.int 15), (.ref b547), (.ref b547)]))
                    obtain ⟨cl628, Ar628, q628, S628, NN628, H628, G628⟩ := id B625
                    have hin628 : ¬ ((15 : Int32) < 0 ∨ cl628.slots.size ≤ ((15 : Int32)).toNatClampNeg) := inb_of S628 ⟨by decide, by decide⟩
                    obtain ⟨T628, h628, X628, e628, W628, st628⟩ := stI X623 hx hZ e623 Ar628 (j := (15 : Int32)) hin628 (g := (mkF m 431 #[iv p0, jv q1, .second, iv p2, jv q3, .second, iv p4, iv z3, iv 5, iv z4, iv z6, iv z8, iv z10, jv z12, .second, jv z15, .second, jv z18, .second, jv z21, .second, jv z24, .second, jv z27, .second, jv z34, .second, jv z42, .second, jv z50, .second, jv z58, .second, jv (z3.toInt64), .second, jv z60, .second, jv z61, .second, jv z62, .second, jv z63, .second, jv z64, .second, rv b_541, iv 15, .unset, .unset, .unset] [(.int 1), (.int 15), (.ref b547), (.ref b547)])) rfl rfl (hb hby at_431)
                    refine own_via (fun k => st628 _ k) ?_
                    show own_Go p e below s _ _ (T628.setTop (mkF m 432 #[iv p0, jv q1, .second, iv p2, jv q3, .second, iv p4, iv z3, iv 5, iv z4, iv z6, iv z8, iv z10, jv z12, .second, jv z15, .second, jv z18, .second, jv z21, .second, jv z24, .second, jv z27, .second, jv z34, .second, jv z42, .second, jv z50, .second, jv z58, .second, jv (z3.toInt64), .second, jv z60, .second, jv z61, .second, jv z62, .second, jv z63, .second, jv z64, .second, rv b_541, iv 15, .unset, .unset, .unset] [(.ref b547)]))
                    have B629 := B624.other W628 ne549
                    have B630 : Arv Z h628 b547 k547 .int (16 : Int32) [(.int 0), (.int 1), (.int 1), (.int 1), (.int 1), (.int 2), (.int 1), (.int 1), (.int 1), (.int 2), (.int 2), (.int 2), (.int 1), (.int 2), (.int 1), (.int 1)] (.int 0) := Arv.set Ar628 q628 S628 NN628 H628 G628 rfl W628 15 rfl (Nat.le_of_ble_eq_true rfl)
                    have N631 := Fr.snoc X628 N626 g548
                    have Z632 : n0 ≤ h628.size := Nat.le_trans Z627 (Keep.of_wr W628).1
                    refine own_via (fun k => XS.astore X628.here hx rfl (hb hby at_432) rfl rfl (l' := #[iv p0, jv q1, .second, iv p2, jv q3, .second, iv p4, iv z3, iv 5, iv z4, iv z6, iv z8, iv z10, jv z12, .second, jv z15, .second, jv z18, .second, jv z21, .second, jv z24, .second, jv z27, .second, jv z34, .second, jv z42, .second, jv z50, .second, jv z58, .second, jv (z3.toInt64), .second, jv z60, .second, jv z61, .second, jv z62, .second, jv z63, .second, jv z64, .second, rv b_541, iv 15, rv b547, .unset, .unset]) rfl (XS.aload X628.here hx rfl (hb hby at_434) rfl rfl  (XS.iloadN X628.here hx rfl (hb hby at_436) rfl  (XS.iload X628.here hx rfl (hb hby at_437) rfl  k)))) ?_
                    show own_Go p e below s _ _ (T628.setTop (mkF m 439 #[iv p0, jv q1, .second, iv p2, jv q3, .second, iv p4, iv z3, iv 5, iv z4, iv z6, iv z8, iv z10, jv z12, .second, jv z15, .second, jv z18, .second, jv z21, .second, jv z24, .second, jv z27, .second, jv z34, .second, jv z42, .second, jv z50, .second, jv z58, .second, jv (z3.toInt64), .second, jv z60, .second, jv z61, .second, jv z62, .second, jv z63, .second, jv z64, .second, rv b_541, iv 15, rv b547, .unset, .unset] [(.int 15), (.int p2), (.ref b547)]))
                    refine own_via (fun k => XS.iand X628.here hx rfl (hb hby at_439) rfl k) ?_
                    show own_Go p e below s _ _ (T628.setTop (mkF m 440 #[iv p0, jv q1, .second, iv p2, jv q3, .second, iv p4, iv z3, iv 5, iv z4, iv z6, iv z8, iv z10, jv z12, .second, jv z15, .second, jv z18, .second, jv z21, .second, jv z24, .second, jv z27, .second, jv z34, .second, jv z42, .second, jv z50, .second, jv z58, .second, jv (z3.toInt64), .second, jv z60, .second, jv z61, .second, jv z62, .second, jv z63, .second, jv z64, .second, rv b_541, iv 15, rv b547, .unset, .unset] [(.int (p2 &&& (15 : Int32))), (.ref b547)]))
                    obtain ⟨cl633, Ar633, q633, S633, NN633, H633, G633⟩ := id B630
                    have hin633 : ¬ ((p2 &&& (15 : Int32)) < 0 ∨ cl633.slots.size ≤ ((p2 &&& (15 : Int32))).toNatClampNeg) := inb_of S633 (own_in5 p2 hl65)
                    have hat633 : cl633.slots[((p2 &&& (15 : Int32))).toNatClampNeg]? = some (.int (own_tab (p2 &&& (15 : Int32)))) := H633.at hin633 (own_tabget (p2 &&& (15 : Int32)) (own_in5 p2 hl65))
                    refine own_via (fun k => X628.iaload hx (j := (p2 &&& (15 : Int32))) (v := (.int (own_tab (p2 &&& (15 : Int32))))) (by rw [e628]; exact Ar633.1) (State.isArrayOf_alike hZ.alike Ar633.2.1) Ar633.2.2 hin633 hat633 (g := (mkF m 440 #[iv p0, jv q1, .second, iv p2, jv q3, .second, iv p4, iv z3, iv 5, iv z4, iv z6, iv z8, iv z10, jv z12, .second, jv z15, .second, jv z18, .second, jv z21, .second, jv z24, .second, jv z27, .second, jv z34, .second, jv z42, .second, jv z50, .second, jv z58, .second, jv (z3.toInt64), .second, jv z60, .second, jv z61, .second, jv z62, .second, jv z63, .second, jv z64, .second, rv b_541, iv 15, rv b547, .unset, .unset] [(.int (p2 &&& (15 : Int32))), (.ref b547)])) rfl rfl (hb hby at_440) _ k) ?_
                    show own_Go p e below s _ _ (T628.setTop (mkF m 441 #[iv p0, jv q1, .second, iv p2, jv q3, .second, iv p4, iv z3, iv 5, iv z4, iv z6, iv z8, iv z10, jv z12, .second, jv z15, .second, jv z18, .second, jv z21, .second, jv z24, .second, jv z27, .second, jv z34, .second, jv z42, .second, jv z50, .second, jv z58, .second, jv (z3.toInt64), .second, jv z60, .second, jv z61, .second, jv z62, .second, jv z63, .second, jv z64, .second, rv b_541, iv 15, rv b547, .unset, .unset] [(.int (own_tab (p2 &&& (15 : Int32))))]))
                    refine own_via (fun k => XS.i2l X628.here hx rfl (hb hby at_441) rfl (XS.lstore X628.here hx rfl (hb hby at_442) rfl (l' := #[iv p0, jv q1, .second, iv p2, jv q3, .second, iv p4, iv z3, iv 5, iv z4, iv z6, iv z8, iv z10, jv z12, .second, jv z15, .second, jv z18, .second, jv z21, .second, jv z24, .second, jv z27, .second, jv z34, .second, jv z42, .second, jv z50, .second, jv z58, .second, jv (z3.toInt64), .second, jv z60, .second, jv z61, .second, jv z62, .second, jv z63, .second, jv z64, .second, rv b_541, iv 15, rv b547, jv ((own_tab (p2 &&& (15 : Int32))).toInt64), .second]) rfl (XS.aload X628.here hx rfl (hb hby at_444) rfl rfl  (XS.iload X628.here hx rfl (hb hby at_446) rfl  k)))) ?_
                    show own_Go p e below s _ _ (T628.setTop (mkF m 448 #[iv p0, jv q1, .second, iv p2, jv q3, .second, iv p4, iv z3, iv 5, iv z4, iv z6, iv z8, iv z10, jv z12, .second, jv z15, .second, jv z18, .second, jv z21, .second, jv z24, .second, jv z27, .second, jv z34, .second, jv z42, .second, jv z50, .second, jv z58, .second, jv (z3.toInt64), .second, jv z60, .second, jv z61, .second, jv z62, .second, jv z63, .second, jv z64, .second, rv b_541, iv 15, rv b547, jv ((own_tab (p2 &&& (15 : Int32))).toInt64), .second] [(.int z3), (.ref b_541)]))
                    obtain ⟨_, _, ⟨T634, L634, k634, n634⟩, -, X634, ⟨Lc634, hQ634, l634, y634, z634⟩, st634⟩ := Jvm.LawKit.callS X628 hx (y := (⟨"com/example/waveslot/waveslot/core/CheckerSteps", "repeatedQuotients", "([JI)J"⟩ : MethodName)) hown (mvT hZ (hw _ (List.mem_of_getElem? (i := 22) rfl))) (mvT hZ (hw _ (List.mem_of_getElem? (i := 23) rfl))) (mvT hZ (hw _ (List.mem_of_getElem? (i := 24) rfl))) (mvT hZ (hw _ (List.mem_of_getElem? (i := 25) rfl))) (by decide) (backOf (W := 0) (rm6_5 l Z aw hw [] b_541 z3 k_541 z60 z61 z62 z63 z64 h628 n0 Z632 B629 (own_hhn6_5 p0 p2 z3 hz3 hl65)) hZ (hw _ (List.mem_of_getElem? (i := 25) rfl)) (hw _ (List.mem_of_getElem? (i := 24) rfl)) (by decide) (by decide)) (g := (mkF m 448 #[iv p0, jv q1, .second, iv p2, jv q3, .second, iv p4, iv z3, iv 5, iv z4, iv z6, iv z8, iv z10, jv z12, .second, jv z15, .second, jv z18, .second, jv z21, .second, jv z24, .second, jv z27, .second, jv z34, .second, jv z42, .second, jv z50, .second, jv z58, .second, jv (z3.toInt64), .second, jv z60, .second, jv z61, .second, jv z62, .second, jv z63, .second, jv z64, .second, rv b_541, iv 15, rv b547, jv ((own_tab (p2 &&& (15 : Int32))).toInt64), .second] [(.int z3), (.ref b_541)])) rfl (by rw [hml]; rfl) (argsL := [(.ref b_541), (.int z3)]) (rest := []) (lenOf pd_5 rfl) rfl (by show 2 * 0 + _ ≤ _; exact Nat.le_of_eq rfl) (hb hby at_448) (fun _ _ => ⟨rfl, e628, (by decide : 2 + 0 ≤ _), (by decide : 21 + 0 ≤ _)⟩)
                    dsimp only [Pt.U, Pt.locs, Pt.cells, Pt.slots] at X634 l634 y634 z634 st634 hQ634
                    subst l634 y634 z634
                    obtain ⟨rfl, N634q, eh634⟩ := hQ634
                    have N635 := Fr.app N631 N634q
                    refine own_via (fun k => st634 _ k) ?_
                    show own_Go p e below s _ _ (T634.setTop (mkF m 451 #[iv p0, jv q1, .second, iv p2, jv q3, .second, iv p4, iv z3, iv 5, iv z4, iv z6, iv z8, iv z10, jv z12, .second, jv z15, .second, jv z18, .second, jv z21, .second, jv z24, .second, jv z27, .second, jv z34, .second, jv z42, .second, jv z50, .second, jv z58, .second, jv (z3.toInt64), .second, jv z60, .second, jv z61, .second, jv z62, .second, jv z63, .second, jv z64, .second, rv b_541, iv 15, rv b547, jv ((own_tab (p2 &&& (15 : Int32))).toInt64), .second] [(.long (own_f6_5 z3 z60 z61 z62 z63 z64))]))
                    refine own_via (fun k => XS.lload X634.here hx rfl (hb hby at_451) rfl  (XS.lcmp X634.here hx rfl (hb hby at_453) rfl k)) ?_
                    show own_Go p e below s _ _ (T634.setTop (mkF m 454 #[iv p0, jv q1, .second, iv p2, jv q3, .second, iv p4, iv z3, iv 5, iv z4, iv z6, iv z8, iv z10, jv z12, .second, jv z15, .second, jv z18, .second, jv z21, .second, jv z24, .second, jv z27, .second, jv z34, .second, jv z42, .second, jv z50, .second, jv z58, .second, jv (z3.toInt64), .second, jv z60, .second, jv z61, .second, jv z62, .second, jv z63, .second, jv z64, .second, rv b_541, iv 15, rv b547, jv ((own_tab (p2 &&& (15 : Int32))).toInt64), .second] [(.int (lcmpW (own_f6_5 z3 z60 z61 z62 z63 z64) ((own_tab (p2 &&& (15 : Int32))).toInt64)))]))
                    refine own_via (fun k => XS.ifNo X634.here hx rfl (hb hby at_454) rfl ((if0 _ _).trans (teq ((lw_eq _ _).mpr (own_law5 p0 q1 p2 q3 p4 z3 hz3 z4 hz4 z6 hz6 z8 hz8 z10 hz10 z12 hz12 z15 hz15 z18 hz18 z21 hz21 z24 hz24 z27 hz27 z34 hz34 z42 hz42 z50 hz50 z58 hz58 z60 hz60 z61 hz61 z62 hz62 z63 hz63 z64 hz64 hl65))).2) k) ?_
                    show own_Go p e below s _ _ (T634.setTop (mkF m 457 #[iv p0, jv q1, .second, iv p2, jv q3, .second, iv p4, iv z3, iv 5, iv z4, iv z6, iv z8, iv z10, jv z12, .second, jv z15, .second, jv z18, .second, jv z21, .second, jv z24, .second, jv z27, .second, jv z34, .second, jv z42, .second, jv z50, .second, jv z58, .second, jv (z3.toInt64), .second, jv z60, .second, jv z61, .second, jv z62, .second, jv z63, .second, jv z64, .second, rv b_541, iv 15, rv b547, jv ((own_tab (p2 &&& (15 : Int32))).toInt64), .second] []))
                    refine own_via (fun k => XS.iconst X634.here hx rfl (hb hby at_457) (XS.goto X634.here hx rfl (pc0 := 458) (pc' := 462) rfl (hb hby at_458) (by decide) (by decide) k)) ?_
                    show own_Go p e below s _ _ (T634.setTop (mkF m 462 #[iv p0, jv q1, .second, iv p2, jv q3, .second, iv p4, iv z3, iv 5, iv z4, iv z6, iv z8, iv z10, jv z12, .second, jv z15, .second, jv z18, .second, jv z21, .second, jv z24, .second, jv z27, .second, jv z34, .second, jv z42, .second, jv z50, .second, jv z58, .second, jv (z3.toInt64), .second, jv z60, .second, jv z61, .second, jv z62, .second, jv z63, .second, jv z64, .second, rv b_541, iv 15, rv b547, jv ((own_tab (p2 &&& (15 : Int32))).toInt64), .second] [(.int 1)]))
                    exact own_retN X634 hx hlk (t := .boolean) Bd.returns (by simp) (hb hby at_462) (Q := (Q0 Z p0 q1 p2 q3 p4 h0 n0)) ⟨rfl, N635⟩ (by decide) (by decide)
                by_cases hc636 : z10 = (0 : Int32)
                · refine own_via (fun k => XS.ifYes X51.here hx rfl (pc0 := 234) (pc' := 253) rfl (hb hby at_234) rfl ((if0 _ _).trans (teq hc636).1) (by decide) (by decide) k) ?_
                  show own_Go p e below s _ _ (T51.setTop (mkF m 253 #[iv p0, jv q1, .second, iv p2, jv q3, .second, iv p4, iv z3, iv ((((p2.toUInt32 >>> ((4 : Int32) &&& 31).toUInt32).toInt32) &&& (7 : Int32)) % (6 : Int32)), iv z4, iv z6, iv z8, iv z10, jv z12, .second, jv z15, .second, jv z18, .second, jv z21, .second, jv z24, .second, jv z27, .second, jv z34, .second, jv z42, .second, jv z50, .second, .unset, .unset, .unset, .unset, .unset, .unset, .unset, .unset, .unset, .unset, .unset, .unset, .unset, .unset, .unset, .unset, .unset, .unset, .unset] []))
                  refine own_via (fun k => XS.lload X51.here hx rfl (hb hby at_253) rfl  (XS.iconst X51.here hx rfl (hb hby at_255) (XS.iload X51.here hx rfl (hb hby at_256) rfl  k))) ?_
                  show own_Go p e below s _ _ (T51.setTop (mkF m 258 #[iv p0, jv q1, .second, iv p2, jv q3, .second, iv p4, iv z3, iv ((((p2.toUInt32 >>> ((4 : Int32) &&& 31).toUInt32).toInt32) &&& (7 : Int32)) % (6 : Int32)), iv z4, iv z6, iv z8, iv z10, jv z12, .second, jv z15, .second, jv z18, .second, jv z21, .second, jv z24, .second, jv z27, .second, jv z34, .second, jv z42, .second, jv z50, .second, .unset, .unset, .unset, .unset, .unset, .unset, .unset, .unset, .unset, .unset, .unset, .unset, .unset, .unset, .unset, .unset, .unset, .unset, .unset] [(.int z3), (.int 4), (.long q3)]))
                  obtain ⟨_, _, ⟨T637, L637, k637, n637⟩, -, X637, ⟨Lc637, hQ637, l637, y637, z637⟩, st637⟩ := Jvm.LawKit.callS X51 hx (y := (⟨"com/example/waveslot/waveslot/core/CheckerStepsRepeatedQuotientsPinLaw", "draw", "(JII)J"⟩ : MethodName)) hown (mvT hZ (hw _ (List.mem_of_getElem? (i := 10) rfl))) (mvT hZ (hw _ (List.mem_of_getElem? (i := 11) rfl))) (mvT hZ (hw _ (List.mem_of_getElem? (i := 8) rfl))) (mvT hZ (hw _ (List.mem_of_getElem? (i := 12) rfl))) (by decide) (backOf (W := 0) (rm3 l Z aw hw [] q3 (4 : Int32) z3 h0 n0 Z0 (own_hhn3 p0 z3 hz3)) hZ (hw _ (List.mem_of_getElem? (i := 12) rfl)) (hw _ (List.mem_of_getElem? (i := 8) rfl)) (by decide) (by decide)) (g := (mkF m 258 #[iv p0, jv q1, .second, iv p2, jv q3, .second, iv p4, iv z3, iv ((((p2.toUInt32 >>> ((4 : Int32) &&& 31).toUInt32).toInt32) &&& (7 : Int32)) % (6 : Int32)), iv z4, iv z6, iv z8, iv z10, jv z12, .second, jv z15, .second, jv z18, .second, jv z21, .second, jv z24, .second, jv z27, .second, jv z34, .second, jv z42, .second, jv z50, .second, .unset, .unset, .unset, .unset, .unset, .unset, .unset, .unset, .unset, .unset, .unset, .unset, .unset, .unset, .unset, .unset, .unset, .unset, .unset] [(.int z3), (.int 4), (.long q3)])) rfl (by rw [hml]; rfl) (argsL := [(.long q3), (.int 4), (.int z3)]) (rest := []) (lenOf pd_2 rfl) rfl (by show 2 * 0 + _ ≤ _; exact Nat.le_of_eq rfl) (hb hby at_258) (fun _ _ => ⟨rfl, e51, (by decide : 0 + 0 ≤ _), (by decide : 0 + 0 ≤ _)⟩)
                  dsimp only [Pt.U, Pt.locs, Pt.cells, Pt.slots] at X637 l637 y637 z637 st637 hQ637
                  subst l637 y637 z637
                  obtain ⟨rfl, N637q, eh637⟩ := hQ637
                  have N638 := Fr.app N51 N637q
                  refine own_via (fun k => st637 _ k) ?_
                  show own_Go p e below s _ _ (T637.setTop (mkF m 261 #[iv p0, jv q1, .second, iv p2, jv q3, .second, iv p4, iv z3, iv ((((p2.toUInt32 >>> ((4 : Int32) &&& 31).toUInt32).toInt32) &&& (7 : Int32)) % (6 : Int32)), iv z4, iv z6, iv z8, iv z10, jv z12, .second, jv z15, .second, jv z18, .second, jv z21, .second, jv z24, .second, jv z27, .second, jv z34, .second, jv z42, .second, jv z50, .second, .unset, .unset, .unset, .unset, .unset, .unset, .unset, .unset, .unset, .unset, .unset, .unset, .unset, .unset, .unset, .unset, .unset, .unset, .unset] [(.long (own_f3 q3 (4 : Int32) z3))]))
                  exact J59 _ _ X637 N638 eh637 (own_f3 q3 (4 : Int32) z3) (((if_pos hc636).trans rfl)).symm
                · refine own_via (fun k => XS.ifNo X51.here hx rfl (hb hby at_234) rfl ((if0 _ _).trans (feq hc636).1) k) ?_
                  show own_Go p e below s _ _ (T51.setTop (mkF m 237 #[iv p0, jv q1, .second, iv p2, jv q3, .second, iv p4, iv z3, iv ((((p2.toUInt32 >>> ((4 : Int32) &&& 31).toUInt32).toInt32) &&& (7 : Int32)) % (6 : Int32)), iv z4, iv z6, iv z8, iv z10, jv z12, .second, jv z15, .second, jv z18, .second, jv z21, .second, jv z24, .second, jv z27, .second, jv z34, .second, jv z42, .second, jv z50, .second, .unset, .unset, .unset, .unset, .unset, .unset, .unset, .unset, .unset, .unset, .unset, .unset, .unset, .unset, .unset, .unset, .unset, .unset, .unset] []))
                  refine own_via (fun k => XS.lload X51.here hx rfl (hb hby at_237) rfl  (XS.lload X51.here hx rfl (hb hby at_239) rfl  (XS.iconst X51.here hx rfl (hb hby at_241) (XS.iload X51.here hx rfl (hb hby at_242) rfl  k)))) ?_
                  show own_Go p e below s _ _ (T51.setTop (mkF m 244 #[iv p0, jv q1, .second, iv p2, jv q3, .second, iv p4, iv z3, iv ((((p2.toUInt32 >>> ((4 : Int32) &&& 31).toUInt32).toInt32) &&& (7 : Int32)) % (6 : Int32)), iv z4, iv z6, iv z8, iv z10, jv z12, .second, jv z15, .second, jv z18, .second, jv z21, .second, jv z24, .second, jv z27, .second, jv z34, .second, jv z42, .second, jv z50, .second, .unset, .unset, .unset, .unset, .unset, .unset, .unset, .unset, .unset, .unset, .unset, .unset, .unset, .unset, .unset, .unset, .unset, .unset, .unset] [(.int z3), (.int 4), (.long q3), (.long z50)]))
                  obtain ⟨_, _, ⟨T639, L639, k639, n639⟩, -, X639, ⟨Lc639, hQ639, l639, y639, z639⟩, st639⟩ := Jvm.LawKit.callS X51 hx (y := (⟨"com/example/waveslot/waveslot/core/CheckerStepsRepeatedQuotientsPinLaw", "draw", "(JII)J"⟩ : MethodName)) hown (mvT hZ (hw _ (List.mem_of_getElem? (i := 10) rfl))) (mvT hZ (hw _ (List.mem_of_getElem? (i := 11) rfl))) (mvT hZ (hw _ (List.mem_of_getElem? (i := 8) rfl))) (mvT hZ (hw _ (List.mem_of_getElem? (i := 12) rfl))) (by decide) (backOf (W := 2) (rm3 l Z aw hw [] q3 (4 : Int32) z3 h0 n0 Z0 (own_hhn3 p0 z3 hz3)) hZ (hw _ (List.mem_of_getElem? (i := 12) rfl)) (hw _ (List.mem_of_getElem? (i := 8) rfl)) (by decide) (by decide)) (g := (mkF m 244 #[iv p0, jv q1, .second, iv p2, jv q3, .second, iv p4, iv z3, iv ((((p2.toUInt32 >>> ((4 : Int32) &&& 31).toUInt32).toInt32) &&& (7 : Int32)) % (6 : Int32)), iv z4, iv z6, iv z8, iv z10, jv z12, .second, jv z15, .second, jv z18, .second, jv z21, .second, jv z24, .second, jv z27, .second, jv z34, .second, jv z42, .second, jv z50, .second, .unset, .unset, .unset, .unset, .unset, .unset, .unset, .unset, .unset, .unset, .unset, .unset, .unset, .unset, .unset, .unset, .unset, .unset, .unset] [(.int z3), (.int 4), (.long q3), (.long z50)])) rfl (by rw [hml]; rfl) (argsL := [(.long q3), (.int 4), (.int z3)]) (rest := [(.long z50)]) (lenOf pd_2 rfl) rfl (by show 2 * 0 + _ ≤ _; exact Nat.le_of_eq rfl) (hb hby at_244) (fun _ _ => ⟨rfl, e51, (by decide : 0 + 0 ≤ _), (by decide : 0 + 0 ≤ _)⟩)
                  dsimp only [Pt.U, Pt.locs, Pt.cells, Pt.slots] at X639 l639 y639 z639 st639 hQ639
                  subst l639 y639 z639
                  obtain ⟨rfl, N639q, eh639⟩ := hQ639
                  have N640 := Fr.app N51 N639q
                  refine own_via (fun k => st639 _ k) ?_
                  show own_Go p e below s _ _ (T639.setTop (mkF m 247 #[iv p0, jv q1, .second, iv p2, jv q3, .second, iv p4, iv z3, iv ((((p2.toUInt32 >>> ((4 : Int32) &&& 31).toUInt32).toInt32) &&& (7 : Int32)) % (6 : Int32)), iv z4, iv z6, iv z8, iv z10, jv z12, .second, jv z15, .second, jv z18, .second, jv z21, .second, jv z24, .second, jv z27, .second, jv z34, .second, jv z42, .second, jv z50, .second, .unset, .unset, .unset, .unset, .unset, .unset, .unset, .unset, .unset, .unset, .unset, .unset, .unset, .unset, .unset, .unset, .unset, .unset, .unset] [(.long (own_f3 q3 (4 : Int32) z3)), (.long z50)]))
                  obtain ⟨_, _, ⟨T641, L641, k641, n641⟩, -, X641, ⟨Lc641, hQ641, l641, y641, z641⟩, st641⟩ := Jvm.LawKit.callS X639 hx (y := (⟨"java/lang/Math", "max", "(JJ)J"⟩ : MethodName)) hown (mvT hZ (hw _ (List.mem_of_getElem? (i := 14) rfl))) (mvT hZ (hw _ (List.mem_of_getElem? (i := 15) rfl))) (mvT hZ (hw _ (List.mem_of_getElem? (i := 3) rfl))) (mvT hZ (hw _ (List.mem_of_getElem? (i := 16) rfl))) (by decide) (backOf (W := 0) (rm4 l Z aw hw [] z50 (own_f3 q3 (4 : Int32) z3) h0 n0 Z0) hZ (hw _ (List.mem_of_getElem? (i := 16) rfl)) (hw _ (List.mem_of_getElem? (i := 3) rfl)) (by decide) (by decide)) (g := (mkF m 247 #[iv p0, jv q1, .second, iv p2, jv q3, .second, iv p4, iv z3, iv ((((p2.toUInt32 >>> ((4 : Int32) &&& 31).toUInt32).toInt32) &&& (7 : Int32)) % (6 : Int32)), iv z4, iv z6, iv z8, iv z10, jv z12, .second, jv z15, .second, jv z18, .second, jv z21, .second, jv z24, .second, jv z27, .second, jv z34, .second, jv z42, .second, jv z50, .second, .unset, .unset, .unset, .unset, .unset, .unset, .unset, .unset, .unset, .unset, .unset, .unset, .unset, .unset, .unset, .unset, .unset, .unset, .unset] [(.long (own_f3 q3 (4 : Int32) z3)), (.long z50)])) rfl (by rw [hml]; rfl) (argsL := [(.long z50), (.long (own_f3 q3 (4 : Int32) z3))]) (rest := []) (lenOf pd_3 rfl) rfl (by show 2 * 0 + _ ≤ _; exact Nat.le_of_eq rfl) (hb hby at_247) (fun _ _ => ⟨rfl, eh639, (by decide : 0 + 0 ≤ _), (by decide : 0 + 0 ≤ _)⟩)
                  dsimp only [Pt.U, Pt.locs, Pt.cells, Pt.slots] at X641 l641 y641 z641 st641 hQ641
                  subst l641 y641 z641
                  obtain ⟨rfl, N641q, eh641⟩ := hQ641
                  have N642 := Fr.app N640 N641q
                  refine own_via (fun k => st641 _ k) ?_
                  show own_Go p e below s _ _ (T641.setTop (mkF m 250 #[iv p0, jv q1, .second, iv p2, jv q3, .second, iv p4, iv z3, iv ((((p2.toUInt32 >>> ((4 : Int32) &&& 31).toUInt32).toInt32) &&& (7 : Int32)) % (6 : Int32)), iv z4, iv z6, iv z8, iv z10, jv z12, .second, jv z15, .second, jv z18, .second, jv z21, .second, jv z24, .second, jv z27, .second, jv z34, .second, jv z42, .second, jv z50, .second, .unset, .unset, .unset, .unset, .unset, .unset, .unset, .unset, .unset, .unset, .unset, .unset, .unset, .unset, .unset, .unset, .unset, .unset, .unset] [(.long (own_f4 z50 (own_f3 q3 (4 : Int32) z3)))]))
                  refine own_via (fun k => XS.goto X641.here hx rfl (pc0 := 250) (pc' := 261) rfl (hb hby at_250) (by decide) (by decide) k) ?_
                  show own_Go p e below s _ _ (T641.setTop (mkF m 261 #[iv p0, jv q1, .second, iv p2, jv q3, .second, iv p4, iv z3, iv ((((p2.toUInt32 >>> ((4 : Int32) &&& 31).toUInt32).toInt32) &&& (7 : Int32)) % (6 : Int32)), iv z4, iv z6, iv z8, iv z10, jv z12, .second, jv z15, .second, jv z18, .second, jv z21, .second, jv z24, .second, jv z27, .second, jv z34, .second, jv z42, .second, jv z50, .second, .unset, .unset, .unset, .unset, .unset, .unset, .unset, .unset, .unset, .unset, .unset, .unset, .unset, .unset, .unset, .unset, .unset, .unset, .unset] [(.long (own_f4 z50 (own_f3 q3 (4 : Int32) z3)))]))
                  exact J59 _ _ X641 N642 eh641 (own_f4 z50 (own_f3 q3 (4 : Int32) z3)) (((if_neg hc636).trans rfl)).symm
              by_cases hc643 : z8 = (0 : Int32)
              · refine own_via (fun k => XS.ifYes X43.here hx rfl (pc0 := 203) (pc' := 222) rfl (hb hby at_203) rfl ((if0 _ _).trans (teq hc643).1) (by decide) (by decide) k) ?_
                show own_Go p e below s _ _ (T43.setTop (mkF m 222 #[iv p0, jv q1, .second, iv p2, jv q3, .second, iv p4, iv z3, iv ((((p2.toUInt32 >>> ((4 : Int32) &&& 31).toUInt32).toInt32) &&& (7 : Int32)) % (6 : Int32)), iv z4, iv z6, iv z8, iv z10, jv z12, .second, jv z15, .second, jv z18, .second, jv z21, .second, jv z24, .second, jv z27, .second, jv z34, .second, jv z42, .second, .unset, .unset, .unset, .unset, .unset, .unset, .unset, .unset, .unset, .unset, .unset, .unset, .unset, .unset, .unset, .unset, .unset, .unset, .unset, .unset, .unset] []))
                refine own_via (fun k => XS.lload X43.here hx rfl (hb hby at_222) rfl  (XS.iconst X43.here hx rfl (hb hby at_224) (XS.iload X43.here hx rfl (hb hby at_225) rfl  k))) ?_
                show own_Go p e below s _ _ (T43.setTop (mkF m 227 #[iv p0, jv q1, .second, iv p2, jv q3, .second, iv p4, iv z3, iv ((((p2.toUInt32 >>> ((4 : Int32) &&& 31).toUInt32).toInt32) &&& (7 : Int32)) % (6 : Int32)), iv z4, iv z6, iv z8, iv z10, jv z12, .second, jv z15, .second, jv z18, .second, jv z21, .second, jv z24, .second, jv z27, .second, jv z34, .second, jv z42, .second, .unset, .unset, .unset, .unset, .unset, .unset, .unset, .unset, .unset, .unset, .unset, .unset, .unset, .unset, .unset, .unset, .unset, .unset, .unset, .unset, .unset] [(.int z3), (.int 3), (.long q3)]))
                obtain ⟨_, _, ⟨T644, L644, k644, n644⟩, -, X644, ⟨Lc644, hQ644, l644, y644, z644⟩, st644⟩ := Jvm.LawKit.callS X43 hx (y := (⟨"com/example/waveslot/waveslot/core/CheckerStepsRepeatedQuotientsPinLaw", "draw", "(JII)J"⟩ : MethodName)) hown (mvT hZ (hw _ (List.mem_of_getElem? (i := 10) rfl))) (mvT hZ (hw _ (List.mem_of_getElem? (i := 11) rfl))) (mvT hZ (hw _ (List.mem_of_getElem? (i := 8) rfl))) (mvT hZ (hw _ (List.mem_of_getElem? (i := 12) rfl))) (by decide) (backOf (W := 0) (rm3 l Z aw hw [] q3 (3 : Int32) z3 h0 n0 Z0 (own_hhn3 p0 z3 hz3)) hZ (hw _ (List.mem_of_getElem? (i := 12) rfl)) (hw _ (List.mem_of_getElem? (i := 8) rfl)) (by decide) (by decide)) (g := (mkF m 227 #[iv p0, jv q1, .second, iv p2, jv q3, .second, iv p4, iv z3, iv ((((p2.toUInt32 >>> ((4 : Int32) &&& 31).toUInt32).toInt32) &&& (7 : Int32)) % (6 : Int32)), iv z4, iv z6, iv z8, iv z10, jv z12, .second, jv z15, .second, jv z18, .second, jv z21, .second, jv z24, .second, jv z27, .second, jv z34, .second, jv z42, .second, .unset, .unset, .unset, .unset, .unset, .unset, .unset, .unset, .unset, .unset, .unset, .unset, .unset, .unset, .unset, .unset, .unset, .unset, .unset, .unset, .unset] [(.int z3), (.int 3), (.long q3)])) rfl (by rw [hml]; rfl) (argsL := [(.long q3), (.int 3), (.int z3)]) (rest := []) (lenOf pd_2 rfl) rfl (by show 2 * 0 + _ ≤ _; exact Nat.le_of_eq rfl) (hb hby at_227) (fun _ _ => ⟨rfl, e43, (by decide : 0 + 0 ≤ _), (by decide : 0 + 0 ≤ _)⟩)
                dsimp only [Pt.U, Pt.locs, Pt.cells, Pt.slots] at X644 l644 y644 z644 st644 hQ644
                subst l644 y644 z644
                obtain ⟨rfl, N644q, eh644⟩ := hQ644
                have N645 := Fr.app N43 N644q
                refine own_via (fun k => st644 _ k) ?_
                show own_Go p e below s _ _ (T644.setTop (mkF m 230 #[iv p0, jv q1, .second, iv p2, jv q3, .second, iv p4, iv z3, iv ((((p2.toUInt32 >>> ((4 : Int32) &&& 31).toUInt32).toInt32) &&& (7 : Int32)) % (6 : Int32)), iv z4, iv z6, iv z8, iv z10, jv z12, .second, jv z15, .second, jv z18, .second, jv z21, .second, jv z24, .second, jv z27, .second, jv z34, .second, jv z42, .second, .unset, .unset, .unset, .unset, .unset, .unset, .unset, .unset, .unset, .unset, .unset, .unset, .unset, .unset, .unset, .unset, .unset, .unset, .unset, .unset, .unset] [(.long (own_f3 q3 (3 : Int32) z3))]))
                exact J51 _ _ X644 N645 eh644 (own_f3 q3 (3 : Int32) z3) (((if_pos hc643).trans rfl)).symm
              · refine own_via (fun k => XS.ifNo X43.here hx rfl (hb hby at_203) rfl ((if0 _ _).trans (feq hc643).1) k) ?_
                show own_Go p e below s _ _ (T43.setTop (mkF m 206 #[iv p0, jv q1, .second, iv p2, jv q3, .second, iv p4, iv z3, iv ((((p2.toUInt32 >>> ((4 : Int32) &&& 31).toUInt32).toInt32) &&& (7 : Int32)) % (6 : Int32)), iv z4, iv z6, iv z8, iv z10, jv z12, .second, jv z15, .second, jv z18, .second, jv z21, .second, jv z24, .second, jv z27, .second, jv z34, .second, jv z42, .second, .unset, .unset, .unset, .unset, .unset, .unset, .unset, .unset, .unset, .unset, .unset, .unset, .unset, .unset, .unset, .unset, .unset, .unset, .unset, .unset, .unset] []))
                refine own_via (fun k => XS.lload X43.here hx rfl (hb hby at_206) rfl  (XS.lload X43.here hx rfl (hb hby at_208) rfl  (XS.iconst X43.here hx rfl (hb hby at_210) (XS.iload X43.here hx rfl (hb hby at_211) rfl  k)))) ?_
                show own_Go p e below s _ _ (T43.setTop (mkF m 213 #[iv p0, jv q1, .second, iv p2, jv q3, .second, iv p4, iv z3, iv ((((p2.toUInt32 >>> ((4 : Int32) &&& 31).toUInt32).toInt32) &&& (7 : Int32)) % (6 : Int32)), iv z4, iv z6, iv z8, iv z10, jv z12, .second, jv z15, .second, jv z18, .second, jv z21, .second, jv z24, .second, jv z27, .second, jv z34, .second, jv z42, .second, .unset, .unset, .unset, .unset, .unset, .unset, .unset, .unset, .unset, .unset, .unset, .unset, .unset, .unset, .unset, .unset, .unset, .unset, .unset, .unset, .unset] [(.int z3), (.int 3), (.long q3), (.long z42)]))
                obtain ⟨_, _, ⟨T646, L646, k646, n646⟩, -, X646, ⟨Lc646, hQ646, l646, y646, z646⟩, st646⟩ := Jvm.LawKit.callS X43 hx (y := (⟨"com/example/waveslot/waveslot/core/CheckerStepsRepeatedQuotientsPinLaw", "draw", "(JII)J"⟩ : MethodName)) hown (mvT hZ (hw _ (List.mem_of_getElem? (i := 10) rfl))) (mvT hZ (hw _ (List.mem_of_getElem? (i := 11) rfl))) (mvT hZ (hw _ (List.mem_of_getElem? (i := 8) rfl))) (mvT hZ (hw _ (List.mem_of_getElem? (i := 12) rfl))) (by decide) (backOf (W := 2) (rm3 l Z aw hw [] q3 (3 : Int32) z3 h0 n0 Z0 (own_hhn3 p0 z3 hz3)) hZ (hw _ (List.mem_of_getElem? (i := 12) rfl)) (hw _ (List.mem_of_getElem? (i := 8) rfl)) (by decide) (by decide)) (g := (mkF m 213 #[iv p0, jv q1, .second, iv p2, jv q3, .second, iv p4, iv z3, iv ((((p2.toUInt32 >>> ((4 : Int32) &&& 31).toUInt32).toInt32) &&& (7 : Int32)) % (6 : Int32)), iv z4, iv z6, iv z8, iv z10, jv z12, .second, jv z15, .second, jv z18, .second, jv z21, .second, jv z24, .second, jv z27, .second, jv z34, .second, jv z42, .second, .unset, .unset, .unset, .unset, .unset, .unset, .unset, .unset, .unset, .unset, .unset, .unset, .unset, .unset, .unset, .unset, .unset, .unset, .unset, .unset, .unset] [(.int z3), (.int 3), (.long q3), (.long z42)])) rfl (by rw [hml]; rfl) (argsL := [(.long q3), (.int 3), (.int z3)]) (rest := [(.long z42)]) (lenOf pd_2 rfl) rfl (by show 2 * 0 + _ ≤ _; exact Nat.le_of_eq rfl) (hb hby at_213) (fun _ _ => ⟨rfl, e43, (by decide : 0 + 0 ≤ _), (by decide : 0 + 0 ≤ _)⟩)
                dsimp only [Pt.U, Pt.locs, Pt.cells, Pt.slots] at X646 l646 y646 z646 st646 hQ646
                subst l646 y646 z646
                obtain ⟨rfl, N646q, eh646⟩ := hQ646
                have N647 := Fr.app N43 N646q
                refine own_via (fun k => st646 _ k) ?_
                show own_Go p e below s _ _ (T646.setTop (mkF m 216 #[iv p0, jv q1, .second, iv p2, jv q3, .second, iv p4, iv z3, iv ((((p2.toUInt32 >>> ((4 : Int32) &&& 31).toUInt32).toInt32) &&& (7 : Int32)) % (6 : Int32)), iv z4, iv z6, iv z8, iv z10, jv z12, .second, jv z15, .second, jv z18, .second, jv z21, .second, jv z24, .second, jv z27, .second, jv z34, .second, jv z42, .second, .unset, .unset, .unset, .unset, .unset, .unset, .unset, .unset, .unset, .unset, .unset, .unset, .unset, .unset, .unset, .unset, .unset, .unset, .unset, .unset, .unset] [(.long (own_f3 q3 (3 : Int32) z3)), (.long z42)]))
                obtain ⟨_, _, ⟨T648, L648, k648, n648⟩, -, X648, ⟨Lc648, hQ648, l648, y648, z648⟩, st648⟩ := Jvm.LawKit.callS X646 hx (y := (⟨"java/lang/Math", "max", "(JJ)J"⟩ : MethodName)) hown (mvT hZ (hw _ (List.mem_of_getElem? (i := 14) rfl))) (mvT hZ (hw _ (List.mem_of_getElem? (i := 15) rfl))) (mvT hZ (hw _ (List.mem_of_getElem? (i := 3) rfl))) (mvT hZ (hw _ (List.mem_of_getElem? (i := 16) rfl))) (by decide) (backOf (W := 0) (rm4 l Z aw hw [] z42 (own_f3 q3 (3 : Int32) z3) h0 n0 Z0) hZ (hw _ (List.mem_of_getElem? (i := 16) rfl)) (hw _ (List.mem_of_getElem? (i := 3) rfl)) (by decide) (by decide)) (g := (mkF m 216 #[iv p0, jv q1, .second, iv p2, jv q3, .second, iv p4, iv z3, iv ((((p2.toUInt32 >>> ((4 : Int32) &&& 31).toUInt32).toInt32) &&& (7 : Int32)) % (6 : Int32)), iv z4, iv z6, iv z8, iv z10, jv z12, .second, jv z15, .second, jv z18, .second, jv z21, .second, jv z24, .second, jv z27, .second, jv z34, .second, jv z42, .second, .unset, .unset, .unset, .unset, .unset, .unset, .unset, .unset, .unset, .unset, .unset, .unset, .unset, .unset, .unset, .unset, .unset, .unset, .unset, .unset, .unset] [(.long (own_f3 q3 (3 : Int32) z3)), (.long z42)])) rfl (by rw [hml]; rfl) (argsL := [(.long z42), (.long (own_f3 q3 (3 : Int32) z3))]) (rest := []) (lenOf pd_3 rfl) rfl (by show 2 * 0 + _ ≤ _; exact Nat.le_of_eq rfl) (hb hby at_216) (fun _ _ => ⟨rfl, eh646, (by decide : 0 + 0 ≤ _), (by decide : 0 + 0 ≤ _)⟩)
                dsimp only [Pt.U, Pt.locs, Pt.cells, Pt.slots] at X648 l648 y648 z648 st648 hQ648
                subst l648 y648 z648
                obtain ⟨rfl, N648q, eh648⟩ := hQ648
                have N649 := Fr.app N647 N648q
                refine own_via (fun k => st648 _ k) ?_
                show own_Go p e below s _ _ (T648.setTop (mkF m 219 #[iv p0, jv q1, .second, iv p2, jv q3, .second, iv p4, iv z3, iv ((((p2.toUInt32 >>> ((4 : Int32) &&& 31).toUInt32).toInt32) &&& (7 : Int32)) % (6 : Int32)), iv z4, iv z6, iv z8, iv z10, jv z12, .second, jv z15, .second, jv z18, .second, jv z21, .second, jv z24, .second, jv z27, .second, jv z34, .second, jv z42, .second, .unset, .unset, .unset, .unset, .unset, .unset, .unset, .unset, .unset, .unset, .unset, .unset, .unset, .unset, .unset, .unset, .unset, .unset, .unset, .unset, .unset] [(.long (own_f4 z42 (own_f3 q3 (3 : Int32) z3)))]))
                refine own_via (fun k => XS.goto X648.here hx rfl (pc0 := 219) (pc' := 230) rfl (hb hby at_219) (by decide) (by decide) k) ?_
                show own_Go p e below s _ _ (T648.setTop (mkF m 230 #[iv p0, jv q1, .second, iv p2, jv q3, .second, iv p4, iv z3, iv ((((p2.toUInt32 >>> ((4 : Int32) &&& 31).toUInt32).toInt32) &&& (7 : Int32)) % (6 : Int32)), iv z4, iv z6, iv z8, iv z10, jv z12, .second, jv z15, .second, jv z18, .second, jv z21, .second, jv z24, .second, jv z27, .second, jv z34, .second, jv z42, .second, .unset, .unset, .unset, .unset, .unset, .unset, .unset, .unset, .unset, .unset, .unset, .unset, .unset, .unset, .unset, .unset, .unset, .unset, .unset, .unset, .unset] [(.long (own_f4 z42 (own_f3 q3 (3 : Int32) z3)))]))
                exact J51 _ _ X648 N649 eh648 (own_f4 z42 (own_f3 q3 (3 : Int32) z3)) (((if_neg hc643).trans rfl)).symm
            by_cases hc650 : z6 = (0 : Int32)
            · refine own_via (fun k => XS.ifYes X35.here hx rfl (pc0 := 172) (pc' := 191) rfl (hb hby at_172) rfl ((if0 _ _).trans (teq hc650).1) (by decide) (by decide) k) ?_
              show own_Go p e below s _ _ (T35.setTop (mkF m 191 #[iv p0, jv q1, .second, iv p2, jv q3, .second, iv p4, iv z3, iv ((((p2.toUInt32 >>> ((4 : Int32) &&& 31).toUInt32).toInt32) &&& (7 : Int32)) % (6 : Int32)), iv z4, iv z6, iv z8, iv z10, jv z12, .second, jv z15, .second, jv z18, .second, jv z21, .second, jv z24, .second, jv z27, .second, jv z34, .second, .unset, .unset, .unset, .unset, .unset, .unset, .unset, .unset, .unset, .unset, .unset, .unset, .unset, .unset, .unset, .unset, .unset, .unset, .unset, .unset, .unset, .unset, .unset] []))
              refine own_via (fun k => XS.lload X35.here hx rfl (hb hby at_191) rfl  (XS.iconst X35.here hx rfl (hb hby at_193) (XS.iload X35.here hx rfl (hb hby at_194) rfl  k))) ?_
              show own_Go p e below s _ _ (T35.setTop (mkF m 196 #[iv p0, jv q1, .second, iv p2, jv q3, .second, iv p4, iv z3, iv ((((p2.toUInt32 >>> ((4 : Int32) &&& 31).toUInt32).toInt32) &&& (7 : Int32)) % (6 : Int32)), iv z4, iv z6, iv z8, iv z10, jv z12, .second, jv z15, .second, jv z18, .second, jv z21, .second, jv z24, .second, jv z27, .second, jv z34, .second, .unset, .unset, .unset, .unset, .unset, .unset, .unset, .unset, .unset, .unset, .unset, .unset, .unset, .unset, .unset, .unset, .unset, .unset, .unset, .unset, .unset, .unset, .unset] [(.int z3), (.int 2), (.long q3)]))
              obtain ⟨_, _, ⟨T651, L651, k651, n651⟩, -, X651, ⟨Lc651, hQ651, l651, y651, z651⟩, st651⟩ := Jvm.LawKit.callS X35 hx (y := (⟨"com/example/waveslot/waveslot/core/CheckerStepsRepeatedQuotientsPinLaw", "draw", "(JII)J"⟩ : MethodName)) hown (mvT hZ (hw _ (List.mem_of_getElem? (i := 10) rfl))) (mvT hZ (hw _ (List.mem_of_getElem? (i := 11) rfl))) (mvT hZ (hw _ (List.mem_of_getElem? (i := 8) rfl))) (mvT hZ (hw _ (List.mem_of_getElem? (i := 12) rfl))) (by decide) (backOf (W := 0) (rm3 l Z aw hw [] q3 (2 : Int32) z3 h0 n0 Z0 (own_hhn3 p0 z3 hz3)) hZ (hw _ (List.mem_of_getElem? (i := 12) rfl)) (hw _ (List.mem_of_getElem? (i := 8) rfl)) (by decide) (by decide)) (g := (mkF m 196 #[iv p0, jv q1, .second, iv p2, jv q3, .second, iv p4, iv z3, iv ((((p2.toUInt32 >>> ((4 : Int32) &&& 31).toUInt32).toInt32) &&& (7 : Int32)) % (6 : Int32)), iv z4, iv z6, iv z8, iv z10, jv z12, .second, jv z15, .second, jv z18, .second, jv z21, .second, jv z24, .second, jv z27, .second, jv z34, .second, .unset, .unset, .unset, .unset, .unset, .unset, .unset, .unset, .unset, .unset, .unset, .unset, .unset, .unset, .unset, .unset, .unset, .unset, .unset, .unset, .unset, .unset, .unset] [(.int z3), (.int 2), (.long q3)])) rfl (by rw [hml]; rfl) (argsL := [(.long q3), (.int 2), (.int z3)]) (rest := []) (lenOf pd_2 rfl) rfl (by show 2 * 0 + _ ≤ _; exact Nat.le_of_eq rfl) (hb hby at_196) (fun _ _ => ⟨rfl, e35, (by decide : 0 + 0 ≤ _), (by decide : 0 + 0 ≤ _)⟩)
              dsimp only [Pt.U, Pt.locs, Pt.cells, Pt.slots] at X651 l651 y651 z651 st651 hQ651
              subst l651 y651 z651
              obtain ⟨rfl, N651q, eh651⟩ := hQ651
              have N652 := Fr.app N35 N651q
              refine own_via (fun k => st651 _ k) ?_
              show own_Go p e below s _ _ (T651.setTop (mkF m 199 #[iv p0, jv q1, .second, iv p2, jv q3, .second, iv p4, iv z3, iv ((((p2.toUInt32 >>> ((4 : Int32) &&& 31).toUInt32).toInt32) &&& (7 : Int32)) % (6 : Int32)), iv z4, iv z6, iv z8, iv z10, jv z12, .second, jv z15, .second, jv z18, .second, jv z21, .second, jv z24, .second, jv z27, .second, jv z34, .second, .unset, .unset, .unset, .unset, .unset, .unset, .unset, .unset, .unset, .unset, .unset, .unset, .unset, .unset, .unset, .unset, .unset, .unset, .unset, .unset, .unset, .unset, .unset] [(.long (own_f3 q3 (2 : Int32) z3))]))
              exact J43 _ _ X651 N652 eh651 (own_f3 q3 (2 : Int32) z3) (((if_pos hc650).trans rfl)).symm
            · refine own_via (fun k => XS.ifNo X35.here hx rfl (hb hby at_172) rfl ((if0 _ _).trans (feq hc650).1) k) ?_
              show own_Go p e below s _ _ (T35.setTop (mkF m 175 #[iv p0, jv q1, .second, iv p2, jv q3, .second, iv p4, iv z3, iv ((((p2.toUInt32 >>> ((4 : Int32) &&& 31).toUInt32).toInt32) &&& (7 : Int32)) % (6 : Int32)), iv z4, iv z6, iv z8, iv z10, jv z12, .second, jv z15, .second, jv z18, .second, jv z21, .second, jv z24, .second, jv z27, .second, jv z34, .second, .unset, .unset, .unset, .unset, .unset, .unset, .unset, .unset, .unset, .unset, .unset, .unset, .unset, .unset, .unset, .unset, .unset, .unset, .unset, .unset, .unset, .unset, .unset] []))
              refine own_via (fun k => XS.lload X35.here hx rfl (hb hby at_175) rfl  (XS.lload X35.here hx rfl (hb hby at_177) rfl  (XS.iconst X35.here hx rfl (hb hby at_179) (XS.iload X35.here hx rfl (hb hby at_180) rfl  k)))) ?_
              show own_Go p e below s _ _ (T35.setTop (mkF m 182 #[iv p0, jv q1, .second, iv p2, jv q3, .second, iv p4, iv z3, iv ((((p2.toUInt32 >>> ((4 : Int32) &&& 31).toUInt32).toInt32) &&& (7 : Int32)) % (6 : Int32)), iv z4, iv z6, iv z8, iv z10, jv z12, .second, jv z15, .second, jv z18, .second, jv z21, .second, jv z24, .second, jv z27, .second, jv z34, .second, .unset, .unset, .unset, .unset, .unset, .unset, .unset, .unset, .unset, .unset, .unset, .unset, .unset, .unset, .unset, .unset, .unset, .unset, .unset, .unset, .unset, .unset, .unset] [(.int z3), (.int 2), (.long q3), (.long z34)]))
              obtain ⟨_, _, ⟨T653, L653, k653, n653⟩, -, X653, ⟨Lc653, hQ653, l653, y653, z653⟩, st653⟩ := Jvm.LawKit.callS X35 hx (y := (⟨"com/example/waveslot/waveslot/core/CheckerStepsRepeatedQuotientsPinLaw", "draw", "(JII)J"⟩ : MethodName)) hown (mvT hZ (hw _ (List.mem_of_getElem? (i := 10) rfl))) (mvT hZ (hw _ (List.mem_of_getElem? (i := 11) rfl))) (mvT hZ (hw _ (List.mem_of_getElem? (i := 8) rfl))) (mvT hZ (hw _ (List.mem_of_getElem? (i := 12) rfl))) (by decide) (backOf (W := 2) (rm3 l Z aw hw [] q3 (2 : Int32) z3 h0 n0 Z0 (own_hhn3 p0 z3 hz3)) hZ (hw _ (List.mem_of_getElem? (i := 12) rfl)) (hw _ (List.mem_of_getElem? (i := 8) rfl)) (by decide) (by decide)) (g := (mkF m 182 #[iv p0, jv q1, .second, iv p2, jv q3, .second, iv p4, iv z3, iv ((((p2.toUInt32 >>> ((4 : Int32) &&& 31).toUInt32).toInt32) &&& (7 : Int32)) % (6 : Int32)), iv z4, iv z6, iv z8, iv z10, jv z12, .second, jv z15, .second, jv z18, .second, jv z21, .second, jv z24, .second, jv z27, .second, jv z34, .second, .unset, .unset, .unset, .unset, .unset, .unset, .unset, .unset, .unset, .unset, .unset, .unset, .unset, .unset, .unset, .unset, .unset, .unset, .unset, .unset, .unset, .unset, .unset] [(.int z3), (.int 2), (.long q3), (.long z34)])) rfl (by rw [hml]; rfl) (argsL := [(.long q3), (.int 2), (.int z3)]) (rest := [(.long z34)]) (lenOf pd_2 rfl) rfl (by show 2 * 0 + _ ≤ _; exact Nat.le_of_eq rfl) (hb hby at_182) (fun _ _ => ⟨rfl, e35, (by decide : 0 + 0 ≤ _), (by decide : 0 + 0 ≤ _)⟩)
              dsimp only [Pt.U, Pt.locs, Pt.cells, Pt.slots] at X653 l653 y653 z653 st653 hQ653
              subst l653 y653 z653
              obtain ⟨rfl, N653q, eh653⟩ := hQ653
              have N654 := Fr.app N35 N653q
              refine own_via (fun k => st653 _ k) ?_
              show own_Go p e below s _ _ (T653.setTop (mkF m 185 #[iv p0, jv q1, .second, iv p2, jv q3, .second, iv p4, iv z3, iv ((((p2.toUInt32 >>> ((4 : Int32) &&& 31).toUInt32).toInt32) &&& (7 : Int32)) % (6 : Int32)), iv z4, iv z6, iv z8, iv z10, jv z12, .second, jv z15, .second, jv z18, .second, jv z21, .second, jv z24, .second, jv z27, .second, jv z34, .second, .unset, .unset, .unset, .unset, .unset, .unset, .unset, .unset, .unset, .unset, .unset, .unset, .unset, .unset, .unset, .unset, .unset, .unset, .unset, .unset, .unset, .unset, .unset] [(.long (own_f3 q3 (2 : Int32) z3)), (.long z34)]))
              obtain ⟨_, _, ⟨T655, L655, k655, n655⟩, -, X655, ⟨Lc655, hQ655, l655, y655, z655⟩, st655⟩ := Jvm.LawKit.callS X653 hx (y := (⟨"java/lang/Math", "max", "(JJ)J"⟩ : MethodName)) hown (mvT hZ (hw _ (List.mem_of_getElem? (i := 14) rfl))) (mvT hZ (hw _ (List.mem_of_getElem? (i := 15) rfl))) (mvT hZ (hw _ (List.mem_of_getElem? (i := 3) rfl))) (mvT hZ (hw _ (List.mem_of_getElem? (i := 16) rfl))) (by decide) (backOf (W := 0) (rm4 l Z aw hw [] z34 (own_f3 q3 (2 : Int32) z3) h0 n0 Z0) hZ (hw _ (List.mem_of_getElem? (i := 16) rfl)) (hw _ (List.mem_of_getElem? (i := 3) rfl)) (by decide) (by decide)) (g := (mkF m 185 #[iv p0, jv q1, .second, iv p2, jv q3, .second, iv p4, iv z3, iv ((((p2.toUInt32 >>> ((4 : Int32) &&& 31).toUInt32).toInt32) &&& (7 : Int32)) % (6 : Int32)), iv z4, iv z6, iv z8, iv z10, jv z12, .second, jv z15, .second, jv z18, .second, jv z21, .second, jv z24, .second, jv z27, .second, jv z34, .second, .unset, .unset, .unset, .unset, .unset, .unset, .unset, .unset, .unset, .unset, .unset, .unset, .unset, .unset, .unset, .unset, .unset, .unset, .unset, .unset, .unset, .unset, .unset] [(.long (own_f3 q3 (2 : Int32) z3)), (.long z34)])) rfl (by rw [hml]; rfl) (argsL := [(.long z34), (.long (own_f3 q3 (2 : Int32) z3))]) (rest := []) (lenOf pd_3 rfl) rfl (by show 2 * 0 + _ ≤ _; exact Nat.le_of_eq rfl) (hb hby at_185) (fun _ _ => ⟨rfl, eh653, (by decide : 0 + 0 ≤ _), (by decide : 0 + 0 ≤ _)⟩)
              dsimp only [Pt.U, Pt.locs, Pt.cells, Pt.slots] at X655 l655 y655 z655 st655 hQ655
              subst l655 y655 z655
              obtain ⟨rfl, N655q, eh655⟩ := hQ655
              have N656 := Fr.app N654 N655q
              refine own_via (fun k => st655 _ k) ?_
              show own_Go p e below s _ _ (T655.setTop (mkF m 188 #[iv p0, jv q1, .second, iv p2, jv q3, .second, iv p4, iv z3, iv ((((p2.toUInt32 >>> ((4 : Int32) &&& 31).toUInt32).toInt32) &&& (7 : Int32)) % (6 : Int32)), iv z4, iv z6, iv z8, iv z10, jv z12, .second, jv z15, .second, jv z18, .second, jv z21, .second, jv z24, .second, jv z27, .second, jv z34, .second, .unset, .unset, .unset, .unset, .unset, .unset, .unset, .unset, .unset, .unset, .unset, .unset, .unset, .unset, .unset, .unset, .unset, .unset, .unset, .unset, .unset, .unset, .unset] [(.long (own_f4 z34 (own_f3 q3 (2 : Int32) z3)))]))
              refine own_via (fun k => XS.goto X655.here hx rfl (pc0 := 188) (pc' := 199) rfl (hb hby at_188) (by decide) (by decide) k) ?_
              show own_Go p e below s _ _ (T655.setTop (mkF m 199 #[iv p0, jv q1, .second, iv p2, jv q3, .second, iv p4, iv z3, iv ((((p2.toUInt32 >>> ((4 : Int32) &&& 31).toUInt32).toInt32) &&& (7 : Int32)) % (6 : Int32)), iv z4, iv z6, iv z8, iv z10, jv z12, .second, jv z15, .second, jv z18, .second, jv z21, .second, jv z24, .second, jv z27, .second, jv z34, .second, .unset, .unset, .unset, .unset, .unset, .unset, .unset, .unset, .unset, .unset, .unset, .unset, .unset, .unset, .unset, .unset, .unset, .unset, .unset, .unset, .unset, .unset, .unset] [(.long (own_f4 z34 (own_f3 q3 (2 : Int32) z3)))]))
              exact J43 _ _ X655 N656 eh655 (own_f4 z34 (own_f3 q3 (2 : Int32) z3)) (((if_neg hc650).trans rfl)).symm
          by_cases hc657 : z4 = (0 : Int32)
          · refine own_via (fun k => XS.ifYes X25.here hx rfl (pc0 := 141) (pc' := 160) rfl (hb hby at_141) rfl ((if0 _ _).trans (teq hc657).1) (by decide) (by decide) k) ?_
            show own_Go p e below s _ _ (T25.setTop (mkF m 160 #[iv p0, jv q1, .second, iv p2, jv q3, .second, iv p4, iv z3, iv ((((p2.toUInt32 >>> ((4 : Int32) &&& 31).toUInt32).toInt32) &&& (7 : Int32)) % (6 : Int32)), iv z4, iv z6, iv z8, iv z10, jv z12, .second, jv z15, .second, jv z18, .second, jv z21, .second, jv z24, .second, jv z27, .second, .unset, .unset, .unset, .unset, .unset, .unset, .unset, .unset, .unset, .unset, .unset, .unset, .unset, .unset, .unset, .unset, .unset, .unset, .unset, .unset, .unset, .unset, .unset, .unset, .unset] []))
            refine own_via (fun k => XS.lload X25.here hx rfl (hb hby at_160) rfl  (XS.iconst X25.here hx rfl (hb hby at_162) (XS.iload X25.here hx rfl (hb hby at_163) rfl  k))) ?_
            show own_Go p e below s _ _ (T25.setTop (mkF m 165 #[iv p0, jv q1, .second, iv p2, jv q3, .second, iv p4, iv z3, iv ((((p2.toUInt32 >>> ((4 : Int32) &&& 31).toUInt32).toInt32) &&& (7 : Int32)) % (6 : Int32)), iv z4, iv z6, iv z8, iv z10, jv z12, .second, jv z15, .second, jv z18, .second, jv z21, .second, jv z24, .second, jv z27, .second, .unset, .unset, .unset, .unset, .unset, .unset, .unset, .unset, .unset, .unset, .unset, .unset, .unset, .unset, .unset, .unset, .unset, .unset, .unset, .unset, .unset, .unset, .unset, .unset, .unset] [(.int z3), (.int 1), (.long q3)]))
            obtain ⟨_, _, ⟨T658, L658, k658, n658⟩, -, X658, ⟨Lc658, hQ658, l658, y658, z658⟩, st658⟩ := Jvm.LawKit.callS X25 hx (y := (⟨"com/example/waveslot/waveslot/core/CheckerStepsRepeatedQuotientsPinLaw", "draw", "(JII)J"⟩ : MethodName)) hown (mvT hZ (hw _ (List.mem_of_getElem? (i := 10) rfl))) (mvT hZ (hw _ (List.mem_of_getElem? (i := 11) rfl))) (mvT hZ (hw _ (List.mem_of_getElem? (i := 8) rfl))) (mvT hZ (hw _ (List.mem_of_getElem? (i := 12) rfl))) (by decide) (backOf (W := 0) (rm3 l Z aw hw [] q3 (1 : Int32) z3 h0 n0 Z0 (own_hhn3 p0 z3 hz3)) hZ (hw _ (List.mem_of_getElem? (i := 12) rfl)) (hw _ (List.mem_of_getElem? (i := 8) rfl)) (by decide) (by decide)) (g := (mkF m 165 #[iv p0, jv q1, .second, iv p2, jv q3, .second, iv p4, iv z3, iv ((((p2.toUInt32 >>> ((4 : Int32) &&& 31).toUInt32).toInt32) &&& (7 : Int32)) % (6 : Int32)), iv z4, iv z6, iv z8, iv z10, jv z12, .second, jv z15, .second, jv z18, .second, jv z21, .second, jv z24, .second, jv z27, .second, .unset, .unset, .unset, .unset, .unset, .unset, .unset, .unset, .unset, .unset, .unset, .unset, .unset, .unset, .unset, .unset, .unset, .unset, .unset, .unset, .unset, .unset, .unset, .unset, .unset] [(.int z3), (.int 1), (.long q3)])) rfl (by rw [hml]; rfl) (argsL := [(.long q3), (.int 1), (.int z3)]) (rest := []) (lenOf pd_2 rfl) rfl (by show 2 * 0 + _ ≤ _; exact Nat.le_of_eq rfl) (hb hby at_165) (fun _ _ => ⟨rfl, eh25, (by decide : 0 + 0 ≤ _), (by decide : 0 + 0 ≤ _)⟩)
            dsimp only [Pt.U, Pt.locs, Pt.cells, Pt.slots] at X658 l658 y658 z658 st658 hQ658
            subst l658 y658 z658
            obtain ⟨rfl, N658q, eh658⟩ := hQ658
            have N659 := Fr.app N26 N658q
            refine own_via (fun k => st658 _ k) ?_
            show own_Go p e below s _ _ (T658.setTop (mkF m 168 #[iv p0, jv q1, .second, iv p2, jv q3, .second, iv p4, iv z3, iv ((((p2.toUInt32 >>> ((4 : Int32) &&& 31).toUInt32).toInt32) &&& (7 : Int32)) % (6 : Int32)), iv z4, iv z6, iv z8, iv z10, jv z12, .second, jv z15, .second, jv z18, .second, jv z21, .second, jv z24, .second, jv z27, .second, .unset, .unset, .unset, .unset, .unset, .unset, .unset, .unset, .unset, .unset, .unset, .unset, .unset, .unset, .unset, .unset, .unset, .unset, .unset, .unset, .unset, .unset, .unset, .unset, .unset] [(.long (own_f3 q3 (1 : Int32) z3))]))
            exact J35 _ _ X658 N659 eh658 (own_f3 q3 (1 : Int32) z3) (((if_pos hc657).trans rfl)).symm
          · refine own_via (fun k => XS.ifNo X25.here hx rfl (hb hby at_141) rfl ((if0 _ _).trans (feq hc657).1) k) ?_
            show own_Go p e below s _ _ (T25.setTop (mkF m 144 #[iv p0, jv q1, .second, iv p2, jv q3, .second, iv p4, iv z3, iv ((((p2.toUInt32 >>> ((4 : Int32) &&& 31).toUInt32).toInt32) &&& (7 : Int32)) % (6 : Int32)), iv z4, iv z6, iv z8, iv z10, jv z12, .second, jv z15, .second, jv z18, .second, jv z21, .second, jv z24, .second, jv z27, .second, .unset, .unset, .unset, .unset, .unset, .unset, .unset, .unset, .unset, .unset, .unset, .unset, .unset, .unset, .unset, .unset, .unset, .unset, .unset, .unset, .unset, .unset, .unset, .unset, .unset] []))
            refine own_via (fun k => XS.lload X25.here hx rfl (hb hby at_144) rfl  (XS.lload X25.here hx rfl (hb hby at_146) rfl  (XS.iconst X25.here hx rfl (hb hby at_148) (XS.iload X25.here hx rfl (hb hby at_149) rfl  k)))) ?_
            show own_Go p e below s _ _ (T25.setTop (mkF m 151 #[iv p0, jv q1, .second, iv p2, jv q3, .second, iv p4, iv z3, iv ((((p2.toUInt32 >>> ((4 : Int32) &&& 31).toUInt32).toInt32) &&& (7 : Int32)) % (6 : Int32)), iv z4, iv z6, iv z8, iv z10, jv z12, .second, jv z15, .second, jv z18, .second, jv z21, .second, jv z24, .second, jv z27, .second, .unset, .unset, .unset, .unset, .unset, .unset, .unset, .unset, .unset, .unset, .unset, .unset, .unset, .unset, .unset, .unset, .unset, .unset, .unset, .unset, .unset, .unset, .unset, .unset, .unset] [(.int z3), (.int 1), (.long q3), (.long z27)]))
            obtain ⟨_, _, ⟨T660, L660, k660, n660⟩, -, X660, ⟨Lc660, hQ660, l660, y660, z660⟩, st660⟩ := Jvm.LawKit.callS X25 hx (y := (⟨"com/example/waveslot/waveslot/core/CheckerStepsRepeatedQuotientsPinLaw", "draw", "(JII)J"⟩ : MethodName)) hown (mvT hZ (hw _ (List.mem_of_getElem? (i := 10) rfl))) (mvT hZ (hw _ (List.mem_of_getElem? (i := 11) rfl))) (mvT hZ (hw _ (List.mem_of_getElem? (i := 8) rfl))) (mvT hZ (hw _ (List.mem_of_getElem? (i := 12) rfl))) (by decide) (backOf (W := 2) (rm3 l Z aw hw [] q3 (1 : Int32) z3 h0 n0 Z0 (own_hhn3 p0 z3 hz3)) hZ (hw _ (List.mem_of_getElem? (i := 12) rfl)) (hw _ (List.mem_of_getElem? (i := 8) rfl)) (by decide) (by decide)) (g := (mkF m 151 #[iv p0, jv q1, .second, iv p2, jv q3, .second, iv p4, iv z3, iv ((((p2.toUInt32 >>> ((4 : Int32) &&& 31).toUInt32).toInt32) &&& (7 : Int32)) % (6 : Int32)), iv z4, iv z6, iv z8, iv z10, jv z12, .second, jv z15, .second, jv z18, .second, jv z21, .second, jv z24, .second, jv z27, .second, .unset, .unset, .unset, .unset, .unset, .unset, .unset, .unset, .unset, .unset, .unset, .unset, .unset, .unset, .unset, .unset, .unset, .unset, .unset, .unset, .unset, .unset, .unset, .unset, .unset] [(.int z3), (.int 1), (.long q3), (.long z27)])) rfl (by rw [hml]; rfl) (argsL := [(.long q3), (.int 1), (.int z3)]) (rest := [(.long z27)]) (lenOf pd_2 rfl) rfl (by show 2 * 0 + _ ≤ _; exact Nat.le_of_eq rfl) (hb hby at_151) (fun _ _ => ⟨rfl, eh25, (by decide : 0 + 0 ≤ _), (by decide : 0 + 0 ≤ _)⟩)
            dsimp only [Pt.U, Pt.locs, Pt.cells, Pt.slots] at X660 l660 y660 z660 st660 hQ660
            subst l660 y660 z660
            obtain ⟨rfl, N660q, eh660⟩ := hQ660
            have N661 := Fr.app N26 N660q
            refine own_via (fun k => st660 _ k) ?_
            show own_Go p e below s _ _ (T660.setTop (mkF m 154 #[iv p0, jv q1, .second, iv p2, jv q3, .second, iv p4, iv z3, iv ((((p2.toUInt32 >>> ((4 : Int32) &&& 31).toUInt32).toInt32) &&& (7 : Int32)) % (6 : Int32)), iv z4, iv z6, iv z8, iv z10, jv z12, .second, jv z15, .second, jv z18, .second, jv z21, .second, jv z24, .second, jv z27, .second, .unset, .unset, .unset, .unset, .unset, .unset, .unset, .unset, .unset, .unset, .unset, .unset, .unset, .unset, .unset, .unset, .unset, .unset, .unset, .unset, .unset, .unset, .unset, .unset, .unset] [(.long (own_f3 q3 (1 : Int32) z3)), (.long z27)]))
            obtain ⟨_, _, ⟨T662, L662, k662, n662⟩, -, X662, ⟨Lc662, hQ662, l662, y662, z662⟩, st662⟩ := Jvm.LawKit.callS X660 hx (y := (⟨"java/lang/Math", "max", "(JJ)J"⟩ : MethodName)) hown (mvT hZ (hw _ (List.mem_of_getElem? (i := 14) rfl))) (mvT hZ (hw _ (List.mem_of_getElem? (i := 15) rfl))) (mvT hZ (hw _ (List.mem_of_getElem? (i := 3) rfl))) (mvT hZ (hw _ (List.mem_of_getElem? (i := 16) rfl))) (by decide) (backOf (W := 0) (rm4 l Z aw hw [] z27 (own_f3 q3 (1 : Int32) z3) h0 n0 Z0) hZ (hw _ (List.mem_of_getElem? (i := 16) rfl)) (hw _ (List.mem_of_getElem? (i := 3) rfl)) (by decide) (by decide)) (g := (mkF m 154 #[iv p0, jv q1, .second, iv p2, jv q3, .second, iv p4, iv z3, iv ((((p2.toUInt32 >>> ((4 : Int32) &&& 31).toUInt32).toInt32) &&& (7 : Int32)) % (6 : Int32)), iv z4, iv z6, iv z8, iv z10, jv z12, .second, jv z15, .second, jv z18, .second, jv z21, .second, jv z24, .second, jv z27, .second, .unset, .unset, .unset, .unset, .unset, .unset, .unset, .unset, .unset, .unset, .unset, .unset, .unset, .unset, .unset, .unset, .unset, .unset, .unset, .unset, .unset, .unset, .unset, .unset, .unset] [(.long (own_f3 q3 (1 : Int32) z3)), (.long z27)])) rfl (by rw [hml]; rfl) (argsL := [(.long z27), (.long (own_f3 q3 (1 : Int32) z3))]) (rest := []) (lenOf pd_3 rfl) rfl (by show 2 * 0 + _ ≤ _; exact Nat.le_of_eq rfl) (hb hby at_154) (fun _ _ => ⟨rfl, eh660, (by decide : 0 + 0 ≤ _), (by decide : 0 + 0 ≤ _)⟩)
            dsimp only [Pt.U, Pt.locs, Pt.cells, Pt.slots] at X662 l662 y662 z662 st662 hQ662
            subst l662 y662 z662
            obtain ⟨rfl, N662q, eh662⟩ := hQ662
            have N663 := Fr.app N661 N662q
            refine own_via (fun k => st662 _ k) ?_
            show own_Go p e below s _ _ (T662.setTop (mkF m 157 #[iv p0, jv q1, .second, iv p2, jv q3, .second, iv p4, iv z3, iv ((((p2.toUInt32 >>> ((4 : Int32) &&& 31).toUInt32).toInt32) &&& (7 : Int32)) % (6 : Int32)), iv z4, iv z6, iv z8, iv z10, jv z12, .second, jv z15, .second, jv z18, .second, jv z21, .second, jv z24, .second, jv z27, .second, .unset, .unset, .unset, .unset, .unset, .unset, .unset, .unset, .unset, .unset, .unset, .unset, .unset, .unset, .unset, .unset, .unset, .unset, .unset, .unset, .unset, .unset, .unset, .unset, .unset] [(.long (own_f4 z27 (own_f3 q3 (1 : Int32) z3)))]))
            refine own_via (fun k => XS.goto X662.here hx rfl (pc0 := 157) (pc' := 168) rfl (hb hby at_157) (by decide) (by decide) k) ?_
            show own_Go p e below s _ _ (T662.setTop (mkF m 168 #[iv p0, jv q1, .second, iv p2, jv q3, .second, iv p4, iv z3, iv ((((p2.toUInt32 >>> ((4 : Int32) &&& 31).toUInt32).toInt32) &&& (7 : Int32)) % (6 : Int32)), iv z4, iv z6, iv z8, iv z10, jv z12, .second, jv z15, .second, jv z18, .second, jv z21, .second, jv z24, .second, jv z27, .second, .unset, .unset, .unset, .unset, .unset, .unset, .unset, .unset, .unset, .unset, .unset, .unset, .unset, .unset, .unset, .unset, .unset, .unset, .unset, .unset, .unset, .unset, .unset, .unset, .unset] [(.long (own_f4 z27 (own_f3 q3 (1 : Int32) z3)))]))
            exact J35 _ _ X662 N663 eh662 (own_f4 z27 (own_f3 q3 (1 : Int32) z3)) (((if_neg hc657).trans rfl)).symm
        by_cases hc664 : (p2 &&& (8 : Int32)) = (0 : Int32)
        · refine own_via (fun k => XS.ifYes X1.here hx rfl (pc0 := 64) (pc' := 71) rfl (hb hby at_64) rfl ((if0 _ _).trans (teq hc664).1) (by decide) (by decide) k) ?_
          show own_Go p e below s _ _ (T1.setTop (mkF m 71 #[iv p0, jv q1, .second, iv p2, jv q3, .second, iv p4, iv z3, iv ((((p2.toUInt32 >>> ((4 : Int32) &&& 31).toUInt32).toInt32) &&& (7 : Int32)) % (6 : Int32)), iv z4, iv z6, iv z8, .unset, .unset, .unset, .unset, .unset, .unset, .unset, .unset, .unset, .unset, .unset, .unset, .unset, .unset, .unset, .unset, .unset, .unset, .unset, .unset, .unset, .unset, .unset, .unset, .unset, .unset, .unset, .unset, .unset, .unset, .unset, .unset, .unset, .unset, .unset, .unset, .unset, .unset] []))
          refine own_via (fun k => XS.iconst X1.here hx rfl (hb hby at_71) k) ?_
          show own_Go p e below s _ _ (T1.setTop (mkF m 72 #[iv p0, jv q1, .second, iv p2, jv q3, .second, iv p4, iv z3, iv ((((p2.toUInt32 >>> ((4 : Int32) &&& 31).toUInt32).toInt32) &&& (7 : Int32)) % (6 : Int32)), iv z4, iv z6, iv z8, .unset, .unset, .unset, .unset, .unset, .unset, .unset, .unset, .unset, .unset, .unset, .unset, .unset, .unset, .unset, .unset, .unset, .unset, .unset, .unset, .unset, .unset, .unset, .unset, .unset, .unset, .unset, .unset, .unset, .unset, .unset, .unset, .unset, .unset, .unset, .unset, .unset, .unset] [(.int 0)]))
          exact J11 (0 : Int32) (((if_pos hc664).trans rfl)).symm
        · refine own_via (fun k => XS.ifNo X1.here hx rfl (hb hby at_64) rfl ((if0 _ _).trans (feq hc664).1) k) ?_
          show own_Go p e below s _ _ (T1.setTop (mkF m 67 #[iv p0, jv q1, .second, iv p2, jv q3, .second, iv p4, iv z3, iv ((((p2.toUInt32 >>> ((4 : Int32) &&& 31).toUInt32).toInt32) &&& (7 : Int32)) % (6 : Int32)), iv z4, iv z6, iv z8, .unset, .unset, .unset, .unset, .unset, .unset, .unset, .unset, .unset, .unset, .unset, .unset, .unset, .unset, .unset, .unset, .unset, .unset, .unset, .unset, .unset, .unset, .unset, .unset, .unset, .unset, .unset, .unset, .unset, .unset, .unset, .unset, .unset, .unset, .unset, .unset, .unset, .unset] []))
          refine own_via (fun k => XS.iconst X1.here hx rfl (hb hby at_67) (XS.goto X1.here hx rfl (pc0 := 68) (pc' := 72) rfl (hb hby at_68) (by decide) (by decide) k)) ?_
          show own_Go p e below s _ _ (T1.setTop (mkF m 72 #[iv p0, jv q1, .second, iv p2, jv q3, .second, iv p4, iv z3, iv ((((p2.toUInt32 >>> ((4 : Int32) &&& 31).toUInt32).toInt32) &&& (7 : Int32)) % (6 : Int32)), iv z4, iv z6, iv z8, .unset, .unset, .unset, .unset, .unset, .unset, .unset, .unset, .unset, .unset, .unset, .unset, .unset, .unset, .unset, .unset, .unset, .unset, .unset, .unset, .unset, .unset, .unset, .unset, .unset, .unset, .unset, .unset, .unset, .unset, .unset, .unset, .unset, .unset, .unset, .unset, .unset, .unset] [(.int 1)]))
          exact J11 (1 : Int32) (((if_neg hc664).trans rfl)).symm
      by_cases hc665 : (p2 &&& (4 : Int32)) = (0 : Int32)
      · refine own_via (fun k => XS.ifYes X1.here hx rfl (pc0 := 50) (pc' := 57) rfl (hb hby at_50) rfl ((if0 _ _).trans (teq hc665).1) (by decide) (by decide) k) ?_
        show own_Go p e below s _ _ (T1.setTop (mkF m 57 #[iv p0, jv q1, .second, iv p2, jv q3, .second, iv p4, iv z3, iv ((((p2.toUInt32 >>> ((4 : Int32) &&& 31).toUInt32).toInt32) &&& (7 : Int32)) % (6 : Int32)), iv z4, iv z6, .unset, .unset, .unset, .unset, .unset, .unset, .unset, .unset, .unset, .unset, .unset, .unset, .unset, .unset, .unset, .unset, .unset, .unset, .unset, .unset, .unset, .unset, .unset, .unset, .unset, .unset, .unset, .unset, .unset, .unset, .unset, .unset, .unset, .unset, .unset, .unset, .unset, .unset, .unset] []))
        refine own_via (fun k => XS.iconst X1.here hx rfl (hb hby at_57) k) ?_
        show own_Go p e below s _ _ (T1.setTop (mkF m 58 #[iv p0, jv q1, .second, iv p2, jv q3, .second, iv p4, iv z3, iv ((((p2.toUInt32 >>> ((4 : Int32) &&& 31).toUInt32).toInt32) &&& (7 : Int32)) % (6 : Int32)), iv z4, iv z6, .unset, .unset, .unset, .unset, .unset, .unset, .unset, .unset, .unset, .unset, .unset, .unset, .unset, .unset, .unset, .unset, .unset, .unset, .unset, .unset, .unset, .unset, .unset, .unset, .unset, .unset, .unset, .unset, .unset, .unset, .unset, .unset, .unset, .unset, .unset, .unset, .unset, .unset, .unset] [(.int 0)]))
        exact J9 (0 : Int32) (((if_pos hc665).trans rfl)).symm
      · refine own_via (fun k => XS.ifNo X1.here hx rfl (hb hby at_50) rfl ((if0 _ _).trans (feq hc665).1) k) ?_
        show own_Go p e below s _ _ (T1.setTop (mkF m 53 #[iv p0, jv q1, .second, iv p2, jv q3, .second, iv p4, iv z3, iv ((((p2.toUInt32 >>> ((4 : Int32) &&& 31).toUInt32).toInt32) &&& (7 : Int32)) % (6 : Int32)), iv z4, iv z6, .unset, .unset, .unset, .unset, .unset, .unset, .unset, .unset, .unset, .unset, .unset, .unset, .unset, .unset, .unset, .unset, .unset, .unset, .unset, .unset, .unset, .unset, .unset, .unset, .unset, .unset, .unset, .unset, .unset, .unset, .unset, .unset, .unset, .unset, .unset, .unset, .unset, .unset, .unset] []))
        refine own_via (fun k => XS.iconst X1.here hx rfl (hb hby at_53) (XS.goto X1.here hx rfl (pc0 := 54) (pc' := 58) rfl (hb hby at_54) (by decide) (by decide) k)) ?_
        show own_Go p e below s _ _ (T1.setTop (mkF m 58 #[iv p0, jv q1, .second, iv p2, jv q3, .second, iv p4, iv z3, iv ((((p2.toUInt32 >>> ((4 : Int32) &&& 31).toUInt32).toInt32) &&& (7 : Int32)) % (6 : Int32)), iv z4, iv z6, .unset, .unset, .unset, .unset, .unset, .unset, .unset, .unset, .unset, .unset, .unset, .unset, .unset, .unset, .unset, .unset, .unset, .unset, .unset, .unset, .unset, .unset, .unset, .unset, .unset, .unset, .unset, .unset, .unset, .unset, .unset, .unset, .unset, .unset, .unset, .unset, .unset, .unset, .unset] [(.int 1)]))
        exact J9 (1 : Int32) (((if_neg hc665).trans rfl)).symm
    by_cases hc666 : (p2 &&& (2 : Int32)) = (0 : Int32)
    · refine own_via (fun k => XS.ifYes X1.here hx rfl (pc0 := 37) (pc' := 44) rfl (hb hby at_37) rfl ((if0 _ _).trans (teq hc666).1) (by decide) (by decide) k) ?_
      show own_Go p e below s _ _ (T1.setTop (mkF m 44 #[iv p0, jv q1, .second, iv p2, jv q3, .second, iv p4, iv z3, iv ((((p2.toUInt32 >>> ((4 : Int32) &&& 31).toUInt32).toInt32) &&& (7 : Int32)) % (6 : Int32)), iv z4, .unset, .unset, .unset, .unset, .unset, .unset, .unset, .unset, .unset, .unset, .unset, .unset, .unset, .unset, .unset, .unset, .unset, .unset, .unset, .unset, .unset, .unset, .unset, .unset, .unset, .unset, .unset, .unset, .unset, .unset, .unset, .unset, .unset, .unset, .unset, .unset, .unset, .unset, .unset, .unset] []))
      refine own_via (fun k => XS.iconst X1.here hx rfl (hb hby at_44) k) ?_
      show own_Go p e below s _ _ (T1.setTop (mkF m 45 #[iv p0, jv q1, .second, iv p2, jv q3, .second, iv p4, iv z3, iv ((((p2.toUInt32 >>> ((4 : Int32) &&& 31).toUInt32).toInt32) &&& (7 : Int32)) % (6 : Int32)), iv z4, .unset, .unset, .unset, .unset, .unset, .unset, .unset, .unset, .unset, .unset, .unset, .unset, .unset, .unset, .unset, .unset, .unset, .unset, .unset, .unset, .unset, .unset, .unset, .unset, .unset, .unset, .unset, .unset, .unset, .unset, .unset, .unset, .unset, .unset, .unset, .unset, .unset, .unset, .unset, .unset] [(.int 0)]))
      exact J7 (0 : Int32) (((if_pos hc666).trans rfl)).symm
    · refine own_via (fun k => XS.ifNo X1.here hx rfl (hb hby at_37) rfl ((if0 _ _).trans (feq hc666).1) k) ?_
      show own_Go p e below s _ _ (T1.setTop (mkF m 40 #[iv p0, jv q1, .second, iv p2, jv q3, .second, iv p4, iv z3, iv ((((p2.toUInt32 >>> ((4 : Int32) &&& 31).toUInt32).toInt32) &&& (7 : Int32)) % (6 : Int32)), iv z4, .unset, .unset, .unset, .unset, .unset, .unset, .unset, .unset, .unset, .unset, .unset, .unset, .unset, .unset, .unset, .unset, .unset, .unset, .unset, .unset, .unset, .unset, .unset, .unset, .unset, .unset, .unset, .unset, .unset, .unset, .unset, .unset, .unset, .unset, .unset, .unset, .unset, .unset, .unset, .unset] []))
      refine own_via (fun k => XS.iconst X1.here hx rfl (hb hby at_40) (XS.goto X1.here hx rfl (pc0 := 41) (pc' := 45) rfl (hb hby at_41) (by decide) (by decide) k)) ?_
      show own_Go p e below s _ _ (T1.setTop (mkF m 45 #[iv p0, jv q1, .second, iv p2, jv q3, .second, iv p4, iv z3, iv ((((p2.toUInt32 >>> ((4 : Int32) &&& 31).toUInt32).toInt32) &&& (7 : Int32)) % (6 : Int32)), iv z4, .unset, .unset, .unset, .unset, .unset, .unset, .unset, .unset, .unset, .unset, .unset, .unset, .unset, .unset, .unset, .unset, .unset, .unset, .unset, .unset, .unset, .unset, .unset, .unset, .unset, .unset, .unset, .unset, .unset, .unset, .unset, .unset, .unset, .unset, .unset, .unset, .unset, .unset, .unset, .unset] [(.int 1)]))
      exact J7 (1 : Int32) (((if_neg hc666).trans rfl)).symm
  by_cases hc667 : (p2 &&& (1 : Int32)) = (0 : Int32)
  · refine own_via (fun k => XS.ifYes X1.here hx rfl (pc0 := 24) (pc' := 31) rfl (hb hby at_24) rfl ((if0 _ _).trans (teq hc667).1) (by decide) (by decide) k) ?_
    show own_Go p e below s _ _ (T1.setTop (mkF m 31 #[iv p0, jv q1, .second, iv p2, jv q3, .second, iv p4, iv z3, iv ((((p2.toUInt32 >>> ((4 : Int32) &&& 31).toUInt32).toInt32) &&& (7 : Int32)) % (6 : Int32)), .unset, .unset, .unset, .unset, .unset, .unset, .unset, .unset, .unset, .unset, .unset, .unset, .unset, .unset, .unset, .unset, .unset, .unset, .unset, .unset, .unset, .unset, .unset, .unset, .unset, .unset, .unset, .unset, .unset, .unset, .unset, .unset, .unset, .unset, .unset, .unset, .unset, .unset, .unset, .unset, .unset] []))
    refine own_via (fun k => XS.iconst X1.here hx rfl (hb hby at_31) k) ?_
    show own_Go p e below s _ _ (T1.setTop (mkF m 32 #[iv p0, jv q1, .second, iv p2, jv q3, .second, iv p4, iv z3, iv ((((p2.toUInt32 >>> ((4 : Int32) &&& 31).toUInt32).toInt32) &&& (7 : Int32)) % (6 : Int32)), .unset, .unset, .unset, .unset, .unset, .unset, .unset, .unset, .unset, .unset, .unset, .unset, .unset, .unset, .unset, .unset, .unset, .unset, .unset, .unset, .unset, .unset, .unset, .unset, .unset, .unset, .unset, .unset, .unset, .unset, .unset, .unset, .unset, .unset, .unset, .unset, .unset, .unset, .unset, .unset, .unset] [(.int 0)]))
    exact J5 (0 : Int32) (((if_pos hc667).trans rfl)).symm
  · refine own_via (fun k => XS.ifNo X1.here hx rfl (hb hby at_24) rfl ((if0 _ _).trans (feq hc667).1) k) ?_
    show own_Go p e below s _ _ (T1.setTop (mkF m 27 #[iv p0, jv q1, .second, iv p2, jv q3, .second, iv p4, iv z3, iv ((((p2.toUInt32 >>> ((4 : Int32) &&& 31).toUInt32).toInt32) &&& (7 : Int32)) % (6 : Int32)), .unset, .unset, .unset, .unset, .unset, .unset, .unset, .unset, .unset, .unset, .unset, .unset, .unset, .unset, .unset, .unset, .unset, .unset, .unset, .unset, .unset, .unset, .unset, .unset, .unset, .unset, .unset, .unset, .unset, .unset, .unset, .unset, .unset, .unset, .unset, .unset, .unset, .unset, .unset, .unset, .unset] []))
    refine own_via (fun k => XS.iconst X1.here hx rfl (hb hby at_27) (XS.goto X1.here hx rfl (pc0 := 28) (pc' := 32) rfl (hb hby at_28) (by decide) (by decide) k)) ?_
    show own_Go p e below s _ _ (T1.setTop (mkF m 32 #[iv p0, jv q1, .second, iv p2, jv q3, .second, iv p4, iv z3, iv ((((p2.toUInt32 >>> ((4 : Int32) &&& 31).toUInt32).toInt32) &&& (7 : Int32)) % (6 : Int32)), .unset, .unset, .unset, .unset, .unset, .unset, .unset, .unset, .unset, .unset, .unset, .unset, .unset, .unset, .unset, .unset, .unset, .unset, .unset, .unset, .unset, .unset, .unset, .unset, .unset, .unset, .unset, .unset, .unset, .unset, .unset, .unset, .unset, .unset, .unset, .unset, .unset, .unset, .unset, .unset, .unset] [(.int 1)]))
    exact J5 (1 : Int32) (((if_neg hc667).trans rfl)).symm
set_option maxRecDepth 65536 in
set_option maxHeartbeats 40000000 in
theorem comes_1 {Post : Tables → Env → Array Value → State → Outcome → State → Prop} (hpost : ∀ tb e args s v u, (limb_1_1.after args s (.returned v) u = true ∧ limb_1_2.after args s (.returned v) u = true ∧ True) → FrameEnd s (.returned v) u (Jvm.fieldLocs frame_1_writes args s ++ Jvm.arrayLocs frame_1_arrays args s ++ Jvm.staticLocs frame_1_statics s) 16 128 → Post tb e args s (.returned v) u) :
    ArmFor flags0 classFile x code maxLocals ret World_1 tables_1 room_1 Calls_1 rest_1 Pre_1 Post := by
  intro l hfl _ _ p e ha hc hk s m args below hf hA hF happ hP
  obtain ⟨hcalls, hrest, hpre⟩ := hP
  obtain ⟨-, -, -, hnamed, -, -, -, hat⟩ := (Spec.applies_iff hf).mp happ
  obtain ⟨hg, hn⟩ := and_e (Cond.before_iff.mp (show (Jvm.Cond.and given_1 narrow_1).before args s = true from hpre))
  obtain ⟨g1, g2⟩ := and_e hg
  obtain ⟨g3, g4⟩ := and_e g2
  obtain ⟨g5, g6⟩ := and_e g4
  obtain ⟨g7, g8⟩ := and_e g6
  obtain ⟨g9, g10⟩ := and_e g8
  obtain ⟨w0, w1, w2, w3, w4, rfl⟩ : ∃ w0 w1 w2 w3 w4 : Value, args = #[w0, w1, w2, w3, w4] := by
    have hs : args.size = 5 := by simpa [Cond.value, given_1] using g1
    obtain ⟨L⟩ := args
    match L, hs with
    | [w0, w1, w2, w3, w4], _ => exact ⟨w0, w1, w2, w3, w4, rfl⟩
  have hw := fun d (hd : d ∈ tables_1) => atoms_spec (ws := Jvm.Cond.code x code maxLocals ret :: tables_1) hat d (List.mem_cons_of_mem _ hd)
  obtain ⟨i0, ei0⟩ := is_v g3
  obtain rfl : w0 = (.int i0) := Option.some.inj ei0
  obtain ⟨i1, ei1⟩ := isL_v g5
  obtain rfl : w1 = (.long i1) := Option.some.inj ei1
  obtain ⟨i2, ei2⟩ := is_v g7
  obtain rfl : w2 = (.int i2) := Option.some.inj ei2
  obtain ⟨i3, ei3⟩ := isL_v g9
  obtain rfl : w3 = (.long i3) := Option.some.inj ei3
  obtain ⟨i4, ei4⟩ := is_v g10
  obtain rfl : w4 = (.int i4) := Option.some.inj ei4
  obtain ⟨n, o, h1, h2, h3, _, L, rfl, ⟨rfl, N⟩, hq⟩ := rm0 l s _ hw tables_1 i0 i1 i2 i3 i4 s.heap s.heap.size (Nat.le_refl _) p e ha hc hk s m _ below hf ((Spec.applies_iff_loose hf).mp happ).1 ⟨rfl, State.Warmed39.refl s, rfl⟩ trivial
  refine ⟨n, _, h1, h2, h3, hpost _ _ _ _ _ _ ⟨Cond.after_iff.mpr rfl, Cond.after_iff.mpr (eq_i res_at (Term.int_eval (1)) rfl), trivial⟩ ⟨hq.1, hq.2.1, (hq.2.2.sift fun y hy => Or.inr (N y hy)).mono (by decide) (by decide)⟩⟩
theorem main_1_1 : Claimed_1_1 := comes_1 fun _ _ _ _ _ _ h hF => ⟨h.1, hF⟩
theorem main_1_2 : Claimed_1_2 := comes_1 fun _ _ _ _ _ _ h hF => ⟨h.2.1, hF⟩
end Jvm.Pilot.@@N@@
namespace Jvm.Pilot.@@N@@
open Jvm Jvm.ClassFile Sem Op Lib Jvm.Free Jvm.Stand Jvm.Pilot.@@N@@.Jvm.D
/-! MADE BY PROGRAM (witnessworld.py) out of the Statement's table words and the real class files: 12 classes; the members and pool entries that the words name. The judged class is class 1, her method 1. -/
namespace start1
open Jvm.ClassFile
def u (s : String) : CpInfo := .utf8 (stringToUtf16 s)
/-- a pool by its gaps: so many unusable entries, then the entry; so many at the end -/
def gap : Nat → List CpInfo → List CpInfo
  | 0, r => r
  | n + 1, r => .unusable :: gap n r
def poolList (es : List (Nat × CpInfo)) (last : Nat) : List CpInfo := es.foldr (fun e r => gap e.1 (e.2 :: r)) (gap last [])
def pool (es : List (Nat × CpInfo)) (last : Nat) : Array CpInfo := ⟨poolList es last⟩
def fileOf (pool : Array CpInfo) (this : Nat) (attrs : Array Attribute := #[]) (ms : Array MethodInfo := #[]) (fl : Nat := 33) (sup : Nat := 0) (ifs : Array Nat := #[]) (fds : Array FieldInfo := #[]) : ClassFile where
  minorVersion := 0
  majorVersion := 65
  constantPool := pool
  accessFlags := fl
  thisClass := this
  superClass := sup
  interfaces := ifs
  fields := fds
  methods := ms
  attributes := attrs
def plain (name : String) (sup : Option ClassId) : Class where
  name := name
  kind := .ordinary
  loader := none
  accessFlags := 33
  super := sup
  interfaces := #[]
  cf := none
  fields := #[]
  methods := #[]
  instanceTypes := #[]
  staticTypes := #[]
  resolved := #[]
  callSites := []
  init := .initialized
  statics := none
  mirror := none

def pool0 : Array CpInfo := pool [(5, u "<init>"), (0, u "()V"), (1, .class_ 10), (1, u "java/lang/Object")] 113

def k0m0 : Method := { name := "<init>", desc := "()V", sig := { parameters := [], returnType := none }, accessFlags := 1, code := none }
/-- java/lang/Object -/
def k0 : Class := { plain "java/lang/Object" none with
  accessFlags := 33
  interfaces := #[]
  cf := some (fileOf pool0 8 #[] #[{ accessFlags := 1, nameIndex := 5, descriptorIndex := 6, attributes := #[] }] 33 0 #[] #[])
  fields := #[]
  methods := #[k0m0]
  instanceTypes := #[]
  staticTypes := #[]
  resolved := Array.replicate 124 none
  statics := none }

def pool1 : Array CpInfo := pool [(2, .class_ 4), (1, u "java/lang/Object"), (0, u "<init>"), (0, u "()V"), (0, .integer 2147483647), (0, .methodref 9 10), (0, .class_ 11), (0, .nameAndType 12 13), (0, u "java/lang/Math"), (0, u "max"), (0, u "(II)I"), (0, .long 2147483647), (1, .methodref 17 18), (0, .class_ 19), (0, .nameAndType 20 21), (0, u "com/example/waveslot/waveslot/core/CheckerStepsRepeatedQuotientsPinLaw"), (0, u "next"), (0, u "(JZII)J"), (0, .methodref 17 23), (0, .nameAndType 24 25), (0, u "draw"), (0, u "(JII)J"), (0, .methodref 9 27), (0, .nameAndType 12 28), (0, u "(JJ)J"), (0, .methodref 17 30), (0, .nameAndType 31 32), (0, u "prefix"), (0, u "(IJJJJJ)[J"), (0, .methodref 34 35), (0, .class_ 36), (0, .nameAndType 37 38), (0, u "com/example/waveslot/waveslot/core/CheckerSteps"), (0, u "repeatedQuotients"), (0, u "([JI)J"), (0, .long 4095), (3, u "law"), (0, u "(IJIJI)Z")] 7

def k1m0 : Method := { name := "<init>", desc := "()V", sig := { parameters := [], returnType := none }, accessFlags := 2, code := none }
def k1c1 : Code := { maxStack := 11, maxLocals := 50, code := code, exceptionTable := #[], attributes := #[] }
def k1m1 : Method := { name := "law", desc := "(IJIJI)Z", sig := { parameters := [.int, .long, .int, .long, .int], returnType := some .boolean }, accessFlags := 9, code := some k1c1 }
def k1c2 : Code := { maxStack := 4, maxLocals := 6, code := method_3_code, exceptionTable := #[], attributes := #[] }
def k1m2 : Method := { name := "next", desc := "(JZII)J", sig := { parameters := [.long, .boolean, .int, .int], returnType := some .long }, accessFlags := 10, code := some k1c2 }
def k1c3 : Code := { maxStack := 4, maxLocals := 6, code := method_4_code, exceptionTable := #[], attributes := #[] }
def k1m3 : Method := { name := "draw", desc := "(JII)J", sig := { parameters := [.long, .int, .int], returnType := some .long }, accessFlags := 10, code := some k1c3 }
def k1c4 : Code := { maxStack := 5, maxLocals := 11, code := method_5_code, exceptionTable := #[], attributes := #[] }
def k1m4 : Method := { name := "prefix", desc := "(IJJJJJ)[J", sig := { parameters := [.int, .long, .long, .long, .long, .long], returnType := some (.array .long) }, accessFlags := 10, code := some k1c4 }
/-- com/example/waveslot/waveslot/core/CheckerStepsRepeatedQuotientsPinLaw -/
def k1 : Class := { plain "com/example/waveslot/waveslot/core/CheckerStepsRepeatedQuotientsPinLaw" (some 0) with
  accessFlags := 49
  interfaces := #[]
  cf := some (fileOf pool1 17 #[] #[{ accessFlags := 2, nameIndex := 5, descriptorIndex := 6, attributes := #[] }, { accessFlags := 9, nameIndex := 43, descriptorIndex := 44, attributes := #[] }, { accessFlags := 10, nameIndex := 20, descriptorIndex := 21, attributes := #[] }, { accessFlags := 10, nameIndex := 24, descriptorIndex := 25, attributes := #[] }, { accessFlags := 10, nameIndex := 31, descriptorIndex := 32, attributes := #[] }] 49 2 #[] #[])
  fields := #[]
  methods := #[k1m0, k1m1, k1m2, k1m3, k1m4]
  instanceTypes := #[]
  staticTypes := #[]
  resolved := Array.replicate 52 none
  statics := none }

def pool2 : Array CpInfo := pool [(1, .class_ 2), (0, u "java/lang/Math"), (1, .class_ 6), (1, u "java/lang/Object"), (0, u "<init>"), (0, u "()V"), (89, .class_ 100), (1, u "java/lang/Math$RandomNumberGeneratorHolder"), (20, u "(JJ)J"), (50, u "negativeZeroFloatBits"), (0, u "J"), (2, u "negativeZeroDoubleBits"), (21, u "max"), (46, u "$assertionsDisabled"), (0, u "Z"), (88, u "(II)I"), (2, u "twoToTheDoubleScaleDown"), (0, u "D"), (4, u "twoToTheDoubleScaleUp"), (9, u "E"), (3, u "PI"), (2, u "TAU"), (2, u "DEGREES_TO_RADIANS"), (0, u "RADIANS_TO_DEGREES")] 94

def k2m0 : Method := { name := "<init>", desc := "()V", sig := { parameters := [], returnType := none }, accessFlags := 2, code := none }
def k2c1 : Code := { maxStack := 2, maxLocals := 2, code := jdk_29_method_65_code, exceptionTable := #[], attributes := #[] }
def k2m1 : Method := { name := "max", desc := "(II)I", sig := { parameters := [.int, .int], returnType := some .int }, accessFlags := 9, code := some k2c1 }
def k2c2 : Code := { maxStack := 4, maxLocals := 4, code := jdk_29_method_66_code, exceptionTable := #[], attributes := #[] }
def k2m2 : Method := { name := "max", desc := "(JJ)J", sig := { parameters := [.long, .long], returnType := some .long }, accessFlags := 9, code := some k2c2 }
/-- java/lang/Math -/
def k2 : Class := { plain "java/lang/Math" (some 0) with
  accessFlags := 49
  interfaces := #[]
  cf := some (fileOf pool2 1 #[.nestMembers #[98]] #[{ accessFlags := 2, nameIndex := 7, descriptorIndex := 8, attributes := #[] }, { accessFlags := 9, nameIndex := 198, descriptorIndex := 335, attributes := #[] }, { accessFlags := 9, nameIndex := 198, descriptorIndex := 121, attributes := #[] }] 49 4 #[] #[{ accessFlags := 25, nameIndex := 354, descriptorIndex := 339, attributes := #[] }, { accessFlags := 25, nameIndex := 358, descriptorIndex := 339, attributes := #[] }, { accessFlags := 25, nameIndex := 361, descriptorIndex := 339, attributes := #[] }, { accessFlags := 26, nameIndex := 364, descriptorIndex := 339, attributes := #[] }, { accessFlags := 26, nameIndex := 365, descriptorIndex := 339, attributes := #[] }, { accessFlags := 26, nameIndex := 172, descriptorIndex := 173, attributes := #[] }, { accessFlags := 26, nameIndex := 176, descriptorIndex := 173, attributes := #[] }, { accessFlags := 8, nameIndex := 344, descriptorIndex := 339, attributes := #[] }, { accessFlags := 8, nameIndex := 338, descriptorIndex := 339, attributes := #[] }, { accessFlags := 4120, nameIndex := 245, descriptorIndex := 246, attributes := #[] }])
  fields := #[{ name := "E", type := .double, accessFlags := 25, slot := 0, constantValue := 0 }, { name := "PI", type := .double, accessFlags := 25, slot := 1, constantValue := 0 }, { name := "TAU", type := .double, accessFlags := 25, slot := 2, constantValue := 0 }, { name := "DEGREES_TO_RADIANS", type := .double, accessFlags := 26, slot := 3, constantValue := 0 }, { name := "RADIANS_TO_DEGREES", type := .double, accessFlags := 26, slot := 4, constantValue := 0 }, { name := "negativeZeroFloatBits", type := .long, accessFlags := 26, slot := 5, constantValue := 0 }, { name := "negativeZeroDoubleBits", type := .long, accessFlags := 26, slot := 6, constantValue := 0 }, { name := "twoToTheDoubleScaleUp", type := .double, accessFlags := 8, slot := 7, constantValue := 0 }, { name := "twoToTheDoubleScaleDown", type := .double, accessFlags := 8, slot := 8, constantValue := 0 }, { name := "$assertionsDisabled", type := .boolean, accessFlags := 4120, slot := 9, constantValue := 0 }]
  methods := #[k2m0, k2m1, k2m2]
  instanceTypes := #[]
  staticTypes := #[.double, .double, .double, .double, .double, .long, .long, .double, .double, .boolean]
  resolved := Array.replicate 460 none
  statics := none }

def pool3 : Array CpInfo := pool [(2, .class_ 4), (1, u "java/lang/Object"), (0, u "<init>"), (0, u "()V"), (6, .class_ 14), (0, u "com/example/waveslot/waveslot/core/CheckerSteps"), (7, u "repeatedQuotients"), (0, u "([JI)J")] 6

def k3m0 : Method := { name := "<init>", desc := "()V", sig := { parameters := [], returnType := none }, accessFlags := 2, code := none }
def k3c1 : Code := { maxStack := 6, maxLocals := 7, code := prog_11_method_4_code, exceptionTable := #[], attributes := #[] }
def k3m1 : Method := { name := "repeatedQuotients", desc := "([JI)J", sig := { parameters := [(.array .long), .int], returnType := some .long }, accessFlags := 8, code := some k3c1 }
/-- com/example/waveslot/waveslot/core/CheckerSteps -/
def k3 : Class := { plain "com/example/waveslot/waveslot/core/CheckerSteps" (some 0) with
  accessFlags := 48
  interfaces := #[]
  cf := some (fileOf pool3 13 #[] #[{ accessFlags := 2, nameIndex := 5, descriptorIndex := 6, attributes := #[] }, { accessFlags := 8, nameIndex := 22, descriptorIndex := 23, attributes := #[] }] 48 2 #[] #[])
  fields := #[]
  methods := #[k3m0, k3m1]
  instanceTypes := #[]
  staticTypes := #[]
  resolved := Array.replicate 30 none
  statics := none }

def pool4 : Array CpInfo := pool [(1, u "java/lang/Cloneable"), (0, .class_ 1), (0, u "java/lang/Object"), (0, .class_ 3)] 3

/-- java/lang/Cloneable -/
def k4 : Class := { plain "java/lang/Cloneable" (some 0) with
  accessFlags := 1537
  interfaces := #[]
  cf := some (fileOf pool4 2 #[] #[] 1537 4 #[] #[])
  fields := #[]
  methods := #[]
  instanceTypes := #[]
  staticTypes := #[]
  resolved := Array.replicate 8 none
  statics := none }

def pool5 : Array CpInfo := pool [(1, u "java/io/Serializable"), (0, .class_ 1), (0, u "java/lang/Object"), (0, .class_ 3)] 3

/-- java/io/Serializable -/
def k5 : Class := { plain "java/io/Serializable" (some 0) with
  accessFlags := 1537
  interfaces := #[]
  cf := some (fileOf pool5 2 #[] #[] 1537 4 #[] #[])
  fields := #[]
  methods := #[]
  instanceTypes := #[]
  staticTypes := #[]
  resolved := Array.replicate 8 none
  statics := none }

/-- the primitive byte -/
def k6 : Class := { plain "byte" none with kind := .primitive 'B', accessFlags := 0x411 }
/-- [B -/
def k7 : Class := { plain "[B" (some 0) with kind := .array 6 .byte, interfaces := #[4, 5], accessFlags := 1041 }

/-- the primitive int -/
def k8 : Class := { plain "int" none with kind := .primitive 'I', accessFlags := 0x411 }
/-- [I -/
def k9 : Class := { plain "[I" (some 0) with kind := .array 8 .int, interfaces := #[4, 5], accessFlags := 1041 }

/-- the primitive long -/
def k10 : Class := { plain "long" none with kind := .primitive 'J', accessFlags := 0x411 }
/-- [J -/
def k11 : Class := { plain "[J" (some 0) with kind := .array 10 .long, interfaces := #[4, 5], accessFlags := 1041 }

def heap : Heap := #[]
def classes : Array Class := #[k0, k1, k2, k3, k4, k5, k6, k7, k8, k9, k10, k11]
def interned : List (Array UInt16 × Addr) := []
def slotsUsed : Nat := 0
def theMethod : MethodId := ⟨1, 1⟩
def args0 : Array Value := #[.int 5, .long 3, .int 2, .long 3, .int 2]
def aboutOver (below : List Frame) : State where
  vm := { classes := classes, interned := interned.toArray }
  heap := heap
  slotsUsed := slotsUsed
  threads := #[{ frames := .invoking theMethod args0 :: below }]
def below0 : List Frame := [.native { method := ⟨0, 0⟩, args := #[] }]
def about1 : State := aboutOver below0
def p0 : Program := .bare "" "" ""
def e0 : Env := launch0.env 0 0 0
theorem w_frames : about1.frames = Frame.invoking theMethod args0 :: below0 := rfl
set_option maxRecDepth 65536 in
theorem w_args : argsFit about1.vm theMethod args0 = true := by decide +kernel
set_option maxRecDepth 65536 in
theorem w_heap : heapFits about1 = true := by decide +kernel
set_option maxRecDepth 65536 in
theorem w_runnable : about1.curStatus? = some .runnable := by decide +kernel
set_option maxRecDepth 65536 in
theorem w_alone : about1.alone = true := by decide +kernel
set_option maxRecDepth 65536 in
theorem w_named : about1.methodNamed? x = some theMethod := by decide +kernel
set_option maxRecDepth 65536 in
theorem w_hears : about1.hears theMethod below0 = true := by decide +kernel
set_option maxRecDepth 65536 in
theorem w_ripe : about1.ripe theMethod args0 below0 = true := by decide +kernel
theorem w_running : about1.status = .running := rfl
set_option maxRecDepth 65536 in
theorem w_room : about1.hasRoom e0.platform room_1 = true :=
  launch0.hasRoom_least _ room_1 (by decide +kernel) (by decide +kernel) (by decide +kernel) (by decide +kernel) (by decide +kernel) (by decide +kernel)
theorem allAtoms_all (ts : List Jvm.Cond) (a : Array Jvm.Value) (st : Jvm.State) : (allAtoms ts).before a st = ts.all (fun c => c.before a st) := by
  induction ts with
  | nil => rfl
  | cons c t ih =>
    show (Jvm.Cond.and c (allAtoms t)).before a st = _
    rw [Jvm.Cond.before_and, ih, List.all_cons]
def words1 : List Jvm.Cond := Jvm.Cond.code x code maxLocals ret :: tables_1
/-- a 'code' word, met by the world's own term for the bytes: nothing is compared byte by byte -/
theorem code_word {y : MethodName} {bytes : ByteArray} {mx : Nat} {rt : Option FieldType} {a : Array Value} {s : State} {m : MethodId} {meth : Method} {c : Code} (h1 : s.methodNamed? y = some m) (h2 : s.vm.method? m = some meth) (h3 : meth.code = some c) (h4 : c.code = bytes)
    (h5 : (c.maxLocals == mx && c.exceptionTable.isEmpty && decide (c.maxStack ≤ mostOperands) && decide (meth.sig.returnType = rt) && !meth.locks && decide (parseMethodDescriptor y.desc = some meth.sig)) = true) : (Jvm.Cond.code y bytes mx rt).before a s = true := by
  simp only [Bool.and_eq_true, beq_iff_eq, Bool.not_eq_true', decide_eq_true_eq] at h5
  obtain ⟨⟨⟨⟨⟨g1, g2⟩, g3⟩, g4⟩, g5⟩, g6⟩ := h5
  simp [Cond.before, Cond.holds, Cond.value, h1, h2, h3, h4, g1, g2, g3, g4, g5, g6]
def isCode : Jvm.Cond → Bool
  | .code _ _ _ _ => true
  | _ => false
theorem all_split {L : List Jvm.Cond} {P : Jvm.Cond → Bool} (h1 : L.all (fun c => isCode c || P c) = true) (h2 : ∀ c ∈ L.filter isCode, P c = true) : L.all P = true := by
  refine List.all_eq_true.mpr fun c hc => ?_
  have h := List.all_eq_true.mp h1 c hc
  rcases Bool.eq_false_or_eq_true (isCode c) with hi | hi
  · exact h2 c (List.mem_filter.mpr ⟨hc, hi⟩)
  · simpa [hi] using h
set_option maxRecDepth 65536 in
theorem w_c0 : (Jvm.Cond.code x code maxLocals ret).before args0 about1 = true := code_word (m := ⟨1, 1⟩) (meth := k1m1) (c := k1c1) (by decide +kernel) rfl rfl rfl (by decide +kernel)
set_option maxRecDepth 65536 in
theorem w_c1 : (Jvm.Cond.code ({ cls := "java/lang/Math", name := "max", desc := "(II)I" } : Jvm.MethodName) jdk_29_method_65_code (2 : Nat) (Option.some Jvm.ClassFile.FieldType.int)).before args0 about1 = true := code_word (m := ⟨2, 1⟩) (meth := k2m1) (c := k2c1) (by decide +kernel) rfl rfl rfl (by decide +kernel)
set_option maxRecDepth 65536 in
theorem w_c2 : (Jvm.Cond.code ({ cls := "com/example/waveslot/waveslot/core/CheckerStepsRepeatedQuotientsPinLaw", name := "next", desc := "(JZII)J" } : Jvm.MethodName) method_3_code (6 : Nat) (Option.some Jvm.ClassFile.FieldType.long)).before args0 about1 = true := code_word (m := ⟨1, 2⟩) (meth := k1m2) (c := k1c2) (by decide +kernel) rfl rfl rfl (by decide +kernel)
set_option maxRecDepth 65536 in
theorem w_c3 : (Jvm.Cond.code ({ cls := "com/example/waveslot/waveslot/core/CheckerStepsRepeatedQuotientsPinLaw", name := "draw", desc := "(JII)J" } : Jvm.MethodName) method_4_code (6 : Nat) (Option.some Jvm.ClassFile.FieldType.long)).before args0 about1 = true := code_word (m := ⟨1, 3⟩) (meth := k1m3) (c := k1c3) (by decide +kernel) rfl rfl rfl (by decide +kernel)
set_option maxRecDepth 65536 in
theorem w_c4 : (Jvm.Cond.code ({ cls := "java/lang/Math", name := "max", desc := "(JJ)J" } : Jvm.MethodName) jdk_29_method_66_code (4 : Nat) (Option.some Jvm.ClassFile.FieldType.long)).before args0 about1 = true := code_word (m := ⟨2, 2⟩) (meth := k2m2) (c := k2c2) (by decide +kernel) rfl rfl rfl (by decide +kernel)
set_option maxRecDepth 65536 in
theorem w_c5 : (Jvm.Cond.code ({ cls := "com/example/waveslot/waveslot/core/CheckerStepsRepeatedQuotientsPinLaw", name := "prefix", desc := "(IJJJJJ)[J" } : Jvm.MethodName) method_5_code (11 : Nat) (Option.some (Jvm.ClassFile.FieldType.array Jvm.ClassFile.FieldType.long))).before args0 about1 = true := code_word (m := ⟨1, 4⟩) (meth := k1m4) (c := k1c4) (by decide +kernel) rfl rfl rfl (by decide +kernel)
set_option maxRecDepth 65536 in
theorem w_c6 : (Jvm.Cond.code ({ cls := "com/example/waveslot/waveslot/core/CheckerSteps", name := "repeatedQuotients", desc := "([JI)J" } : Jvm.MethodName) prog_11_method_4_code (7 : Nat) (Option.some Jvm.ClassFile.FieldType.long)).before args0 about1 = true := code_word (m := ⟨3, 1⟩) (meth := k3m1) (c := k3c1) (by decide +kernel) rfl rfl rfl (by decide +kernel)
def codes1 : List Jvm.Cond := [Jvm.Cond.code x code maxLocals ret, Jvm.Cond.code ({ cls := "java/lang/Math", name := "max", desc := "(II)I" } : Jvm.MethodName) jdk_29_method_65_code (2 : Nat) (Option.some Jvm.ClassFile.FieldType.int), Jvm.Cond.code ({ cls := "com/example/waveslot/waveslot/core/CheckerStepsRepeatedQuotientsPinLaw", name := "next", desc := "(JZII)J" } : Jvm.MethodName) method_3_code (6 : Nat) (Option.some Jvm.ClassFile.FieldType.long), Jvm.Cond.code ({ cls := "com/example/waveslot/waveslot/core/CheckerStepsRepeatedQuotientsPinLaw", name := "draw", desc := "(JII)J" } : Jvm.MethodName) method_4_code (6 : Nat) (Option.some Jvm.ClassFile.FieldType.long), Jvm.Cond.code ({ cls := "java/lang/Math", name := "max", desc := "(JJ)J" } : Jvm.MethodName) jdk_29_method_66_code (4 : Nat) (Option.some Jvm.ClassFile.FieldType.long), Jvm.Cond.code ({ cls := "com/example/waveslot/waveslot/core/CheckerStepsRepeatedQuotientsPinLaw", name := "prefix", desc := "(IJJJJJ)[J" } : Jvm.MethodName) method_5_code (11 : Nat) (Option.some (Jvm.ClassFile.FieldType.array Jvm.ClassFile.FieldType.long)), Jvm.Cond.code ({ cls := "com/example/waveslot/waveslot/core/CheckerSteps", name := "repeatedQuotients", desc := "([JI)J" } : Jvm.MethodName) prog_11_method_4_code (7 : Nat) (Option.some Jvm.ClassFile.FieldType.long)]
set_option maxRecDepth 65536 in
theorem codes_eq : words1.filter isCode = codes1 := rfl
theorem w_codes : ∀ c ∈ words1.filter isCode, c.before args0 about1 = true := by
  rw [codes_eq]
  intro c hc
  simp only [codes1, List.mem_cons, List.not_mem_nil, or_false] at hc
  rcases hc with rfl | rfl | rfl | rfl | rfl | rfl | rfl
  · exact w_c0
  · exact w_c1
  · exact w_c2
  · exact w_c3
  · exact w_c4
  · exact w_c5
  · exact w_c6
set_option maxRecDepth 65536 in
theorem w_t1 : (words1.take 24).all (fun c => isCode c || c.before args0 about1) = true := by decide +kernel
set_option maxRecDepth 65536 in
theorem w_t2 : (words1.drop 24).all (fun c => isCode c || c.before args0 about1) = true := by decide +kernel
theorem w_tables : (allAtoms (Jvm.Cond.code x code maxLocals ret :: tables_1)).before args0 about1 = true := by
  rw [allAtoms_all]
  show words1.all (fun c => c.before args0 about1) = true
  refine all_split ?_ w_codes
  rw [← List.take_append_drop 24 words1, List.all_append, w_t1, w_t2]
  rfl
set_option maxRecDepth 65536 in
theorem w_case : (Jvm.Cond.and given_1 narrow_1).before args0 about1 = true := by decide +kernel
theorem w_applies : (headSpec (Jvm.Cond.code x code maxLocals ret :: tables_1) room_1).applies x e0.platform about1 = true :=
  (Spec.applies_iff w_frames).mpr ⟨w_running, w_runnable, w_alone, w_named, w_hears, w_ripe, w_room, w_tables⟩
theorem atStart : AtStart classFile x code maxLocals ret World_1 tables_1 room_1 Calls_1 rest_1 Pre_1 launch0 p0 e0 about1 theMethod args0 below0 :=
  ⟨lists_1, trivial, launch0.admits_env _ _ _, launch0.least_env, fairChoices_fair.cas, fairChoices_fair.clock, w_frames, w_args, w_heap, w_applies, trivial, trivial, w_case⟩
end start1
theorem witness_1 : WitnessClaimed_1 := ⟨start1.p0, start1.e0, start1.about1, start1.theMethod, start1.args0, start1.below0, start1.atStart⟩
end Jvm.Pilot.@@N@@
