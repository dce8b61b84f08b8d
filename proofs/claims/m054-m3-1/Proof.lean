import JvmDerived
import JvmDerived.Pilot.@@N@@Statement
import JvmDerived.Pilot.@@N@@Code
set_option linter.unusedVariables false
set_option linter.unusedSimpArgs false
namespace Jvm.RoadKit
open Sem ClassFile Op Lib Jvm.Stand Jvm.Free Jvm.LawKit
section New
variable {p : Program} {l : Launch} {e : Env} {R : Room} {s : State} {m : MethodId} {args : Array Value} {below : List Frame} {meth : Method} {c : Code} {T : State} {locs : List Loc} {cells slots : Nat}
theorem retI (X : Stand p l e R s m args below meth c T locs cells slots) (hx : p.tables.exec = Jvm.exec) {pc : Nat} {Ls : Array Slot} {z : Int32} {rest : List Value} (hret : meth.sig.returnType = some .int) (hd : decode c.code pc = .ok (.ireturn, 1)) {fs : List Frame}
    (hl : ∀ (f : JFrame) (acts : List Action), f.method = m → f.locked = none → f.entered = [] → (doReturn e (T.setTop f) acts (some (.int z))).1 = T.setFrames fs) : Steps p.tables e below (T.setTop (mkF m pc Ls (.int z :: rest))) (T.setFrames fs) := by
  have hm' : T.vm.method? m = some meth := X.method'
  have hn : narrow .int (.int z) = .int z := rfl
  show Steps p.tables e below (T.setTop { method := m, pc := pc, locals := Ls, stack := _ :: rest, locked := none }) _
  jvm_step X.here [X.here.top, hx, hd, hm', hret, hn]
  first | (intro acts; rw [hl _ acts rfl rfl rfl]) | rw [hl _ _ rfl rfl rfl]
  exact Steps.refl _
abbrev jv (x : Int64) : Slot := .val (.long x)
/-- from the state st the run ends as Q says -/
def own_Go (p : Program) (e : Env) (below : List Frame) (s : State) (Q : Option Value → Heap → List Loc → Prop) (CS : Nat × Nat) (st : State) : Prop :=
  ∃ s₂ o, Steps p.tables e below st s₂ ∧ s₂.status = .running ∧ Ended s₂ below o ∧ ∃ v L, o = .returned v ∧ Q v s₂.heap L ∧ FrameEnd s o s₂ L CS.1 CS.2
variable {Q : Option Value → Heap → List Loc → Prop} {CS : Nat × Nat} {st st' : State}
theorem own_via (h : ∀ {t}, Steps p.tables e below st t → Steps p.tables e below st' t) (g : own_Go p e below s Q CS st) : own_Go p e below s Q CS st' := by
  obtain ⟨s₂, o, h1, h2⟩ := g
  exact ⟨s₂, o, h h1, h2⟩
theorem own_start {g g' : JFrame} (q : g = g') (h : own_Go p e below s Q CS (T.setTop g')) : ∃ s₂ o, Steps p.tables e below (T.setTop g) s₂ ∧ s₂.status = .running ∧ Ended s₂ below o ∧ ∃ v L, o = .returned v ∧ Q v s₂.heap L ∧ FrameEnd s o s₂ L CS.1 CS.2 := q ▸ h
theorem own_retN (X : Stand p l e R s m args below meth c T locs cells slots) (hx : p.tables.exec = Jvm.exec) (hlk : meth.locks = false) {pc : Nat} {Ls : Array Slot} {z : Int32} {t : FieldType} {rest : List Value} (hret : meth.sig.returnType = some t) (ht : t = .boolean ∨ t = .byte ∨ t = .char ∨ t = .short)
    (hd : decode c.code pc = .ok (.ireturn, 1)) (hq : Q (some (.int (nar t z))) T.heap locs) (hc : cells ≤ CS.1) (hs : slots ≤ CS.2) : own_Go p e below s Q CS (T.setTop (mkF m pc Ls (.int z :: rest))) := by
  obtain ⟨fs, hr, hrun, hended, hW, hsame⟩ := X.leave (v := some (.int (nar t z))) (fun h => by rw [hret] at h; cases h) hlk
  exact ⟨_, _, retN X hx hret ht hd hr, hrun, hended, _, _, rfl, hq, ⟨_, rfl⟩, hW, hsame.mono hc hs⟩
theorem own_retI (X : Stand p l e R s m args below meth c T locs cells slots) (hx : p.tables.exec = Jvm.exec) (hlk : meth.locks = false) {pc : Nat} {Ls : Array Slot} {z : Int32} {rest : List Value} (hret : meth.sig.returnType = some .int)
    (hd : decode c.code pc = .ok (.ireturn, 1)) (hq : Q (some (.int z)) T.heap locs) (hc : cells ≤ CS.1) (hs : slots ≤ CS.2) : own_Go p e below s Q CS (T.setTop (mkF m pc Ls (.int z :: rest))) := by
  obtain ⟨fs, hr, hrun, hended, hW, hsame⟩ := X.leave (v := some (.int z)) (fun h => by rw [hret] at h; cases h) hlk
  exact ⟨_, _, retI X hx hret hd hr, hrun, hended, _, _, rfl, hq, ⟨_, rfl⟩, hW, hsame.mono hc hs⟩
theorem own_retL (X : Stand p l e R s m args below meth c T locs cells slots) (hx : p.tables.exec = Jvm.exec) (hlk : meth.locks = false) {pc : Nat} {Ls : Array Slot} {z : Int64} (hret : meth.sig.returnType = some .long)
    (hd : decode c.code pc = .ok (.lreturn, 1)) (hq : Q (some (.long z)) T.heap locs) (hc : cells ≤ CS.1) (hs : slots ≤ CS.2) : own_Go p e below s Q CS (T.setTop (mkF m pc Ls [.long z])) := by
  obtain ⟨fs, hr, hrun, hended, hW, hsame⟩ := X.leave (v := some (.long z)) (fun h => by rw [hret] at h; cases h) hlk
  exact ⟨_, _, X.lreturnOut hx hret hd hr, hrun, hended, _, _, rfl, hq, ⟨_, rfl⟩, hW, hsame.mono hc hs⟩
theorem own_retA (X : Stand p l e R s m args below meth c T locs cells slots) (hx : p.tables.exec = Jvm.exec) (hlk : meth.locks = false) {pc : Nat} {Ls : Array Slot} {w : Value} (hw : w.isRef = true) {t : FieldType} (hret : meth.sig.returnType = some t) (ht : t.isReference = true)
    (hd : decode c.code pc = .ok (.areturn, 1)) (hq : Q (some w) T.heap locs) (hc : cells ≤ CS.1) (hs : slots ≤ CS.2) : own_Go p e below s Q CS (T.setTop (mkF m pc Ls [w])) := by
  obtain ⟨fs, hr, hrun, hended, hW, hsame⟩ := X.leave (v := some w) (fun h => by rw [hret] at h; cases h) hlk
  exact ⟨_, _, X.areturnOut hx hw hret ht hd hr, hrun, hended, _, _, rfl, hq, ⟨_, rfl⟩, hW, hsame.mono hc hs⟩
theorem own_ret0 (X : Stand p l e R s m args below meth c T locs cells slots) (hx : p.tables.exec = Jvm.exec) (hlk : meth.locks = false) {pc : Nat} {Ls : Array Slot} (hret : meth.sig.returnType = none)
    (hd : decode c.code pc = .ok (.return_, 1)) (hq : Q none T.heap locs) (hc : cells ≤ CS.1) (hs : slots ≤ CS.2) : own_Go p e below s Q CS (T.setTop (mkF m pc Ls [])) := by
  obtain ⟨fs, hr, hrun, hended, hW, hsame⟩ := X.leave (v := none) (fun _ => rfl) hlk
  exact ⟨_, _, X.returnOut hx hret hd hr, hrun, hended, _, _, rfl, hq, ⟨_, rfl⟩, hW, hsame.mono hc hs⟩
theorem own_selPriv {s : State} {args args' : Array Value} {y y' : MethodName} {C : String} (w : (Cond.selects C y' y').before args' s = true) (hc : y'.cls = y.cls) (hinst : (Cond.instanceMethod y).before args s = true) (hpriv : s.PrivateAt y) (hy : y.cls ≠ "java/lang/invoke/MethodHandle" ∧ y.cls ≠ "java/lang/invoke/VarHandle") : (Cond.selects y.cls y y).before args s = true := by
  obtain ⟨c2, r2, m2, q1, q2, q3, q4, kP, hkP, hkPi⟩ := Cond.selects_spec w
  exact selects_self_of_private (c := m2.cls) (k := kP) (by rw [← hc]; exact findClass_of_methodNamed q3) hkP hkPi hpriv hinst hy
theorem own_fldI {Z : State} {h : Heap} {a : Addr} {C n d : String} {v w : Int32} (q : v = w) (F : Fld Z h a C n d (.int v)) : Fld Z h a C n d (.int w) := q ▸ F
theorem own_fldJ {Z : State} {h : Heap} {a : Addr} {C n d : String} {v w : Int64} (q : v = w) (F : Fld Z h a C n d (.long v)) : Fld Z h a C n d (.long w) := q ▸ F
theorem own_arv {Z : State} {h : Heap} {a : Addr} {k : ClassId} {ty : FieldType} {n : Int32} {vs vs' : List Value} {d : Value} (q : vs = vs') (F : Arv Z h a k ty n vs d) : Arv Z h a k ty n vs' d := q ▸ F
theorem own_fits {t : FieldType} {v w : Int32} (q : v = w) (F : fits t (.int v) = true) : fits t (.int w) = true := q ▸ F
end New
end Jvm.RoadKit
namespace Jvm.Pilot.@@N@@
open Jvm Jvm.ClassFile Sem Op Lib Jvm.Free Jvm.Stand Jvm.LawKit Jvm.RoadKit Bundle Jvm.Pilot.@@N@@.Jvm.D
theorem own_l32 {x y : Int32} : x < y ↔ x.toInt < y.toInt := Int32.lt_iff_toInt_lt
theorem own_e32 {x y : Int32} : x = y ↔ x.toInt = y.toInt := Int32.toInt_inj.symm
theorem own_l64 {x y : Int64} : x < y ↔ x.toInt < y.toInt := Int64.lt_iff_toInt_lt
theorem own_e64 {x y : Int64} : x = y ↔ x.toInt = y.toInt := Int64.toInt_inj.symm
theorem own_all8 {P : Int8 → Prop} (h : ∀ n : Fin 256, P (Int8.ofBitVec (BitVec.ofFin n))) (i : Int8) : P i := h i.toBitVec.toFin
def own_r (s i w : Int32) : Int32 := if i < s then w else nar .byte (w ^^^ -1).toInt8.toInt32
theorem d3_0 : decode jdk_29_method_65_code 0 = .ok (.iload_n 0, 1) := by decide +kernel
theorem d3_1 : decode jdk_29_method_65_code 1 = .ok (.iload_n 1, 1) := by decide +kernel
theorem d3_2 : decode jdk_29_method_65_code 2 = .ok (.if_icmp .lt 7, 3) := by decide +kernel
theorem d3_5 : decode jdk_29_method_65_code 5 = .ok (.iload_n 0, 1) := by decide +kernel
theorem d3_6 : decode jdk_29_method_65_code 6 = .ok (.goto 4, 3) := by decide +kernel
theorem d3_9 : decode jdk_29_method_65_code 9 = .ok (.iload_n 1, 1) := by decide +kernel
theorem d3_10 : decode jdk_29_method_65_code 10 = .ok (.ireturn, 1) := by decide +kernel
theorem ef_3 (m : MethodId) (x0 : Int32) (x1 : Int32) : entryFrame m #[(.int x0), (.int x1)] 2 = mkF m 0 #[iv x0, iv x1] [] := by first | (simp [entryFrame, mkF, argsToLocals, Value.category]; done) | rfl
def own_f3 (p0 : Int32) (p1 : Int32) : Int32 := (if p0 < p1 then p1 else p0)
def Q3 (Z : State) (p0 : Int32) (p1 : Int32) (h0 : Heap) (n0 : Nat) (v : Option Value) (h : Heap) (L : List Loc) : Prop := v = some (.int (own_f3 p0 p1)) ∧ Fr n0 L ∧ h = h0
set_option maxRecDepth 65536 in
set_option maxHeartbeats 40000000 in
theorem rm3 (l : Launch) (Z : State) (aw : Array Value) (hw : ∀ d ∈ tables_1, d.before aw Z = true) (ws : List Jvm.Cond) (p0 : Int32) (p1 : Int32) (h0 : Heap) (n0 : Nat) (Z0 : n0 ≤ h0.size)  :
    MetFree l (⟨"java/lang/Math", "max", "(II)I"⟩ : MethodName) (head1 (Jvm.Cond.code (⟨"java/lang/Math", "max", "(II)I"⟩ : MethodName) jdk_29_method_65_code 2 (some .int) :: ws) ({ frames := 0, cells := 0, slots := 0, locals := 0 } : Room)) (fun a U => a = #[(.int p0), (.int p1)] ∧ Z.Warmed39 U.vm ∧ U.heap = h0) (fun _ _ _ _ _ => True) (fun _ U o U' => ∃ v L, o = .returned v ∧ Q3 Z p0 p1 h0 n0 v U'.heap L ∧ FrameEnd U o U' L ({ frames := 0, cells := 0, slots := 0, locals := 0 } : Room).cells ({ frames := 0, cells := 0, slots := 0, locals := 0 } : Room).slots) := by
  refine MetFree.of_bodySF (Jvm.Free.JP.mathPlain rfl (by decide +kernel)) hisR ?_
  intro p e s m args below meth c s₁ Bd hml0 hP hK
  obtain ⟨rfl, hZ, hh⟩ := hP
  have hx := Bd.exec
  have hby := Bd.bytes
  have hml : c.maxLocals = 2 := hml0
  have hown : s.vm.findClass "java/lang/Math" = some m.cls := findClass_of_methodNamed Bd.named
  have hnm := (name_of_methodNamed Bd.named Bd.method).1
  have hlk : meth.locks = false := by first | exact BodyLoose.notSynchronized (by assumption) | exact Body.notSynchronized (by assumption)
  have X0 : Stand p l e ({ frames := 0, cells := 0, slots := 0, locals := 0 } : Room) s m #[(.int p0), (.int p1)] below meth c s₁ [] 0 0 := Stand.of_body Bd
  have e0 : s₁.heap = h0 := by rw [← hh, Bd.state]; rfl
  have N0 := Fr.nil n0
  have K0 : Keep h0 h0 [] := Keep.refl _ _
  refine own_start (CS := (0, 0)) (Q := (Q3 Z p0 p1 h0 n0)) (ef_3 m p0 p1) ?_
  show own_Go p e below s _ _ (s₁.setTop (mkF m 0 #[iv p0, iv p1] []))
  refine own_via (fun k => XS.iloadN X0.here hx rfl (hb hby d3_0) rfl  (XS.iloadN X0.here hx rfl (hb hby d3_1) rfl  k)) ?_
  show own_Go p e below s _ _ (s₁.setTop (mkF m 2 #[iv p0, iv p1] [(.int p1), (.int p0)]))
  by_cases hc1 : p0 < p1
  · refine own_via (fun k => XS.icmpYes X0.here hx rfl (pc0 := 2) (pc' := 9) rfl (hb hby d3_2) rfl (tlt hc1).1 (by decide) (by decide) k) ?_
    show own_Go p e below s _ _ (s₁.setTop (mkF m 9 #[iv p0, iv p1] []))
    refine own_via (fun k => XS.iloadN X0.here hx rfl (hb hby d3_9) rfl  k) ?_
    show own_Go p e below s _ _ (s₁.setTop (mkF m 10 #[iv p0, iv p1] [(.int p1)]))
    exact own_retI X0 hx hlk Bd.returns (hb hby d3_10) (Q := (Q3 Z p0 p1 h0 n0)) ⟨(congrArg (fun z => some (Value.int z)) (show p1 = (own_f3 p0 p1) from (by unfold own_f3; exact ((if_pos hc1).trans rfl).symm))), N0, e0⟩ (by decide) (by decide)
  · refine own_via (fun k => XS.icmpNo X0.here hx rfl (hb hby d3_2) rfl (flt hc1).1 k) ?_
    show own_Go p e below s _ _ (s₁.setTop (mkF m 5 #[iv p0, iv p1] []))
    refine own_via (fun k => XS.iloadN X0.here hx rfl (hb hby d3_5) rfl  (XS.goto X0.here hx rfl (pc0 := 6) (pc' := 10) rfl (hb hby d3_6) (by decide) (by decide) k)) ?_
    show own_Go p e below s _ _ (s₁.setTop (mkF m 10 #[iv p0, iv p1] [(.int p0)]))
    exact own_retI X0 hx hlk Bd.returns (hb hby d3_10) (Q := (Q3 Z p0 p1 h0 n0)) ⟨(congrArg (fun z => some (Value.int z)) (show p0 = (own_f3 p0 p1) from (by unfold own_f3; exact ((if_neg hc1).trans rfl).symm))), N0, e0⟩ (by decide) (by decide)
theorem d5_0 : decode jdk_29_method_69_code 0 = .ok (.iload_n 0, 1) := by decide +kernel
theorem d5_1 : decode jdk_29_method_69_code 1 = .ok (.iload_n 1, 1) := by decide +kernel
theorem d5_2 : decode jdk_29_method_69_code 2 = .ok (.if_icmp .gt 7, 3) := by decide +kernel
theorem d5_5 : decode jdk_29_method_69_code 5 = .ok (.iload_n 0, 1) := by decide +kernel
theorem d5_6 : decode jdk_29_method_69_code 6 = .ok (.goto 4, 3) := by decide +kernel
theorem d5_9 : decode jdk_29_method_69_code 9 = .ok (.iload_n 1, 1) := by decide +kernel
theorem d5_10 : decode jdk_29_method_69_code 10 = .ok (.ireturn, 1) := by decide +kernel
theorem ef_5 (m : MethodId) (x0 : Int32) (x1 : Int32) : entryFrame m #[(.int x0), (.int x1)] 2 = mkF m 0 #[iv x0, iv x1] [] := by first | (simp [entryFrame, mkF, argsToLocals, Value.category]; done) | rfl
def own_f5 (p0 : Int32) (p1 : Int32) : Int32 := (if p1 < p0 then p1 else p0)
def Q5 (Z : State) (p0 : Int32) (p1 : Int32) (h0 : Heap) (n0 : Nat) (v : Option Value) (h : Heap) (L : List Loc) : Prop := v = some (.int (own_f5 p0 p1)) ∧ Fr n0 L ∧ h = h0
set_option maxRecDepth 65536 in
set_option maxHeartbeats 40000000 in
theorem rm5 (l : Launch) (Z : State) (aw : Array Value) (hw : ∀ d ∈ tables_1, d.before aw Z = true) (ws : List Jvm.Cond) (p0 : Int32) (p1 : Int32) (h0 : Heap) (n0 : Nat) (Z0 : n0 ≤ h0.size)  :
    MetFree l (⟨"java/lang/Math", "min", "(II)I"⟩ : MethodName) (head1 (Jvm.Cond.code (⟨"java/lang/Math", "min", "(II)I"⟩ : MethodName) jdk_29_method_69_code 2 (some .int) :: ws) ({ frames := 0, cells := 0, slots := 0, locals := 0 } : Room)) (fun a U => a = #[(.int p0), (.int p1)] ∧ Z.Warmed39 U.vm ∧ U.heap = h0) (fun _ _ _ _ _ => True) (fun _ U o U' => ∃ v L, o = .returned v ∧ Q5 Z p0 p1 h0 n0 v U'.heap L ∧ FrameEnd U o U' L ({ frames := 0, cells := 0, slots := 0, locals := 0 } : Room).cells ({ frames := 0, cells := 0, slots := 0, locals := 0 } : Room).slots) := by
  refine MetFree.of_bodySF (Jvm.Free.JP.mathPlain rfl (by decide +kernel)) hisR ?_
  intro p e s m args below meth c s₁ Bd hml0 hP hK
  obtain ⟨rfl, hZ, hh⟩ := hP
  have hx := Bd.exec
  have hby := Bd.bytes
  have hml : c.maxLocals = 2 := hml0
  have hown : s.vm.findClass "java/lang/Math" = some m.cls := findClass_of_methodNamed Bd.named
  have hnm := (name_of_methodNamed Bd.named Bd.method).1
  have hlk : meth.locks = false := by first | exact BodyLoose.notSynchronized (by assumption) | exact Body.notSynchronized (by assumption)
  have X0 : Stand p l e ({ frames := 0, cells := 0, slots := 0, locals := 0 } : Room) s m #[(.int p0), (.int p1)] below meth c s₁ [] 0 0 := Stand.of_body Bd
  have e0 : s₁.heap = h0 := by rw [← hh, Bd.state]; rfl
  have N0 := Fr.nil n0
  have K0 : Keep h0 h0 [] := Keep.refl _ _
  refine own_start (CS := (0, 0)) (Q := (Q5 Z p0 p1 h0 n0)) (ef_5 m p0 p1) ?_
  show own_Go p e below s _ _ (s₁.setTop (mkF m 0 #[iv p0, iv p1] []))
  refine own_via (fun k => XS.iloadN X0.here hx rfl (hb hby d5_0) rfl  (XS.iloadN X0.here hx rfl (hb hby d5_1) rfl  k)) ?_
  show own_Go p e below s _ _ (s₁.setTop (mkF m 2 #[iv p0, iv p1] [(.int p1), (.int p0)]))
  by_cases hc1 : p1 < p0
  · refine own_via (fun k => XS.icmpYes X0.here hx rfl (pc0 := 2) (pc' := 9) rfl (hb hby d5_2) rfl (tlt hc1).2.2.1 (by decide) (by decide) k) ?_
    show own_Go p e below s _ _ (s₁.setTop (mkF m 9 #[iv p0, iv p1] []))
    refine own_via (fun k => XS.iloadN X0.here hx rfl (hb hby d5_9) rfl  k) ?_
    show own_Go p e below s _ _ (s₁.setTop (mkF m 10 #[iv p0, iv p1] [(.int p1)]))
    exact own_retI X0 hx hlk Bd.returns (hb hby d5_10) (Q := (Q5 Z p0 p1 h0 n0)) ⟨(congrArg (fun z => some (Value.int z)) (show p1 = (own_f5 p0 p1) from (by unfold own_f5; exact ((if_pos hc1).trans rfl).symm))), N0, e0⟩ (by decide) (by decide)
  · refine own_via (fun k => XS.icmpNo X0.here hx rfl (hb hby d5_2) rfl (flt hc1).2.2.1 k) ?_
    show own_Go p e below s _ _ (s₁.setTop (mkF m 5 #[iv p0, iv p1] []))
    refine own_via (fun k => XS.iloadN X0.here hx rfl (hb hby d5_5) rfl  (XS.goto X0.here hx rfl (pc0 := 6) (pc' := 10) rfl (hb hby d5_6) (by decide) (by decide) k)) ?_
    show own_Go p e below s _ _ (s₁.setTop (mkF m 10 #[iv p0, iv p1] [(.int p0)]))
    exact own_retI X0 hx hlk Bd.returns (hb hby d5_10) (Q := (Q5 Z p0 p1 h0 n0)) ⟨(congrArg (fun z => some (Value.int z)) (show p0 = (own_f5 p0 p1) from (by unfold own_f5; exact ((if_neg hc1).trans rfl).symm))), N0, e0⟩ (by decide) (by decide)
theorem d4_0 : decode jdk_65_method_121_code 0 = .ok (.iload_n 1, 1) := by decide +kernel
theorem d4_1 : decode jdk_65_method_121_code 1 = .ok (.aload_n 0, 1) := by decide +kernel
theorem d4_2 : decode jdk_65_method_121_code 2 = .ok (.arraylength, 1) := by decide +kernel
theorem d4_3 : decode jdk_65_method_121_code 3 = .ok (.if_icmp .ne 11, 3) := by decide +kernel
theorem d4_14 : decode jdk_65_method_121_code 14 = .ok (.iload_n 1, 1) := by decide +kernel
theorem d4_15 : decode jdk_65_method_121_code 15 = .ok (.newarray .byte, 2) := by decide +kernel
theorem d4_17 : decode jdk_65_method_121_code 17 = .ok (.astore_n 2, 1) := by decide +kernel
theorem d4_18 : decode jdk_65_method_121_code 18 = .ok (.aload_n 0, 1) := by decide +kernel
theorem d4_19 : decode jdk_65_method_121_code 19 = .ok (.iconst 0, 1) := by decide +kernel
theorem d4_20 : decode jdk_65_method_121_code 20 = .ok (.aload_n 2, 1) := by decide +kernel
theorem d4_21 : decode jdk_65_method_121_code 21 = .ok (.iconst 0, 1) := by decide +kernel
theorem d4_22 : decode jdk_65_method_121_code 22 = .ok (.aload_n 0, 1) := by decide +kernel
theorem d4_23 : decode jdk_65_method_121_code 23 = .ok (.arraylength, 1) := by decide +kernel
theorem d4_24 : decode jdk_65_method_121_code 24 = .ok (.iload_n 1, 1) := by decide +kernel
theorem d4_25 : decode jdk_65_method_121_code 25 = .ok (.invokestatic 304, 3) := by decide +kernel
theorem d4_28 : decode jdk_65_method_121_code 28 = .ok (.invokestatic 150, 3) := by decide +kernel
theorem d4_31 : decode jdk_65_method_121_code 31 = .ok (.aload_n 2, 1) := by decide +kernel
theorem d4_32 : decode jdk_65_method_121_code 32 = .ok (.areturn, 1) := by decide +kernel
theorem pn_4 : plainName "java/util/Arrays" = true := by first | (simp [plainName, overriddenIn]; done) | decide +kernel
theorem pd_2 : parseMethodDescriptor "(II)I" = some ⟨[.int, .int], some .int⟩ := by decide +kernel
theorem ef_4_0_64 (m : MethodId) (x0 : Addr) (x1 : Int32) : entryFrame m #[(.ref x0), (.int x1)] 3 = mkF m 0 #[rv x0, iv x1, .unset] [] := by first | (simp [entryFrame, mkF, argsToLocals, Value.category]; done) | rfl
def Q4_0_64 (Z : State) (a0 : Addr) (k : ClassId) (h0 : Heap) (n0 : Nat) (v : Option Value) (h : Heap) (L : List Loc) : Prop := ∃ (b : Addr), ∃ (k2 : ClassId), v = some (.ref b) ∧ Fr n0 L ∧ Keep h0 h [] ∧ Arv Z h b k2 .byte (64 : Int32) [] (.int 0) ∧ h0.size ≤ b
set_option maxRecDepth 65536 in
set_option maxHeartbeats 40000000 in
theorem rm4_0_64 (l : Launch) (Z : State) (aw : Array Value) (hw : ∀ d ∈ tables_1, d.before aw Z = true) (ws : List Jvm.Cond) (a0 : Addr) (k : ClassId) (h0 : Heap) (n0 : Nat) (Z0 : n0 ≤ h0.size) (P0 : Arv Z h0 a0 k .byte (0 : Int32) [] (.int 0)) :
    MetFree l (⟨"java/util/Arrays", "copyOf", "([BI)[B"⟩ : MethodName) (head1 (Jvm.Cond.code (⟨"java/util/Arrays", "copyOf", "([BI)[B"⟩ : MethodName) jdk_65_method_121_code 3 (some (.array .byte)) :: ws) ({ frames := 1, cells := 1, slots := 64, locals := 27 } : Room)) (fun a U => a = #[(.ref a0), (.int 64)] ∧ Z.Warmed39 U.vm ∧ U.heap = h0) (fun _ _ _ _ _ => True) (fun _ U o U' => ∃ v L, o = .returned v ∧ Q4_0_64 Z a0 k h0 n0 v U'.heap L ∧ FrameEnd U o U' L ({ frames := 1, cells := 1, slots := 64, locals := 27 } : Room).cells ({ frames := 1, cells := 1, slots := 64, locals := 27 } : Room).slots) := by
  refine MetFree.of_bodySF (plainFor_of_name pn_4) hisR ?_
  intro p e s m args below meth c s₁ Bd hml0 hP hK
  obtain ⟨rfl, hZ, hh⟩ := hP
  have hx := Bd.exec
  have hby := Bd.bytes
  have hml : c.maxLocals = 3 := hml0
  have hown : s.vm.findClass "java/util/Arrays" = some m.cls := findClass_of_methodNamed Bd.named
  have hnm := (name_of_methodNamed Bd.named Bd.method).1
  have hlk : meth.locks = false := by first | exact BodyLoose.notSynchronized (by assumption) | exact Body.notSynchronized (by assumption)
  have X0 : Stand p l e ({ frames := 1, cells := 1, slots := 64, locals := 27 } : Room) s m #[(.ref a0), (.int 64)] below meth c s₁ [] 0 0 := Stand.of_body Bd
  have e0 : s₁.heap = h0 := by rw [← hh, Bd.state]; rfl
  have N0 := Fr.nil n0
  have K0 : Keep h0 h0 [] := Keep.refl _ _
  refine own_start (CS := (1, 64)) (Q := (Q4_0_64 Z a0 k h0 n0)) (ef_4_0_64 m a0 (64 : Int32)) ?_
  show own_Go p e below s _ _ (s₁.setTop (mkF m 0 #[rv a0, iv 64, .unset] []))
  refine own_via (fun k => XS.iloadN X0.here hx rfl (hb hby d4_0) rfl  (XS.aloadN X0.here hx rfl (hb hby d4_1) rfl rfl  k)) ?_
  show own_Go p e below s _ _ (s₁.setTop (mkF m 2 #[rv a0, iv 64, .unset] [(.ref a0), (.int 64)]))
  obtain ⟨cl1, Ar1, -, S1, NN1, -, -⟩ := id P0
  refine own_via (fun k => X0.arraylength hx (by rw [e0]; exact Ar1.1) (State.isArrayOf_alike hZ.alike Ar1.2.1) (g := (mkF m 2 #[rv a0, iv 64, .unset] [(.ref a0), (.int 64)])) rfl rfl (hb hby d4_2) _ k) ?_
  rw [len_of S1 NN1]
  show own_Go p e below s _ _ (s₁.setTop (mkF m 3 #[rv a0, iv 64, .unset] [(.int 0), (.int 64)]))
  refine own_via (fun k => XS.icmpYes X0.here hx rfl (pc0 := 3) (pc' := 14) rfl (hb hby d4_3) rfl (by decide) (by decide) (by decide) k) ?_
  show own_Go p e below s _ _ (s₁.setTop (mkF m 14 #[rv a0, iv 64, .unset] []))
  refine own_via (fun k => XS.iloadN X0.here hx rfl (hb hby d4_14) rfl  k) ?_
  show own_Go p e below s _ _ (s₁.setTop (mkF m 15 #[rv a0, iv 64, .unset] [(.int 64)]))
  obtain ⟨T2, h2, k2, X2, e2, E2, A2, st2⟩ := newP X0 hx hZ (hw _ (List.mem_of_getElem? (i := 0) rfl)) e0 (g := (mkF m 15 #[rv a0, iv 64, .unset] [(.int 64)])) rfl (hb hby d4_15) rfl (by decide) (cap := 64) (by decide) (by decide) (by decide) (by decide)
  obtain ⟨b2, g2⟩ : ∃ z, z = h0.size := ⟨_, rfl⟩
  rw [← g2] at A2 st2
  refine own_via (fun k => st2 _ k) ?_
  show own_Go p e below s _ _ (T2.setTop (mkF m 17 #[rv a0, iv 64, .unset] [(.ref b2)]))
  have g3 : n0 ≤ b2 := Nat.le_trans Z0 (Nat.le_of_eq g2.symm)
  have sz4 : h0.size ≤ b2 := Nat.le_trans K0.1 (Nat.le_of_eq g2.symm)
  have ne5 : a0 ≠ b2 := Nat.ne_of_lt (Nat.lt_of_lt_of_le P0.lt (Nat.le_of_eq g2.symm))
  have B6 := P0.ext E2
  have K7 : Keep h0 h2 [] := K0.ext E2
  have Z8 : n0 ≤ h2.size := Nat.le_trans Z0 E2.1
  have B9 : Arv Z h2 b2 k2 .byte (64 : Int32) [] (.int 0) := (Arv.new A2 (by decide)).pad (pad_rep [] (.int 0) 0)
  refine own_via (fun k => XS.astoreN X2.here hx rfl (hb hby d4_17) rfl rfl (l' := #[rv a0, iv 64, rv b2]) rfl (XS.aloadN X2.here hx rfl (hb hby d4_18) rfl rfl  (XS.iconst X2.here hx rfl (hb hby d4_19) (XS.aloadN X2.here hx rfl (hb hby d4_20) rfl rfl  k)))) ?_
  show own_Go p e below s _ _ (T2.setTop (mkF m 21 #[rv a0, iv 64, rv b2] [(.ref b2), (.int 0), (.ref a0)]))
  refine own_via (fun k => XS.iconst X2.here hx rfl (hb hby d4_21) (XS.aloadN X2.here hx rfl (hb hby d4_22) rfl rfl  k)) ?_
  show own_Go p e below s _ _ (T2.setTop (mkF m 23 #[rv a0, iv 64, rv b2] [(.ref a0), (.int 0), (.ref b2), (.int 0), (.ref a0)]))
  obtain ⟨cl10, Ar10, -, S10, NN10, -, -⟩ := id B6
  refine own_via (fun k => X2.arraylength hx (by rw [e2]; exact Ar10.1) (State.isArrayOf_alike hZ.alike Ar10.2.1) (g := (mkF m 23 #[rv a0, iv 64, rv b2] [(.ref a0), (.int 0), (.ref b2), (.int 0), (.ref a0)])) rfl rfl (hb hby d4_23) _ k) ?_
  rw [len_of S10 NN10]
  show own_Go p e below s _ _ (T2.setTop (mkF m 24 #[rv a0, iv 64, rv b2] [(.int 0), (.int 0), (.ref b2), (.int 0), (.ref a0)]))
  refine own_via (fun k => XS.iloadN X2.here hx rfl (hb hby d4_24) rfl  k) ?_
  show own_Go p e below s _ _ (T2.setTop (mkF m 25 #[rv a0, iv 64, rv b2] [(.int 64), (.int 0), (.int 0), (.ref b2), (.int 0), (.ref a0)]))
  obtain ⟨_, _, ⟨T11, L11, k11, n11⟩, -, X11, ⟨Lc11, hQ11, l11, y11, z11⟩, st11⟩ := Jvm.LawKit.callS X2 hx (y := (⟨"java/lang/Math", "min", "(II)I"⟩ : MethodName)) hown (mvT hZ (hw _ (List.mem_of_getElem? (i := 21) rfl))) (mvT hZ (hw _ (List.mem_of_getElem? (i := 22) rfl))) (mvT hZ (hw _ (List.mem_of_getElem? (i := 15) rfl))) (mvT hZ (hw _ (List.mem_of_getElem? (i := 23) rfl))) (by decide) (backOf (W := 4) (rm5 l Z aw hw [] (0 : Int32) (64 : Int32) h2 n0 Z8) hZ (hw _ (List.mem_of_getElem? (i := 23) rfl)) (hw _ (List.mem_of_getElem? (i := 15) rfl)) (by decide) (by decide)) (g := (mkF m 25 #[rv a0, iv 64, rv b2] [(.int 64), (.int 0), (.int 0), (.ref b2), (.int 0), (.ref a0)])) rfl (by rw [hml]; rfl) (argsL := [(.int 0), (.int 64)]) (rest := [(.int 0), (.ref b2), (.int 0), (.ref a0)]) (lenOf pd_2 rfl) rfl (by show 2 * 0 + _ ≤ _; exact Nat.le_of_eq rfl) (hb hby d4_25) (fun _ _ => ⟨rfl, e2, (by decide : 1 + 0 ≤ _), (by decide : 64 + 0 ≤ _)⟩)
  dsimp only [Pt.U, Pt.locs, Pt.cells, Pt.slots] at X11 l11 y11 z11 st11 hQ11
  subst l11 y11 z11
  obtain ⟨rfl, N11q, eh11⟩ := hQ11
  have N12 := Fr.app N0 N11q
  refine own_via (fun k => st11 _ k) ?_
  show own_Go p e below s _ _ (T11.setTop (mkF m 28 #[rv a0, iv 64, rv b2] [(.int (own_f5 (0 : Int32) (64 : Int32))), (.int 0), (.ref b2), (.int 0), (.ref a0)]))
  rw [show (own_f5 (0 : Int32) (64 : Int32)) = (0 : Int32) from by decide]
  show own_Go p e below s _ _ (T11.setTop (mkF m 28 #[rv a0, iv 64, rv b2] [(.int 0), (.int 0), (.ref b2), (.int 0), (.ref a0)]))
  obtain ⟨T13, h13, L13, X13, e13, N13, K13, A13, st13⟩ := cpA X11 hx hZ hown (hw _ (List.mem_of_getElem? (i := 24) rfl)) (hw _ (List.mem_of_getElem? (i := 27) rfl)) (hw _ (List.mem_of_getElem? (i := 25) rfl)) (hw _ (List.mem_of_getElem? (i := 26) rfl)) eh11 B6 B9 (us := []) (Or.inl ⟨rfl, rfl⟩) (sp := (0 : Int32)) (dp := (0 : Int32)) (nn := (0 : Int32)) (by decide) (by decide) (by decide) (by decide) (by decide) (by rfl) (by decide) N12 g3 (g := (mkF m 28 #[rv a0, iv 64, rv b2] [(.int 0), (.int 0), (.ref b2), (.int 0), (.ref a0)])) rfl (by rw [hml]; rfl) rfl (hb hby d4_28) (by decide) (W := 0) (by show 2 * 0 + _ ≤ _; exact Nat.le_of_eq rfl) (by decide)
  refine own_via (fun k => st13 _ k) ?_
  show own_Go p e below s _ _ (T13.setTop (mkF m 31 #[rv a0, iv 64, rv b2] []))
  have B14 := B6.keep K13 (ninS ne5 nin0)
  have Z15 : n0 ≤ h13.size := Nat.le_trans Z8 K13.1
  have K16 : Keep h0 h13 [] := K7.trans K13 (allS (Or.inr sz4) all0)
  have B17 : Arv Z h13 b2 k2 .byte (64 : Int32) [] (.int 0) := A13
  refine own_via (fun k => XS.aloadN X13.here hx rfl (hb hby d4_31) rfl rfl  k) ?_
  show own_Go p e below s _ _ (T13.setTop (mkF m 32 #[rv a0, iv 64, rv b2] [(.ref b2)]))
  exact own_retA X13 hx hlk rfl (t := (.array .byte)) Bd.returns rfl (hb hby d4_32) (Q := (Q4_0_64 Z a0 k h0 n0)) ⟨b2, k2, rfl, N13, (by rw [e13]; exact K16), (by rw [e13]; exact B17), sz4⟩ (by decide) (by decide)
theorem ef_4_1_64 (m : MethodId) (x0 : Addr) (x1 : Int32) : entryFrame m #[(.ref x0), (.int x1)] 3 = mkF m 0 #[rv x0, iv x1, .unset] [] := by first | (simp [entryFrame, mkF, argsToLocals, Value.category]; done) | rfl
def Q4_1_64 (Z : State) (a0 : Addr) (k : ClassId) (w0 : Int32) (h0 : Heap) (n0 : Nat) (v : Option Value) (h : Heap) (L : List Loc) : Prop := ∃ (b : Addr), ∃ (k2 : ClassId), v = some (.ref b) ∧ Fr n0 L ∧ Keep h0 h [] ∧ Arv Z h b k2 .byte (64 : Int32) [(.int w0)] (.int 0) ∧ h0.size ≤ b
set_option maxRecDepth 65536 in
set_option maxHeartbeats 40000000 in
theorem rm4_1_64 (l : Launch) (Z : State) (aw : Array Value) (hw : ∀ d ∈ tables_1, d.before aw Z = true) (ws : List Jvm.Cond) (a0 : Addr) (k : ClassId) (w0 : Int32) (h0 : Heap) (n0 : Nat) (Z0 : n0 ≤ h0.size) (P0 : Arv Z h0 a0 k .byte (1 : Int32) [(.int w0)] (.int 0)) :
    MetFree l (⟨"java/util/Arrays", "copyOf", "([BI)[B"⟩ : MethodName) (head1 (Jvm.Cond.code (⟨"java/util/Arrays", "copyOf", "([BI)[B"⟩ : MethodName) jdk_65_method_121_code 3 (some (.array .byte)) :: ws) ({ frames := 1, cells := 1, slots := 64, locals := 27 } : Room)) (fun a U => a = #[(.ref a0), (.int 64)] ∧ Z.Warmed39 U.vm ∧ U.heap = h0) (fun _ _ _ _ _ => True) (fun _ U o U' => ∃ v L, o = .returned v ∧ Q4_1_64 Z a0 k w0 h0 n0 v U'.heap L ∧ FrameEnd U o U' L ({ frames := 1, cells := 1, slots := 64, locals := 27 } : Room).cells ({ frames := 1, cells := 1, slots := 64, locals := 27 } : Room).slots) := by
  refine MetFree.of_bodySF (plainFor_of_name pn_4) hisR ?_
  intro p e s m args below meth c s₁ Bd hml0 hP hK
  obtain ⟨rfl, hZ, hh⟩ := hP
  have hx := Bd.exec
  have hby := Bd.bytes
  have hml : c.maxLocals = 3 := hml0
  have hown : s.vm.findClass "java/util/Arrays" = some m.cls := findClass_of_methodNamed Bd.named
  have hnm := (name_of_methodNamed Bd.named Bd.method).1
  have hlk : meth.locks = false := by first | exact BodyLoose.notSynchronized (by assumption) | exact Body.notSynchronized (by assumption)
  have X0 : Stand p l e ({ frames := 1, cells := 1, slots := 64, locals := 27 } : Room) s m #[(.ref a0), (.int 64)] below meth c s₁ [] 0 0 := Stand.of_body Bd
  have e0 : s₁.heap = h0 := by rw [← hh, Bd.state]; rfl
  have N0 := Fr.nil n0
  have K0 : Keep h0 h0 [] := Keep.refl _ _
  refine own_start (CS := (1, 64)) (Q := (Q4_1_64 Z a0 k w0 h0 n0)) (ef_4_1_64 m a0 (64 : Int32)) ?_
  show own_Go p e below s _ _ (s₁.setTop (mkF m 0 #[rv a0, iv 64, .unset] []))
  refine own_via (fun k => XS.iloadN X0.here hx rfl (hb hby d4_0) rfl  (XS.aloadN X0.here hx rfl (hb hby d4_1) rfl rfl  k)) ?_
  show own_Go p e below s _ _ (s₁.setTop (mkF m 2 #[rv a0, iv 64, .unset] [(.ref a0), (.int 64)]))
  obtain ⟨cl1, Ar1, -, S1, NN1, -, -⟩ := id P0
  refine own_via (fun k => X0.arraylength hx (by rw [e0]; exact Ar1.1) (State.isArrayOf_alike hZ.alike Ar1.2.1) (g := (mkF m 2 #[rv a0, iv 64, .unset] [(.ref a0), (.int 64)])) rfl rfl (hb hby d4_2) _ k) ?_
  rw [len_of S1 NN1]
  show own_Go p e below s _ _ (s₁.setTop (mkF m 3 #[rv a0, iv 64, .unset] [(.int 1), (.int 64)]))
  refine own_via (fun k => XS.icmpYes X0.here hx rfl (pc0 := 3) (pc' := 14) rfl (hb hby d4_3) rfl (by decide) (by decide) (by decide) k) ?_
  show own_Go p e below s _ _ (s₁.setTop (mkF m 14 #[rv a0, iv 64, .unset] []))
  refine own_via (fun k => XS.iloadN X0.here hx rfl (hb hby d4_14) rfl  k) ?_
  show own_Go p e below s _ _ (s₁.setTop (mkF m 15 #[rv a0, iv 64, .unset] [(.int 64)]))
  obtain ⟨T2, h2, k2, X2, e2, E2, A2, st2⟩ := newP X0 hx hZ (hw _ (List.mem_of_getElem? (i := 0) rfl)) e0 (g := (mkF m 15 #[rv a0, iv 64, .unset] [(.int 64)])) rfl (hb hby d4_15) rfl (by decide) (cap := 64) (by decide) (by decide) (by decide) (by decide)
  obtain ⟨b2, g2⟩ : ∃ z, z = h0.size := ⟨_, rfl⟩
  rw [← g2] at A2 st2
  refine own_via (fun k => st2 _ k) ?_
  show own_Go p e below s _ _ (T2.setTop (mkF m 17 #[rv a0, iv 64, .unset] [(.ref b2)]))
  have g3 : n0 ≤ b2 := Nat.le_trans Z0 (Nat.le_of_eq g2.symm)
  have sz4 : h0.size ≤ b2 := Nat.le_trans K0.1 (Nat.le_of_eq g2.symm)
  have ne5 : a0 ≠ b2 := Nat.ne_of_lt (Nat.lt_of_lt_of_le P0.lt (Nat.le_of_eq g2.symm))
  have B6 := P0.ext E2
  have K7 : Keep h0 h2 [] := K0.ext E2
  have Z8 : n0 ≤ h2.size := Nat.le_trans Z0 E2.1
  have B9 : Arv Z h2 b2 k2 .byte (64 : Int32) [(.int 0)] (.int 0) := (Arv.new A2 (by decide)).pad (pad_rep [] (.int 0) 1)
  refine own_via (fun k => XS.astoreN X2.here hx rfl (hb hby d4_17) rfl rfl (l' := #[rv a0, iv 64, rv b2]) rfl (XS.aloadN X2.here hx rfl (hb hby d4_18) rfl rfl  (XS.iconst X2.here hx rfl (hb hby d4_19) (XS.aloadN X2.here hx rfl (hb hby d4_20) rfl rfl  k)))) ?_
  show own_Go p e below s _ _ (T2.setTop (mkF m 21 #[rv a0, iv 64, rv b2] [(.ref b2), (.int 0), (.ref a0)]))
  refine own_via (fun k => XS.iconst X2.here hx rfl (hb hby d4_21) (XS.aloadN X2.here hx rfl (hb hby d4_22) rfl rfl  k)) ?_
  show own_Go p e below s _ _ (T2.setTop (mkF m 23 #[rv a0, iv 64, rv b2] [(.ref a0), (.int 0), (.ref b2), (.int 0), (.ref a0)]))
  obtain ⟨cl10, Ar10, -, S10, NN10, -, -⟩ := id B6
  refine own_via (fun k => X2.arraylength hx (by rw [e2]; exact Ar10.1) (State.isArrayOf_alike hZ.alike Ar10.2.1) (g := (mkF m 23 #[rv a0, iv 64, rv b2] [(.ref a0), (.int 0), (.ref b2), (.int 0), (.ref a0)])) rfl rfl (hb hby d4_23) _ k) ?_
  rw [len_of S10 NN10]
  show own_Go p e below s _ _ (T2.setTop (mkF m 24 #[rv a0, iv 64, rv b2] [(.int 1), (.int 0), (.ref b2), (.int 0), (.ref a0)]))
  refine own_via (fun k => XS.iloadN X2.here hx rfl (hb hby d4_24) rfl  k) ?_
  show own_Go p e below s _ _ (T2.setTop (mkF m 25 #[rv a0, iv 64, rv b2] [(.int 64), (.int 1), (.int 0), (.ref b2), (.int 0), (.ref a0)]))
  obtain ⟨_, _, ⟨T11, L11, k11, n11⟩, -, X11, ⟨Lc11, hQ11, l11, y11, z11⟩, st11⟩ := Jvm.LawKit.callS X2 hx (y := (⟨"java/lang/Math", "min", "(II)I"⟩ : MethodName)) hown (mvT hZ (hw _ (List.mem_of_getElem? (i := 21) rfl))) (mvT hZ (hw _ (List.mem_of_getElem? (i := 22) rfl))) (mvT hZ (hw _ (List.mem_of_getElem? (i := 15) rfl))) (mvT hZ (hw _ (List.mem_of_getElem? (i := 23) rfl))) (by decide) (backOf (W := 4) (rm5 l Z aw hw [] (1 : Int32) (64 : Int32) h2 n0 Z8) hZ (hw _ (List.mem_of_getElem? (i := 23) rfl)) (hw _ (List.mem_of_getElem? (i := 15) rfl)) (by decide) (by decide)) (g := (mkF m 25 #[rv a0, iv 64, rv b2] [(.int 64), (.int 1), (.int 0), (.ref b2), (.int 0), (.ref a0)])) rfl (by rw [hml]; rfl) (argsL := [(.int 1), (.int 64)]) (rest := [(.int 0), (.ref b2), (.int 0), (.ref a0)]) (lenOf pd_2 rfl) rfl (by show 2 * 0 + _ ≤ _; exact Nat.le_of_eq rfl) (hb hby d4_25) (fun _ _ => ⟨rfl, e2, (by decide : 1 + 0 ≤ _), (by decide : 64 + 0 ≤ _)⟩)
  dsimp only [Pt.U, Pt.locs, Pt.cells, Pt.slots] at X11 l11 y11 z11 st11 hQ11
  subst l11 y11 z11
  obtain ⟨rfl, N11q, eh11⟩ := hQ11
  have N12 := Fr.app N0 N11q
  refine own_via (fun k => st11 _ k) ?_
  show own_Go p e below s _ _ (T11.setTop (mkF m 28 #[rv a0, iv 64, rv b2] [(.int (own_f5 (1 : Int32) (64 : Int32))), (.int 0), (.ref b2), (.int 0), (.ref a0)]))
  rw [show (own_f5 (1 : Int32) (64 : Int32)) = (1 : Int32) from by decide]
  show own_Go p e below s _ _ (T11.setTop (mkF m 28 #[rv a0, iv 64, rv b2] [(.int 1), (.int 0), (.ref b2), (.int 0), (.ref a0)]))
  obtain ⟨T13, h13, L13, X13, e13, N13, K13, A13, st13⟩ := cpA X11 hx hZ hown (hw _ (List.mem_of_getElem? (i := 24) rfl)) (hw _ (List.mem_of_getElem? (i := 27) rfl)) (hw _ (List.mem_of_getElem? (i := 25) rfl)) (hw _ (List.mem_of_getElem? (i := 26) rfl)) eh11 B6 B9 (us := [(.int w0)]) (Or.inl ⟨rfl, rfl⟩) (sp := (0 : Int32)) (dp := (0 : Int32)) (nn := (1 : Int32)) (by decide) (by decide) (by decide) (by decide) (by decide) (by rfl) (by decide) N12 g3 (g := (mkF m 28 #[rv a0, iv 64, rv b2] [(.int 1), (.int 0), (.ref b2), (.int 0), (.ref a0)])) rfl (by rw [hml]; rfl) rfl (hb hby d4_28) (by decide) (W := 0) (by show 2 * 0 + _ ≤ _; exact Nat.le_of_eq rfl) (by decide)
  refine own_via (fun k => st13 _ k) ?_
  show own_Go p e below s _ _ (T13.setTop (mkF m 31 #[rv a0, iv 64, rv b2] []))
  have B14 := B6.keep K13 (ninS ne5 nin0)
  have Z15 : n0 ≤ h13.size := Nat.le_trans Z8 K13.1
  have K16 : Keep h0 h13 [] := K7.trans K13 (allS (Or.inr sz4) all0)
  have B17 : Arv Z h13 b2 k2 .byte (64 : Int32) [(.int w0)] (.int 0) := A13
  refine own_via (fun k => XS.aloadN X13.here hx rfl (hb hby d4_31) rfl rfl  k) ?_
  show own_Go p e below s _ _ (T13.setTop (mkF m 32 #[rv a0, iv 64, rv b2] [(.ref b2)]))
  exact own_retA X13 hx hlk rfl (t := (.array .byte)) Bd.returns rfl (hb hby d4_32) (Q := (Q4_1_64 Z a0 k w0 h0 n0)) ⟨b2, k2, rfl, N13, (by rw [e13]; exact K16), (by rw [e13]; exact B17), sz4⟩ (by decide) (by decide)
theorem ef_4_2_64 (m : MethodId) (x0 : Addr) (x1 : Int32) : entryFrame m #[(.ref x0), (.int x1)] 3 = mkF m 0 #[rv x0, iv x1, .unset] [] := by first | (simp [entryFrame, mkF, argsToLocals, Value.category]; done) | rfl
def Q4_2_64 (Z : State) (a0 : Addr) (k : ClassId) (w0 : Int32) (w1 : Int32) (h0 : Heap) (n0 : Nat) (v : Option Value) (h : Heap) (L : List Loc) : Prop := ∃ (b : Addr), ∃ (k2 : ClassId), v = some (.ref b) ∧ Fr n0 L ∧ Keep h0 h [] ∧ Arv Z h b k2 .byte (64 : Int32) [(.int w0), (.int w1)] (.int 0) ∧ h0.size ≤ b
set_option maxRecDepth 65536 in
set_option maxHeartbeats 40000000 in
theorem rm4_2_64 (l : Launch) (Z : State) (aw : Array Value) (hw : ∀ d ∈ tables_1, d.before aw Z = true) (ws : List Jvm.Cond) (a0 : Addr) (k : ClassId) (w0 : Int32) (w1 : Int32) (h0 : Heap) (n0 : Nat) (Z0 : n0 ≤ h0.size) (P0 : Arv Z h0 a0 k .byte (2 : Int32) [(.int w0), (.int w1)] (.int 0)) :
    MetFree l (⟨"java/util/Arrays", "copyOf", "([BI)[B"⟩ : MethodName) (head1 (Jvm.Cond.code (⟨"java/util/Arrays", "copyOf", "([BI)[B"⟩ : MethodName) jdk_65_method_121_code 3 (some (.array .byte)) :: ws) ({ frames := 1, cells := 1, slots := 64, locals := 27 } : Room)) (fun a U => a = #[(.ref a0), (.int 64)] ∧ Z.Warmed39 U.vm ∧ U.heap = h0) (fun _ _ _ _ _ => True) (fun _ U o U' => ∃ v L, o = .returned v ∧ Q4_2_64 Z a0 k w0 w1 h0 n0 v U'.heap L ∧ FrameEnd U o U' L ({ frames := 1, cells := 1, slots := 64, locals := 27 } : Room).cells ({ frames := 1, cells := 1, slots := 64, locals := 27 } : Room).slots) := by
  refine MetFree.of_bodySF (plainFor_of_name pn_4) hisR ?_
  intro p e s m args below meth c s₁ Bd hml0 hP hK
  obtain ⟨rfl, hZ, hh⟩ := hP
  have hx := Bd.exec
  have hby := Bd.bytes
  have hml : c.maxLocals = 3 := hml0
  have hown : s.vm.findClass "java/util/Arrays" = some m.cls := findClass_of_methodNamed Bd.named
  have hnm := (name_of_methodNamed Bd.named Bd.method).1
  have hlk : meth.locks = false := by first | exact BodyLoose.notSynchronized (by assumption) | exact Body.notSynchronized (by assumption)
  have X0 : Stand p l e ({ frames := 1, cells := 1, slots := 64, locals := 27 } : Room) s m #[(.ref a0), (.int 64)] below meth c s₁ [] 0 0 := Stand.of_body Bd
  have e0 : s₁.heap = h0 := by rw [← hh, Bd.state]; rfl
  have N0 := Fr.nil n0
  have K0 : Keep h0 h0 [] := Keep.refl _ _
  refine own_start (CS := (1, 64)) (Q := (Q4_2_64 Z a0 k w0 w1 h0 n0)) (ef_4_2_64 m a0 (64 : Int32)) ?_
  show own_Go p e below s _ _ (s₁.setTop (mkF m 0 #[rv a0, iv 64, .unset] []))
  refine own_via (fun k => XS.iloadN X0.here hx rfl (hb hby d4_0) rfl  (XS.aloadN X0.here hx rfl (hb hby d4_1) rfl rfl  k)) ?_
  show own_Go p e below s _ _ (s₁.setTop (mkF m 2 #[rv a0, iv 64, .unset] [(.ref a0), (.int 64)]))
  obtain ⟨cl1, Ar1, -, S1, NN1, -, -⟩ := id P0
  refine own_via (fun k => X0.arraylength hx (by rw [e0]; exact Ar1.1) (State.isArrayOf_alike hZ.alike Ar1.2.1) (g := (mkF m 2 #[rv a0, iv 64, .unset] [(.ref a0), (.int 64)])) rfl rfl (hb hby d4_2) _ k) ?_
  rw [len_of S1 NN1]
  show own_Go p e below s _ _ (s₁.setTop (mkF m 3 #[rv a0, iv 64, .unset] [(.int 2), (.int 64)]))
  refine own_via (fun k => XS.icmpYes X0.here hx rfl (pc0 := 3) (pc' := 14) rfl (hb hby d4_3) rfl (by decide) (by decide) (by decide) k) ?_
  show own_Go p e below s _ _ (s₁.setTop (mkF m 14 #[rv a0, iv 64, .unset] []))
  refine own_via (fun k => XS.iloadN X0.here hx rfl (hb hby d4_14) rfl  k) ?_
  show own_Go p e below s _ _ (s₁.setTop (mkF m 15 #[rv a0, iv 64, .unset] [(.int 64)]))
  obtain ⟨T2, h2, k2, X2, e2, E2, A2, st2⟩ := newP X0 hx hZ (hw _ (List.mem_of_getElem? (i := 0) rfl)) e0 (g := (mkF m 15 #[rv a0, iv 64, .unset] [(.int 64)])) rfl (hb hby d4_15) rfl (by decide) (cap := 64) (by decide) (by decide) (by decide) (by decide)
  obtain ⟨b2, g2⟩ : ∃ z, z = h0.size := ⟨_, rfl⟩
  rw [← g2] at A2 st2
  refine own_via (fun k => st2 _ k) ?_
  show own_Go p e below s _ _ (T2.setTop (mkF m 17 #[rv a0, iv 64, .unset] [(.ref b2)]))
  have g3 : n0 ≤ b2 := Nat.le_trans Z0 (Nat.le_of_eq g2.symm)
  have sz4 : h0.size ≤ b2 := Nat.le_trans K0.1 (Nat.le_of_eq g2.symm)
  have ne5 : a0 ≠ b2 := Nat.ne_of_lt (Nat.lt_of_lt_of_le P0.lt (Nat.le_of_eq g2.symm))
  have B6 := P0.ext E2
  have K7 : Keep h0 h2 [] := K0.ext E2
  have Z8 : n0 ≤ h2.size := Nat.le_trans Z0 E2.1
  have B9 : Arv Z h2 b2 k2 .byte (64 : Int32) [(.int 0), (.int 0)] (.int 0) := (Arv.new A2 (by decide)).pad (pad_rep [] (.int 0) 2)
  refine own_via (fun k => XS.astoreN X2.here hx rfl (hb hby d4_17) rfl rfl (l' := #[rv a0, iv 64, rv b2]) rfl (XS.aloadN X2.here hx rfl (hb hby d4_18) rfl rfl  (XS.iconst X2.here hx rfl (hb hby d4_19) (XS.aloadN X2.here hx rfl (hb hby d4_20) rfl rfl  k)))) ?_
  show own_Go p e below s _ _ (T2.setTop (mkF m 21 #[rv a0, iv 64, rv b2] [(.ref b2), (.int 0), (.ref a0)]))
  refine own_via (fun k => XS.iconst X2.here hx rfl (hb hby d4_21) (XS.aloadN X2.here hx rfl (hb hby d4_22) rfl rfl  k)) ?_
  show own_Go p e below s _ _ (T2.setTop (mkF m 23 #[rv a0, iv 64, rv b2] [(.ref a0), (.int 0), (.ref b2), (.int 0), (.ref a0)]))
  obtain ⟨cl10, Ar10, -, S10, NN10, -, -⟩ := id B6
  refine own_via (fun k => X2.arraylength hx (by rw [e2]; exact Ar10.1) (State.isArrayOf_alike hZ.alike Ar10.2.1) (g := (mkF m 23 #[rv a0, iv 64, rv b2] [(.ref a0), (.int 0), (.ref b2), (.int 0), (.ref a0)])) rfl rfl (hb hby d4_23) _ k) ?_
  rw [len_of S10 NN10]
  show own_Go p e below s _ _ (T2.setTop (mkF m 24 #[rv a0, iv 64, rv b2] [(.int 2), (.int 0), (.ref b2), (.int 0), (.ref a0)]))
  refine own_via (fun k => XS.iloadN X2.here hx rfl (hb hby d4_24) rfl  k) ?_
  show own_Go p e below s _ _ (T2.setTop (mkF m 25 #[rv a0, iv 64, rv b2] [(.int 64), (.int 2), (.int 0), (.ref b2), (.int 0), (.ref a0)]))
  obtain ⟨_, _, ⟨T11, L11, k11, n11⟩, -, X11, ⟨Lc11, hQ11, l11, y11, z11⟩, st11⟩ := Jvm.LawKit.callS X2 hx (y := (⟨"java/lang/Math", "min", "(II)I"⟩ : MethodName)) hown (mvT hZ (hw _ (List.mem_of_getElem? (i := 21) rfl))) (mvT hZ (hw _ (List.mem_of_getElem? (i := 22) rfl))) (mvT hZ (hw _ (List.mem_of_getElem? (i := 15) rfl))) (mvT hZ (hw _ (List.mem_of_getElem? (i := 23) rfl))) (by decide) (backOf (W := 4) (rm5 l Z aw hw [] (2 : Int32) (64 : Int32) h2 n0 Z8) hZ (hw _ (List.mem_of_getElem? (i := 23) rfl)) (hw _ (List.mem_of_getElem? (i := 15) rfl)) (by decide) (by decide)) (g := (mkF m 25 #[rv a0, iv 64, rv b2] [(.int 64), (.int 2), (.int 0), (.ref b2), (.int 0), (.ref a0)])) rfl (by rw [hml]; rfl) (argsL := [(.int 2), (.int 64)]) (rest := [(.int 0), (.ref b2), (.int 0), (.ref a0)]) (lenOf pd_2 rfl) rfl (by show 2 * 0 + _ ≤ _; exact Nat.le_of_eq rfl) (hb hby d4_25) (fun _ _ => ⟨rfl, e2, (by decide : 1 + 0 ≤ _), (by decide : 64 + 0 ≤ _)⟩)
  dsimp only [Pt.U, Pt.locs, Pt.cells, Pt.slots] at X11 l11 y11 z11 st11 hQ11
  subst l11 y11 z11
  obtain ⟨rfl, N11q, eh11⟩ := hQ11
  have N12 := Fr.app N0 N11q
  refine own_via (fun k => st11 _ k) ?_
  show own_Go p e below s _ _ (T11.setTop (mkF m 28 #[rv a0, iv 64, rv b2] [(.int (own_f5 (2 : Int32) (64 : Int32))), (.int 0), (.ref b2), (.int 0), (.ref a0)]))
  rw [show (own_f5 (2 : Int32) (64 : Int32)) = (2 : Int32) from by decide]
  show own_Go p e below s _ _ (T11.setTop (mkF m 28 #[rv a0, iv 64, rv b2] [(.int 2), (.int 0), (.ref b2), (.int 0), (.ref a0)]))
  obtain ⟨T13, h13, L13, X13, e13, N13, K13, A13, st13⟩ := cpA X11 hx hZ hown (hw _ (List.mem_of_getElem? (i := 24) rfl)) (hw _ (List.mem_of_getElem? (i := 27) rfl)) (hw _ (List.mem_of_getElem? (i := 25) rfl)) (hw _ (List.mem_of_getElem? (i := 26) rfl)) eh11 B6 B9 (us := [(.int w0), (.int w1)]) (Or.inl ⟨rfl, rfl⟩) (sp := (0 : Int32)) (dp := (0 : Int32)) (nn := (2 : Int32)) (by decide) (by decide) (by decide) (by decide) (by decide) (by rfl) (by decide) N12 g3 (g := (mkF m 28 #[rv a0, iv 64, rv b2] [(.int 2), (.int 0), (.ref b2), (.int 0), (.ref a0)])) rfl (by rw [hml]; rfl) rfl (hb hby d4_28) (by decide) (W := 0) (by show 2 * 0 + _ ≤ _; exact Nat.le_of_eq rfl) (by decide)
  refine own_via (fun k => st13 _ k) ?_
  show own_Go p e below s _ _ (T13.setTop (mkF m 31 #[rv a0, iv 64, rv b2] []))
  have B14 := B6.keep K13 (ninS ne5 nin0)
  have Z15 : n0 ≤ h13.size := Nat.le_trans Z8 K13.1
  have K16 : Keep h0 h13 [] := K7.trans K13 (allS (Or.inr sz4) all0)
  have B17 : Arv Z h13 b2 k2 .byte (64 : Int32) [(.int w0), (.int w1)] (.int 0) := A13
  refine own_via (fun k => XS.aloadN X13.here hx rfl (hb hby d4_31) rfl rfl  k) ?_
  show own_Go p e below s _ _ (T13.setTop (mkF m 32 #[rv a0, iv 64, rv b2] [(.ref b2)]))
  exact own_retA X13 hx hlk rfl (t := (.array .byte)) Bd.returns rfl (hb hby d4_32) (Q := (Q4_2_64 Z a0 k w0 w1 h0 n0)) ⟨b2, k2, rfl, N13, (by rw [e13]; exact K16), (by rw [e13]; exact B17), sz4⟩ (by decide) (by decide)
theorem ef_4_3_64 (m : MethodId) (x0 : Addr) (x1 : Int32) : entryFrame m #[(.ref x0), (.int x1)] 3 = mkF m 0 #[rv x0, iv x1, .unset] [] := by first | (simp [entryFrame, mkF, argsToLocals, Value.category]; done) | rfl
def Q4_3_64 (Z : State) (a0 : Addr) (k : ClassId) (w0 : Int32) (w1 : Int32) (w2 : Int32) (h0 : Heap) (n0 : Nat) (v : Option Value) (h : Heap) (L : List Loc) : Prop := ∃ (b : Addr), ∃ (k2 : ClassId), v = some (.ref b) ∧ Fr n0 L ∧ Keep h0 h [] ∧ Arv Z h b k2 .byte (64 : Int32) [(.int w0), (.int w1), (.int w2)] (.int 0) ∧ h0.size ≤ b
set_option maxRecDepth 65536 in
set_option maxHeartbeats 40000000 in
theorem rm4_3_64 (l : Launch) (Z : State) (aw : Array Value) (hw : ∀ d ∈ tables_1, d.before aw Z = true) (ws : List Jvm.Cond) (a0 : Addr) (k : ClassId) (w0 : Int32) (w1 : Int32) (w2 : Int32) (h0 : Heap) (n0 : Nat) (Z0 : n0 ≤ h0.size) (P0 : Arv Z h0 a0 k .byte (3 : Int32) [(.int w0), (.int w1), (.int w2)] (.int 0)) :
    MetFree l (⟨"java/util/Arrays", "copyOf", "([BI)[B"⟩ : MethodName) (head1 (Jvm.Cond.code (⟨"java/util/Arrays", "copyOf", "([BI)[B"⟩ : MethodName) jdk_65_method_121_code 3 (some (.array .byte)) :: ws) ({ frames := 1, cells := 1, slots := 64, locals := 27 } : Room)) (fun a U => a = #[(.ref a0), (.int 64)] ∧ Z.Warmed39 U.vm ∧ U.heap = h0) (fun _ _ _ _ _ => True) (fun _ U o U' => ∃ v L, o = .returned v ∧ Q4_3_64 Z a0 k w0 w1 w2 h0 n0 v U'.heap L ∧ FrameEnd U o U' L ({ frames := 1, cells := 1, slots := 64, locals := 27 } : Room).cells ({ frames := 1, cells := 1, slots := 64, locals := 27 } : Room).slots) := by
  refine MetFree.of_bodySF (plainFor_of_name pn_4) hisR ?_
  intro p e s m args below meth c s₁ Bd hml0 hP hK
  obtain ⟨rfl, hZ, hh⟩ := hP
  have hx := Bd.exec
  have hby := Bd.bytes
  have hml : c.maxLocals = 3 := hml0
  have hown : s.vm.findClass "java/util/Arrays" = some m.cls := findClass_of_methodNamed Bd.named
  have hnm := (name_of_methodNamed Bd.named Bd.method).1
  have hlk : meth.locks = false := by first | exact BodyLoose.notSynchronized (by assumption) | exact Body.notSynchronized (by assumption)
  have X0 : Stand p l e ({ frames := 1, cells := 1, slots := 64, locals := 27 } : Room) s m #[(.ref a0), (.int 64)] below meth c s₁ [] 0 0 := Stand.of_body Bd
  have e0 : s₁.heap = h0 := by rw [← hh, Bd.state]; rfl
  have N0 := Fr.nil n0
  have K0 : Keep h0 h0 [] := Keep.refl _ _
  refine own_start (CS := (1, 64)) (Q := (Q4_3_64 Z a0 k w0 w1 w2 h0 n0)) (ef_4_3_64 m a0 (64 : Int32)) ?_
  show own_Go p e below s _ _ (s₁.setTop (mkF m 0 #[rv a0, iv 64, .unset] []))
  refine own_via (fun k => XS.iloadN X0.here hx rfl (hb hby d4_0) rfl  (XS.aloadN X0.here hx rfl (hb hby d4_1) rfl rfl  k)) ?_
  show own_Go p e below s _ _ (s₁.setTop (mkF m 2 #[rv a0, iv 64, .unset] [(.ref a0), (.int 64)]))
  obtain ⟨cl1, Ar1, -, S1, NN1, -, -⟩ := id P0
  refine own_via (fun k => X0.arraylength hx (by rw [e0]; exact Ar1.1) (State.isArrayOf_alike hZ.alike Ar1.2.1) (g := (mkF m 2 #[rv a0, iv 64, .unset] [(.ref a0), (.int 64)])) rfl rfl (hb hby d4_2) _ k) ?_
  rw [len_of S1 NN1]
  show own_Go p e below s _ _ (s₁.setTop (mkF m 3 #[rv a0, iv 64, .unset] [(.int 3), (.int 64)]))
  refine own_via (fun k => XS.icmpYes X0.here hx rfl (pc0 := 3) (pc' := 14) rfl (hb hby d4_3) rfl (by decide) (by decide) (by decide) k) ?_
  show own_Go p e below s _ _ (s₁.setTop (mkF m 14 #[rv a0, iv 64, .unset] []))
  refine own_via (fun k => XS.iloadN X0.here hx rfl (hb hby d4_14) rfl  k) ?_
  show own_Go p e below s _ _ (s₁.setTop (mkF m 15 #[rv a0, iv 64, .unset] [(.int 64)]))
  obtain ⟨T2, h2, k2, X2, e2, E2, A2, st2⟩ := newP X0 hx hZ (hw _ (List.mem_of_getElem? (i := 0) rfl)) e0 (g := (mkF m 15 #[rv a0, iv 64, .unset] [(.int 64)])) rfl (hb hby d4_15) rfl (by decide) (cap := 64) (by decide) (by decide) (by decide) (by decide)
  obtain ⟨b2, g2⟩ : ∃ z, z = h0.size := ⟨_, rfl⟩
  rw [← g2] at A2 st2
  refine own_via (fun k => st2 _ k) ?_
  show own_Go p e below s _ _ (T2.setTop (mkF m 17 #[rv a0, iv 64, .unset] [(.ref b2)]))
  have g3 : n0 ≤ b2 := Nat.le_trans Z0 (Nat.le_of_eq g2.symm)
  have sz4 : h0.size ≤ b2 := Nat.le_trans K0.1 (Nat.le_of_eq g2.symm)
  have ne5 : a0 ≠ b2 := Nat.ne_of_lt (Nat.lt_of_lt_of_le P0.lt (Nat.le_of_eq g2.symm))
  have B6 := P0.ext E2
  have K7 : Keep h0 h2 [] := K0.ext E2
  have Z8 : n0 ≤ h2.size := Nat.le_trans Z0 E2.1
  have B9 : Arv Z h2 b2 k2 .byte (64 : Int32) [(.int 0), (.int 0), (.int 0)] (.int 0) := (Arv.new A2 (by decide)).pad (pad_rep [] (.int 0) 3)
  refine own_via (fun k => XS.astoreN X2.here hx rfl (hb hby d4_17) rfl rfl (l' := #[rv a0, iv 64, rv b2]) rfl (XS.aloadN X2.here hx rfl (hb hby d4_18) rfl rfl  (XS.iconst X2.here hx rfl (hb hby d4_19) (XS.aloadN X2.here hx rfl (hb hby d4_20) rfl rfl  k)))) ?_
  show own_Go p e below s _ _ (T2.setTop (mkF m 21 #[rv a0, iv 64, rv b2] [(.ref b2), (.int 0), (.ref a0)]))
  refine own_via (fun k => XS.iconst X2.here hx rfl (hb hby d4_21) (XS.aloadN X2.here hx rfl (hb hby d4_22) rfl rfl  k)) ?_
  show own_Go p e below s _ _ (T2.setTop (mkF m 23 #[rv a0, iv 64, rv b2] [(.ref a0), (.int 0), (.ref b2), (.int 0), (.ref a0)]))
  obtain ⟨cl10, Ar10, -, S10, NN10, -, -⟩ := id B6
  refine own_via (fun k => X2.arraylength hx (by rw [e2]; exact Ar10.1) (State.isArrayOf_alike hZ.alike Ar10.2.1) (g := (mkF m 23 #[rv a0, iv 64, rv b2] [(.ref a0), (.int 0), (.ref b2), (.int 0), (.ref a0)])) rfl rfl (hb hby d4_23) _ k) ?_
  rw [len_of S10 NN10]
  show own_Go p e below s _ _ (T2.setTop (mkF m 24 #[rv a0, iv 64, rv b2] [(.int 3), (.int 0), (.ref b2), (.int 0), (.ref a0)]))
  refine own_via (fun k => XS.iloadN X2.here hx rfl (hb hby d4_24) rfl  k) ?_
  show own_Go p e below s _ _ (T2.setTop (mkF m 25 #[rv a0, iv 64, rv b2] [(.int 64), (.int 3), (.int 0), (.ref b2), (.int 0), (.ref a0)]))
  obtain ⟨_, _, ⟨T11, L11, k11, n11⟩, -, X11, ⟨Lc11, hQ11, l11, y11, z11⟩, st11⟩ := Jvm.LawKit.callS X2 hx (y := (⟨"java/lang/Math", "min", "(II)I"⟩ : MethodName)) hown (mvT hZ (hw _ (List.mem_of_getElem? (i := 21) rfl))) (mvT hZ (hw _ (List.mem_of_getElem? (i := 22) rfl))) (mvT hZ (hw _ (List.mem_of_getElem? (i := 15) rfl))) (mvT hZ (hw _ (List.mem_of_getElem? (i := 23) rfl))) (by decide) (backOf (W := 4) (rm5 l Z aw hw [] (3 : Int32) (64 : Int32) h2 n0 Z8) hZ (hw _ (List.mem_of_getElem? (i := 23) rfl)) (hw _ (List.mem_of_getElem? (i := 15) rfl)) (by decide) (by decide)) (g := (mkF m 25 #[rv a0, iv 64, rv b2] [(.int 64), (.int 3), (.int 0), (.ref b2), (.int 0), (.ref a0)])) rfl (by rw [hml]; rfl) (argsL := [(.int 3), (.int 64)]) (rest := [(.int 0), (.ref b2), (.int 0), (.ref a0)]) (lenOf pd_2 rfl) rfl (by show 2 * 0 + _ ≤ _; exact Nat.le_of_eq rfl) (hb hby d4_25) (fun _ _ => ⟨rfl, e2, (by decide : 1 + 0 ≤ _), (by decide : 64 + 0 ≤ _)⟩)
  dsimp only [Pt.U, Pt.locs, Pt.cells, Pt.slots] at X11 l11 y11 z11 st11 hQ11
  subst l11 y11 z11
  obtain ⟨rfl, N11q, eh11⟩ := hQ11
  have N12 := Fr.app N0 N11q
  refine own_via (fun k => st11 _ k) ?_
  show own_Go p e below s _ _ (T11.setTop (mkF m 28 #[rv a0, iv 64, rv b2] [(.int (own_f5 (3 : Int32) (64 : Int32))), (.int 0), (.ref b2), (.int 0), (.ref a0)]))
  rw [show (own_f5 (3 : Int32) (64 : Int32)) = (3 : Int32) from by decide]
  show own_Go p e below s _ _ (T11.setTop (mkF m 28 #[rv a0, iv 64, rv b2] [(.int 3), (.int 0), (.ref b2), (.int 0), (.ref a0)]))
  obtain ⟨T13, h13, L13, X13, e13, N13, K13, A13, st13⟩ := cpA X11 hx hZ hown (hw _ (List.mem_of_getElem? (i := 24) rfl)) (hw _ (List.mem_of_getElem? (i := 27) rfl)) (hw _ (List.mem_of_getElem? (i := 25) rfl)) (hw _ (List.mem_of_getElem? (i := 26) rfl)) eh11 B6 B9 (us := [(.int w0), (.int w1), (.int w2)]) (Or.inl ⟨rfl, rfl⟩) (sp := (0 : Int32)) (dp := (0 : Int32)) (nn := (3 : Int32)) (by decide) (by decide) (by decide) (by decide) (by decide) (by rfl) (by decide) N12 g3 (g := (mkF m 28 #[rv a0, iv 64, rv b2] [(.int 3), (.int 0), (.ref b2), (.int 0), (.ref a0)])) rfl (by rw [hml]; rfl) rfl (hb hby d4_28) (by decide) (W := 0) (by show 2 * 0 + _ ≤ _; exact Nat.le_of_eq rfl) (by decide)
  refine own_via (fun k => st13 _ k) ?_
  show own_Go p e below s _ _ (T13.setTop (mkF m 31 #[rv a0, iv 64, rv b2] []))
  have B14 := B6.keep K13 (ninS ne5 nin0)
  have Z15 : n0 ≤ h13.size := Nat.le_trans Z8 K13.1
  have K16 : Keep h0 h13 [] := K7.trans K13 (allS (Or.inr sz4) all0)
  have B17 : Arv Z h13 b2 k2 .byte (64 : Int32) [(.int w0), (.int w1), (.int w2)] (.int 0) := A13
  refine own_via (fun k => XS.aloadN X13.here hx rfl (hb hby d4_31) rfl rfl  k) ?_
  show own_Go p e below s _ _ (T13.setTop (mkF m 32 #[rv a0, iv 64, rv b2] [(.ref b2)]))
  exact own_retA X13 hx hlk rfl (t := (.array .byte)) Bd.returns rfl (hb hby d4_32) (Q := (Q4_3_64 Z a0 k w0 w1 w2 h0 n0)) ⟨b2, k2, rfl, N13, (by rw [e13]; exact K16), (by rw [e13]; exact B17), sz4⟩ (by decide) (by decide)
theorem ef_4_4_64 (m : MethodId) (x0 : Addr) (x1 : Int32) : entryFrame m #[(.ref x0), (.int x1)] 3 = mkF m 0 #[rv x0, iv x1, .unset] [] := by first | (simp [entryFrame, mkF, argsToLocals, Value.category]; done) | rfl
def Q4_4_64 (Z : State) (a0 : Addr) (k : ClassId) (w0 : Int32) (w1 : Int32) (w2 : Int32) (w3 : Int32) (h0 : Heap) (n0 : Nat) (v : Option Value) (h : Heap) (L : List Loc) : Prop := ∃ (b : Addr), ∃ (k2 : ClassId), v = some (.ref b) ∧ Fr n0 L ∧ Keep h0 h [] ∧ Arv Z h b k2 .byte (64 : Int32) [(.int w0), (.int w1), (.int w2), (.int w3)] (.int 0) ∧ h0.size ≤ b
set_option maxRecDepth 65536 in
set_option maxHeartbeats 40000000 in
theorem rm4_4_64 (l : Launch) (Z : State) (aw : Array Value) (hw : ∀ d ∈ tables_1, d.before aw Z = true) (ws : List Jvm.Cond) (a0 : Addr) (k : ClassId) (w0 : Int32) (w1 : Int32) (w2 : Int32) (w3 : Int32) (h0 : Heap) (n0 : Nat) (Z0 : n0 ≤ h0.size) (P0 : Arv Z h0 a0 k .byte (4 : Int32) [(.int w0), (.int w1), (.int w2), (.int w3)] (.int 0)) :
    MetFree l (⟨"java/util/Arrays", "copyOf", "([BI)[B"⟩ : MethodName) (head1 (Jvm.Cond.code (⟨"java/util/Arrays", "copyOf", "([BI)[B"⟩ : MethodName) jdk_65_method_121_code 3 (some (.array .byte)) :: ws) ({ frames := 1, cells := 1, slots := 64, locals := 27 } : Room)) (fun a U => a = #[(.ref a0), (.int 64)] ∧ Z.Warmed39 U.vm ∧ U.heap = h0) (fun _ _ _ _ _ => True) (fun _ U o U' => ∃ v L, o = .returned v ∧ Q4_4_64 Z a0 k w0 w1 w2 w3 h0 n0 v U'.heap L ∧ FrameEnd U o U' L ({ frames := 1, cells := 1, slots := 64, locals := 27 } : Room).cells ({ frames := 1, cells := 1, slots := 64, locals := 27 } : Room).slots) := by
  refine MetFree.of_bodySF (plainFor_of_name pn_4) hisR ?_
  intro p e s m args below meth c s₁ Bd hml0 hP hK
  obtain ⟨rfl, hZ, hh⟩ := hP
  have hx := Bd.exec
  have hby := Bd.bytes
  have hml : c.maxLocals = 3 := hml0
  have hown : s.vm.findClass "java/util/Arrays" = some m.cls := findClass_of_methodNamed Bd.named
  have hnm := (name_of_methodNamed Bd.named Bd.method).1
  have hlk : meth.locks = false := by first | exact BodyLoose.notSynchronized (by assumption) | exact Body.notSynchronized (by assumption)
  have X0 : Stand p l e ({ frames := 1, cells := 1, slots := 64, locals := 27 } : Room) s m #[(.ref a0), (.int 64)] below meth c s₁ [] 0 0 := Stand.of_body Bd
  have e0 : s₁.heap = h0 := by rw [← hh, Bd.state]; rfl
  have N0 := Fr.nil n0
  have K0 : Keep h0 h0 [] := Keep.refl _ _
  refine own_start (CS := (1, 64)) (Q := (Q4_4_64 Z a0 k w0 w1 w2 w3 h0 n0)) (ef_4_4_64 m a0 (64 : Int32)) ?_
  show own_Go p e below s _ _ (s₁.setTop (mkF m 0 #[rv a0, iv 64, .unset] []))
  refine own_via (fun k => XS.iloadN X0.here hx rfl (hb hby d4_0) rfl  (XS.aloadN X0.here hx rfl (hb hby d4_1) rfl rfl  k)) ?_
  show own_Go p e below s _ _ (s₁.setTop (mkF m 2 #[rv a0, iv 64, .unset] [(.ref a0), (.int 64)]))
  obtain ⟨cl1, Ar1, -, S1, NN1, -, -⟩ := id P0
  refine own_via (fun k => X0.arraylength hx (by rw [e0]; exact Ar1.1) (State.isArrayOf_alike hZ.alike Ar1.2.1) (g := (mkF m 2 #[rv a0, iv 64, .unset] [(.ref a0), (.int 64)])) rfl rfl (hb hby d4_2) _ k) ?_
  rw [len_of S1 NN1]
  show own_Go p e below s _ _ (s₁.setTop (mkF m 3 #[rv a0, iv 64, .unset] [(.int 4), (.int 64)]))
  refine own_via (fun k => XS.icmpYes X0.here hx rfl (pc0 := 3) (pc' := 14) rfl (hb hby d4_3) rfl (by decide) (by decide) (by decide) k) ?_
  show own_Go p e below s _ _ (s₁.setTop (mkF m 14 #[rv a0, iv 64, .unset] []))
  refine own_via (fun k => XS.iloadN X0.here hx rfl (hb hby d4_14) rfl  k) ?_
  show own_Go p e below s _ _ (s₁.setTop (mkF m 15 #[rv a0, iv 64, .unset] [(.int 64)]))
  obtain ⟨T2, h2, k2, X2, e2, E2, A2, st2⟩ := newP X0 hx hZ (hw _ (List.mem_of_getElem? (i := 0) rfl)) e0 (g := (mkF m 15 #[rv a0, iv 64, .unset] [(.int 64)])) rfl (hb hby d4_15) rfl (by decide) (cap := 64) (by decide) (by decide) (by decide) (by decide)
  obtain ⟨b2, g2⟩ : ∃ z, z = h0.size := ⟨_, rfl⟩
  rw [← g2] at A2 st2
  refine own_via (fun k => st2 _ k) ?_
  show own_Go p e below s _ _ (T2.setTop (mkF m 17 #[rv a0, iv 64, .unset] [(.ref b2)]))
  have g3 : n0 ≤ b2 := Nat.le_trans Z0 (Nat.le_of_eq g2.symm)
  have sz4 : h0.size ≤ b2 := Nat.le_trans K0.1 (Nat.le_of_eq g2.symm)
  have ne5 : a0 ≠ b2 := Nat.ne_of_lt (Nat.lt_of_lt_of_le P0.lt (Nat.le_of_eq g2.symm))
  have B6 := P0.ext E2
  have K7 : Keep h0 h2 [] := K0.ext E2
  have Z8 : n0 ≤ h2.size := Nat.le_trans Z0 E2.1
  have B9 : Arv Z h2 b2 k2 .byte (64 : Int32) [(.int 0), (.int 0), (.int 0), (.int 0)] (.int 0) := (Arv.new A2 (by decide)).pad (pad_rep [] (.int 0) 4)
  refine own_via (fun k => XS.astoreN X2.here hx rfl (hb hby d4_17) rfl rfl (l' := #[rv a0, iv 64, rv b2]) rfl (XS.aloadN X2.here hx rfl (hb hby d4_18) rfl rfl  (XS.iconst X2.here hx rfl (hb hby d4_19) (XS.aloadN X2.here hx rfl (hb hby d4_20) rfl rfl  k)))) ?_
  show own_Go p e below s _ _ (T2.setTop (mkF m 21 #[rv a0, iv 64, rv b2] [(.ref b2), (.int 0), (.ref a0)]))
  refine own_via (fun k => XS.iconst X2.here hx rfl (hb hby d4_21) (XS.aloadN X2.here hx rfl (hb hby d4_22) rfl rfl  k)) ?_
  show own_Go p e below s _ _ (T2.setTop (mkF m 23 #[rv a0, iv 64, rv b2] [(.ref a0), (.int 0), (.ref b2), (.int 0), (.ref a0)]))
  obtain ⟨cl10, Ar10, -, S10, NN10, -, -⟩ := id B6
  refine own_via (fun k => X2.arraylength hx (by rw [e2]; exact Ar10.1) (State.isArrayOf_alike hZ.alike Ar10.2.1) (g := (mkF m 23 #[rv a0, iv 64, rv b2] [(.ref a0), (.int 0), (.ref b2), (.int 0), (.ref a0)])) rfl rfl (hb hby d4_23) _ k) ?_
  rw [len_of S10 NN10]
  show own_Go p e below s _ _ (T2.setTop (mkF m 24 #[rv a0, iv 64, rv b2] [(.int 4), (.int 0), (.ref b2), (.int 0), (.ref a0)]))
  refine own_via (fun k => XS.iloadN X2.here hx rfl (hb hby d4_24) rfl  k) ?_
  show own_Go p e below s _ _ (T2.setTop (mkF m 25 #[rv a0, iv 64, rv b2] [(.int 64), (.int 4), (.int 0), (.ref b2), (.int 0), (.ref a0)]))
  obtain ⟨_, _, ⟨T11, L11, k11, n11⟩, -, X11, ⟨Lc11, hQ11, l11, y11, z11⟩, st11⟩ := Jvm.LawKit.callS X2 hx (y := (⟨"java/lang/Math", "min", "(II)I"⟩ : MethodName)) hown (mvT hZ (hw _ (List.mem_of_getElem? (i := 21) rfl))) (mvT hZ (hw _ (List.mem_of_getElem? (i := 22) rfl))) (mvT hZ (hw _ (List.mem_of_getElem? (i := 15) rfl))) (mvT hZ (hw _ (List.mem_of_getElem? (i := 23) rfl))) (by decide) (backOf (W := 4) (rm5 l Z aw hw [] (4 : Int32) (64 : Int32) h2 n0 Z8) hZ (hw _ (List.mem_of_getElem? (i := 23) rfl)) (hw _ (List.mem_of_getElem? (i := 15) rfl)) (by decide) (by decide)) (g := (mkF m 25 #[rv a0, iv 64, rv b2] [(.int 64), (.int 4), (.int 0), (.ref b2), (.int 0), (.ref a0)])) rfl (by rw [hml]; rfl) (argsL := [(.int 4), (.int 64)]) (rest := [(.int 0), (.ref b2), (.int 0), (.ref a0)]) (lenOf pd_2 rfl) rfl (by show 2 * 0 + _ ≤ _; exact Nat.le_of_eq rfl) (hb hby d4_25) (fun _ _ => ⟨rfl, e2, (by decide : 1 + 0 ≤ _), (by decide : 64 + 0 ≤ _)⟩)
  dsimp only [Pt.U, Pt.locs, Pt.cells, Pt.slots] at X11 l11 y11 z11 st11 hQ11
  subst l11 y11 z11
  obtain ⟨rfl, N11q, eh11⟩ := hQ11
  have N12 := Fr.app N0 N11q
  refine own_via (fun k => st11 _ k) ?_
  show own_Go p e below s _ _ (T11.setTop (mkF m 28 #[rv a0, iv 64, rv b2] [(.int (own_f5 (4 : Int32) (64 : Int32))), (.int 0), (.ref b2), (.int 0), (.ref a0)]))
  rw [show (own_f5 (4 : Int32) (64 : Int32)) = (4 : Int32) from by decide]
  show own_Go p e below s _ _ (T11.setTop (mkF m 28 #[rv a0, iv 64, rv b2] [(.int 4), (.int 0), (.ref b2), (.int 0), (.ref a0)]))
  obtain ⟨T13, h13, L13, X13, e13, N13, K13, A13, st13⟩ := cpA X11 hx hZ hown (hw _ (List.mem_of_getElem? (i := 24) rfl)) (hw _ (List.mem_of_getElem? (i := 27) rfl)) (hw _ (List.mem_of_getElem? (i := 25) rfl)) (hw _ (List.mem_of_getElem? (i := 26) rfl)) eh11 B6 B9 (us := [(.int w0), (.int w1), (.int w2), (.int w3)]) (Or.inl ⟨rfl, rfl⟩) (sp := (0 : Int32)) (dp := (0 : Int32)) (nn := (4 : Int32)) (by decide) (by decide) (by decide) (by decide) (by decide) (by rfl) (by decide) N12 g3 (g := (mkF m 28 #[rv a0, iv 64, rv b2] [(.int 4), (.int 0), (.ref b2), (.int 0), (.ref a0)])) rfl (by rw [hml]; rfl) rfl (hb hby d4_28) (by decide) (W := 0) (by show 2 * 0 + _ ≤ _; exact Nat.le_of_eq rfl) (by decide)
  refine own_via (fun k => st13 _ k) ?_
  show own_Go p e below s _ _ (T13.setTop (mkF m 31 #[rv a0, iv 64, rv b2] []))
  have B14 := B6.keep K13 (ninS ne5 nin0)
  have Z15 : n0 ≤ h13.size := Nat.le_trans Z8 K13.1
  have K16 : Keep h0 h13 [] := K7.trans K13 (allS (Or.inr sz4) all0)
  have B17 : Arv Z h13 b2 k2 .byte (64 : Int32) [(.int w0), (.int w1), (.int w2), (.int w3)] (.int 0) := A13
  refine own_via (fun k => XS.aloadN X13.here hx rfl (hb hby d4_31) rfl rfl  k) ?_
  show own_Go p e below s _ _ (T13.setTop (mkF m 32 #[rv a0, iv 64, rv b2] [(.ref b2)]))
  exact own_retA X13 hx hlk rfl (t := (.array .byte)) Bd.returns rfl (hb hby d4_32) (Q := (Q4_4_64 Z a0 k w0 w1 w2 w3 h0 n0)) ⟨b2, k2, rfl, N13, (by rw [e13]; exact K16), (by rw [e13]; exact B17), sz4⟩ (by decide) (by decide)
theorem ef_4_64_0 (m : MethodId) (x0 : Addr) (x1 : Int32) : entryFrame m #[(.ref x0), (.int x1)] 3 = mkF m 0 #[rv x0, iv x1, .unset] [] := by first | (simp [entryFrame, mkF, argsToLocals, Value.category]; done) | rfl
def Q4_64_0 (Z : State) (a0 : Addr) (k : ClassId) (h0 : Heap) (n0 : Nat) (v : Option Value) (h : Heap) (L : List Loc) : Prop := ∃ (b : Addr), ∃ (k2 : ClassId), v = some (.ref b) ∧ Fr n0 L ∧ Keep h0 h [] ∧ Arv Z h b k2 .byte (0 : Int32) [] (.int 0) ∧ h0.size ≤ b
set_option maxRecDepth 65536 in
set_option maxHeartbeats 40000000 in
theorem rm4_64_0 (l : Launch) (Z : State) (aw : Array Value) (hw : ∀ d ∈ tables_1, d.before aw Z = true) (ws : List Jvm.Cond) (a0 : Addr) (k : ClassId) (h0 : Heap) (n0 : Nat) (Z0 : n0 ≤ h0.size) (P0 : Arv Z h0 a0 k .byte (64 : Int32) [] (.int 0)) :
    MetFree l (⟨"java/util/Arrays", "copyOf", "([BI)[B"⟩ : MethodName) (head1 (Jvm.Cond.code (⟨"java/util/Arrays", "copyOf", "([BI)[B"⟩ : MethodName) jdk_65_method_121_code 3 (some (.array .byte)) :: ws) ({ frames := 1, cells := 1, slots := 0, locals := 27 } : Room)) (fun a U => a = #[(.ref a0), (.int 0)] ∧ Z.Warmed39 U.vm ∧ U.heap = h0) (fun _ _ _ _ _ => True) (fun _ U o U' => ∃ v L, o = .returned v ∧ Q4_64_0 Z a0 k h0 n0 v U'.heap L ∧ FrameEnd U o U' L ({ frames := 1, cells := 1, slots := 0, locals := 27 } : Room).cells ({ frames := 1, cells := 1, slots := 0, locals := 27 } : Room).slots) := by
  refine MetFree.of_bodySF (plainFor_of_name pn_4) hisR ?_
  intro p e s m args below meth c s₁ Bd hml0 hP hK
  obtain ⟨rfl, hZ, hh⟩ := hP
  have hx := Bd.exec
  have hby := Bd.bytes
  have hml : c.maxLocals = 3 := hml0
  have hown : s.vm.findClass "java/util/Arrays" = some m.cls := findClass_of_methodNamed Bd.named
  have hnm := (name_of_methodNamed Bd.named Bd.method).1
  have hlk : meth.locks = false := by first | exact BodyLoose.notSynchronized (by assumption) | exact Body.notSynchronized (by assumption)
  have X0 : Stand p l e ({ frames := 1, cells := 1, slots := 0, locals := 27 } : Room) s m #[(.ref a0), (.int 0)] below meth c s₁ [] 0 0 := Stand.of_body Bd
  have e0 : s₁.heap = h0 := by rw [← hh, Bd.state]; rfl
  have N0 := Fr.nil n0
  have K0 : Keep h0 h0 [] := Keep.refl _ _
  refine own_start (CS := (1, 0)) (Q := (Q4_64_0 Z a0 k h0 n0)) (ef_4_64_0 m a0 (0 : Int32)) ?_
  show own_Go p e below s _ _ (s₁.setTop (mkF m 0 #[rv a0, iv 0, .unset] []))
  refine own_via (fun k => XS.iloadN X0.here hx rfl (hb hby d4_0) rfl  (XS.aloadN X0.here hx rfl (hb hby d4_1) rfl rfl  k)) ?_
  show own_Go p e below s _ _ (s₁.setTop (mkF m 2 #[rv a0, iv 0, .unset] [(.ref a0), (.int 0)]))
  obtain ⟨cl1, Ar1, -, S1, NN1, -, -⟩ := id P0
  refine own_via (fun k => X0.arraylength hx (by rw [e0]; exact Ar1.1) (State.isArrayOf_alike hZ.alike Ar1.2.1) (g := (mkF m 2 #[rv a0, iv 0, .unset] [(.ref a0), (.int 0)])) rfl rfl (hb hby d4_2) _ k) ?_
  rw [len_of S1 NN1]
  show own_Go p e below s _ _ (s₁.setTop (mkF m 3 #[rv a0, iv 0, .unset] [(.int 64), (.int 0)]))
  refine own_via (fun k => XS.icmpYes X0.here hx rfl (pc0 := 3) (pc' := 14) rfl (hb hby d4_3) rfl (by decide) (by decide) (by decide) k) ?_
  show own_Go p e below s _ _ (s₁.setTop (mkF m 14 #[rv a0, iv 0, .unset] []))
  refine own_via (fun k => XS.iloadN X0.here hx rfl (hb hby d4_14) rfl  k) ?_
  show own_Go p e below s _ _ (s₁.setTop (mkF m 15 #[rv a0, iv 0, .unset] [(.int 0)]))
  obtain ⟨T2, h2, k2, X2, e2, E2, A2, st2⟩ := newP X0 hx hZ (hw _ (List.mem_of_getElem? (i := 0) rfl)) e0 (g := (mkF m 15 #[rv a0, iv 0, .unset] [(.int 0)])) rfl (hb hby d4_15) rfl (by decide) (cap := 0) (by decide) (by decide) (by decide) (by decide)
  obtain ⟨b2, g2⟩ : ∃ z, z = h0.size := ⟨_, rfl⟩
  rw [← g2] at A2 st2
  refine own_via (fun k => st2 _ k) ?_
  show own_Go p e below s _ _ (T2.setTop (mkF m 17 #[rv a0, iv 0, .unset] [(.ref b2)]))
  have g3 : n0 ≤ b2 := Nat.le_trans Z0 (Nat.le_of_eq g2.symm)
  have sz4 : h0.size ≤ b2 := Nat.le_trans K0.1 (Nat.le_of_eq g2.symm)
  have ne5 : a0 ≠ b2 := Nat.ne_of_lt (Nat.lt_of_lt_of_le P0.lt (Nat.le_of_eq g2.symm))
  have B6 := P0.ext E2
  have K7 : Keep h0 h2 [] := K0.ext E2
  have Z8 : n0 ≤ h2.size := Nat.le_trans Z0 E2.1
  have B9 : Arv Z h2 b2 k2 .byte (0 : Int32) [] (.int 0) := (Arv.new A2 (by decide)).pad (pad_rep [] (.int 0) 0)
  refine own_via (fun k => XS.astoreN X2.here hx rfl (hb hby d4_17) rfl rfl (l' := #[rv a0, iv 0, rv b2]) rfl (XS.aloadN X2.here hx rfl (hb hby d4_18) rfl rfl  (XS.iconst X2.here hx rfl (hb hby d4_19) (XS.aloadN X2.here hx rfl (hb hby d4_20) rfl rfl  k)))) ?_
  show own_Go p e below s _ _ (T2.setTop (mkF m 21 #[rv a0, iv 0, rv b2] [(.ref b2), (.int 0), (.ref a0)]))
  refine own_via (fun k => XS.iconst X2.here hx rfl (hb hby d4_21) (XS.aloadN X2.here hx rfl (hb hby d4_22) rfl rfl  k)) ?_
  show own_Go p e below s _ _ (T2.setTop (mkF m 23 #[rv a0, iv 0, rv b2] [(.ref a0), (.int 0), (.ref b2), (.int 0), (.ref a0)]))
  obtain ⟨cl10, Ar10, -, S10, NN10, -, -⟩ := id B6
  refine own_via (fun k => X2.arraylength hx (by rw [e2]; exact Ar10.1) (State.isArrayOf_alike hZ.alike Ar10.2.1) (g := (mkF m 23 #[rv a0, iv 0, rv b2] [(.ref a0), (.int 0), (.ref b2), (.int 0), (.ref a0)])) rfl rfl (hb hby d4_23) _ k) ?_
  rw [len_of S10 NN10]
  show own_Go p e below s _ _ (T2.setTop (mkF m 24 #[rv a0, iv 0, rv b2] [(.int 64), (.int 0), (.ref b2), (.int 0), (.ref a0)]))
  refine own_via (fun k => XS.iloadN X2.here hx rfl (hb hby d4_24) rfl  k) ?_
  show own_Go p e below s _ _ (T2.setTop (mkF m 25 #[rv a0, iv 0, rv b2] [(.int 0), (.int 64), (.int 0), (.ref b2), (.int 0), (.ref a0)]))
  obtain ⟨_, _, ⟨T11, L11, k11, n11⟩, -, X11, ⟨Lc11, hQ11, l11, y11, z11⟩, st11⟩ := Jvm.LawKit.callS X2 hx (y := (⟨"java/lang/Math", "min", "(II)I"⟩ : MethodName)) hown (mvT hZ (hw _ (List.mem_of_getElem? (i := 21) rfl))) (mvT hZ (hw _ (List.mem_of_getElem? (i := 22) rfl))) (mvT hZ (hw _ (List.mem_of_getElem? (i := 15) rfl))) (mvT hZ (hw _ (List.mem_of_getElem? (i := 23) rfl))) (by decide) (backOf (W := 4) (rm5 l Z aw hw [] (64 : Int32) (0 : Int32) h2 n0 Z8) hZ (hw _ (List.mem_of_getElem? (i := 23) rfl)) (hw _ (List.mem_of_getElem? (i := 15) rfl)) (by decide) (by decide)) (g := (mkF m 25 #[rv a0, iv 0, rv b2] [(.int 0), (.int 64), (.int 0), (.ref b2), (.int 0), (.ref a0)])) rfl (by rw [hml]; rfl) (argsL := [(.int 64), (.int 0)]) (rest := [(.int 0), (.ref b2), (.int 0), (.ref a0)]) (lenOf pd_2 rfl) rfl (by show 2 * 0 + _ ≤ _; exact Nat.le_of_eq rfl) (hb hby d4_25) (fun _ _ => ⟨rfl, e2, (by decide : 1 + 0 ≤ _), (by decide : 0 + 0 ≤ _)⟩)
  dsimp only [Pt.U, Pt.locs, Pt.cells, Pt.slots] at X11 l11 y11 z11 st11 hQ11
  subst l11 y11 z11
  obtain ⟨rfl, N11q, eh11⟩ := hQ11
  have N12 := Fr.app N0 N11q
  refine own_via (fun k => st11 _ k) ?_
  show own_Go p e below s _ _ (T11.setTop (mkF m 28 #[rv a0, iv 0, rv b2] [(.int (own_f5 (64 : Int32) (0 : Int32))), (.int 0), (.ref b2), (.int 0), (.ref a0)]))
  rw [show (own_f5 (64 : Int32) (0 : Int32)) = (0 : Int32) from by decide]
  show own_Go p e below s _ _ (T11.setTop (mkF m 28 #[rv a0, iv 0, rv b2] [(.int 0), (.int 0), (.ref b2), (.int 0), (.ref a0)]))
  obtain ⟨T13, h13, L13, X13, e13, N13, K13, A13, st13⟩ := cpA X11 hx hZ hown (hw _ (List.mem_of_getElem? (i := 24) rfl)) (hw _ (List.mem_of_getElem? (i := 27) rfl)) (hw _ (List.mem_of_getElem? (i := 25) rfl)) (hw _ (List.mem_of_getElem? (i := 26) rfl)) eh11 B6 B9 (us := []) (Or.inl ⟨rfl, rfl⟩) (sp := (0 : Int32)) (dp := (0 : Int32)) (nn := (0 : Int32)) (by decide) (by decide) (by decide) (by decide) (by decide) (by rfl) (by decide) N12 g3 (g := (mkF m 28 #[rv a0, iv 0, rv b2] [(.int 0), (.int 0), (.ref b2), (.int 0), (.ref a0)])) rfl (by rw [hml]; rfl) rfl (hb hby d4_28) (by decide) (W := 0) (by show 2 * 0 + _ ≤ _; exact Nat.le_of_eq rfl) (by decide)
  refine own_via (fun k => st13 _ k) ?_
  show own_Go p e below s _ _ (T13.setTop (mkF m 31 #[rv a0, iv 0, rv b2] []))
  have B14 := B6.keep K13 (ninS ne5 nin0)
  have Z15 : n0 ≤ h13.size := Nat.le_trans Z8 K13.1
  have K16 : Keep h0 h13 [] := K7.trans K13 (allS (Or.inr sz4) all0)
  have B17 : Arv Z h13 b2 k2 .byte (0 : Int32) [] (.int 0) := A13
  refine own_via (fun k => XS.aloadN X13.here hx rfl (hb hby d4_31) rfl rfl  k) ?_
  show own_Go p e below s _ _ (T13.setTop (mkF m 32 #[rv a0, iv 0, rv b2] [(.ref b2)]))
  exact own_retA X13 hx hlk rfl (t := (.array .byte)) Bd.returns rfl (hb hby d4_32) (Q := (Q4_64_0 Z a0 k h0 n0)) ⟨b2, k2, rfl, N13, (by rw [e13]; exact K16), (by rw [e13]; exact B17), sz4⟩ (by decide) (by decide)
theorem ef_4_64_1 (m : MethodId) (x0 : Addr) (x1 : Int32) : entryFrame m #[(.ref x0), (.int x1)] 3 = mkF m 0 #[rv x0, iv x1, .unset] [] := by first | (simp [entryFrame, mkF, argsToLocals, Value.category]; done) | rfl
def Q4_64_1 (Z : State) (a0 : Addr) (k : ClassId) (w0 : Int32) (h0 : Heap) (n0 : Nat) (v : Option Value) (h : Heap) (L : List Loc) : Prop := ∃ (b : Addr), ∃ (k2 : ClassId), v = some (.ref b) ∧ Fr n0 L ∧ Keep h0 h [] ∧ Arv Z h b k2 .byte (1 : Int32) [(.int w0)] (.int 0) ∧ h0.size ≤ b
set_option maxRecDepth 65536 in
set_option maxHeartbeats 40000000 in
theorem rm4_64_1 (l : Launch) (Z : State) (aw : Array Value) (hw : ∀ d ∈ tables_1, d.before aw Z = true) (ws : List Jvm.Cond) (a0 : Addr) (k : ClassId) (w0 : Int32) (h0 : Heap) (n0 : Nat) (Z0 : n0 ≤ h0.size) (P0 : Arv Z h0 a0 k .byte (64 : Int32) [(.int w0)] (.int 0)) :
    MetFree l (⟨"java/util/Arrays", "copyOf", "([BI)[B"⟩ : MethodName) (head1 (Jvm.Cond.code (⟨"java/util/Arrays", "copyOf", "([BI)[B"⟩ : MethodName) jdk_65_method_121_code 3 (some (.array .byte)) :: ws) ({ frames := 1, cells := 1, slots := 1, locals := 27 } : Room)) (fun a U => a = #[(.ref a0), (.int 1)] ∧ Z.Warmed39 U.vm ∧ U.heap = h0) (fun _ _ _ _ _ => True) (fun _ U o U' => ∃ v L, o = .returned v ∧ Q4_64_1 Z a0 k w0 h0 n0 v U'.heap L ∧ FrameEnd U o U' L ({ frames := 1, cells := 1, slots := 1, locals := 27 } : Room).cells ({ frames := 1, cells := 1, slots := 1, locals := 27 } : Room).slots) := by
  refine MetFree.of_bodySF (plainFor_of_name pn_4) hisR ?_
  intro p e s m args below meth c s₁ Bd hml0 hP hK
  obtain ⟨rfl, hZ, hh⟩ := hP
  have hx := Bd.exec
  have hby := Bd.bytes
  have hml : c.maxLocals = 3 := hml0
  have hown : s.vm.findClass "java/util/Arrays" = some m.cls := findClass_of_methodNamed Bd.named
  have hnm := (name_of_methodNamed Bd.named Bd.method).1
  have hlk : meth.locks = false := by first | exact BodyLoose.notSynchronized (by assumption) | exact Body.notSynchronized (by assumption)
  have X0 : Stand p l e ({ frames := 1, cells := 1, slots := 1, locals := 27 } : Room) s m #[(.ref a0), (.int 1)] below meth c s₁ [] 0 0 := Stand.of_body Bd
  have e0 : s₁.heap = h0 := by rw [← hh, Bd.state]; rfl
  have N0 := Fr.nil n0
  have K0 : Keep h0 h0 [] := Keep.refl _ _
  refine own_start (CS := (1, 1)) (Q := (Q4_64_1 Z a0 k w0 h0 n0)) (ef_4_64_1 m a0 (1 : Int32)) ?_
  show own_Go p e below s _ _ (s₁.setTop (mkF m 0 #[rv a0, iv 1, .unset] []))
  refine own_via (fun k => XS.iloadN X0.here hx rfl (hb hby d4_0) rfl  (XS.aloadN X0.here hx rfl (hb hby d4_1) rfl rfl  k)) ?_
  show own_Go p e below s _ _ (s₁.setTop (mkF m 2 #[rv a0, iv 1, .unset] [(.ref a0), (.int 1)]))
  obtain ⟨cl1, Ar1, -, S1, NN1, -, -⟩ := id P0
  refine own_via (fun k => X0.arraylength hx (by rw [e0]; exact Ar1.1) (State.isArrayOf_alike hZ.alike Ar1.2.1) (g := (mkF m 2 #[rv a0, iv 1, .unset] [(.ref a0), (.int 1)])) rfl rfl (hb hby d4_2) _ k) ?_
  rw [len_of S1 NN1]
  show own_Go p e below s _ _ (s₁.setTop (mkF m 3 #[rv a0, iv 1, .unset] [(.int 64), (.int 1)]))
  refine own_via (fun k => XS.icmpYes X0.here hx rfl (pc0 := 3) (pc' := 14) rfl (hb hby d4_3) rfl (by decide) (by decide) (by decide) k) ?_
  show own_Go p e below s _ _ (s₁.setTop (mkF m 14 #[rv a0, iv 1, .unset] []))
  refine own_via (fun k => XS.iloadN X0.here hx rfl (hb hby d4_14) rfl  k) ?_
  show own_Go p e below s _ _ (s₁.setTop (mkF m 15 #[rv a0, iv 1, .unset] [(.int 1)]))
  obtain ⟨T2, h2, k2, X2, e2, E2, A2, st2⟩ := newP X0 hx hZ (hw _ (List.mem_of_getElem? (i := 0) rfl)) e0 (g := (mkF m 15 #[rv a0, iv 1, .unset] [(.int 1)])) rfl (hb hby d4_15) rfl (by decide) (cap := 1) (by decide) (by decide) (by decide) (by decide)
  obtain ⟨b2, g2⟩ : ∃ z, z = h0.size := ⟨_, rfl⟩
  rw [← g2] at A2 st2
  refine own_via (fun k => st2 _ k) ?_
  show own_Go p e below s _ _ (T2.setTop (mkF m 17 #[rv a0, iv 1, .unset] [(.ref b2)]))
  have g3 : n0 ≤ b2 := Nat.le_trans Z0 (Nat.le_of_eq g2.symm)
  have sz4 : h0.size ≤ b2 := Nat.le_trans K0.1 (Nat.le_of_eq g2.symm)
  have ne5 : a0 ≠ b2 := Nat.ne_of_lt (Nat.lt_of_lt_of_le P0.lt (Nat.le_of_eq g2.symm))
  have B6 := P0.ext E2
  have K7 : Keep h0 h2 [] := K0.ext E2
  have Z8 : n0 ≤ h2.size := Nat.le_trans Z0 E2.1
  have B9 : Arv Z h2 b2 k2 .byte (1 : Int32) [(.int 0)] (.int 0) := (Arv.new A2 (by decide)).pad (pad_rep [] (.int 0) 1)
  refine own_via (fun k => XS.astoreN X2.here hx rfl (hb hby d4_17) rfl rfl (l' := #[rv a0, iv 1, rv b2]) rfl (XS.aloadN X2.here hx rfl (hb hby d4_18) rfl rfl  (XS.iconst X2.here hx rfl (hb hby d4_19) (XS.aloadN X2.here hx rfl (hb hby d4_20) rfl rfl  k)))) ?_
  show own_Go p e below s _ _ (T2.setTop (mkF m 21 #[rv a0, iv 1, rv b2] [(.ref b2), (.int 0), (.ref a0)]))
  refine own_via (fun k => XS.iconst X2.here hx rfl (hb hby d4_21) (XS.aloadN X2.here hx rfl (hb hby d4_22) rfl rfl  k)) ?_
  show own_Go p e below s _ _ (T2.setTop (mkF m 23 #[rv a0, iv 1, rv b2] [(.ref a0), (.int 0), (.ref b2), (.int 0), (.ref a0)]))
  obtain ⟨cl10, Ar10, -, S10, NN10, -, -⟩ := id B6
  refine own_via (fun k => X2.arraylength hx (by rw [e2]; exact Ar10.1) (State.isArrayOf_alike hZ.alike Ar10.2.1) (g := (mkF m 23 #[rv a0, iv 1, rv b2] [(.ref a0), (.int 0), (.ref b2), (.int 0), (.ref a0)])) rfl rfl (hb hby d4_23) _ k) ?_
  rw [len_of S10 NN10]
  show own_Go p e below s _ _ (T2.setTop (mkF m 24 #[rv a0, iv 1, rv b2] [(.int 64), (.int 0), (.ref b2), (.int 0), (.ref a0)]))
  refine own_via (fun k => XS.iloadN X2.here hx rfl (hb hby d4_24) rfl  k) ?_
  show own_Go p e below s _ _ (T2.setTop (mkF m 25 #[rv a0, iv 1, rv b2] [(.int 1), (.int 64), (.int 0), (.ref b2), (.int 0), (.ref a0)]))
  obtain ⟨_, _, ⟨T11, L11, k11, n11⟩, -, X11, ⟨Lc11, hQ11, l11, y11, z11⟩, st11⟩ := Jvm.LawKit.callS X2 hx (y := (⟨"java/lang/Math", "min", "(II)I"⟩ : MethodName)) hown (mvT hZ (hw _ (List.mem_of_getElem? (i := 21) rfl))) (mvT hZ (hw _ (List.mem_of_getElem? (i := 22) rfl))) (mvT hZ (hw _ (List.mem_of_getElem? (i := 15) rfl))) (mvT hZ (hw _ (List.mem_of_getElem? (i := 23) rfl))) (by decide) (backOf (W := 4) (rm5 l Z aw hw [] (64 : Int32) (1 : Int32) h2 n0 Z8) hZ (hw _ (List.mem_of_getElem? (i := 23) rfl)) (hw _ (List.mem_of_getElem? (i := 15) rfl)) (by decide) (by decide)) (g := (mkF m 25 #[rv a0, iv 1, rv b2] [(.int 1), (.int 64), (.int 0), (.ref b2), (.int 0), (.ref a0)])) rfl (by rw [hml]; rfl) (argsL := [(.int 64), (.int 1)]) (rest := [(.int 0), (.ref b2), (.int 0), (.ref a0)]) (lenOf pd_2 rfl) rfl (by show 2 * 0 + _ ≤ _; exact Nat.le_of_eq rfl) (hb hby d4_25) (fun _ _ => ⟨rfl, e2, (by decide : 1 + 0 ≤ _), (by decide : 1 + 0 ≤ _)⟩)
  dsimp only [Pt.U, Pt.locs, Pt.cells, Pt.slots] at X11 l11 y11 z11 st11 hQ11
  subst l11 y11 z11
  obtain ⟨rfl, N11q, eh11⟩ := hQ11
  have N12 := Fr.app N0 N11q
  refine own_via (fun k => st11 _ k) ?_
  show own_Go p e below s _ _ (T11.setTop (mkF m 28 #[rv a0, iv 1, rv b2] [(.int (own_f5 (64 : Int32) (1 : Int32))), (.int 0), (.ref b2), (.int 0), (.ref a0)]))
  rw [show (own_f5 (64 : Int32) (1 : Int32)) = (1 : Int32) from by decide]
  show own_Go p e below s _ _ (T11.setTop (mkF m 28 #[rv a0, iv 1, rv b2] [(.int 1), (.int 0), (.ref b2), (.int 0), (.ref a0)]))
  obtain ⟨T13, h13, L13, X13, e13, N13, K13, A13, st13⟩ := cpA X11 hx hZ hown (hw _ (List.mem_of_getElem? (i := 24) rfl)) (hw _ (List.mem_of_getElem? (i := 27) rfl)) (hw _ (List.mem_of_getElem? (i := 25) rfl)) (hw _ (List.mem_of_getElem? (i := 26) rfl)) eh11 B6 B9 (us := [(.int w0)]) (Or.inl ⟨rfl, rfl⟩) (sp := (0 : Int32)) (dp := (0 : Int32)) (nn := (1 : Int32)) (by decide) (by decide) (by decide) (by decide) (by decide) (by rfl) (by decide) N12 g3 (g := (mkF m 28 #[rv a0, iv 1, rv b2] [(.int 1), (.int 0), (.ref b2), (.int 0), (.ref a0)])) rfl (by rw [hml]; rfl) rfl (hb hby d4_28) (by decide) (W := 0) (by show 2 * 0 + _ ≤ _; exact Nat.le_of_eq rfl) (by decide)
  refine own_via (fun k => st13 _ k) ?_
  show own_Go p e below s _ _ (T13.setTop (mkF m 31 #[rv a0, iv 1, rv b2] []))
  have B14 := B6.keep K13 (ninS ne5 nin0)
  have Z15 : n0 ≤ h13.size := Nat.le_trans Z8 K13.1
  have K16 : Keep h0 h13 [] := K7.trans K13 (allS (Or.inr sz4) all0)
  have B17 : Arv Z h13 b2 k2 .byte (1 : Int32) [(.int w0)] (.int 0) := A13
  refine own_via (fun k => XS.aloadN X13.here hx rfl (hb hby d4_31) rfl rfl  k) ?_
  show own_Go p e below s _ _ (T13.setTop (mkF m 32 #[rv a0, iv 1, rv b2] [(.ref b2)]))
  exact own_retA X13 hx hlk rfl (t := (.array .byte)) Bd.returns rfl (hb hby d4_32) (Q := (Q4_64_1 Z a0 k w0 h0 n0)) ⟨b2, k2, rfl, N13, (by rw [e13]; exact K16), (by rw [e13]; exact B17), sz4⟩ (by decide) (by decide)
theorem ef_4_64_2 (m : MethodId) (x0 : Addr) (x1 : Int32) : entryFrame m #[(.ref x0), (.int x1)] 3 = mkF m 0 #[rv x0, iv x1, .unset] [] := by first | (simp [entryFrame, mkF, argsToLocals, Value.category]; done) | rfl
def Q4_64_2 (Z : State) (a0 : Addr) (k : ClassId) (w0 : Int32) (w1 : Int32) (h0 : Heap) (n0 : Nat) (v : Option Value) (h : Heap) (L : List Loc) : Prop := ∃ (b : Addr), ∃ (k2 : ClassId), v = some (.ref b) ∧ Fr n0 L ∧ Keep h0 h [] ∧ Arv Z h b k2 .byte (2 : Int32) [(.int w0), (.int w1)] (.int 0) ∧ h0.size ≤ b
set_option maxRecDepth 65536 in
set_option maxHeartbeats 40000000 in
theorem rm4_64_2 (l : Launch) (Z : State) (aw : Array Value) (hw : ∀ d ∈ tables_1, d.before aw Z = true) (ws : List Jvm.Cond) (a0 : Addr) (k : ClassId) (w0 : Int32) (w1 : Int32) (h0 : Heap) (n0 : Nat) (Z0 : n0 ≤ h0.size) (P0 : Arv Z h0 a0 k .byte (64 : Int32) [(.int w0), (.int w1)] (.int 0)) :
    MetFree l (⟨"java/util/Arrays", "copyOf", "([BI)[B"⟩ : MethodName) (head1 (Jvm.Cond.code (⟨"java/util/Arrays", "copyOf", "([BI)[B"⟩ : MethodName) jdk_65_method_121_code 3 (some (.array .byte)) :: ws) ({ frames := 1, cells := 1, slots := 2, locals := 27 } : Room)) (fun a U => a = #[(.ref a0), (.int 2)] ∧ Z.Warmed39 U.vm ∧ U.heap = h0) (fun _ _ _ _ _ => True) (fun _ U o U' => ∃ v L, o = .returned v ∧ Q4_64_2 Z a0 k w0 w1 h0 n0 v U'.heap L ∧ FrameEnd U o U' L ({ frames := 1, cells := 1, slots := 2, locals := 27 } : Room).cells ({ frames := 1, cells := 1, slots := 2, locals := 27 } : Room).slots) := by
  refine MetFree.of_bodySF (plainFor_of_name pn_4) hisR ?_
  intro p e s m args below meth c s₁ Bd hml0 hP hK
  obtain ⟨rfl, hZ, hh⟩ := hP
  have hx := Bd.exec
  have hby := Bd.bytes
  have hml : c.maxLocals = 3 := hml0
  have hown : s.vm.findClass "java/util/Arrays" = some m.cls := findClass_of_methodNamed Bd.named
  have hnm := (name_of_methodNamed Bd.named Bd.method).1
  have hlk : meth.locks = false := by first | exact BodyLoose.notSynchronized (by assumption) | exact Body.notSynchronized (by assumption)
  have X0 : Stand p l e ({ frames := 1, cells := 1, slots := 2, locals := 27 } : Room) s m #[(.ref a0), (.int 2)] below meth c s₁ [] 0 0 := Stand.of_body Bd
  have e0 : s₁.heap = h0 := by rw [← hh, Bd.state]; rfl
  have N0 := Fr.nil n0
  have K0 : Keep h0 h0 [] := Keep.refl _ _
  refine own_start (CS := (1, 2)) (Q := (Q4_64_2 Z a0 k w0 w1 h0 n0)) (ef_4_64_2 m a0 (2 : Int32)) ?_
  show own_Go p e below s _ _ (s₁.setTop (mkF m 0 #[rv a0, iv 2, .unset] []))
  refine own_via (fun k => XS.iloadN X0.here hx rfl (hb hby d4_0) rfl  (XS.aloadN X0.here hx rfl (hb hby d4_1) rfl rfl  k)) ?_
  show own_Go p e below s _ _ (s₁.setTop (mkF m 2 #[rv a0, iv 2, .unset] [(.ref a0), (.int 2)]))
  obtain ⟨cl1, Ar1, -, S1, NN1, -, -⟩ := id P0
  refine own_via (fun k => X0.arraylength hx (by rw [e0]; exact Ar1.1) (State.isArrayOf_alike hZ.alike Ar1.2.1) (g := (mkF m 2 #[rv a0, iv 2, .unset] [(.ref a0), (.int 2)])) rfl rfl (hb hby d4_2) _ k) ?_
  rw [len_of S1 NN1]
  show own_Go p e below s _ _ (s₁.setTop (mkF m 3 #[rv a0, iv 2, .unset] [(.int 64), (.int 2)]))
  refine own_via (fun k => XS.icmpYes X0.here hx rfl (pc0 := 3) (pc' := 14) rfl (hb hby d4_3) rfl (by decide) (by decide) (by decide) k) ?_
  show own_Go p e below s _ _ (s₁.setTop (mkF m 14 #[rv a0, iv 2, .unset] []))
  refine own_via (fun k => XS.iloadN X0.here hx rfl (hb hby d4_14) rfl  k) ?_
  show own_Go p e below s _ _ (s₁.setTop (mkF m 15 #[rv a0, iv 2, .unset] [(.int 2)]))
  obtain ⟨T2, h2, k2, X2, e2, E2, A2, st2⟩ := newP X0 hx hZ (hw _ (List.mem_of_getElem? (i := 0) rfl)) e0 (g := (mkF m 15 #[rv a0, iv 2, .unset] [(.int 2)])) rfl (hb hby d4_15) rfl (by decide) (cap := 2) (by decide) (by decide) (by decide) (by decide)
  obtain ⟨b2, g2⟩ : ∃ z, z = h0.size := ⟨_, rfl⟩
  rw [← g2] at A2 st2
  refine own_via (fun k => st2 _ k) ?_
  show own_Go p e below s _ _ (T2.setTop (mkF m 17 #[rv a0, iv 2, .unset] [(.ref b2)]))
  have g3 : n0 ≤ b2 := Nat.le_trans Z0 (Nat.le_of_eq g2.symm)
  have sz4 : h0.size ≤ b2 := Nat.le_trans K0.1 (Nat.le_of_eq g2.symm)
  have ne5 : a0 ≠ b2 := Nat.ne_of_lt (Nat.lt_of_lt_of_le P0.lt (Nat.le_of_eq g2.symm))
  have B6 := P0.ext E2
  have K7 : Keep h0 h2 [] := K0.ext E2
  have Z8 : n0 ≤ h2.size := Nat.le_trans Z0 E2.1
  have B9 : Arv Z h2 b2 k2 .byte (2 : Int32) [(.int 0), (.int 0)] (.int 0) := (Arv.new A2 (by decide)).pad (pad_rep [] (.int 0) 2)
  refine own_via (fun k => XS.astoreN X2.here hx rfl (hb hby d4_17) rfl rfl (l' := #[rv a0, iv 2, rv b2]) rfl (XS.aloadN X2.here hx rfl (hb hby d4_18) rfl rfl  (XS.iconst X2.here hx rfl (hb hby d4_19) (XS.aloadN X2.here hx rfl (hb hby d4_20) rfl rfl  k)))) ?_
  show own_Go p e below s _ _ (T2.setTop (mkF m 21 #[rv a0, iv 2, rv b2] [(.ref b2), (.int 0), (.ref a0)]))
  refine own_via (fun k => XS.iconst X2.here hx rfl (hb hby d4_21) (XS.aloadN X2.here hx rfl (hb hby d4_22) rfl rfl  k)) ?_
  show own_Go p e below s _ _ (T2.setTop (mkF m 23 #[rv a0, iv 2, rv b2] [(.ref a0), (.int 0), (.ref b2), (.int 0), (.ref a0)]))
  obtain ⟨cl10, Ar10, -, S10, NN10, -, -⟩ := id B6
  refine own_via (fun k => X2.arraylength hx (by rw [e2]; exact Ar10.1) (State.isArrayOf_alike hZ.alike Ar10.2.1) (g := (mkF m 23 #[rv a0, iv 2, rv b2] [(.ref a0), (.int 0), (.ref b2), (.int 0), (.ref a0)])) rfl rfl (hb hby d4_23) _ k) ?_
  rw [len_of S10 NN10]
  show own_Go p e below s _ _ (T2.setTop (mkF m 24 #[rv a0, iv 2, rv b2] [(.int 64), (.int 0), (.ref b2), (.int 0), (.ref a0)]))
  refine own_via (fun k => XS.iloadN X2.here hx rfl (hb hby d4_24) rfl  k) ?_
  show own_Go p e below s _ _ (T2.setTop (mkF m 25 #[rv a0, iv 2, rv b2] [(.int 2), (.int 64), (.int 0), (.ref b2), (.int 0), (.ref a0)]))
  obtain ⟨_, _, ⟨T11, L11, k11, n11⟩, -, X11, ⟨Lc11, hQ11, l11, y11, z11⟩, st11⟩ := Jvm.LawKit.callS X2 hx (y := (⟨"java/lang/Math", "min", "(II)I"⟩ : MethodName)) hown (mvT hZ (hw _ (List.mem_of_getElem? (i := 21) rfl))) (mvT hZ (hw _ (List.mem_of_getElem? (i := 22) rfl))) (mvT hZ (hw _ (List.mem_of_getElem? (i := 15) rfl))) (mvT hZ (hw _ (List.mem_of_getElem? (i := 23) rfl))) (by decide) (backOf (W := 4) (rm5 l Z aw hw [] (64 : Int32) (2 : Int32) h2 n0 Z8) hZ (hw _ (List.mem_of_getElem? (i := 23) rfl)) (hw _ (List.mem_of_getElem? (i := 15) rfl)) (by decide) (by decide)) (g := (mkF m 25 #[rv a0, iv 2, rv b2] [(.int 2), (.int 64), (.int 0), (.ref b2), (.int 0), (.ref a0)])) rfl (by rw [hml]; rfl) (argsL := [(.int 64), (.int 2)]) (rest := [(.int 0), (.ref b2), (.int 0), (.ref a0)]) (lenOf pd_2 rfl) rfl (by show 2 * 0 + _ ≤ _; exact Nat.le_of_eq rfl) (hb hby d4_25) (fun _ _ => ⟨rfl, e2, (by decide : 1 + 0 ≤ _), (by decide : 2 + 0 ≤ _)⟩)
  dsimp only [Pt.U, Pt.locs, Pt.cells, Pt.slots] at X11 l11 y11 z11 st11 hQ11
  subst l11 y11 z11
  obtain ⟨rfl, N11q, eh11⟩ := hQ11
  have N12 := Fr.app N0 N11q
  refine own_via (fun k => st11 _ k) ?_
  show own_Go p e below s _ _ (T11.setTop (mkF m 28 #[rv a0, iv 2, rv b2] [(.int (own_f5 (64 : Int32) (2 : Int32))), (.int 0), (.ref b2), (.int 0), (.ref a0)]))
  rw [show (own_f5 (64 : Int32) (2 : Int32)) = (2 : Int32) from by decide]
  show own_Go p e below s _ _ (T11.setTop (mkF m 28 #[rv a0, iv 2, rv b2] [(.int 2), (.int 0), (.ref b2), (.int 0), (.ref a0)]))
  obtain ⟨T13, h13, L13, X13, e13, N13, K13, A13, st13⟩ := cpA X11 hx hZ hown (hw _ (List.mem_of_getElem? (i := 24) rfl)) (hw _ (List.mem_of_getElem? (i := 27) rfl)) (hw _ (List.mem_of_getElem? (i := 25) rfl)) (hw _ (List.mem_of_getElem? (i := 26) rfl)) eh11 B6 B9 (us := [(.int w0), (.int w1)]) (Or.inl ⟨rfl, rfl⟩) (sp := (0 : Int32)) (dp := (0 : Int32)) (nn := (2 : Int32)) (by decide) (by decide) (by decide) (by decide) (by decide) (by rfl) (by decide) N12 g3 (g := (mkF m 28 #[rv a0, iv 2, rv b2] [(.int 2), (.int 0), (.ref b2), (.int 0), (.ref a0)])) rfl (by rw [hml]; rfl) rfl (hb hby d4_28) (by decide) (W := 0) (by show 2 * 0 + _ ≤ _; exact Nat.le_of_eq rfl) (by decide)
  refine own_via (fun k => st13 _ k) ?_
  show own_Go p e below s _ _ (T13.setTop (mkF m 31 #[rv a0, iv 2, rv b2] []))
  have B14 := B6.keep K13 (ninS ne5 nin0)
  have Z15 : n0 ≤ h13.size := Nat.le_trans Z8 K13.1
  have K16 : Keep h0 h13 [] := K7.trans K13 (allS (Or.inr sz4) all0)
  have B17 : Arv Z h13 b2 k2 .byte (2 : Int32) [(.int w0), (.int w1)] (.int 0) := A13
  refine own_via (fun k => XS.aloadN X13.here hx rfl (hb hby d4_31) rfl rfl  k) ?_
  show own_Go p e below s _ _ (T13.setTop (mkF m 32 #[rv a0, iv 2, rv b2] [(.ref b2)]))
  exact own_retA X13 hx hlk rfl (t := (.array .byte)) Bd.returns rfl (hb hby d4_32) (Q := (Q4_64_2 Z a0 k w0 w1 h0 n0)) ⟨b2, k2, rfl, N13, (by rw [e13]; exact K16), (by rw [e13]; exact B17), sz4⟩ (by decide) (by decide)
theorem ef_4_64_3 (m : MethodId) (x0 : Addr) (x1 : Int32) : entryFrame m #[(.ref x0), (.int x1)] 3 = mkF m 0 #[rv x0, iv x1, .unset] [] := by first | (simp [entryFrame, mkF, argsToLocals, Value.category]; done) | rfl
def Q4_64_3 (Z : State) (a0 : Addr) (k : ClassId) (w0 : Int32) (w1 : Int32) (w2 : Int32) (h0 : Heap) (n0 : Nat) (v : Option Value) (h : Heap) (L : List Loc) : Prop := ∃ (b : Addr), ∃ (k2 : ClassId), v = some (.ref b) ∧ Fr n0 L ∧ Keep h0 h [] ∧ Arv Z h b k2 .byte (3 : Int32) [(.int w0), (.int w1), (.int w2)] (.int 0) ∧ h0.size ≤ b
set_option maxRecDepth 65536 in
set_option maxHeartbeats 40000000 in
theorem rm4_64_3 (l : Launch) (Z : State) (aw : Array Value) (hw : ∀ d ∈ tables_1, d.before aw Z = true) (ws : List Jvm.Cond) (a0 : Addr) (k : ClassId) (w0 : Int32) (w1 : Int32) (w2 : Int32) (h0 : Heap) (n0 : Nat) (Z0 : n0 ≤ h0.size) (P0 : Arv Z h0 a0 k .byte (64 : Int32) [(.int w0), (.int w1), (.int w2)] (.int 0)) :
    MetFree l (⟨"java/util/Arrays", "copyOf", "([BI)[B"⟩ : MethodName) (head1 (Jvm.Cond.code (⟨"java/util/Arrays", "copyOf", "([BI)[B"⟩ : MethodName) jdk_65_method_121_code 3 (some (.array .byte)) :: ws) ({ frames := 1, cells := 1, slots := 3, locals := 27 } : Room)) (fun a U => a = #[(.ref a0), (.int 3)] ∧ Z.Warmed39 U.vm ∧ U.heap = h0) (fun _ _ _ _ _ => True) (fun _ U o U' => ∃ v L, o = .returned v ∧ Q4_64_3 Z a0 k w0 w1 w2 h0 n0 v U'.heap L ∧ FrameEnd U o U' L ({ frames := 1, cells := 1, slots := 3, locals := 27 } : Room).cells ({ frames := 1, cells := 1, slots := 3, locals := 27 } : Room).slots) := by
  refine MetFree.of_bodySF (plainFor_of_name pn_4) hisR ?_
  intro p e s m args below meth c s₁ Bd hml0 hP hK
  obtain ⟨rfl, hZ, hh⟩ := hP
  have hx := Bd.exec
  have hby := Bd.bytes
  have hml : c.maxLocals = 3 := hml0
  have hown : s.vm.findClass "java/util/Arrays" = some m.cls := findClass_of_methodNamed Bd.named
  have hnm := (name_of_methodNamed Bd.named Bd.method).1
  have hlk : meth.locks = false := by first | exact BodyLoose.notSynchronized (by assumption) | exact Body.notSynchronized (by assumption)
  have X0 : Stand p l e ({ frames := 1, cells := 1, slots := 3, locals := 27 } : Room) s m #[(.ref a0), (.int 3)] below meth c s₁ [] 0 0 := Stand.of_body Bd
  have e0 : s₁.heap = h0 := by rw [← hh, Bd.state]; rfl
  have N0 := Fr.nil n0
  have K0 : Keep h0 h0 [] := Keep.refl _ _
  refine own_start (CS := (1, 3)) (Q := (Q4_64_3 Z a0 k w0 w1 w2 h0 n0)) (ef_4_64_3 m a0 (3 : Int32)) ?_
  show own_Go p e below s _ _ (s₁.setTop (mkF m 0 #[rv a0, iv 3, .unset] []))
  refine own_via (fun k => XS.iloadN X0.here hx rfl (hb hby d4_0) rfl  (XS.aloadN X0.here hx rfl (hb hby d4_1) rfl rfl  k)) ?_
  show own_Go p e below s _ _ (s₁.setTop (mkF m 2 #[rv a0, iv 3, .unset] [(.ref a0), (.int 3)]))
  obtain ⟨cl1, Ar1, -, S1, NN1, -, -⟩ := id P0
  refine own_via (fun k => X0.arraylength hx (by rw [e0]; exact Ar1.1) (State.isArrayOf_alike hZ.alike Ar1.2.1) (g := (mkF m 2 #[rv a0, iv 3, .unset] [(.ref a0), (.int 3)])) rfl rfl (hb hby d4_2) _ k) ?_
  rw [len_of S1 NN1]
  show own_Go p e below s _ _ (s₁.setTop (mkF m 3 #[rv a0, iv 3, .unset] [(.int 64), (.int 3)]))
  refine own_via (fun k => XS.icmpYes X0.here hx rfl (pc0 := 3) (pc' := 14) rfl (hb hby d4_3) rfl (by decide) (by decide) (by decide) k) ?_
  show own_Go p e below s _ _ (s₁.setTop (mkF m 14 #[rv a0, iv 3, .unset] []))
  refine own_via (fun k => XS.iloadN X0.here hx rfl (hb hby d4_14) rfl  k) ?_
  show own_Go p e below s _ _ (s₁.setTop (mkF m 15 #[rv a0, iv 3, .unset] [(.int 3)]))
  obtain ⟨T2, h2, k2, X2, e2, E2, A2, st2⟩ := newP X0 hx hZ (hw _ (List.mem_of_getElem? (i := 0) rfl)) e0 (g := (mkF m 15 #[rv a0, iv 3, .unset] [(.int 3)])) rfl (hb hby d4_15) rfl (by decide) (cap := 3) (by decide) (by decide) (by decide) (by decide)
  obtain ⟨b2, g2⟩ : ∃ z, z = h0.size := ⟨_, rfl⟩
  rw [← g2] at A2 st2
  refine own_via (fun k => st2 _ k) ?_
  show own_Go p e below s _ _ (T2.setTop (mkF m 17 #[rv a0, iv 3, .unset] [(.ref b2)]))
  have g3 : n0 ≤ b2 := Nat.le_trans Z0 (Nat.le_of_eq g2.symm)
  have sz4 : h0.size ≤ b2 := Nat.le_trans K0.1 (Nat.le_of_eq g2.symm)
  have ne5 : a0 ≠ b2 := Nat.ne_of_lt (Nat.lt_of_lt_of_le P0.lt (Nat.le_of_eq g2.symm))
  have B6 := P0.ext E2
  have K7 : Keep h0 h2 [] := K0.ext E2
  have Z8 : n0 ≤ h2.size := Nat.le_trans Z0 E2.1
  have B9 : Arv Z h2 b2 k2 .byte (3 : Int32) [(.int 0), (.int 0), (.int 0)] (.int 0) := (Arv.new A2 (by decide)).pad (pad_rep [] (.int 0) 3)
  refine own_via (fun k => XS.astoreN X2.here hx rfl (hb hby d4_17) rfl rfl (l' := #[rv a0, iv 3, rv b2]) rfl (XS.aloadN X2.here hx rfl (hb hby d4_18) rfl rfl  (XS.iconst X2.here hx rfl (hb hby d4_19) (XS.aloadN X2.here hx rfl (hb hby d4_20) rfl rfl  k)))) ?_
  show own_Go p e below s _ _ (T2.setTop (mkF m 21 #[rv a0, iv 3, rv b2] [(.ref b2), (.int 0), (.ref a0)]))
  refine own_via (fun k => XS.iconst X2.here hx rfl (hb hby d4_21) (XS.aloadN X2.here hx rfl (hb hby d4_22) rfl rfl  k)) ?_
  show own_Go p e below s _ _ (T2.setTop (mkF m 23 #[rv a0, iv 3, rv b2] [(.ref a0), (.int 0), (.ref b2), (.int 0), (.ref a0)]))
  obtain ⟨cl10, Ar10, -, S10, NN10, -, -⟩ := id B6
  refine own_via (fun k => X2.arraylength hx (by rw [e2]; exact Ar10.1) (State.isArrayOf_alike hZ.alike Ar10.2.1) (g := (mkF m 23 #[rv a0, iv 3, rv b2] [(.ref a0), (.int 0), (.ref b2), (.int 0), (.ref a0)])) rfl rfl (hb hby d4_23) _ k) ?_
  rw [len_of S10 NN10]
  show own_Go p e below s _ _ (T2.setTop (mkF m 24 #[rv a0, iv 3, rv b2] [(.int 64), (.int 0), (.ref b2), (.int 0), (.ref a0)]))
  refine own_via (fun k => XS.iloadN X2.here hx rfl (hb hby d4_24) rfl  k) ?_
  show own_Go p e below s _ _ (T2.setTop (mkF m 25 #[rv a0, iv 3, rv b2] [(.int 3), (.int 64), (.int 0), (.ref b2), (.int 0), (.ref a0)]))
  obtain ⟨_, _, ⟨T11, L11, k11, n11⟩, -, X11, ⟨Lc11, hQ11, l11, y11, z11⟩, st11⟩ := Jvm.LawKit.callS X2 hx (y := (⟨"java/lang/Math", "min", "(II)I"⟩ : MethodName)) hown (mvT hZ (hw _ (List.mem_of_getElem? (i := 21) rfl))) (mvT hZ (hw _ (List.mem_of_getElem? (i := 22) rfl))) (mvT hZ (hw _ (List.mem_of_getElem? (i := 15) rfl))) (mvT hZ (hw _ (List.mem_of_getElem? (i := 23) rfl))) (by decide) (backOf (W := 4) (rm5 l Z aw hw [] (64 : Int32) (3 : Int32) h2 n0 Z8) hZ (hw _ (List.mem_of_getElem? (i := 23) rfl)) (hw _ (List.mem_of_getElem? (i := 15) rfl)) (by decide) (by decide)) (g := (mkF m 25 #[rv a0, iv 3, rv b2] [(.int 3), (.int 64), (.int 0), (.ref b2), (.int 0), (.ref a0)])) rfl (by rw [hml]; rfl) (argsL := [(.int 64), (.int 3)]) (rest := [(.int 0), (.ref b2), (.int 0), (.ref a0)]) (lenOf pd_2 rfl) rfl (by show 2 * 0 + _ ≤ _; exact Nat.le_of_eq rfl) (hb hby d4_25) (fun _ _ => ⟨rfl, e2, (by decide : 1 + 0 ≤ _), (by decide : 3 + 0 ≤ _)⟩)
  dsimp only [Pt.U, Pt.locs, Pt.cells, Pt.slots] at X11 l11 y11 z11 st11 hQ11
  subst l11 y11 z11
  obtain ⟨rfl, N11q, eh11⟩ := hQ11
  have N12 := Fr.app N0 N11q
  refine own_via (fun k => st11 _ k) ?_
  show own_Go p e below s _ _ (T11.setTop (mkF m 28 #[rv a0, iv 3, rv b2] [(.int (own_f5 (64 : Int32) (3 : Int32))), (.int 0), (.ref b2), (.int 0), (.ref a0)]))
  rw [show (own_f5 (64 : Int32) (3 : Int32)) = (3 : Int32) from by decide]
  show own_Go p e below s _ _ (T11.setTop (mkF m 28 #[rv a0, iv 3, rv b2] [(.int 3), (.int 0), (.ref b2), (.int 0), (.ref a0)]))
  obtain ⟨T13, h13, L13, X13, e13, N13, K13, A13, st13⟩ := cpA X11 hx hZ hown (hw _ (List.mem_of_getElem? (i := 24) rfl)) (hw _ (List.mem_of_getElem? (i := 27) rfl)) (hw _ (List.mem_of_getElem? (i := 25) rfl)) (hw _ (List.mem_of_getElem? (i := 26) rfl)) eh11 B6 B9 (us := [(.int w0), (.int w1), (.int w2)]) (Or.inl ⟨rfl, rfl⟩) (sp := (0 : Int32)) (dp := (0 : Int32)) (nn := (3 : Int32)) (by decide) (by decide) (by decide) (by decide) (by decide) (by rfl) (by decide) N12 g3 (g := (mkF m 28 #[rv a0, iv 3, rv b2] [(.int 3), (.int 0), (.ref b2), (.int 0), (.ref a0)])) rfl (by rw [hml]; rfl) rfl (hb hby d4_28) (by decide) (W := 0) (by show 2 * 0 + _ ≤ _; exact Nat.le_of_eq rfl) (by decide)
  refine own_via (fun k => st13 _ k) ?_
  show own_Go p e below s _ _ (T13.setTop (mkF m 31 #[rv a0, iv 3, rv b2] []))
  have B14 := B6.keep K13 (ninS ne5 nin0)
  have Z15 : n0 ≤ h13.size := Nat.le_trans Z8 K13.1
  have K16 : Keep h0 h13 [] := K7.trans K13 (allS (Or.inr sz4) all0)
  have B17 : Arv Z h13 b2 k2 .byte (3 : Int32) [(.int w0), (.int w1), (.int w2)] (.int 0) := A13
  refine own_via (fun k => XS.aloadN X13.here hx rfl (hb hby d4_31) rfl rfl  k) ?_
  show own_Go p e below s _ _ (T13.setTop (mkF m 32 #[rv a0, iv 3, rv b2] [(.ref b2)]))
  exact own_retA X13 hx hlk rfl (t := (.array .byte)) Bd.returns rfl (hb hby d4_32) (Q := (Q4_64_3 Z a0 k w0 w1 w2 h0 n0)) ⟨b2, k2, rfl, N13, (by rw [e13]; exact K16), (by rw [e13]; exact B17), sz4⟩ (by decide) (by decide)
theorem ef_4_64_4 (m : MethodId) (x0 : Addr) (x1 : Int32) : entryFrame m #[(.ref x0), (.int x1)] 3 = mkF m 0 #[rv x0, iv x1, .unset] [] := by first | (simp [entryFrame, mkF, argsToLocals, Value.category]; done) | rfl
def Q4_64_4 (Z : State) (a0 : Addr) (k : ClassId) (w0 : Int32) (w1 : Int32) (w2 : Int32) (w3 : Int32) (h0 : Heap) (n0 : Nat) (v : Option Value) (h : Heap) (L : List Loc) : Prop := ∃ (b : Addr), ∃ (k2 : ClassId), v = some (.ref b) ∧ Fr n0 L ∧ Keep h0 h [] ∧ Arv Z h b k2 .byte (4 : Int32) [(.int w0), (.int w1), (.int w2), (.int w3)] (.int 0) ∧ h0.size ≤ b
set_option maxRecDepth 65536 in
set_option maxHeartbeats 40000000 in
theorem rm4_64_4 (l : Launch) (Z : State) (aw : Array Value) (hw : ∀ d ∈ tables_1, d.before aw Z = true) (ws : List Jvm.Cond) (a0 : Addr) (k : ClassId) (w0 : Int32) (w1 : Int32) (w2 : Int32) (w3 : Int32) (h0 : Heap) (n0 : Nat) (Z0 : n0 ≤ h0.size) (P0 : Arv Z h0 a0 k .byte (64 : Int32) [(.int w0), (.int w1), (.int w2), (.int w3)] (.int 0)) :
    MetFree l (⟨"java/util/Arrays", "copyOf", "([BI)[B"⟩ : MethodName) (head1 (Jvm.Cond.code (⟨"java/util/Arrays", "copyOf", "([BI)[B"⟩ : MethodName) jdk_65_method_121_code 3 (some (.array .byte)) :: ws) ({ frames := 1, cells := 1, slots := 4, locals := 27 } : Room)) (fun a U => a = #[(.ref a0), (.int 4)] ∧ Z.Warmed39 U.vm ∧ U.heap = h0) (fun _ _ _ _ _ => True) (fun _ U o U' => ∃ v L, o = .returned v ∧ Q4_64_4 Z a0 k w0 w1 w2 w3 h0 n0 v U'.heap L ∧ FrameEnd U o U' L ({ frames := 1, cells := 1, slots := 4, locals := 27 } : Room).cells ({ frames := 1, cells := 1, slots := 4, locals := 27 } : Room).slots) := by
  refine MetFree.of_bodySF (plainFor_of_name pn_4) hisR ?_
  intro p e s m args below meth c s₁ Bd hml0 hP hK
  obtain ⟨rfl, hZ, hh⟩ := hP
  have hx := Bd.exec
  have hby := Bd.bytes
  have hml : c.maxLocals = 3 := hml0
  have hown : s.vm.findClass "java/util/Arrays" = some m.cls := findClass_of_methodNamed Bd.named
  have hnm := (name_of_methodNamed Bd.named Bd.method).1
  have hlk : meth.locks = false := by first | exact BodyLoose.notSynchronized (by assumption) | exact Body.notSynchronized (by assumption)
  have X0 : Stand p l e ({ frames := 1, cells := 1, slots := 4, locals := 27 } : Room) s m #[(.ref a0), (.int 4)] below meth c s₁ [] 0 0 := Stand.of_body Bd
  have e0 : s₁.heap = h0 := by rw [← hh, Bd.state]; rfl
  have N0 := Fr.nil n0
  have K0 : Keep h0 h0 [] := Keep.refl _ _
  refine own_start (CS := (1, 4)) (Q := (Q4_64_4 Z a0 k w0 w1 w2 w3 h0 n0)) (ef_4_64_4 m a0 (4 : Int32)) ?_
  show own_Go p e below s _ _ (s₁.setTop (mkF m 0 #[rv a0, iv 4, .unset] []))
  refine own_via (fun k => XS.iloadN X0.here hx rfl (hb hby d4_0) rfl  (XS.aloadN X0.here hx rfl (hb hby d4_1) rfl rfl  k)) ?_
  show own_Go p e below s _ _ (s₁.setTop (mkF m 2 #[rv a0, iv 4, .unset] [(.ref a0), (.int 4)]))
  obtain ⟨cl1, Ar1, -, S1, NN1, -, -⟩ := id P0
  refine own_via (fun k => X0.arraylength hx (by rw [e0]; exact Ar1.1) (State.isArrayOf_alike hZ.alike Ar1.2.1) (g := (mkF m 2 #[rv a0, iv 4, .unset] [(.ref a0), (.int 4)])) rfl rfl (hb hby d4_2) _ k) ?_
  rw [len_of S1 NN1]
  show own_Go p e below s _ _ (s₁.setTop (mkF m 3 #[rv a0, iv 4, .unset] [(.int 64), (.int 4)]))
  refine own_via (fun k => XS.icmpYes X0.here hx rfl (pc0 := 3) (pc' := 14) rfl (hb hby d4_3) rfl (by decide) (by decide) (by decide) k) ?_
  show own_Go p e below s _ _ (s₁.setTop (mkF m 14 #[rv a0, iv 4, .unset] []))
  refine own_via (fun k => XS.iloadN X0.here hx rfl (hb hby d4_14) rfl  k) ?_
  show own_Go p e below s _ _ (s₁.setTop (mkF m 15 #[rv a0, iv 4, .unset] [(.int 4)]))
  obtain ⟨T2, h2, k2, X2, e2, E2, A2, st2⟩ := newP X0 hx hZ (hw _ (List.mem_of_getElem? (i := 0) rfl)) e0 (g := (mkF m 15 #[rv a0, iv 4, .unset] [(.int 4)])) rfl (hb hby d4_15) rfl (by decide) (cap := 4) (by decide) (by decide) (by decide) (by decide)
  obtain ⟨b2, g2⟩ : ∃ z, z = h0.size := ⟨_, rfl⟩
  rw [← g2] at A2 st2
  refine own_via (fun k => st2 _ k) ?_
  show own_Go p e below s _ _ (T2.setTop (mkF m 17 #[rv a0, iv 4, .unset] [(.ref b2)]))
  have g3 : n0 ≤ b2 := Nat.le_trans Z0 (Nat.le_of_eq g2.symm)
  have sz4 : h0.size ≤ b2 := Nat.le_trans K0.1 (Nat.le_of_eq g2.symm)
  have ne5 : a0 ≠ b2 := Nat.ne_of_lt (Nat.lt_of_lt_of_le P0.lt (Nat.le_of_eq g2.symm))
  have B6 := P0.ext E2
  have K7 : Keep h0 h2 [] := K0.ext E2
  have Z8 : n0 ≤ h2.size := Nat.le_trans Z0 E2.1
  have B9 : Arv Z h2 b2 k2 .byte (4 : Int32) [(.int 0), (.int 0), (.int 0), (.int 0)] (.int 0) := (Arv.new A2 (by decide)).pad (pad_rep [] (.int 0) 4)
  refine own_via (fun k => XS.astoreN X2.here hx rfl (hb hby d4_17) rfl rfl (l' := #[rv a0, iv 4, rv b2]) rfl (XS.aloadN X2.here hx rfl (hb hby d4_18) rfl rfl  (XS.iconst X2.here hx rfl (hb hby d4_19) (XS.aloadN X2.here hx rfl (hb hby d4_20) rfl rfl  k)))) ?_
  show own_Go p e below s _ _ (T2.setTop (mkF m 21 #[rv a0, iv 4, rv b2] [(.ref b2), (.int 0), (.ref a0)]))
  refine own_via (fun k => XS.iconst X2.here hx rfl (hb hby d4_21) (XS.aloadN X2.here hx rfl (hb hby d4_22) rfl rfl  k)) ?_
  show own_Go p e below s _ _ (T2.setTop (mkF m 23 #[rv a0, iv 4, rv b2] [(.ref a0), (.int 0), (.ref b2), (.int 0), (.ref a0)]))
  obtain ⟨cl10, Ar10, -, S10, NN10, -, -⟩ := id B6
  refine own_via (fun k => X2.arraylength hx (by rw [e2]; exact Ar10.1) (State.isArrayOf_alike hZ.alike Ar10.2.1) (g := (mkF m 23 #[rv a0, iv 4, rv b2] [(.ref a0), (.int 0), (.ref b2), (.int 0), (.ref a0)])) rfl rfl (hb hby d4_23) _ k) ?_
  rw [len_of S10 NN10]
  show own_Go p e below s _ _ (T2.setTop (mkF m 24 #[rv a0, iv 4, rv b2] [(.int 64), (.int 0), (.ref b2), (.int 0), (.ref a0)]))
  refine own_via (fun k => XS.iloadN X2.here hx rfl (hb hby d4_24) rfl  k) ?_
  show own_Go p e below s _ _ (T2.setTop (mkF m 25 #[rv a0, iv 4, rv b2] [(.int 4), (.int 64), (.int 0), (.ref b2), (.int 0), (.ref a0)]))
  obtain ⟨_, _, ⟨T11, L11, k11, n11⟩, -, X11, ⟨Lc11, hQ11, l11, y11, z11⟩, st11⟩ := Jvm.LawKit.callS X2 hx (y := (⟨"java/lang/Math", "min", "(II)I"⟩ : MethodName)) hown (mvT hZ (hw _ (List.mem_of_getElem? (i := 21) rfl))) (mvT hZ (hw _ (List.mem_of_getElem? (i := 22) rfl))) (mvT hZ (hw _ (List.mem_of_getElem? (i := 15) rfl))) (mvT hZ (hw _ (List.mem_of_getElem? (i := 23) rfl))) (by decide) (backOf (W := 4) (rm5 l Z aw hw [] (64 : Int32) (4 : Int32) h2 n0 Z8) hZ (hw _ (List.mem_of_getElem? (i := 23) rfl)) (hw _ (List.mem_of_getElem? (i := 15) rfl)) (by decide) (by decide)) (g := (mkF m 25 #[rv a0, iv 4, rv b2] [(.int 4), (.int 64), (.int 0), (.ref b2), (.int 0), (.ref a0)])) rfl (by rw [hml]; rfl) (argsL := [(.int 64), (.int 4)]) (rest := [(.int 0), (.ref b2), (.int 0), (.ref a0)]) (lenOf pd_2 rfl) rfl (by show 2 * 0 + _ ≤ _; exact Nat.le_of_eq rfl) (hb hby d4_25) (fun _ _ => ⟨rfl, e2, (by decide : 1 + 0 ≤ _), (by decide : 4 + 0 ≤ _)⟩)
  dsimp only [Pt.U, Pt.locs, Pt.cells, Pt.slots] at X11 l11 y11 z11 st11 hQ11
  subst l11 y11 z11
  obtain ⟨rfl, N11q, eh11⟩ := hQ11
  have N12 := Fr.app N0 N11q
  refine own_via (fun k => st11 _ k) ?_
  show own_Go p e below s _ _ (T11.setTop (mkF m 28 #[rv a0, iv 4, rv b2] [(.int (own_f5 (64 : Int32) (4 : Int32))), (.int 0), (.ref b2), (.int 0), (.ref a0)]))
  rw [show (own_f5 (64 : Int32) (4 : Int32)) = (4 : Int32) from by decide]
  show own_Go p e below s _ _ (T11.setTop (mkF m 28 #[rv a0, iv 4, rv b2] [(.int 4), (.int 0), (.ref b2), (.int 0), (.ref a0)]))
  obtain ⟨T13, h13, L13, X13, e13, N13, K13, A13, st13⟩ := cpA X11 hx hZ hown (hw _ (List.mem_of_getElem? (i := 24) rfl)) (hw _ (List.mem_of_getElem? (i := 27) rfl)) (hw _ (List.mem_of_getElem? (i := 25) rfl)) (hw _ (List.mem_of_getElem? (i := 26) rfl)) eh11 B6 B9 (us := [(.int w0), (.int w1), (.int w2), (.int w3)]) (Or.inl ⟨rfl, rfl⟩) (sp := (0 : Int32)) (dp := (0 : Int32)) (nn := (4 : Int32)) (by decide) (by decide) (by decide) (by decide) (by decide) (by rfl) (by decide) N12 g3 (g := (mkF m 28 #[rv a0, iv 4, rv b2] [(.int 4), (.int 0), (.ref b2), (.int 0), (.ref a0)])) rfl (by rw [hml]; rfl) rfl (hb hby d4_28) (by decide) (W := 0) (by show 2 * 0 + _ ≤ _; exact Nat.le_of_eq rfl) (by decide)
  refine own_via (fun k => st13 _ k) ?_
  show own_Go p e below s _ _ (T13.setTop (mkF m 31 #[rv a0, iv 4, rv b2] []))
  have B14 := B6.keep K13 (ninS ne5 nin0)
  have Z15 : n0 ≤ h13.size := Nat.le_trans Z8 K13.1
  have K16 : Keep h0 h13 [] := K7.trans K13 (allS (Or.inr sz4) all0)
  have B17 : Arv Z h13 b2 k2 .byte (4 : Int32) [(.int w0), (.int w1), (.int w2), (.int w3)] (.int 0) := A13
  refine own_via (fun k => XS.aloadN X13.here hx rfl (hb hby d4_31) rfl rfl  k) ?_
  show own_Go p e below s _ _ (T13.setTop (mkF m 32 #[rv a0, iv 4, rv b2] [(.ref b2)]))
  exact own_retA X13 hx hlk rfl (t := (.array .byte)) Bd.returns rfl (hb hby d4_32) (Q := (Q4_64_4 Z a0 k w0 w1 w2 w3 h0 n0)) ⟨b2, k2, rfl, N13, (by rw [e13]; exact K16), (by rw [e13]; exact B17), sz4⟩ (by decide) (by decide)
theorem d1_0 : decode prog_5_method_2_code 0 = .ok (.aload_n 0, 1) := by decide +kernel
theorem d1_1 : decode prog_5_method_2_code 1 = .ok (.invokespecial 1, 3) := by decide +kernel
theorem d1_4 : decode prog_5_method_2_code 4 = .ok (.aload_n 0, 1) := by decide +kernel
theorem d1_5 : decode prog_5_method_2_code 5 = .ok (.bipush 64, 2) := by decide +kernel
theorem d1_7 : decode prog_5_method_2_code 7 = .ok (.newarray .byte, 2) := by decide +kernel
theorem d1_9 : decode prog_5_method_2_code 9 = .ok (.putfield 7, 3) := by decide +kernel
theorem d1_12 : decode prog_5_method_2_code 12 = .ok (.aload_n 0, 1) := by decide +kernel
theorem d1_13 : decode prog_5_method_2_code 13 = .ok (.aload_n 1, 1) := by decide +kernel
theorem d1_14 : decode prog_5_method_2_code 14 = .ok (.bipush 64, 2) := by decide +kernel
theorem d1_16 : decode prog_5_method_2_code 16 = .ok (.aload_n 1, 1) := by decide +kernel
theorem d1_17 : decode prog_5_method_2_code 17 = .ok (.arraylength, 1) := by decide +kernel
theorem d1_18 : decode prog_5_method_2_code 18 = .ok (.iconst 2, 1) := by decide +kernel
theorem d1_19 : decode prog_5_method_2_code 19 = .ok (.imul, 1) := by decide +kernel
theorem d1_20 : decode prog_5_method_2_code 20 = .ok (.invokestatic 17, 3) := by decide +kernel
theorem d1_23 : decode prog_5_method_2_code 23 = .ok (.invokestatic 23, 3) := by decide +kernel
theorem d1_26 : decode prog_5_method_2_code 26 = .ok (.putfield 7, 3) := by decide +kernel
theorem d1_29 : decode prog_5_method_2_code 29 = .ok (.aload_n 0, 1) := by decide +kernel
theorem d1_30 : decode prog_5_method_2_code 30 = .ok (.aload_n 1, 1) := by decide +kernel
theorem d1_31 : decode prog_5_method_2_code 31 = .ok (.arraylength, 1) := by decide +kernel
theorem d1_32 : decode prog_5_method_2_code 32 = .ok (.putfield 29, 3) := by decide +kernel
theorem d1_35 : decode prog_5_method_2_code 35 = .ok (.return_, 1) := by decide +kernel
theorem pn_1 : plainName "com/example/dani/dani/core/Key" = true := by first | (simp [plainName, overriddenIn]; done) | decide +kernel
theorem pd_3 : parseMethodDescriptor "([BI)[B" = some ⟨[(.array .byte), .int], some (.array .byte)⟩ := by decide +kernel
theorem ef_1_0 (m : MethodId) (x0 : Addr) (x1 : Addr) : entryFrame m #[(.ref x0), (.ref x1)] 2 = mkF m 0 #[rv x0, rv x1] [] := by first | (simp [entryFrame, mkF, argsToLocals, Value.category]; done) | rfl
def Q1_0 (Z : State) (a0 : Addr) (a1 : Addr) (k : ClassId) (h0 : Heap) (n0 : Nat) (v : Option Value) (h : Heap) (L : List Loc) : Prop := ∃ (b : Addr), ∃ (k2 : ClassId), v = none ∧ Fr n0 L ∧ Keep h0 h [a0] ∧ Fld Z h a0 "com/example/dani/dani/core/Key" "bytes" "[B" (.ref b) ∧ Fld Z h a0 "com/example/dani/dani/core/Key" "length" "I" (.int 0) ∧ Arv Z h b k2 .byte (64 : Int32) [] (.int 0) ∧ h0.size ≤ b
set_option maxRecDepth 65536 in
set_option maxHeartbeats 40000000 in
theorem rm1_0 (l : Launch) (Z : State) (aw : Array Value) (hw : ∀ d ∈ tables_1, d.before aw Z = true) (ws : List Jvm.Cond) (a0 : Addr) (a1 : Addr) (k : ClassId) (h0 : Heap) (n0 : Nat) (Z0 : n0 ≤ h0.size) (P0 : Fld Z h0 a0 "com/example/dani/dani/core/Key" "bytes" "[B" .null) (P1 : Fld Z h0 a0 "com/example/dani/dani/core/Key" "length" "I" (.int 0)) (P2 : Exa Z h0 a0 "com/example/dani/dani/core/Key") (P3 : Arv Z h0 a1 k .byte (0 : Int32) [] (.int 0)) (ge0 : n0 ≤ a0) (nx0 : a1 ≠ a0) :
    MetFree l (⟨"com/example/dani/dani/core/Key", "<init>", "([B)V"⟩ : MethodName) (head1 (Jvm.Cond.code (⟨"com/example/dani/dani/core/Key", "<init>", "([B)V"⟩ : MethodName) prog_5_method_2_code 2 none :: ws) ({ frames := 2, cells := 2, slots := 128, locals := 42 } : Room)) (fun a U => a = #[(.ref a0), (.ref a1)] ∧ Z.Warmed39 U.vm ∧ U.heap = h0) (fun _ _ _ _ _ => True) (fun _ U o U' => ∃ v L, o = .returned v ∧ Q1_0 Z a0 a1 k h0 n0 v U'.heap L ∧ FrameEnd U o U' L ({ frames := 2, cells := 2, slots := 128, locals := 42 } : Room).cells ({ frames := 2, cells := 2, slots := 128, locals := 42 } : Room).slots) := by
  refine MetFree.of_bodySF (plainFor_of_name pn_1) hisR ?_
  intro p e s m args below meth c s₁ Bd hml0 hP hK
  obtain ⟨rfl, hZ, hh⟩ := hP
  have hx := Bd.exec
  have hby := Bd.bytes
  have hml : c.maxLocals = 2 := hml0
  have hown : s.vm.findClass "com/example/dani/dani/core/Key" = some m.cls := findClass_of_methodNamed Bd.named
  have hnm := (name_of_methodNamed Bd.named Bd.method).1
  have hlk : meth.locks = false := by first | exact BodyLoose.notSynchronized (by assumption) | exact Body.notSynchronized (by assumption)
  have X0 : Stand p l e ({ frames := 2, cells := 2, slots := 128, locals := 42 } : Room) s m #[(.ref a0), (.ref a1)] below meth c s₁ [] 0 0 := Stand.of_body Bd
  have e0 : s₁.heap = h0 := by rw [← hh, Bd.state]; rfl
  have N0 := Fr.nil n0
  have K0 : Keep h0 h0 [a0] := Keep.refl _ _
  refine own_start (CS := (2, 128)) (Q := (Q1_0 Z a0 a1 k h0 n0)) (ef_1_0 m a0 a1) ?_
  show own_Go p e below s _ _ (s₁.setTop (mkF m 0 #[rv a0, rv a1] []))
  refine own_via (fun k => XS.aloadN X0.here hx rfl (hb hby d1_0) rfl rfl  k) ?_
  show own_Go p e below s _ _ (s₁.setTop (mkF m 1 #[rv a0, rv a1] [(.ref a0)]))
  obtain ⟨T1, X1, e1, st1⟩ := initO X0 hx hZ hown (hw _ (List.mem_of_getElem? (i := 8) rfl)) (hw _ (List.mem_of_getElem? (i := 9) rfl)) (hw _ (List.mem_of_getElem? (i := 10) rfl)) e0 (g := (mkF m 1 #[rv a0, rv a1] [(.ref a0)])) rfl (by rw [hml]; rfl) rfl (hb hby d1_1) (by decide) (W := 0) (by show 2 * 0 + _ ≤ _; exact Nat.le_of_eq rfl) (by decide)
  refine own_via (fun k => st1 _ k) ?_
  show own_Go p e below s _ _ (T1.setTop (mkF m 4 #[rv a0, rv a1] []))
  refine own_via (fun k => XS.aloadN X1.here hx rfl (hb hby d1_4) rfl rfl  (XS.bipush X1.here hx rfl (hb hby d1_5) k)) ?_
  show own_Go p e below s _ _ (T1.setTop (mkF m 7 #[rv a0, rv a1] [(.int 64), (.ref a0)]))
  obtain ⟨T2, h2, k2, X2, e2, E2, A2, st2⟩ := newP X1 hx hZ (hw _ (List.mem_of_getElem? (i := 0) rfl)) e1 (g := (mkF m 7 #[rv a0, rv a1] [(.int 64), (.ref a0)])) rfl (hb hby d1_7) rfl (by decide) (cap := 64) (by decide) (by decide) (by decide) (by decide)
  obtain ⟨b2, g2⟩ : ∃ z, z = h0.size := ⟨_, rfl⟩
  rw [← g2] at A2 st2
  refine own_via (fun k => st2 _ k) ?_
  show own_Go p e below s _ _ (T2.setTop (mkF m 9 #[rv a0, rv a1] [(.ref b2), (.ref a0)]))
  have g3 : n0 ≤ b2 := Nat.le_trans Z0 (Nat.le_of_eq g2.symm)
  have sz4 : h0.size ≤ b2 := Nat.le_trans K0.1 (Nat.le_of_eq g2.symm)
  have ne5 : a0 ≠ b2 := Nat.ne_of_lt (Nat.lt_of_lt_of_le P0.lt (Nat.le_of_eq g2.symm))
  have ne6 : a1 ≠ b2 := Nat.ne_of_lt (Nat.lt_of_lt_of_le P3.lt (Nat.le_of_eq g2.symm))
  have B7 := P0.ext E2
  have B8 := P1.ext E2
  have B9 := P2.ext E2
  have B10 := P3.ext E2
  have K11 : Keep h0 h2 [a0] := K0.ext E2
  have Z12 : n0 ≤ h2.size := Nat.le_trans Z0 E2.1
  have B13 : Arv Z h2 b2 k2 .byte (64 : Int32) [] (.int 0) := (Arv.new A2 (by decide)).pad (pad_rep [] (.int 0) 0)
  obtain ⟨T14, h14, X14, e14, W14, st14⟩ := putF X2 hx hZ hown (host := "") (Or.inl (hw _ (List.mem_of_getElem? (i := 11) rfl))) Via.refl e2 B7 B9 (Or.inl (hw _ (List.mem_of_getElem? (i := 12) rfl))) (hw _ (List.mem_of_getElem? (i := 3) rfl)) (ty := (.array .byte)) (by decide) rfl rfl (g := (mkF m 9 #[rv a0, rv a1] [(.ref b2), (.ref a0)])) rfl rfl (hb hby d1_9)
  refine own_via (fun k => st14 _ k) ?_
  show own_Go p e below s _ _ (T14.setTop (mkF m 12 #[rv a0, rv a1] []))
  have B15 := B8.other W14 (Or.inr (slot_ne (Or.inl (hw _ (List.mem_of_getElem? (i := 29) rfl))) (Or.inl (hw _ (List.mem_of_getElem? (i := 12) rfl))) (by decide) (t := .int) (t' := (.array .byte)) (by decide) (by decide)))
  have B16 := B9.wr W14
  have B17 := B10.other W14 nx0
  have B18 := B13.other W14 (Ne.symm ne5)
  have B19 : Fld Z h14 a0 "com/example/dani/dani/core/Key" "bytes" "[B" (.ref b2) := B7.same W14
  have N20 := Fr.snoc X14 N0 ge0
  have K21 : Keep h0 h14 [a0] := K11.wr W14 (Or.inl (List.mem_of_getElem? (i := 0) rfl))
  have Z22 : n0 ≤ h14.size := Nat.le_trans Z12 (Keep.of_wr W14).1
  refine own_via (fun k => XS.aloadN X14.here hx rfl (hb hby d1_12) rfl rfl  (XS.aloadN X14.here hx rfl (hb hby d1_13) rfl rfl  (XS.bipush X14.here hx rfl (hb hby d1_14) (XS.aloadN X14.here hx rfl (hb hby d1_16) rfl rfl  k)))) ?_
  show own_Go p e below s _ _ (T14.setTop (mkF m 17 #[rv a0, rv a1] [(.ref a1), (.int 64), (.ref a1), (.ref a0)]))
  obtain ⟨cl23, Ar23, -, S23, NN23, -, -⟩ := id B17
  refine own_via (fun k => X14.arraylength hx (by rw [e14]; exact Ar23.1) (State.isArrayOf_alike hZ.alike Ar23.2.1) (g := (mkF m 17 #[rv a0, rv a1] [(.ref a1), (.int 64), (.ref a1), (.ref a0)])) rfl rfl (hb hby d1_17) _ k) ?_
  rw [len_of S23 NN23]
  show own_Go p e below s _ _ (T14.setTop (mkF m 18 #[rv a0, rv a1] [(.int 0), (.int 64), (.ref a1), (.ref a0)]))
  refine own_via (fun k => XS.iconst X14.here hx rfl (hb hby d1_18) (XS.imul X14.here hx rfl (hb hby d1_19) rfl k)) ?_
  show own_Go p e below s _ _ (T14.setTop (mkF m 20 #[rv a0, rv a1] [(.int 0), (.int 64), (.ref a1), (.ref a0)]))
  obtain ⟨_, _, ⟨T24, L24, k24, n24⟩, -, X24, ⟨Lc24, hQ24, l24, y24, z24⟩, st24⟩ := Jvm.LawKit.callS X14 hx (y := (⟨"java/lang/Math", "max", "(II)I"⟩ : MethodName)) hown (mvT hZ (hw _ (List.mem_of_getElem? (i := 13) rfl))) (mvT hZ (hw _ (List.mem_of_getElem? (i := 14) rfl))) (mvT hZ (hw _ (List.mem_of_getElem? (i := 15) rfl))) (mvT hZ (hw _ (List.mem_of_getElem? (i := 16) rfl))) (by decide) (backOf (W := 2) (rm3 l Z aw hw [] (64 : Int32) (0 : Int32) h14 n0 Z22) hZ (hw _ (List.mem_of_getElem? (i := 16) rfl)) (hw _ (List.mem_of_getElem? (i := 15) rfl)) (by decide) (by decide)) (g := (mkF m 20 #[rv a0, rv a1] [(.int 0), (.int 64), (.ref a1), (.ref a0)])) rfl (by rw [hml]; rfl) (argsL := [(.int 64), (.int 0)]) (rest := [(.ref a1), (.ref a0)]) (lenOf pd_2 rfl) rfl (by show 2 * 0 + _ ≤ _; exact Nat.le_of_eq rfl) (hb hby d1_20) (fun _ _ => ⟨rfl, e14, (by decide : 1 + 0 ≤ _), (by decide : 64 + 0 ≤ _)⟩)
  dsimp only [Pt.U, Pt.locs, Pt.cells, Pt.slots] at X24 l24 y24 z24 st24 hQ24
  subst l24 y24 z24
  obtain ⟨rfl, N24q, eh24⟩ := hQ24
  have N25 := Fr.app N20 N24q
  refine own_via (fun k => st24 _ k) ?_
  show own_Go p e below s _ _ (T24.setTop (mkF m 23 #[rv a0, rv a1] [(.int (own_f3 (64 : Int32) (0 : Int32))), (.ref a1), (.ref a0)]))
  rw [show (own_f3 (64 : Int32) (0 : Int32)) = (64 : Int32) from by decide]
  show own_Go p e below s _ _ (T24.setTop (mkF m 23 #[rv a0, rv a1] [(.int 64), (.ref a1), (.ref a0)]))
  obtain ⟨_, _, ⟨T26, L26, k26, n26⟩, -, X26, ⟨Lc26, hQ26, l26, y26, z26⟩, st26⟩ := Jvm.LawKit.callS X24 hx (y := (⟨"java/util/Arrays", "copyOf", "([BI)[B"⟩ : MethodName)) hown (mvT hZ (hw _ (List.mem_of_getElem? (i := 17) rfl))) (mvT hZ (hw _ (List.mem_of_getElem? (i := 18) rfl))) (mvT hZ (hw _ (List.mem_of_getElem? (i := 19) rfl))) (mvT hZ (hw _ (List.mem_of_getElem? (i := 20) rfl))) (by decide) (backOf (W := 1) (rm4_0_64 l Z aw hw [] a1 k h14 n0 Z22 B17) hZ (hw _ (List.mem_of_getElem? (i := 20) rfl)) (hw _ (List.mem_of_getElem? (i := 19) rfl)) (by decide) (by decide)) (g := (mkF m 23 #[rv a0, rv a1] [(.int 64), (.ref a1), (.ref a0)])) rfl (by rw [hml]; rfl) (argsL := [(.ref a1), (.int 64)]) (rest := [(.ref a0)]) (lenOf pd_3 rfl) rfl (by show 2 * 0 + _ ≤ _; exact Nat.le_of_eq rfl) (hb hby d1_23) (fun _ _ => ⟨rfl, eh24, (by decide : 1 + 1 ≤ _), (by decide : 64 + 64 ≤ _)⟩)
  dsimp only [Pt.U, Pt.locs, Pt.cells, Pt.slots] at X26 l26 y26 z26 st26 hQ26
  subst l26 y26 z26
  obtain ⟨b_26, k2_26, rfl, N26q, K26, B27, g28⟩ := hQ26
  have N29 := Fr.app N25 N26q
  have B30 := B15.keep K26 nin0
  have B31 := B16.keep K26
  have B32 := B17.keep K26 nin0
  have B33 := B18.keep K26 nin0
  have B34 := B19.keep K26 nin0
  have Z35 : n0 ≤ T26.heap.size := Nat.le_trans Z22 K26.1
  have K36 : Keep h0 T26.heap [a0] := K21.trans K26 all0
  have g37 : n0 ≤ b_26 := Nat.le_trans Z22 g28
  have sz38 : h0.size ≤ b_26 := Nat.le_trans K21.1 g28
  have ne39 : a0 ≠ b_26 := Nat.ne_of_lt (Nat.lt_of_lt_of_le B15.lt g28)
  have ne40 : a1 ≠ b_26 := Nat.ne_of_lt (Nat.lt_of_lt_of_le B17.lt g28)
  have ne41 : b2 ≠ b_26 := Nat.ne_of_lt (Nat.lt_of_lt_of_le B18.lt g28)
  refine own_via (fun k => st26 _ k) ?_
  show own_Go p e below s _ _ (T26.setTop (mkF m 26 #[rv a0, rv a1] [(.ref b_26), (.ref a0)]))
  obtain ⟨T42, h42, X42, e42, W42, st42⟩ := putF X26 hx hZ hown (host := "") (Or.inl (hw _ (List.mem_of_getElem? (i := 11) rfl))) Via.refl rfl B34 B31 (Or.inl (hw _ (List.mem_of_getElem? (i := 12) rfl))) (hw _ (List.mem_of_getElem? (i := 3) rfl)) (ty := (.array .byte)) (by decide) rfl rfl (g := (mkF m 26 #[rv a0, rv a1] [(.ref b_26), (.ref a0)])) rfl rfl (hb hby d1_26)
  refine own_via (fun k => st42 _ k) ?_
  show own_Go p e below s _ _ (T42.setTop (mkF m 29 #[rv a0, rv a1] []))
  have B43 := B30.other W42 (Or.inr (slot_ne (Or.inl (hw _ (List.mem_of_getElem? (i := 29) rfl))) (Or.inl (hw _ (List.mem_of_getElem? (i := 12) rfl))) (by decide) (t := .int) (t' := (.array .byte)) (by decide) (by decide)))
  have B44 := B31.wr W42
  have B45 := B32.other W42 nx0
  have B46 := B33.other W42 (Ne.symm ne5)
  have B47 := B27.other W42 (Ne.symm ne39)
  have B48 : Fld Z h42 a0 "com/example/dani/dani/core/Key" "bytes" "[B" (.ref b_26) := B34.same W42
  have N49 := Fr.snoc X42 N29 ge0
  have K50 : Keep h0 h42 [a0] := K36.wr W42 (Or.inl (List.mem_of_getElem? (i := 0) rfl))
  have Z51 : n0 ≤ h42.size := Nat.le_trans Z35 (Keep.of_wr W42).1
  refine own_via (fun k => XS.aloadN X42.here hx rfl (hb hby d1_29) rfl rfl  (XS.aloadN X42.here hx rfl (hb hby d1_30) rfl rfl  k)) ?_
  show own_Go p e below s _ _ (T42.setTop (mkF m 31 #[rv a0, rv a1] [(.ref a1), (.ref a0)]))
  obtain ⟨cl52, Ar52, -, S52, NN52, -, -⟩ := id B45
  refine own_via (fun k => X42.arraylength hx (by rw [e42]; exact Ar52.1) (State.isArrayOf_alike hZ.alike Ar52.2.1) (g := (mkF m 31 #[rv a0, rv a1] [(.ref a1), (.ref a0)])) rfl rfl (hb hby d1_31) _ k) ?_
  rw [len_of S52 NN52]
  show own_Go p e below s _ _ (T42.setTop (mkF m 32 #[rv a0, rv a1] [(.int 0), (.ref a0)]))
  obtain ⟨T53, h53, X53, e53, W53, st53⟩ := putF X42 hx hZ hown (host := "") (Or.inl (hw _ (List.mem_of_getElem? (i := 28) rfl))) Via.refl e42 B43 B44 (Or.inl (hw _ (List.mem_of_getElem? (i := 29) rfl))) (hw _ (List.mem_of_getElem? (i := 3) rfl)) (ty := .int) (by decide) rfl rfl (g := (mkF m 32 #[rv a0, rv a1] [(.int 0), (.ref a0)])) rfl rfl (hb hby d1_32)
  refine own_via (fun k => st53 _ k) ?_
  show own_Go p e below s _ _ (T53.setTop (mkF m 35 #[rv a0, rv a1] []))
  have B54 := B44.wr W53
  have B55 := B45.other W53 nx0
  have B56 := B46.other W53 (Ne.symm ne5)
  have B57 := B47.other W53 (Ne.symm ne39)
  have B58 := B48.other W53 (Or.inr (slot_ne (Or.inl (hw _ (List.mem_of_getElem? (i := 12) rfl))) (Or.inl (hw _ (List.mem_of_getElem? (i := 29) rfl))) (by decide) (t := (.array .byte)) (t' := .int) (by decide) (by decide)))
  have B59 : Fld Z h53 a0 "com/example/dani/dani/core/Key" "length" "I" (.int 0) := B43.same W53
  have N60 := Fr.snoc X53 N49 ge0
  have K61 : Keep h0 h53 [a0] := K50.wr W53 (Or.inl (List.mem_of_getElem? (i := 0) rfl))
  have Z62 : n0 ≤ h53.size := Nat.le_trans Z51 (Keep.of_wr W53).1
  exact own_ret0 X53 hx hlk Bd.returns (hb hby d1_35) (Q := (Q1_0 Z a0 a1 k h0 n0)) ⟨b_26, k2_26, rfl, N60, (by rw [e53]; exact K61), (by rw [e53]; exact B58), (by rw [e53]; exact B59), (by rw [e53]; exact B57), sz38⟩ (by decide) (by decide)
theorem ef_1_1 (m : MethodId) (x0 : Addr) (x1 : Addr) : entryFrame m #[(.ref x0), (.ref x1)] 2 = mkF m 0 #[rv x0, rv x1] [] := by first | (simp [entryFrame, mkF, argsToLocals, Value.category]; done) | rfl
def Q1_1 (Z : State) (a0 : Addr) (a1 : Addr) (k : ClassId) (w0 : Int32) (h0 : Heap) (n0 : Nat) (v : Option Value) (h : Heap) (L : List Loc) : Prop := ∃ (b : Addr), ∃ (k2 : ClassId), v = none ∧ Fr n0 L ∧ Keep h0 h [a0] ∧ Fld Z h a0 "com/example/dani/dani/core/Key" "bytes" "[B" (.ref b) ∧ Fld Z h a0 "com/example/dani/dani/core/Key" "length" "I" (.int 1) ∧ Arv Z h b k2 .byte (64 : Int32) [(.int w0)] (.int 0) ∧ h0.size ≤ b
set_option maxRecDepth 65536 in
set_option maxHeartbeats 40000000 in
theorem rm1_1 (l : Launch) (Z : State) (aw : Array Value) (hw : ∀ d ∈ tables_1, d.before aw Z = true) (ws : List Jvm.Cond) (a0 : Addr) (a1 : Addr) (k : ClassId) (w0 : Int32) (h0 : Heap) (n0 : Nat) (Z0 : n0 ≤ h0.size) (P0 : Fld Z h0 a0 "com/example/dani/dani/core/Key" "bytes" "[B" .null) (P1 : Fld Z h0 a0 "com/example/dani/dani/core/Key" "length" "I" (.int 0)) (P2 : Exa Z h0 a0 "com/example/dani/dani/core/Key") (P3 : Arv Z h0 a1 k .byte (1 : Int32) [(.int w0)] (.int 0)) (ge0 : n0 ≤ a0) (nx0 : a1 ≠ a0) :
    MetFree l (⟨"com/example/dani/dani/core/Key", "<init>", "([B)V"⟩ : MethodName) (head1 (Jvm.Cond.code (⟨"com/example/dani/dani/core/Key", "<init>", "([B)V"⟩ : MethodName) prog_5_method_2_code 2 none :: ws) ({ frames := 2, cells := 2, slots := 128, locals := 42 } : Room)) (fun a U => a = #[(.ref a0), (.ref a1)] ∧ Z.Warmed39 U.vm ∧ U.heap = h0) (fun _ _ _ _ _ => True) (fun _ U o U' => ∃ v L, o = .returned v ∧ Q1_1 Z a0 a1 k w0 h0 n0 v U'.heap L ∧ FrameEnd U o U' L ({ frames := 2, cells := 2, slots := 128, locals := 42 } : Room).cells ({ frames := 2, cells := 2, slots := 128, locals := 42 } : Room).slots) := by
  refine MetFree.of_bodySF (plainFor_of_name pn_1) hisR ?_
  intro p e s m args below meth c s₁ Bd hml0 hP hK
  obtain ⟨rfl, hZ, hh⟩ := hP
  have hx := Bd.exec
  have hby := Bd.bytes
  have hml : c.maxLocals = 2 := hml0
  have hown : s.vm.findClass "com/example/dani/dani/core/Key" = some m.cls := findClass_of_methodNamed Bd.named
  have hnm := (name_of_methodNamed Bd.named Bd.method).1
  have hlk : meth.locks = false := by first | exact BodyLoose.notSynchronized (by assumption) | exact Body.notSynchronized (by assumption)
  have X0 : Stand p l e ({ frames := 2, cells := 2, slots := 128, locals := 42 } : Room) s m #[(.ref a0), (.ref a1)] below meth c s₁ [] 0 0 := Stand.of_body Bd
  have e0 : s₁.heap = h0 := by rw [← hh, Bd.state]; rfl
  have N0 := Fr.nil n0
  have K0 : Keep h0 h0 [a0] := Keep.refl _ _
  refine own_start (CS := (2, 128)) (Q := (Q1_1 Z a0 a1 k w0 h0 n0)) (ef_1_1 m a0 a1) ?_
  show own_Go p e below s _ _ (s₁.setTop (mkF m 0 #[rv a0, rv a1] []))
  refine own_via (fun k => XS.aloadN X0.here hx rfl (hb hby d1_0) rfl rfl  k) ?_
  show own_Go p e below s _ _ (s₁.setTop (mkF m 1 #[rv a0, rv a1] [(.ref a0)]))
  obtain ⟨T1, X1, e1, st1⟩ := initO X0 hx hZ hown (hw _ (List.mem_of_getElem? (i := 8) rfl)) (hw _ (List.mem_of_getElem? (i := 9) rfl)) (hw _ (List.mem_of_getElem? (i := 10) rfl)) e0 (g := (mkF m 1 #[rv a0, rv a1] [(.ref a0)])) rfl (by rw [hml]; rfl) rfl (hb hby d1_1) (by decide) (W := 0) (by show 2 * 0 + _ ≤ _; exact Nat.le_of_eq rfl) (by decide)
  refine own_via (fun k => st1 _ k) ?_
  show own_Go p e below s _ _ (T1.setTop (mkF m 4 #[rv a0, rv a1] []))
  refine own_via (fun k => XS.aloadN X1.here hx rfl (hb hby d1_4) rfl rfl  (XS.bipush X1.here hx rfl (hb hby d1_5) k)) ?_
  show own_Go p e below s _ _ (T1.setTop (mkF m 7 #[rv a0, rv a1] [(.int 64), (.ref a0)]))
  obtain ⟨T2, h2, k2, X2, e2, E2, A2, st2⟩ := newP X1 hx hZ (hw _ (List.mem_of_getElem? (i := 0) rfl)) e1 (g := (mkF m 7 #[rv a0, rv a1] [(.int 64), (.ref a0)])) rfl (hb hby d1_7) rfl (by decide) (cap := 64) (by decide) (by decide) (by decide) (by decide)
  obtain ⟨b2, g2⟩ : ∃ z, z = h0.size := ⟨_, rfl⟩
  rw [← g2] at A2 st2
  refine own_via (fun k => st2 _ k) ?_
  show own_Go p e below s _ _ (T2.setTop (mkF m 9 #[rv a0, rv a1] [(.ref b2), (.ref a0)]))
  have g3 : n0 ≤ b2 := Nat.le_trans Z0 (Nat.le_of_eq g2.symm)
  have sz4 : h0.size ≤ b2 := Nat.le_trans K0.1 (Nat.le_of_eq g2.symm)
  have ne5 : a0 ≠ b2 := Nat.ne_of_lt (Nat.lt_of_lt_of_le P0.lt (Nat.le_of_eq g2.symm))
  have ne6 : a1 ≠ b2 := Nat.ne_of_lt (Nat.lt_of_lt_of_le P3.lt (Nat.le_of_eq g2.symm))
  have B7 := P0.ext E2
  have B8 := P1.ext E2
  have B9 := P2.ext E2
  have B10 := P3.ext E2
  have K11 : Keep h0 h2 [a0] := K0.ext E2
  have Z12 : n0 ≤ h2.size := Nat.le_trans Z0 E2.1
  have B13 : Arv Z h2 b2 k2 .byte (64 : Int32) [] (.int 0) := (Arv.new A2 (by decide)).pad (pad_rep [] (.int 0) 0)
  obtain ⟨T14, h14, X14, e14, W14, st14⟩ := putF X2 hx hZ hown (host := "") (Or.inl (hw _ (List.mem_of_getElem? (i := 11) rfl))) Via.refl e2 B7 B9 (Or.inl (hw _ (List.mem_of_getElem? (i := 12) rfl))) (hw _ (List.mem_of_getElem? (i := 3) rfl)) (ty := (.array .byte)) (by decide) rfl rfl (g := (mkF m 9 #[rv a0, rv a1] [(.ref b2), (.ref a0)])) rfl rfl (hb hby d1_9)
  refine own_via (fun k => st14 _ k) ?_
  show own_Go p e below s _ _ (T14.setTop (mkF m 12 #[rv a0, rv a1] []))
  have B15 := B8.other W14 (Or.inr (slot_ne (Or.inl (hw _ (List.mem_of_getElem? (i := 29) rfl))) (Or.inl (hw _ (List.mem_of_getElem? (i := 12) rfl))) (by decide) (t := .int) (t' := (.array .byte)) (by decide) (by decide)))
  have B16 := B9.wr W14
  have B17 := B10.other W14 nx0
  have B18 := B13.other W14 (Ne.symm ne5)
  have B19 : Fld Z h14 a0 "com/example/dani/dani/core/Key" "bytes" "[B" (.ref b2) := B7.same W14
  have N20 := Fr.snoc X14 N0 ge0
  have K21 : Keep h0 h14 [a0] := K11.wr W14 (Or.inl (List.mem_of_getElem? (i := 0) rfl))
  have Z22 : n0 ≤ h14.size := Nat.le_trans Z12 (Keep.of_wr W14).1
  refine own_via (fun k => XS.aloadN X14.here hx rfl (hb hby d1_12) rfl rfl  (XS.aloadN X14.here hx rfl (hb hby d1_13) rfl rfl  (XS.bipush X14.here hx rfl (hb hby d1_14) (XS.aloadN X14.here hx rfl (hb hby d1_16) rfl rfl  k)))) ?_
  show own_Go p e below s _ _ (T14.setTop (mkF m 17 #[rv a0, rv a1] [(.ref a1), (.int 64), (.ref a1), (.ref a0)]))
  obtain ⟨cl23, Ar23, -, S23, NN23, -, -⟩ := id B17
  refine own_via (fun k => X14.arraylength hx (by rw [e14]; exact Ar23.1) (State.isArrayOf_alike hZ.alike Ar23.2.1) (g := (mkF m 17 #[rv a0, rv a1] [(.ref a1), (.int 64), (.ref a1), (.ref a0)])) rfl rfl (hb hby d1_17) _ k) ?_
  rw [len_of S23 NN23]
  show own_Go p e below s _ _ (T14.setTop (mkF m 18 #[rv a0, rv a1] [(.int 1), (.int 64), (.ref a1), (.ref a0)]))
  refine own_via (fun k => XS.iconst X14.here hx rfl (hb hby d1_18) (XS.imul X14.here hx rfl (hb hby d1_19) rfl k)) ?_
  show own_Go p e below s _ _ (T14.setTop (mkF m 20 #[rv a0, rv a1] [(.int 2), (.int 64), (.ref a1), (.ref a0)]))
  obtain ⟨_, _, ⟨T24, L24, k24, n24⟩, -, X24, ⟨Lc24, hQ24, l24, y24, z24⟩, st24⟩ := Jvm.LawKit.callS X14 hx (y := (⟨"java/lang/Math", "max", "(II)I"⟩ : MethodName)) hown (mvT hZ (hw _ (List.mem_of_getElem? (i := 13) rfl))) (mvT hZ (hw _ (List.mem_of_getElem? (i := 14) rfl))) (mvT hZ (hw _ (List.mem_of_getElem? (i := 15) rfl))) (mvT hZ (hw _ (List.mem_of_getElem? (i := 16) rfl))) (by decide) (backOf (W := 2) (rm3 l Z aw hw [] (64 : Int32) (2 : Int32) h14 n0 Z22) hZ (hw _ (List.mem_of_getElem? (i := 16) rfl)) (hw _ (List.mem_of_getElem? (i := 15) rfl)) (by decide) (by decide)) (g := (mkF m 20 #[rv a0, rv a1] [(.int 2), (.int 64), (.ref a1), (.ref a0)])) rfl (by rw [hml]; rfl) (argsL := [(.int 64), (.int 2)]) (rest := [(.ref a1), (.ref a0)]) (lenOf pd_2 rfl) rfl (by show 2 * 0 + _ ≤ _; exact Nat.le_of_eq rfl) (hb hby d1_20) (fun _ _ => ⟨rfl, e14, (by decide : 1 + 0 ≤ _), (by decide : 64 + 0 ≤ _)⟩)
  dsimp only [Pt.U, Pt.locs, Pt.cells, Pt.slots] at X24 l24 y24 z24 st24 hQ24
  subst l24 y24 z24
  obtain ⟨rfl, N24q, eh24⟩ := hQ24
  have N25 := Fr.app N20 N24q
  refine own_via (fun k => st24 _ k) ?_
  show own_Go p e below s _ _ (T24.setTop (mkF m 23 #[rv a0, rv a1] [(.int (own_f3 (64 : Int32) (2 : Int32))), (.ref a1), (.ref a0)]))
  rw [show (own_f3 (64 : Int32) (2 : Int32)) = (64 : Int32) from by decide]
  show own_Go p e below s _ _ (T24.setTop (mkF m 23 #[rv a0, rv a1] [(.int 64), (.ref a1), (.ref a0)]))
  obtain ⟨_, _, ⟨T26, L26, k26, n26⟩, -, X26, ⟨Lc26, hQ26, l26, y26, z26⟩, st26⟩ := Jvm.LawKit.callS X24 hx (y := (⟨"java/util/Arrays", "copyOf", "([BI)[B"⟩ : MethodName)) hown (mvT hZ (hw _ (List.mem_of_getElem? (i := 17) rfl))) (mvT hZ (hw _ (List.mem_of_getElem? (i := 18) rfl))) (mvT hZ (hw _ (List.mem_of_getElem? (i := 19) rfl))) (mvT hZ (hw _ (List.mem_of_getElem? (i := 20) rfl))) (by decide) (backOf (W := 1) (rm4_1_64 l Z aw hw [] a1 k w0 h14 n0 Z22 B17) hZ (hw _ (List.mem_of_getElem? (i := 20) rfl)) (hw _ (List.mem_of_getElem? (i := 19) rfl)) (by decide) (by decide)) (g := (mkF m 23 #[rv a0, rv a1] [(.int 64), (.ref a1), (.ref a0)])) rfl (by rw [hml]; rfl) (argsL := [(.ref a1), (.int 64)]) (rest := [(.ref a0)]) (lenOf pd_3 rfl) rfl (by show 2 * 0 + _ ≤ _; exact Nat.le_of_eq rfl) (hb hby d1_23) (fun _ _ => ⟨rfl, eh24, (by decide : 1 + 1 ≤ _), (by decide : 64 + 64 ≤ _)⟩)
  dsimp only [Pt.U, Pt.locs, Pt.cells, Pt.slots] at X26 l26 y26 z26 st26 hQ26
  subst l26 y26 z26
  obtain ⟨b_26, k2_26, rfl, N26q, K26, B27, g28⟩ := hQ26
  have N29 := Fr.app N25 N26q
  have B30 := B15.keep K26 nin0
  have B31 := B16.keep K26
  have B32 := B17.keep K26 nin0
  have B33 := B18.keep K26 nin0
  have B34 := B19.keep K26 nin0
  have Z35 : n0 ≤ T26.heap.size := Nat.le_trans Z22 K26.1
  have K36 : Keep h0 T26.heap [a0] := K21.trans K26 all0
  have g37 : n0 ≤ b_26 := Nat.le_trans Z22 g28
  have sz38 : h0.size ≤ b_26 := Nat.le_trans K21.1 g28
  have ne39 : a0 ≠ b_26 := Nat.ne_of_lt (Nat.lt_of_lt_of_le B15.lt g28)
  have ne40 : a1 ≠ b_26 := Nat.ne_of_lt (Nat.lt_of_lt_of_le B17.lt g28)
  have ne41 : b2 ≠ b_26 := Nat.ne_of_lt (Nat.lt_of_lt_of_le B18.lt g28)
  refine own_via (fun k => st26 _ k) ?_
  show own_Go p e below s _ _ (T26.setTop (mkF m 26 #[rv a0, rv a1] [(.ref b_26), (.ref a0)]))
  obtain ⟨T42, h42, X42, e42, W42, st42⟩ := putF X26 hx hZ hown (host := "") (Or.inl (hw _ (List.mem_of_getElem? (i := 11) rfl))) Via.refl rfl B34 B31 (Or.inl (hw _ (List.mem_of_getElem? (i := 12) rfl))) (hw _ (List.mem_of_getElem? (i := 3) rfl)) (ty := (.array .byte)) (by decide) rfl rfl (g := (mkF m 26 #[rv a0, rv a1] [(.ref b_26), (.ref a0)])) rfl rfl (hb hby d1_26)
  refine own_via (fun k => st42 _ k) ?_
  show own_Go p e below s _ _ (T42.setTop (mkF m 29 #[rv a0, rv a1] []))
  have B43 := B30.other W42 (Or.inr (slot_ne (Or.inl (hw _ (List.mem_of_getElem? (i := 29) rfl))) (Or.inl (hw _ (List.mem_of_getElem? (i := 12) rfl))) (by decide) (t := .int) (t' := (.array .byte)) (by decide) (by decide)))
  have B44 := B31.wr W42
  have B45 := B32.other W42 nx0
  have B46 := B33.other W42 (Ne.symm ne5)
  have B47 := B27.other W42 (Ne.symm ne39)
  have B48 : Fld Z h42 a0 "com/example/dani/dani/core/Key" "bytes" "[B" (.ref b_26) := B34.same W42
  have N49 := Fr.snoc X42 N29 ge0
  have K50 : Keep h0 h42 [a0] := K36.wr W42 (Or.inl (List.mem_of_getElem? (i := 0) rfl))
  have Z51 : n0 ≤ h42.size := Nat.le_trans Z35 (Keep.of_wr W42).1
  refine own_via (fun k => XS.aloadN X42.here hx rfl (hb hby d1_29) rfl rfl  (XS.aloadN X42.here hx rfl (hb hby d1_30) rfl rfl  k)) ?_
  show own_Go p e below s _ _ (T42.setTop (mkF m 31 #[rv a0, rv a1] [(.ref a1), (.ref a0)]))
  obtain ⟨cl52, Ar52, -, S52, NN52, -, -⟩ := id B45
  refine own_via (fun k => X42.arraylength hx (by rw [e42]; exact Ar52.1) (State.isArrayOf_alike hZ.alike Ar52.2.1) (g := (mkF m 31 #[rv a0, rv a1] [(.ref a1), (.ref a0)])) rfl rfl (hb hby d1_31) _ k) ?_
  rw [len_of S52 NN52]
  show own_Go p e below s _ _ (T42.setTop (mkF m 32 #[rv a0, rv a1] [(.int 1), (.ref a0)]))
  obtain ⟨T53, h53, X53, e53, W53, st53⟩ := putF X42 hx hZ hown (host := "") (Or.inl (hw _ (List.mem_of_getElem? (i := 28) rfl))) Via.refl e42 B43 B44 (Or.inl (hw _ (List.mem_of_getElem? (i := 29) rfl))) (hw _ (List.mem_of_getElem? (i := 3) rfl)) (ty := .int) (by decide) rfl rfl (g := (mkF m 32 #[rv a0, rv a1] [(.int 1), (.ref a0)])) rfl rfl (hb hby d1_32)
  refine own_via (fun k => st53 _ k) ?_
  show own_Go p e below s _ _ (T53.setTop (mkF m 35 #[rv a0, rv a1] []))
  have B54 := B44.wr W53
  have B55 := B45.other W53 nx0
  have B56 := B46.other W53 (Ne.symm ne5)
  have B57 := B47.other W53 (Ne.symm ne39)
  have B58 := B48.other W53 (Or.inr (slot_ne (Or.inl (hw _ (List.mem_of_getElem? (i := 12) rfl))) (Or.inl (hw _ (List.mem_of_getElem? (i := 29) rfl))) (by decide) (t := (.array .byte)) (t' := .int) (by decide) (by decide)))
  have B59 : Fld Z h53 a0 "com/example/dani/dani/core/Key" "length" "I" (.int 1) := B43.same W53
  have N60 := Fr.snoc X53 N49 ge0
  have K61 : Keep h0 h53 [a0] := K50.wr W53 (Or.inl (List.mem_of_getElem? (i := 0) rfl))
  have Z62 : n0 ≤ h53.size := Nat.le_trans Z51 (Keep.of_wr W53).1
  exact own_ret0 X53 hx hlk Bd.returns (hb hby d1_35) (Q := (Q1_1 Z a0 a1 k w0 h0 n0)) ⟨b_26, k2_26, rfl, N60, (by rw [e53]; exact K61), (by rw [e53]; exact B58), (by rw [e53]; exact B59), (by rw [e53]; exact B57), sz38⟩ (by decide) (by decide)
theorem ef_1_2 (m : MethodId) (x0 : Addr) (x1 : Addr) : entryFrame m #[(.ref x0), (.ref x1)] 2 = mkF m 0 #[rv x0, rv x1] [] := by first | (simp [entryFrame, mkF, argsToLocals, Value.category]; done) | rfl
def Q1_2 (Z : State) (a0 : Addr) (a1 : Addr) (k : ClassId) (w0 : Int32) (w1 : Int32) (h0 : Heap) (n0 : Nat) (v : Option Value) (h : Heap) (L : List Loc) : Prop := ∃ (b : Addr), ∃ (k2 : ClassId), v = none ∧ Fr n0 L ∧ Keep h0 h [a0] ∧ Fld Z h a0 "com/example/dani/dani/core/Key" "bytes" "[B" (.ref b) ∧ Fld Z h a0 "com/example/dani/dani/core/Key" "length" "I" (.int 2) ∧ Arv Z h b k2 .byte (64 : Int32) [(.int w0), (.int w1)] (.int 0) ∧ h0.size ≤ b
set_option maxRecDepth 65536 in
set_option maxHeartbeats 40000000 in
theorem rm1_2 (l : Launch) (Z : State) (aw : Array Value) (hw : ∀ d ∈ tables_1, d.before aw Z = true) (ws : List Jvm.Cond) (a0 : Addr) (a1 : Addr) (k : ClassId) (w0 : Int32) (w1 : Int32) (h0 : Heap) (n0 : Nat) (Z0 : n0 ≤ h0.size) (P0 : Fld Z h0 a0 "com/example/dani/dani/core/Key" "bytes" "[B" .null) (P1 : Fld Z h0 a0 "com/example/dani/dani/core/Key" "length" "I" (.int 0)) (P2 : Exa Z h0 a0 "com/example/dani/dani/core/Key") (P3 : Arv Z h0 a1 k .byte (2 : Int32) [(.int w0), (.int w1)] (.int 0)) (ge0 : n0 ≤ a0) (nx0 : a1 ≠ a0) :
    MetFree l (⟨"com/example/dani/dani/core/Key", "<init>", "([B)V"⟩ : MethodName) (head1 (Jvm.Cond.code (⟨"com/example/dani/dani/core/Key", "<init>", "([B)V"⟩ : MethodName) prog_5_method_2_code 2 none :: ws) ({ frames := 2, cells := 2, slots := 128, locals := 42 } : Room)) (fun a U => a = #[(.ref a0), (.ref a1)] ∧ Z.Warmed39 U.vm ∧ U.heap = h0) (fun _ _ _ _ _ => True) (fun _ U o U' => ∃ v L, o = .returned v ∧ Q1_2 Z a0 a1 k w0 w1 h0 n0 v U'.heap L ∧ FrameEnd U o U' L ({ frames := 2, cells := 2, slots := 128, locals := 42 } : Room).cells ({ frames := 2, cells := 2, slots := 128, locals := 42 } : Room).slots) := by
  refine MetFree.of_bodySF (plainFor_of_name pn_1) hisR ?_
  intro p e s m args below meth c s₁ Bd hml0 hP hK
  obtain ⟨rfl, hZ, hh⟩ := hP
  have hx := Bd.exec
  have hby := Bd.bytes
  have hml : c.maxLocals = 2 := hml0
  have hown : s.vm.findClass "com/example/dani/dani/core/Key" = some m.cls := findClass_of_methodNamed Bd.named
  have hnm := (name_of_methodNamed Bd.named Bd.method).1
  have hlk : meth.locks = false := by first | exact BodyLoose.notSynchronized (by assumption) | exact Body.notSynchronized (by assumption)
  have X0 : Stand p l e ({ frames := 2, cells := 2, slots := 128, locals := 42 } : Room) s m #[(.ref a0), (.ref a1)] below meth c s₁ [] 0 0 := Stand.of_body Bd
  have e0 : s₁.heap = h0 := by rw [← hh, Bd.state]; rfl
  have N0 := Fr.nil n0
  have K0 : Keep h0 h0 [a0] := Keep.refl _ _
  refine own_start (CS := (2, 128)) (Q := (Q1_2 Z a0 a1 k w0 w1 h0 n0)) (ef_1_2 m a0 a1) ?_
  show own_Go p e below s _ _ (s₁.setTop (mkF m 0 #[rv a0, rv a1] []))
  refine own_via (fun k => XS.aloadN X0.here hx rfl (hb hby d1_0) rfl rfl  k) ?_
  show own_Go p e below s _ _ (s₁.setTop (mkF m 1 #[rv a0, rv a1] [(.ref a0)]))
  obtain ⟨T1, X1, e1, st1⟩ := initO X0 hx hZ hown (hw _ (List.mem_of_getElem? (i := 8) rfl)) (hw _ (List.mem_of_getElem? (i := 9) rfl)) (hw _ (List.mem_of_getElem? (i := 10) rfl)) e0 (g := (mkF m 1 #[rv a0, rv a1] [(.ref a0)])) rfl (by rw [hml]; rfl) rfl (hb hby d1_1) (by decide) (W := 0) (by show 2 * 0 + _ ≤ _; exact Nat.le_of_eq rfl) (by decide)
  refine own_via (fun k => st1 _ k) ?_
  show own_Go p e below s _ _ (T1.setTop (mkF m 4 #[rv a0, rv a1] []))
  refine own_via (fun k => XS.aloadN X1.here hx rfl (hb hby d1_4) rfl rfl  (XS.bipush X1.here hx rfl (hb hby d1_5) k)) ?_
  show own_Go p e below s _ _ (T1.setTop (mkF m 7 #[rv a0, rv a1] [(.int 64), (.ref a0)]))
  obtain ⟨T2, h2, k2, X2, e2, E2, A2, st2⟩ := newP X1 hx hZ (hw _ (List.mem_of_getElem? (i := 0) rfl)) e1 (g := (mkF m 7 #[rv a0, rv a1] [(.int 64), (.ref a0)])) rfl (hb hby d1_7) rfl (by decide) (cap := 64) (by decide) (by decide) (by decide) (by decide)
  obtain ⟨b2, g2⟩ : ∃ z, z = h0.size := ⟨_, rfl⟩
  rw [← g2] at A2 st2
  refine own_via (fun k => st2 _ k) ?_
  show own_Go p e below s _ _ (T2.setTop (mkF m 9 #[rv a0, rv a1] [(.ref b2), (.ref a0)]))
  have g3 : n0 ≤ b2 := Nat.le_trans Z0 (Nat.le_of_eq g2.symm)
  have sz4 : h0.size ≤ b2 := Nat.le_trans K0.1 (Nat.le_of_eq g2.symm)
  have ne5 : a0 ≠ b2 := Nat.ne_of_lt (Nat.lt_of_lt_of_le P0.lt (Nat.le_of_eq g2.symm))
  have ne6 : a1 ≠ b2 := Nat.ne_of_lt (Nat.lt_of_lt_of_le P3.lt (Nat.le_of_eq g2.symm))
  have B7 := P0.ext E2
  have B8 := P1.ext E2
  have B9 := P2.ext E2
  have B10 := P3.ext E2
  have K11 : Keep h0 h2 [a0] := K0.ext E2
  have Z12 : n0 ≤ h2.size := Nat.le_trans Z0 E2.1
  have B13 : Arv Z h2 b2 k2 .byte (64 : Int32) [] (.int 0) := (Arv.new A2 (by decide)).pad (pad_rep [] (.int 0) 0)
  obtain ⟨T14, h14, X14, e14, W14, st14⟩ := putF X2 hx hZ hown (host := "") (Or.inl (hw _ (List.mem_of_getElem? (i := 11) rfl))) Via.refl e2 B7 B9 (Or.inl (hw _ (List.mem_of_getElem? (i := 12) rfl))) (hw _ (List.mem_of_getElem? (i := 3) rfl)) (ty := (.array .byte)) (by decide) rfl rfl (g := (mkF m 9 #[rv a0, rv a1] [(.ref b2), (.ref a0)])) rfl rfl (hb hby d1_9)
  refine own_via (fun k => st14 _ k) ?_
  show own_Go p e below s _ _ (T14.setTop (mkF m 12 #[rv a0, rv a1] []))
  have B15 := B8.other W14 (Or.inr (slot_ne (Or.inl (hw _ (List.mem_of_getElem? (i := 29) rfl))) (Or.inl (hw _ (List.mem_of_getElem? (i := 12) rfl))) (by decide) (t := .int) (t' := (.array .byte)) (by decide) (by decide)))
  have B16 := B9.wr W14
  have B17 := B10.other W14 nx0
  have B18 := B13.other W14 (Ne.symm ne5)
  have B19 : Fld Z h14 a0 "com/example/dani/dani/core/Key" "bytes" "[B" (.ref b2) := B7.same W14
  have N20 := Fr.snoc X14 N0 ge0
  have K21 : Keep h0 h14 [a0] := K11.wr W14 (Or.inl (List.mem_of_getElem? (i := 0) rfl))
  have Z22 : n0 ≤ h14.size := Nat.le_trans Z12 (Keep.of_wr W14).1
  refine own_via (fun k => XS.aloadN X14.here hx rfl (hb hby d1_12) rfl rfl  (XS.aloadN X14.here hx rfl (hb hby d1_13) rfl rfl  (XS.bipush X14.here hx rfl (hb hby d1_14) (XS.aloadN X14.here hx rfl (hb hby d1_16) rfl rfl  k)))) ?_
  show own_Go p e below s _ _ (T14.setTop (mkF m 17 #[rv a0, rv a1] [(.ref a1), (.int 64), (.ref a1), (.ref a0)]))
  obtain ⟨cl23, Ar23, -, S23, NN23, -, -⟩ := id B17
  refine own_via (fun k => X14.arraylength hx (by rw [e14]; exact Ar23.1) (State.isArrayOf_alike hZ.alike Ar23.2.1) (g := (mkF m 17 #[rv a0, rv a1] [(.ref a1), (.int 64), (.ref a1), (.ref a0)])) rfl rfl (hb hby d1_17) _ k) ?_
  rw [len_of S23 NN23]
  show own_Go p e below s _ _ (T14.setTop (mkF m 18 #[rv a0, rv a1] [(.int 2), (.int 64), (.ref a1), (.ref a0)]))
  refine own_via (fun k => XS.iconst X14.here hx rfl (hb hby d1_18) (XS.imul X14.here hx rfl (hb hby d1_19) rfl k)) ?_
  show own_Go p e below s _ _ (T14.setTop (mkF m 20 #[rv a0, rv a1] [(.int 4), (.int 64), (.ref a1), (.ref a0)]))
  obtain ⟨_, _, ⟨T24, L24, k24, n24⟩, -, X24, ⟨Lc24, hQ24, l24, y24, z24⟩, st24⟩ := Jvm.LawKit.callS X14 hx (y := (⟨"java/lang/Math", "max", "(II)I"⟩ : MethodName)) hown (mvT hZ (hw _ (List.mem_of_getElem? (i := 13) rfl))) (mvT hZ (hw _ (List.mem_of_getElem? (i := 14) rfl))) (mvT hZ (hw _ (List.mem_of_getElem? (i := 15) rfl))) (mvT hZ (hw _ (List.mem_of_getElem? (i := 16) rfl))) (by decide) (backOf (W := 2) (rm3 l Z aw hw [] (64 : Int32) (4 : Int32) h14 n0 Z22) hZ (hw _ (List.mem_of_getElem? (i := 16) rfl)) (hw _ (List.mem_of_getElem? (i := 15) rfl)) (by decide) (by decide)) (g := (mkF m 20 #[rv a0, rv a1] [(.int 4), (.int 64), (.ref a1), (.ref a0)])) rfl (by rw [hml]; rfl) (argsL := [(.int 64), (.int 4)]) (rest := [(.ref a1), (.ref a0)]) (lenOf pd_2 rfl) rfl (by show 2 * 0 + _ ≤ _; exact Nat.le_of_eq rfl) (hb hby d1_20) (fun _ _ => ⟨rfl, e14, (by decide : 1 + 0 ≤ _), (by decide : 64 + 0 ≤ _)⟩)
  dsimp only [Pt.U, Pt.locs, Pt.cells, Pt.slots] at X24 l24 y24 z24 st24 hQ24
  subst l24 y24 z24
  obtain ⟨rfl, N24q, eh24⟩ := hQ24
  have N25 := Fr.app N20 N24q
  refine own_via (fun k => st24 _ k) ?_
  show own_Go p e below s _ _ (T24.setTop (mkF m 23 #[rv a0, rv a1] [(.int (own_f3 (64 : Int32) (4 : Int32))), (.ref a1), (.ref a0)]))
  rw [show (own_f3 (64 : Int32) (4 : Int32)) = (64 : Int32) from by decide]
  show own_Go p e below s _ _ (T24.setTop (mkF m 23 #[rv a0, rv a1] [(.int 64), (.ref a1), (.ref a0)]))
  obtain ⟨_, _, ⟨T26, L26, k26, n26⟩, -, X26, ⟨Lc26, hQ26, l26, y26, z26⟩, st26⟩ := Jvm.LawKit.callS X24 hx (y := (⟨"java/util/Arrays", "copyOf", "([BI)[B"⟩ : MethodName)) hown (mvT hZ (hw _ (List.mem_of_getElem? (i := 17) rfl))) (mvT hZ (hw _ (List.mem_of_getElem? (i := 18) rfl))) (mvT hZ (hw _ (List.mem_of_getElem? (i := 19) rfl))) (mvT hZ (hw _ (List.mem_of_getElem? (i := 20) rfl))) (by decide) (backOf (W := 1) (rm4_2_64 l Z aw hw [] a1 k w0 w1 h14 n0 Z22 B17) hZ (hw _ (List.mem_of_getElem? (i := 20) rfl)) (hw _ (List.mem_of_getElem? (i := 19) rfl)) (by decide) (by decide)) (g := (mkF m 23 #[rv a0, rv a1] [(.int 64), (.ref a1), (.ref a0)])) rfl (by rw [hml]; rfl) (argsL := [(.ref a1), (.int 64)]) (rest := [(.ref a0)]) (lenOf pd_3 rfl) rfl (by show 2 * 0 + _ ≤ _; exact Nat.le_of_eq rfl) (hb hby d1_23) (fun _ _ => ⟨rfl, eh24, (by decide : 1 + 1 ≤ _), (by decide : 64 + 64 ≤ _)⟩)
  dsimp only [Pt.U, Pt.locs, Pt.cells, Pt.slots] at X26 l26 y26 z26 st26 hQ26
  subst l26 y26 z26
  obtain ⟨b_26, k2_26, rfl, N26q, K26, B27, g28⟩ := hQ26
  have N29 := Fr.app N25 N26q
  have B30 := B15.keep K26 nin0
  have B31 := B16.keep K26
  have B32 := B17.keep K26 nin0
  have B33 := B18.keep K26 nin0
  have B34 := B19.keep K26 nin0
  have Z35 : n0 ≤ T26.heap.size := Nat.le_trans Z22 K26.1
  have K36 : Keep h0 T26.heap [a0] := K21.trans K26 all0
  have g37 : n0 ≤ b_26 := Nat.le_trans Z22 g28
  have sz38 : h0.size ≤ b_26 := Nat.le_trans K21.1 g28
  have ne39 : a0 ≠ b_26 := Nat.ne_of_lt (Nat.lt_of_lt_of_le B15.lt g28)
  have ne40 : a1 ≠ b_26 := Nat.ne_of_lt (Nat.lt_of_lt_of_le B17.lt g28)
  have ne41 : b2 ≠ b_26 := Nat.ne_of_lt (Nat.lt_of_lt_of_le B18.lt g28)
  refine own_via (fun k => st26 _ k) ?_
  show own_Go p e below s _ _ (T26.setTop (mkF m 26 #[rv a0, rv a1] [(.ref b_26), (.ref a0)]))
  obtain ⟨T42, h42, X42, e42, W42, st42⟩ := putF X26 hx hZ hown (host := "") (Or.inl (hw _ (List.mem_of_getElem? (i := 11) rfl))) Via.refl rfl B34 B31 (Or.inl (hw _ (List.mem_of_getElem? (i := 12) rfl))) (hw _ (List.mem_of_getElem? (i := 3) rfl)) (ty := (.array .byte)) (by decide) rfl rfl (g := (mkF m 26 #[rv a0, rv a1] [(.ref b_26), (.ref a0)])) rfl rfl (hb hby d1_26)
  refine own_via (fun k => st42 _ k) ?_
  show own_Go p e below s _ _ (T42.setTop (mkF m 29 #[rv a0, rv a1] []))
  have B43 := B30.other W42 (Or.inr (slot_ne (Or.inl (hw _ (List.mem_of_getElem? (i := 29) rfl))) (Or.inl (hw _ (List.mem_of_getElem? (i := 12) rfl))) (by decide) (t := .int) (t' := (.array .byte)) (by decide) (by decide)))
  have B44 := B31.wr W42
  have B45 := B32.other W42 nx0
  have B46 := B33.other W42 (Ne.symm ne5)
  have B47 := B27.other W42 (Ne.symm ne39)
  have B48 : Fld Z h42 a0 "com/example/dani/dani/core/Key" "bytes" "[B" (.ref b_26) := B34.same W42
  have N49 := Fr.snoc X42 N29 ge0
  have K50 : Keep h0 h42 [a0] := K36.wr W42 (Or.inl (List.mem_of_getElem? (i := 0) rfl))
  have Z51 : n0 ≤ h42.size := Nat.le_trans Z35 (Keep.of_wr W42).1
  refine own_via (fun k => XS.aloadN X42.here hx rfl (hb hby d1_29) rfl rfl  (XS.aloadN X42.here hx rfl (hb hby d1_30) rfl rfl  k)) ?_
  show own_Go p e below s _ _ (T42.setTop (mkF m 31 #[rv a0, rv a1] [(.ref a1), (.ref a0)]))
  obtain ⟨cl52, Ar52, -, S52, NN52, -, -⟩ := id B45
  refine own_via (fun k => X42.arraylength hx (by rw [e42]; exact Ar52.1) (State.isArrayOf_alike hZ.alike Ar52.2.1) (g := (mkF m 31 #[rv a0, rv a1] [(.ref a1), (.ref a0)])) rfl rfl (hb hby d1_31) _ k) ?_
  rw [len_of S52 NN52]
  show own_Go p e below s _ _ (T42.setTop (mkF m 32 #[rv a0, rv a1] [(.int 2), (.ref a0)]))
  obtain ⟨T53, h53, X53, e53, W53, st53⟩ := putF X42 hx hZ hown (host := "") (Or.inl (hw _ (List.mem_of_getElem? (i := 28) rfl))) Via.refl e42 B43 B44 (Or.inl (hw _ (List.mem_of_getElem? (i := 29) rfl))) (hw _ (List.mem_of_getElem? (i := 3) rfl)) (ty := .int) (by decide) rfl rfl (g := (mkF m 32 #[rv a0, rv a1] [(.int 2), (.ref a0)])) rfl rfl (hb hby d1_32)
  refine own_via (fun k => st53 _ k) ?_
  show own_Go p e below s _ _ (T53.setTop (mkF m 35 #[rv a0, rv a1] []))
  have B54 := B44.wr W53
  have B55 := B45.other W53 nx0
  have B56 := B46.other W53 (Ne.symm ne5)
  have B57 := B47.other W53 (Ne.symm ne39)
  have B58 := B48.other W53 (Or.inr (slot_ne (Or.inl (hw _ (List.mem_of_getElem? (i := 12) rfl))) (Or.inl (hw _ (List.mem_of_getElem? (i := 29) rfl))) (by decide) (t := (.array .byte)) (t' := .int) (by decide) (by decide)))
  have B59 : Fld Z h53 a0 "com/example/dani/dani/core/Key" "length" "I" (.int 2) := B43.same W53
  have N60 := Fr.snoc X53 N49 ge0
  have K61 : Keep h0 h53 [a0] := K50.wr W53 (Or.inl (List.mem_of_getElem? (i := 0) rfl))
  have Z62 : n0 ≤ h53.size := Nat.le_trans Z51 (Keep.of_wr W53).1
  exact own_ret0 X53 hx hlk Bd.returns (hb hby d1_35) (Q := (Q1_2 Z a0 a1 k w0 w1 h0 n0)) ⟨b_26, k2_26, rfl, N60, (by rw [e53]; exact K61), (by rw [e53]; exact B58), (by rw [e53]; exact B59), (by rw [e53]; exact B57), sz38⟩ (by decide) (by decide)
theorem ef_1_3 (m : MethodId) (x0 : Addr) (x1 : Addr) : entryFrame m #[(.ref x0), (.ref x1)] 2 = mkF m 0 #[rv x0, rv x1] [] := by first | (simp [entryFrame, mkF, argsToLocals, Value.category]; done) | rfl
def Q1_3 (Z : State) (a0 : Addr) (a1 : Addr) (k : ClassId) (w0 : Int32) (w1 : Int32) (w2 : Int32) (h0 : Heap) (n0 : Nat) (v : Option Value) (h : Heap) (L : List Loc) : Prop := ∃ (b : Addr), ∃ (k2 : ClassId), v = none ∧ Fr n0 L ∧ Keep h0 h [a0] ∧ Fld Z h a0 "com/example/dani/dani/core/Key" "bytes" "[B" (.ref b) ∧ Fld Z h a0 "com/example/dani/dani/core/Key" "length" "I" (.int 3) ∧ Arv Z h b k2 .byte (64 : Int32) [(.int w0), (.int w1), (.int w2)] (.int 0) ∧ h0.size ≤ b
set_option maxRecDepth 65536 in
set_option maxHeartbeats 40000000 in
theorem rm1_3 (l : Launch) (Z : State) (aw : Array Value) (hw : ∀ d ∈ tables_1, d.before aw Z = true) (ws : List Jvm.Cond) (a0 : Addr) (a1 : Addr) (k : ClassId) (w0 : Int32) (w1 : Int32) (w2 : Int32) (h0 : Heap) (n0 : Nat) (Z0 : n0 ≤ h0.size) (P0 : Fld Z h0 a0 "com/example/dani/dani/core/Key" "bytes" "[B" .null) (P1 : Fld Z h0 a0 "com/example/dani/dani/core/Key" "length" "I" (.int 0)) (P2 : Exa Z h0 a0 "com/example/dani/dani/core/Key") (P3 : Arv Z h0 a1 k .byte (3 : Int32) [(.int w0), (.int w1), (.int w2)] (.int 0)) (ge0 : n0 ≤ a0) (nx0 : a1 ≠ a0) :
    MetFree l (⟨"com/example/dani/dani/core/Key", "<init>", "([B)V"⟩ : MethodName) (head1 (Jvm.Cond.code (⟨"com/example/dani/dani/core/Key", "<init>", "([B)V"⟩ : MethodName) prog_5_method_2_code 2 none :: ws) ({ frames := 2, cells := 2, slots := 128, locals := 42 } : Room)) (fun a U => a = #[(.ref a0), (.ref a1)] ∧ Z.Warmed39 U.vm ∧ U.heap = h0) (fun _ _ _ _ _ => True) (fun _ U o U' => ∃ v L, o = .returned v ∧ Q1_3 Z a0 a1 k w0 w1 w2 h0 n0 v U'.heap L ∧ FrameEnd U o U' L ({ frames := 2, cells := 2, slots := 128, locals := 42 } : Room).cells ({ frames := 2, cells := 2, slots := 128, locals := 42 } : Room).slots) := by
  refine MetFree.of_bodySF (plainFor_of_name pn_1) hisR ?_
  intro p e s m args below meth c s₁ Bd hml0 hP hK
  obtain ⟨rfl, hZ, hh⟩ := hP
  have hx := Bd.exec
  have hby := Bd.bytes
  have hml : c.maxLocals = 2 := hml0
  have hown : s.vm.findClass "com/example/dani/dani/core/Key" = some m.cls := findClass_of_methodNamed Bd.named
  have hnm := (name_of_methodNamed Bd.named Bd.method).1
  have hlk : meth.locks = false := by first | exact BodyLoose.notSynchronized (by assumption) | exact Body.notSynchronized (by assumption)
  have X0 : Stand p l e ({ frames := 2, cells := 2, slots := 128, locals := 42 } : Room) s m #[(.ref a0), (.ref a1)] below meth c s₁ [] 0 0 := Stand.of_body Bd
  have e0 : s₁.heap = h0 := by rw [← hh, Bd.state]; rfl
  have N0 := Fr.nil n0
  have K0 : Keep h0 h0 [a0] := Keep.refl _ _
  refine own_start (CS := (2, 128)) (Q := (Q1_3 Z a0 a1 k w0 w1 w2 h0 n0)) (ef_1_3 m a0 a1) ?_
  show own_Go p e below s _ _ (s₁.setTop (mkF m 0 #[rv a0, rv a1] []))
  refine own_via (fun k => XS.aloadN X0.here hx rfl (hb hby d1_0) rfl rfl  k) ?_
  show own_Go p e below s _ _ (s₁.setTop (mkF m 1 #[rv a0, rv a1] [(.ref a0)]))
  obtain ⟨T1, X1, e1, st1⟩ := initO X0 hx hZ hown (hw _ (List.mem_of_getElem? (i := 8) rfl)) (hw _ (List.mem_of_getElem? (i := 9) rfl)) (hw _ (List.mem_of_getElem? (i := 10) rfl)) e0 (g := (mkF m 1 #[rv a0, rv a1] [(.ref a0)])) rfl (by rw [hml]; rfl) rfl (hb hby d1_1) (by decide) (W := 0) (by show 2 * 0 + _ ≤ _; exact Nat.le_of_eq rfl) (by decide)
  refine own_via (fun k => st1 _ k) ?_
  show own_Go p e below s _ _ (T1.setTop (mkF m 4 #[rv a0, rv a1] []))
  refine own_via (fun k => XS.aloadN X1.here hx rfl (hb hby d1_4) rfl rfl  (XS.bipush X1.here hx rfl (hb hby d1_5) k)) ?_
  show own_Go p e below s _ _ (T1.setTop (mkF m 7 #[rv a0, rv a1] [(.int 64), (.ref a0)]))
  obtain ⟨T2, h2, k2, X2, e2, E2, A2, st2⟩ := newP X1 hx hZ (hw _ (List.mem_of_getElem? (i := 0) rfl)) e1 (g := (mkF m 7 #[rv a0, rv a1] [(.int 64), (.ref a0)])) rfl (hb hby d1_7) rfl (by decide) (cap := 64) (by decide) (by decide) (by decide) (by decide)
  obtain ⟨b2, g2⟩ : ∃ z, z = h0.size := ⟨_, rfl⟩
  rw [← g2] at A2 st2
  refine own_via (fun k => st2 _ k) ?_
  show own_Go p e below s _ _ (T2.setTop (mkF m 9 #[rv a0, rv a1] [(.ref b2), (.ref a0)]))
  have g3 : n0 ≤ b2 := Nat.le_trans Z0 (Nat.le_of_eq g2.symm)
  have sz4 : h0.size ≤ b2 := Nat.le_trans K0.1 (Nat.le_of_eq g2.symm)
  have ne5 : a0 ≠ b2 := Nat.ne_of_lt (Nat.lt_of_lt_of_le P0.lt (Nat.le_of_eq g2.symm))
  have ne6 : a1 ≠ b2 := Nat.ne_of_lt (Nat.lt_of_lt_of_le P3.lt (Nat.le_of_eq g2.symm))
  have B7 := P0.ext E2
  have B8 := P1.ext E2
  have B9 := P2.ext E2
  have B10 := P3.ext E2
  have K11 : Keep h0 h2 [a0] := K0.ext E2
  have Z12 : n0 ≤ h2.size := Nat.le_trans Z0 E2.1
  have B13 : Arv Z h2 b2 k2 .byte (64 : Int32) [] (.int 0) := (Arv.new A2 (by decide)).pad (pad_rep [] (.int 0) 0)
  obtain ⟨T14, h14, X14, e14, W14, st14⟩ := putF X2 hx hZ hown (host := "") (Or.inl (hw _ (List.mem_of_getElem? (i := 11) rfl))) Via.refl e2 B7 B9 (Or.inl (hw _ (List.mem_of_getElem? (i := 12) rfl))) (hw _ (List.mem_of_getElem? (i := 3) rfl)) (ty := (.array .byte)) (by decide) rfl rfl (g := (mkF m 9 #[rv a0, rv a1] [(.ref b2), (.ref a0)])) rfl rfl (hb hby d1_9)
  refine own_via (fun k => st14 _ k) ?_
  show own_Go p e below s _ _ (T14.setTop (mkF m 12 #[rv a0, rv a1] []))
  have B15 := B8.other W14 (Or.inr (slot_ne (Or.inl (hw _ (List.mem_of_getElem? (i := 29) rfl))) (Or.inl (hw _ (List.mem_of_getElem? (i := 12) rfl))) (by decide) (t := .int) (t' := (.array .byte)) (by decide) (by decide)))
  have B16 := B9.wr W14
  have B17 := B10.other W14 nx0
  have B18 := B13.other W14 (Ne.symm ne5)
  have B19 : Fld Z h14 a0 "com/example/dani/dani/core/Key" "bytes" "[B" (.ref b2) := B7.same W14
  have N20 := Fr.snoc X14 N0 ge0
  have K21 : Keep h0 h14 [a0] := K11.wr W14 (Or.inl (List.mem_of_getElem? (i := 0) rfl))
  have Z22 : n0 ≤ h14.size := Nat.le_trans Z12 (Keep.of_wr W14).1
  refine own_via (fun k => XS.aloadN X14.here hx rfl (hb hby d1_12) rfl rfl  (XS.aloadN X14.here hx rfl (hb hby d1_13) rfl rfl  (XS.bipush X14.here hx rfl (hb hby d1_14) (XS.aloadN X14.here hx rfl (hb hby d1_16) rfl rfl  k)))) ?_
  show own_Go p e below s _ _ (T14.setTop (mkF m 17 #[rv a0, rv a1] [(.ref a1), (.int 64), (.ref a1), (.ref a0)]))
  obtain ⟨cl23, Ar23, -, S23, NN23, -, -⟩ := id B17
  refine own_via (fun k => X14.arraylength hx (by rw [e14]; exact Ar23.1) (State.isArrayOf_alike hZ.alike Ar23.2.1) (g := (mkF m 17 #[rv a0, rv a1] [(.ref a1), (.int 64), (.ref a1), (.ref a0)])) rfl rfl (hb hby d1_17) _ k) ?_
  rw [len_of S23 NN23]
  show own_Go p e below s _ _ (T14.setTop (mkF m 18 #[rv a0, rv a1] [(.int 3), (.int 64), (.ref a1), (.ref a0)]))
  refine own_via (fun k => XS.iconst X14.here hx rfl (hb hby d1_18) (XS.imul X14.here hx rfl (hb hby d1_19) rfl k)) ?_
  show own_Go p e below s _ _ (T14.setTop (mkF m 20 #[rv a0, rv a1] [(.int 6), (.int 64), (.ref a1), (.ref a0)]))
  obtain ⟨_, _, ⟨T24, L24, k24, n24⟩, -, X24, ⟨Lc24, hQ24, l24, y24, z24⟩, st24⟩ := Jvm.LawKit.callS X14 hx (y := (⟨"java/lang/Math", "max", "(II)I"⟩ : MethodName)) hown (mvT hZ (hw _ (List.mem_of_getElem? (i := 13) rfl))) (mvT hZ (hw _ (List.mem_of_getElem? (i := 14) rfl))) (mvT hZ (hw _ (List.mem_of_getElem? (i := 15) rfl))) (mvT hZ (hw _ (List.mem_of_getElem? (i := 16) rfl))) (by decide) (backOf (W := 2) (rm3 l Z aw hw [] (64 : Int32) (6 : Int32) h14 n0 Z22) hZ (hw _ (List.mem_of_getElem? (i := 16) rfl)) (hw _ (List.mem_of_getElem? (i := 15) rfl)) (by decide) (by decide)) (g := (mkF m 20 #[rv a0, rv a1] [(.int 6), (.int 64), (.ref a1), (.ref a0)])) rfl (by rw [hml]; rfl) (argsL := [(.int 64), (.int 6)]) (rest := [(.ref a1), (.ref a0)]) (lenOf pd_2 rfl) rfl (by show 2 * 0 + _ ≤ _; exact Nat.le_of_eq rfl) (hb hby d1_20) (fun _ _ => ⟨rfl, e14, (by decide : 1 + 0 ≤ _), (by decide : 64 + 0 ≤ _)⟩)
  dsimp only [Pt.U, Pt.locs, Pt.cells, Pt.slots] at X24 l24 y24 z24 st24 hQ24
  subst l24 y24 z24
  obtain ⟨rfl, N24q, eh24⟩ := hQ24
  have N25 := Fr.app N20 N24q
  refine own_via (fun k => st24 _ k) ?_
  show own_Go p e below s _ _ (T24.setTop (mkF m 23 #[rv a0, rv a1] [(.int (own_f3 (64 : Int32) (6 : Int32))), (.ref a1), (.ref a0)]))
  rw [show (own_f3 (64 : Int32) (6 : Int32)) = (64 : Int32) from by decide]
  show own_Go p e below s _ _ (T24.setTop (mkF m 23 #[rv a0, rv a1] [(.int 64), (.ref a1), (.ref a0)]))
  obtain ⟨_, _, ⟨T26, L26, k26, n26⟩, -, X26, ⟨Lc26, hQ26, l26, y26, z26⟩, st26⟩ := Jvm.LawKit.callS X24 hx (y := (⟨"java/util/Arrays", "copyOf", "([BI)[B"⟩ : MethodName)) hown (mvT hZ (hw _ (List.mem_of_getElem? (i := 17) rfl))) (mvT hZ (hw _ (List.mem_of_getElem? (i := 18) rfl))) (mvT hZ (hw _ (List.mem_of_getElem? (i := 19) rfl))) (mvT hZ (hw _ (List.mem_of_getElem? (i := 20) rfl))) (by decide) (backOf (W := 1) (rm4_3_64 l Z aw hw [] a1 k w0 w1 w2 h14 n0 Z22 B17) hZ (hw _ (List.mem_of_getElem? (i := 20) rfl)) (hw _ (List.mem_of_getElem? (i := 19) rfl)) (by decide) (by decide)) (g := (mkF m 23 #[rv a0, rv a1] [(.int 64), (.ref a1), (.ref a0)])) rfl (by rw [hml]; rfl) (argsL := [(.ref a1), (.int 64)]) (rest := [(.ref a0)]) (lenOf pd_3 rfl) rfl (by show 2 * 0 + _ ≤ _; exact Nat.le_of_eq rfl) (hb hby d1_23) (fun _ _ => ⟨rfl, eh24, (by decide : 1 + 1 ≤ _), (by decide : 64 + 64 ≤ _)⟩)
  dsimp only [Pt.U, Pt.locs, Pt.cells, Pt.slots] at X26 l26 y26 z26 st26 hQ26
  subst l26 y26 z26
  obtain ⟨b_26, k2_26, rfl, N26q, K26, B27, g28⟩ := hQ26
  have N29 := Fr.app N25 N26q
  have B30 := B15.keep K26 nin0
  have B31 := B16.keep K26
  have B32 := B17.keep K26 nin0
  have B33 := B18.keep K26 nin0
  have B34 := B19.keep K26 nin0
  have Z35 : n0 ≤ T26.heap.size := Nat.le_trans Z22 K26.1
  have K36 : Keep h0 T26.heap [a0] := K21.trans K26 all0
  have g37 : n0 ≤ b_26 := Nat.le_trans Z22 g28
  have sz38 : h0.size ≤ b_26 := Nat.le_trans K21.1 g28
  have ne39 : a0 ≠ b_26 := Nat.ne_of_lt (Nat.lt_of_lt_of_le B15.lt g28)
  have ne40 : a1 ≠ b_26 := Nat.ne_of_lt (Nat.lt_of_lt_of_le B17.lt g28)
  have ne41 : b2 ≠ b_26 := Nat.ne_of_lt (Nat.lt_of_lt_of_le B18.lt g28)
  refine own_via (fun k => st26 _ k) ?_
  show own_Go p e below s _ _ (T26.setTop (mkF m 26 #[rv a0, rv a1] [(.ref b_26), (.ref a0)]))
  obtain ⟨T42, h42, X42, e42, W42, st42⟩ := putF X26 hx hZ hown (host := "") (Or.inl (hw _ (List.mem_of_getElem? (i := 11) rfl))) Via.refl rfl B34 B31 (Or.inl (hw _ (List.mem_of_getElem? (i := 12) rfl))) (hw _ (List.mem_of_getElem? (i := 3) rfl)) (ty := (.array .byte)) (by decide) rfl rfl (g := (mkF m 26 #[rv a0, rv a1] [(.ref b_26), (.ref a0)])) rfl rfl (hb hby d1_26)
  refine own_via (fun k => st42 _ k) ?_
  show own_Go p e below s _ _ (T42.setTop (mkF m 29 #[rv a0, rv a1] []))
  have B43 := B30.other W42 (Or.inr (slot_ne (Or.inl (hw _ (List.mem_of_getElem? (i := 29) rfl))) (Or.inl (hw _ (List.mem_of_getElem? (i := 12) rfl))) (by decide) (t := .int) (t' := (.array .byte)) (by decide) (by decide)))
  have B44 := B31.wr W42
  have B45 := B32.other W42 nx0
  have B46 := B33.other W42 (Ne.symm ne5)
  have B47 := B27.other W42 (Ne.symm ne39)
  have B48 : Fld Z h42 a0 "com/example/dani/dani/core/Key" "bytes" "[B" (.ref b_26) := B34.same W42
  have N49 := Fr.snoc X42 N29 ge0
  have K50 : Keep h0 h42 [a0] := K36.wr W42 (Or.inl (List.mem_of_getElem? (i := 0) rfl))
  have Z51 : n0 ≤ h42.size := Nat.le_trans Z35 (Keep.of_wr W42).1
  refine own_via (fun k => XS.aloadN X42.here hx rfl (hb hby d1_29) rfl rfl  (XS.aloadN X42.here hx rfl (hb hby d1_30) rfl rfl  k)) ?_
  show own_Go p e below s _ _ (T42.setTop (mkF m 31 #[rv a0, rv a1] [(.ref a1), (.ref a0)]))
  obtain ⟨cl52, Ar52, -, S52, NN52, -, -⟩ := id B45
  refine own_via (fun k => X42.arraylength hx (by rw [e42]; exact Ar52.1) (State.isArrayOf_alike hZ.alike Ar52.2.1) (g := (mkF m 31 #[rv a0, rv a1] [(.ref a1), (.ref a0)])) rfl rfl (hb hby d1_31) _ k) ?_
  rw [len_of S52 NN52]
  show own_Go p e below s _ _ (T42.setTop (mkF m 32 #[rv a0, rv a1] [(.int 3), (.ref a0)]))
  obtain ⟨T53, h53, X53, e53, W53, st53⟩ := putF X42 hx hZ hown (host := "") (Or.inl (hw _ (List.mem_of_getElem? (i := 28) rfl))) Via.refl e42 B43 B44 (Or.inl (hw _ (List.mem_of_getElem? (i := 29) rfl))) (hw _ (List.mem_of_getElem? (i := 3) rfl)) (ty := .int) (by decide) rfl rfl (g := (mkF m 32 #[rv a0, rv a1] [(.int 3), (.ref a0)])) rfl rfl (hb hby d1_32)
  refine own_via (fun k => st53 _ k) ?_
  show own_Go p e below s _ _ (T53.setTop (mkF m 35 #[rv a0, rv a1] []))
  have B54 := B44.wr W53
  have B55 := B45.other W53 nx0
  have B56 := B46.other W53 (Ne.symm ne5)
  have B57 := B47.other W53 (Ne.symm ne39)
  have B58 := B48.other W53 (Or.inr (slot_ne (Or.inl (hw _ (List.mem_of_getElem? (i := 12) rfl))) (Or.inl (hw _ (List.mem_of_getElem? (i := 29) rfl))) (by decide) (t := (.array .byte)) (t' := .int) (by decide) (by decide)))
  have B59 : Fld Z h53 a0 "com/example/dani/dani/core/Key" "length" "I" (.int 3) := B43.same W53
  have N60 := Fr.snoc X53 N49 ge0
  have K61 : Keep h0 h53 [a0] := K50.wr W53 (Or.inl (List.mem_of_getElem? (i := 0) rfl))
  have Z62 : n0 ≤ h53.size := Nat.le_trans Z51 (Keep.of_wr W53).1
  exact own_ret0 X53 hx hlk Bd.returns (hb hby d1_35) (Q := (Q1_3 Z a0 a1 k w0 w1 w2 h0 n0)) ⟨b_26, k2_26, rfl, N60, (by rw [e53]; exact K61), (by rw [e53]; exact B58), (by rw [e53]; exact B59), (by rw [e53]; exact B57), sz38⟩ (by decide) (by decide)
theorem ef_1_4 (m : MethodId) (x0 : Addr) (x1 : Addr) : entryFrame m #[(.ref x0), (.ref x1)] 2 = mkF m 0 #[rv x0, rv x1] [] := by first | (simp [entryFrame, mkF, argsToLocals, Value.category]; done) | rfl
def Q1_4 (Z : State) (a0 : Addr) (a1 : Addr) (k : ClassId) (w0 : Int32) (w1 : Int32) (w2 : Int32) (w3 : Int32) (h0 : Heap) (n0 : Nat) (v : Option Value) (h : Heap) (L : List Loc) : Prop := ∃ (b : Addr), ∃ (k2 : ClassId), v = none ∧ Fr n0 L ∧ Keep h0 h [a0] ∧ Fld Z h a0 "com/example/dani/dani/core/Key" "bytes" "[B" (.ref b) ∧ Fld Z h a0 "com/example/dani/dani/core/Key" "length" "I" (.int 4) ∧ Arv Z h b k2 .byte (64 : Int32) [(.int w0), (.int w1), (.int w2), (.int w3)] (.int 0) ∧ h0.size ≤ b
set_option maxRecDepth 65536 in
set_option maxHeartbeats 40000000 in
theorem rm1_4 (l : Launch) (Z : State) (aw : Array Value) (hw : ∀ d ∈ tables_1, d.before aw Z = true) (ws : List Jvm.Cond) (a0 : Addr) (a1 : Addr) (k : ClassId) (w0 : Int32) (w1 : Int32) (w2 : Int32) (w3 : Int32) (h0 : Heap) (n0 : Nat) (Z0 : n0 ≤ h0.size) (P0 : Fld Z h0 a0 "com/example/dani/dani/core/Key" "bytes" "[B" .null) (P1 : Fld Z h0 a0 "com/example/dani/dani/core/Key" "length" "I" (.int 0)) (P2 : Exa Z h0 a0 "com/example/dani/dani/core/Key") (P3 : Arv Z h0 a1 k .byte (4 : Int32) [(.int w0), (.int w1), (.int w2), (.int w3)] (.int 0)) (ge0 : n0 ≤ a0) (nx0 : a1 ≠ a0) :
    MetFree l (⟨"com/example/dani/dani/core/Key", "<init>", "([B)V"⟩ : MethodName) (head1 (Jvm.Cond.code (⟨"com/example/dani/dani/core/Key", "<init>", "([B)V"⟩ : MethodName) prog_5_method_2_code 2 none :: ws) ({ frames := 2, cells := 2, slots := 128, locals := 42 } : Room)) (fun a U => a = #[(.ref a0), (.ref a1)] ∧ Z.Warmed39 U.vm ∧ U.heap = h0) (fun _ _ _ _ _ => True) (fun _ U o U' => ∃ v L, o = .returned v ∧ Q1_4 Z a0 a1 k w0 w1 w2 w3 h0 n0 v U'.heap L ∧ FrameEnd U o U' L ({ frames := 2, cells := 2, slots := 128, locals := 42 } : Room).cells ({ frames := 2, cells := 2, slots := 128, locals := 42 } : Room).slots) := by
  refine MetFree.of_bodySF (plainFor_of_name pn_1) hisR ?_
  intro p e s m args below meth c s₁ Bd hml0 hP hK
  obtain ⟨rfl, hZ, hh⟩ := hP
  have hx := Bd.exec
  have hby := Bd.bytes
  have hml : c.maxLocals = 2 := hml0
  have hown : s.vm.findClass "com/example/dani/dani/core/Key" = some m.cls := findClass_of_methodNamed Bd.named
  have hnm := (name_of_methodNamed Bd.named Bd.method).1
  have hlk : meth.locks = false := by first | exact BodyLoose.notSynchronized (by assumption) | exact Body.notSynchronized (by assumption)
  have X0 : Stand p l e ({ frames := 2, cells := 2, slots := 128, locals := 42 } : Room) s m #[(.ref a0), (.ref a1)] below meth c s₁ [] 0 0 := Stand.of_body Bd
  have e0 : s₁.heap = h0 := by rw [← hh, Bd.state]; rfl
  have N0 := Fr.nil n0
  have K0 : Keep h0 h0 [a0] := Keep.refl _ _
  refine own_start (CS := (2, 128)) (Q := (Q1_4 Z a0 a1 k w0 w1 w2 w3 h0 n0)) (ef_1_4 m a0 a1) ?_
  show own_Go p e below s _ _ (s₁.setTop (mkF m 0 #[rv a0, rv a1] []))
  refine own_via (fun k => XS.aloadN X0.here hx rfl (hb hby d1_0) rfl rfl  k) ?_
  show own_Go p e below s _ _ (s₁.setTop (mkF m 1 #[rv a0, rv a1] [(.ref a0)]))
  obtain ⟨T1, X1, e1, st1⟩ := initO X0 hx hZ hown (hw _ (List.mem_of_getElem? (i := 8) rfl)) (hw _ (List.mem_of_getElem? (i := 9) rfl)) (hw _ (List.mem_of_getElem? (i := 10) rfl)) e0 (g := (mkF m 1 #[rv a0, rv a1] [(.ref a0)])) rfl (by rw [hml]; rfl) rfl (hb hby d1_1) (by decide) (W := 0) (by show 2 * 0 + _ ≤ _; exact Nat.le_of_eq rfl) (by decide)
  refine own_via (fun k => st1 _ k) ?_
  show own_Go p e below s _ _ (T1.setTop (mkF m 4 #[rv a0, rv a1] []))
  refine own_via (fun k => XS.aloadN X1.here hx rfl (hb hby d1_4) rfl rfl  (XS.bipush X1.here hx rfl (hb hby d1_5) k)) ?_
  show own_Go p e below s _ _ (T1.setTop (mkF m 7 #[rv a0, rv a1] [(.int 64), (.ref a0)]))
  obtain ⟨T2, h2, k2, X2, e2, E2, A2, st2⟩ := newP X1 hx hZ (hw _ (List.mem_of_getElem? (i := 0) rfl)) e1 (g := (mkF m 7 #[rv a0, rv a1] [(.int 64), (.ref a0)])) rfl (hb hby d1_7) rfl (by decide) (cap := 64) (by decide) (by decide) (by decide) (by decide)
  obtain ⟨b2, g2⟩ : ∃ z, z = h0.size := ⟨_, rfl⟩
  rw [← g2] at A2 st2
  refine own_via (fun k => st2 _ k) ?_
  show own_Go p e below s _ _ (T2.setTop (mkF m 9 #[rv a0, rv a1] [(.ref b2), (.ref a0)]))
  have g3 : n0 ≤ b2 := Nat.le_trans Z0 (Nat.le_of_eq g2.symm)
  have sz4 : h0.size ≤ b2 := Nat.le_trans K0.1 (Nat.le_of_eq g2.symm)
  have ne5 : a0 ≠ b2 := Nat.ne_of_lt (Nat.lt_of_lt_of_le P0.lt (Nat.le_of_eq g2.symm))
  have ne6 : a1 ≠ b2 := Nat.ne_of_lt (Nat.lt_of_lt_of_le P3.lt (Nat.le_of_eq g2.symm))
  have B7 := P0.ext E2
  have B8 := P1.ext E2
  have B9 := P2.ext E2
  have B10 := P3.ext E2
  have K11 : Keep h0 h2 [a0] := K0.ext E2
  have Z12 : n0 ≤ h2.size := Nat.le_trans Z0 E2.1
  have B13 : Arv Z h2 b2 k2 .byte (64 : Int32) [] (.int 0) := (Arv.new A2 (by decide)).pad (pad_rep [] (.int 0) 0)
  obtain ⟨T14, h14, X14, e14, W14, st14⟩ := putF X2 hx hZ hown (host := "") (Or.inl (hw _ (List.mem_of_getElem? (i := 11) rfl))) Via.refl e2 B7 B9 (Or.inl (hw _ (List.mem_of_getElem? (i := 12) rfl))) (hw _ (List.mem_of_getElem? (i := 3) rfl)) (ty := (.array .byte)) (by decide) rfl rfl (g := (mkF m 9 #[rv a0, rv a1] [(.ref b2), (.ref a0)])) rfl rfl (hb hby d1_9)
  refine own_via (fun k => st14 _ k) ?_
  show own_Go p e below s _ _ (T14.setTop (mkF m 12 #[rv a0, rv a1] []))
  have B15 := B8.other W14 (Or.inr (slot_ne (Or.inl (hw _ (List.mem_of_getElem? (i := 29) rfl))) (Or.inl (hw _ (List.mem_of_getElem? (i := 12) rfl))) (by decide) (t := .int) (t' := (.array .byte)) (by decide) (by decide)))
  have B16 := B9.wr W14
  have B17 := B10.other W14 nx0
  have B18 := B13.other W14 (Ne.symm ne5)
  have B19 : Fld Z h14 a0 "com/example/dani/dani/core/Key" "bytes" "[B" (.ref b2) := B7.same W14
  have N20 := Fr.snoc X14 N0 ge0
  have K21 : Keep h0 h14 [a0] := K11.wr W14 (Or.inl (List.mem_of_getElem? (i := 0) rfl))
  have Z22 : n0 ≤ h14.size := Nat.le_trans Z12 (Keep.of_wr W14).1
  refine own_via (fun k => XS.aloadN X14.here hx rfl (hb hby d1_12) rfl rfl  (XS.aloadN X14.here hx rfl (hb hby d1_13) rfl rfl  (XS.bipush X14.here hx rfl (hb hby d1_14) (XS.aloadN X14.here hx rfl (hb hby d1_16) rfl rfl  k)))) ?_
  show own_Go p e below s _ _ (T14.setTop (mkF m 17 #[rv a0, rv a1] [(.ref a1), (.int 64), (.ref a1), (.ref a0)]))
  obtain ⟨cl23, Ar23, -, S23, NN23, -, -⟩ := id B17
  refine own_via (fun k => X14.arraylength hx (by rw [e14]; exact Ar23.1) (State.isArrayOf_alike hZ.alike Ar23.2.1) (g := (mkF m 17 #[rv a0, rv a1] [(.ref a1), (.int 64), (.ref a1), (.ref a0)])) rfl rfl (hb hby d1_17) _ k) ?_
  rw [len_of S23 NN23]
  show own_Go p e below s _ _ (T14.setTop (mkF m 18 #[rv a0, rv a1] [(.int 4), (.int 64), (.ref a1), (.ref a0)]))
  refine own_via (fun k => XS.iconst X14.here hx rfl (hb hby d1_18) (XS.imul X14.here hx rfl (hb hby d1_19) rfl k)) ?_
  show own_Go p e below s _ _ (T14.setTop (mkF m 20 #[rv a0, rv a1] [(.int 8), (.int 64), (.ref a1), (.ref a0)]))
  obtain ⟨_, _, ⟨T24, L24, k24, n24⟩, -, X24, ⟨Lc24, hQ24, l24, y24, z24⟩, st24⟩ := Jvm.LawKit.callS X14 hx (y := (⟨"java/lang/Math", "max", "(II)I"⟩ : MethodName)) hown (mvT hZ (hw _ (List.mem_of_getElem? (i := 13) rfl))) (mvT hZ (hw _ (List.mem_of_getElem? (i := 14) rfl))) (mvT hZ (hw _ (List.mem_of_getElem? (i := 15) rfl))) (mvT hZ (hw _ (List.mem_of_getElem? (i := 16) rfl))) (by decide) (backOf (W := 2) (rm3 l Z aw hw [] (64 : Int32) (8 : Int32) h14 n0 Z22) hZ (hw _ (List.mem_of_getElem? (i := 16) rfl)) (hw _ (List.mem_of_getElem? (i := 15) rfl)) (by decide) (by decide)) (g := (mkF m 20 #[rv a0, rv a1] [(.int 8), (.int 64), (.ref a1), (.ref a0)])) rfl (by rw [hml]; rfl) (argsL := [(.int 64), (.int 8)]) (rest := [(.ref a1), (.ref a0)]) (lenOf pd_2 rfl) rfl (by show 2 * 0 + _ ≤ _; exact Nat.le_of_eq rfl) (hb hby d1_20) (fun _ _ => ⟨rfl, e14, (by decide : 1 + 0 ≤ _), (by decide : 64 + 0 ≤ _)⟩)
  dsimp only [Pt.U, Pt.locs, Pt.cells, Pt.slots] at X24 l24 y24 z24 st24 hQ24
  subst l24 y24 z24
  obtain ⟨rfl, N24q, eh24⟩ := hQ24
  have N25 := Fr.app N20 N24q
  refine own_via (fun k => st24 _ k) ?_
  show own_Go p e below s _ _ (T24.setTop (mkF m 23 #[rv a0, rv a1] [(.int (own_f3 (64 : Int32) (8 : Int32))), (.ref a1), (.ref a0)]))
  rw [show (own_f3 (64 : Int32) (8 : Int32)) = (64 : Int32) from by decide]
  show own_Go p e below s _ _ (T24.setTop (mkF m 23 #[rv a0, rv a1] [(.int 64), (.ref a1), (.ref a0)]))
  obtain ⟨_, _, ⟨T26, L26, k26, n26⟩, -, X26, ⟨Lc26, hQ26, l26, y26, z26⟩, st26⟩ := Jvm.LawKit.callS X24 hx (y := (⟨"java/util/Arrays", "copyOf", "([BI)[B"⟩ : MethodName)) hown (mvT hZ (hw _ (List.mem_of_getElem? (i := 17) rfl))) (mvT hZ (hw _ (List.mem_of_getElem? (i := 18) rfl))) (mvT hZ (hw _ (List.mem_of_getElem? (i := 19) rfl))) (mvT hZ (hw _ (List.mem_of_getElem? (i := 20) rfl))) (by decide) (backOf (W := 1) (rm4_4_64 l Z aw hw [] a1 k w0 w1 w2 w3 h14 n0 Z22 B17) hZ (hw _ (List.mem_of_getElem? (i := 20) rfl)) (hw _ (List.mem_of_getElem? (i := 19) rfl)) (by decide) (by decide)) (g := (mkF m 23 #[rv a0, rv a1] [(.int 64), (.ref a1), (.ref a0)])) rfl (by rw [hml]; rfl) (argsL := [(.ref a1), (.int 64)]) (rest := [(.ref a0)]) (lenOf pd_3 rfl) rfl (by show 2 * 0 + _ ≤ _; exact Nat.le_of_eq rfl) (hb hby d1_23) (fun _ _ => ⟨rfl, eh24, (by decide : 1 + 1 ≤ _), (by decide : 64 + 64 ≤ _)⟩)
  dsimp only [Pt.U, Pt.locs, Pt.cells, Pt.slots] at X26 l26 y26 z26 st26 hQ26
  subst l26 y26 z26
  obtain ⟨b_26, k2_26, rfl, N26q, K26, B27, g28⟩ := hQ26
  have N29 := Fr.app N25 N26q
  have B30 := B15.keep K26 nin0
  have B31 := B16.keep K26
  have B32 := B17.keep K26 nin0
  have B33 := B18.keep K26 nin0
  have B34 := B19.keep K26 nin0
  have Z35 : n0 ≤ T26.heap.size := Nat.le_trans Z22 K26.1
  have K36 : Keep h0 T26.heap [a0] := K21.trans K26 all0
  have g37 : n0 ≤ b_26 := Nat.le_trans Z22 g28
  have sz38 : h0.size ≤ b_26 := Nat.le_trans K21.1 g28
  have ne39 : a0 ≠ b_26 := Nat.ne_of_lt (Nat.lt_of_lt_of_le B15.lt g28)
  have ne40 : a1 ≠ b_26 := Nat.ne_of_lt (Nat.lt_of_lt_of_le B17.lt g28)
  have ne41 : b2 ≠ b_26 := Nat.ne_of_lt (Nat.lt_of_lt_of_le B18.lt g28)
  refine own_via (fun k => st26 _ k) ?_
  show own_Go p e below s _ _ (T26.setTop (mkF m 26 #[rv a0, rv a1] [(.ref b_26), (.ref a0)]))
  obtain ⟨T42, h42, X42, e42, W42, st42⟩ := putF X26 hx hZ hown (host := "") (Or.inl (hw _ (List.mem_of_getElem? (i := 11) rfl))) Via.refl rfl B34 B31 (Or.inl (hw _ (List.mem_of_getElem? (i := 12) rfl))) (hw _ (List.mem_of_getElem? (i := 3) rfl)) (ty := (.array .byte)) (by decide) rfl rfl (g := (mkF m 26 #[rv a0, rv a1] [(.ref b_26), (.ref a0)])) rfl rfl (hb hby d1_26)
  refine own_via (fun k => st42 _ k) ?_
  show own_Go p e below s _ _ (T42.setTop (mkF m 29 #[rv a0, rv a1] []))
  have B43 := B30.other W42 (Or.inr (slot_ne (Or.inl (hw _ (List.mem_of_getElem? (i := 29) rfl))) (Or.inl (hw _ (List.mem_of_getElem? (i := 12) rfl))) (by decide) (t := .int) (t' := (.array .byte)) (by decide) (by decide)))
  have B44 := B31.wr W42
  have B45 := B32.other W42 nx0
  have B46 := B33.other W42 (Ne.symm ne5)
  have B47 := B27.other W42 (Ne.symm ne39)
  have B48 : Fld Z h42 a0 "com/example/dani/dani/core/Key" "bytes" "[B" (.ref b_26) := B34.same W42
  have N49 := Fr.snoc X42 N29 ge0
  have K50 : Keep h0 h42 [a0] := K36.wr W42 (Or.inl (List.mem_of_getElem? (i := 0) rfl))
  have Z51 : n0 ≤ h42.size := Nat.le_trans Z35 (Keep.of_wr W42).1
  refine own_via (fun k => XS.aloadN X42.here hx rfl (hb hby d1_29) rfl rfl  (XS.aloadN X42.here hx rfl (hb hby d1_30) rfl rfl  k)) ?_
  show own_Go p e below s _ _ (T42.setTop (mkF m 31 #[rv a0, rv a1] [(.ref a1), (.ref a0)]))
  obtain ⟨cl52, Ar52, -, S52, NN52, -, -⟩ := id B45
  refine own_via (fun k => X42.arraylength hx (by rw [e42]; exact Ar52.1) (State.isArrayOf_alike hZ.alike Ar52.2.1) (g := (mkF m 31 #[rv a0, rv a1] [(.ref a1), (.ref a0)])) rfl rfl (hb hby d1_31) _ k) ?_
  rw [len_of S52 NN52]
  show own_Go p e below s _ _ (T42.setTop (mkF m 32 #[rv a0, rv a1] [(.int 4), (.ref a0)]))
  obtain ⟨T53, h53, X53, e53, W53, st53⟩ := putF X42 hx hZ hown (host := "") (Or.inl (hw _ (List.mem_of_getElem? (i := 28) rfl))) Via.refl e42 B43 B44 (Or.inl (hw _ (List.mem_of_getElem? (i := 29) rfl))) (hw _ (List.mem_of_getElem? (i := 3) rfl)) (ty := .int) (by decide) rfl rfl (g := (mkF m 32 #[rv a0, rv a1] [(.int 4), (.ref a0)])) rfl rfl (hb hby d1_32)
  refine own_via (fun k => st53 _ k) ?_
  show own_Go p e below s _ _ (T53.setTop (mkF m 35 #[rv a0, rv a1] []))
  have B54 := B44.wr W53
  have B55 := B45.other W53 nx0
  have B56 := B46.other W53 (Ne.symm ne5)
  have B57 := B47.other W53 (Ne.symm ne39)
  have B58 := B48.other W53 (Or.inr (slot_ne (Or.inl (hw _ (List.mem_of_getElem? (i := 12) rfl))) (Or.inl (hw _ (List.mem_of_getElem? (i := 29) rfl))) (by decide) (t := (.array .byte)) (t' := .int) (by decide) (by decide)))
  have B59 : Fld Z h53 a0 "com/example/dani/dani/core/Key" "length" "I" (.int 4) := B43.same W53
  have N60 := Fr.snoc X53 N49 ge0
  have K61 : Keep h0 h53 [a0] := K50.wr W53 (Or.inl (List.mem_of_getElem? (i := 0) rfl))
  have Z62 : n0 ≤ h53.size := Nat.le_trans Z51 (Keep.of_wr W53).1
  exact own_ret0 X53 hx hlk Bd.returns (hb hby d1_35) (Q := (Q1_4 Z a0 a1 k w0 w1 w2 w3 h0 n0)) ⟨b_26, k2_26, rfl, N60, (by rw [e53]; exact K61), (by rw [e53]; exact B58), (by rw [e53]; exact B59), (by rw [e53]; exact B57), sz38⟩ (by decide) (by decide)
theorem d6_0 : decode prog_5_method_9_code 0 = .ok (.iload_n 1, 1) := by decide +kernel
theorem d6_1 : decode prog_5_method_9_code 1 = .ok (.istore_n 2, 1) := by decide +kernel
theorem d6_2 : decode prog_5_method_9_code 2 = .ok (.iload_n 2, 1) := by decide +kernel
theorem d6_3 : decode prog_5_method_9_code 3 = .ok (.aload_n 0, 1) := by decide +kernel
theorem d6_4 : decode prog_5_method_9_code 4 = .ok (.getfield 29, 3) := by decide +kernel
theorem d6_7 : decode prog_5_method_9_code 7 = .ok (.if_icmp .ge 24, 3) := by decide +kernel
theorem d6_31 : decode prog_5_method_9_code 31 = .ok (.aload_n 0, 1) := by decide +kernel
theorem d6_32 : decode prog_5_method_9_code 32 = .ok (.areturn, 1) := by decide +kernel
theorem pn_6 : plainName "com/example/dani/dani/core/Key" = true := by first | (simp [plainName, overriddenIn]; done) | decide +kernel
theorem ef_6_0 (m : MethodId) (x0 : Addr) (x1 : Int32) : entryFrame m #[(.ref x0), (.int x1)] 3 = mkF m 0 #[rv x0, iv x1, .unset] [] := by first | (simp [entryFrame, mkF, argsToLocals, Value.category]; done) | rfl
def Q6_0 (Z : State) (a0 : Addr) (p1 : Int32) (b : Addr) (k2 : ClassId) (h0 : Heap) (n0 : Nat) (v : Option Value) (h : Heap) (L : List Loc) : Prop := v = some (.ref a0) ∧ Fr n0 L ∧ Keep h0 h [b] ∧ Fld Z h a0 "com/example/dani/dani/core/Key" "bytes" "[B" (.ref b) ∧ Fld Z h a0 "com/example/dani/dani/core/Key" "length" "I" (.int 0) ∧ Arv Z h b k2 .byte (64 : Int32) [] (.int 0)
set_option maxRecDepth 65536 in
set_option maxHeartbeats 40000000 in
theorem rm6_0 (l : Launch) (Z : State) (aw : Array Value) (hw : ∀ d ∈ tables_1, d.before aw Z = true) (ws : List Jvm.Cond) (a0 : Addr) (p1 : Int32) (b : Addr) (k2 : ClassId) (h0 : Heap) (n0 : Nat) (Z0 : n0 ≤ h0.size) (P0 : Fld Z h0 a0 "com/example/dani/dani/core/Key" "bytes" "[B" (.ref b)) (P1 : Fld Z h0 a0 "com/example/dani/dani/core/Key" "length" "I" (.int 0)) (P2 : Exa Z h0 a0 "com/example/dani/dani/core/Key") (P3 : Arv Z h0 b k2 .byte (64 : Int32) [] (.int 0)) (ge0 : n0 ≤ b) (nx0 : a0 ≠ b) (hs : p1 = (0 : Int32) ∨ p1 = (1 : Int32) ∨ p1 = (2 : Int32) ∨ p1 = (3 : Int32) ∨ p1 = (4 : Int32) ∨ p1 = (5 : Int32) ∨ p1 = (6 : Int32)) :
    MetFree l (⟨"com/example/dani/dani/core/Key", "reversedFrom", "(I)Lcom/example/dani/dani/core/Key;"⟩ : MethodName) (head1 (Jvm.Cond.code (⟨"com/example/dani/dani/core/Key", "reversedFrom", "(I)Lcom/example/dani/dani/core/Key;"⟩ : MethodName) prog_5_method_9_code 3 (some (.object "com/example/dani/dani/core/Key")) :: ws) ({ frames := 0, cells := 0, slots := 0, locals := 0 } : Room)) (fun a U => a = #[(.ref a0), (.int p1)] ∧ Z.Warmed39 U.vm ∧ U.heap = h0) (fun _ _ _ _ _ => True) (fun _ U o U' => ∃ v L, o = .returned v ∧ Q6_0 Z a0 p1 b k2 h0 n0 v U'.heap L ∧ FrameEnd U o U' L ({ frames := 0, cells := 0, slots := 0, locals := 0 } : Room).cells ({ frames := 0, cells := 0, slots := 0, locals := 0 } : Room).slots) := by
  refine MetFree.of_bodySF (plainFor_of_name pn_6) hisR ?_
  intro p e s m args below meth c s₁ Bd hml0 hP hK
  obtain ⟨rfl, hZ, hh⟩ := hP
  have hx := Bd.exec
  have hby := Bd.bytes
  have hml : c.maxLocals = 3 := hml0
  have hown : s.vm.findClass "com/example/dani/dani/core/Key" = some m.cls := findClass_of_methodNamed Bd.named
  have hnm := (name_of_methodNamed Bd.named Bd.method).1
  have hlk : meth.locks = false := by first | exact BodyLoose.notSynchronized (by assumption) | exact Body.notSynchronized (by assumption)
  have X0 : Stand p l e ({ frames := 0, cells := 0, slots := 0, locals := 0 } : Room) s m #[(.ref a0), (.int p1)] below meth c s₁ [] 0 0 := Stand.of_body Bd
  have e0 : s₁.heap = h0 := by rw [← hh, Bd.state]; rfl
  have N0 := Fr.nil n0
  have K0 : Keep h0 h0 [b] := Keep.refl _ _
  refine own_start (CS := (0, 0)) (Q := (Q6_0 Z a0 p1 b k2 h0 n0)) (ef_6_0 m a0 p1) ?_
  show own_Go p e below s _ _ (s₁.setTop (mkF m 0 #[rv a0, iv p1, .unset] []))
  rcases (hs : p1 = (0 : Int32) ∨ p1 = (1 : Int32) ∨ p1 = (2 : Int32) ∨ p1 = (3 : Int32) ∨ p1 = (4 : Int32) ∨ p1 = (5 : Int32) ∨ p1 = (6 : Int32)) with hl1 | hl1 | hl1 | hl1 | hl1 | hl1 | hl1
  · subst hl1
    show own_Go p e below s _ _ (s₁.setTop (mkF m 0 #[rv a0, iv 0, .unset] []))
    refine own_via (fun k => XS.iloadN X0.here hx rfl (hb hby d6_0) rfl  (XS.istoreN X0.here hx rfl (hb hby d6_1) rfl (l' := #[rv a0, iv 0, iv 0]) rfl (XS.iloadN X0.here hx rfl (hb hby d6_2) rfl  (XS.aloadN X0.here hx rfl (hb hby d6_3) rfl rfl  k)))) ?_
    show own_Go p e below s _ _ (s₁.setTop (mkF m 4 #[rv a0, iv 0, iv 0] [(.ref a0), (.int 0)]))
    obtain ⟨T2, X2, e2, st2⟩ := getF X0 hx hZ hown (host := "") (Or.inl (hw _ (List.mem_of_getElem? (i := 28) rfl))) Via.refl e0 P1 (g := (mkF m 4 #[rv a0, iv 0, iv 0] [(.ref a0), (.int 0)])) rfl rfl (hb hby d6_4)
    refine own_via (fun k => st2 _ k) ?_
    show own_Go p e below s _ _ (T2.setTop (mkF m 7 #[rv a0, iv 0, iv 0] [(.int 0), (.int 0)]))
    refine own_via (fun k => XS.icmpYes X2.here hx rfl (pc0 := 7) (pc' := 31) rfl (hb hby d6_7) rfl (by decide) (by decide) (by decide) k) ?_
    show own_Go p e below s _ _ (T2.setTop (mkF m 31 #[rv a0, iv 0, iv 0] []))
    refine own_via (fun k => XS.aloadN X2.here hx rfl (hb hby d6_31) rfl rfl  k) ?_
    show own_Go p e below s _ _ (T2.setTop (mkF m 32 #[rv a0, iv 0, iv 0] [(.ref a0)]))
    exact own_retA X2 hx hlk rfl (t := (.object "com/example/dani/dani/core/Key")) Bd.returns rfl (hb hby d6_32) (Q := (Q6_0 Z a0 (0 : Int32) b k2 h0 n0)) ⟨rfl, N0, (by rw [e2]; exact K0), (by rw [e2]; exact P0), (by rw [e2]; exact P1), (by rw [e2]; exact own_arv (show ([] : List Value) = [] from by rfl) P3)⟩ (by decide) (by decide)
  · subst hl1
    show own_Go p e below s _ _ (s₁.setTop (mkF m 0 #[rv a0, iv 1, .unset] []))
    refine own_via (fun k => XS.iloadN X0.here hx rfl (hb hby d6_0) rfl  (XS.istoreN X0.here hx rfl (hb hby d6_1) rfl (l' := #[rv a0, iv 1, iv 1]) rfl (XS.iloadN X0.here hx rfl (hb hby d6_2) rfl  (XS.aloadN X0.here hx rfl (hb hby d6_3) rfl rfl  k)))) ?_
    show own_Go p e below s _ _ (s₁.setTop (mkF m 4 #[rv a0, iv 1, iv 1] [(.ref a0), (.int 1)]))
    obtain ⟨T3, X3, e3, st3⟩ := getF X0 hx hZ hown (host := "") (Or.inl (hw _ (List.mem_of_getElem? (i := 28) rfl))) Via.refl e0 P1 (g := (mkF m 4 #[rv a0, iv 1, iv 1] [(.ref a0), (.int 1)])) rfl rfl (hb hby d6_4)
    refine own_via (fun k => st3 _ k) ?_
    show own_Go p e below s _ _ (T3.setTop (mkF m 7 #[rv a0, iv 1, iv 1] [(.int 0), (.int 1)]))
    refine own_via (fun k => XS.icmpYes X3.here hx rfl (pc0 := 7) (pc' := 31) rfl (hb hby d6_7) rfl (by decide) (by decide) (by decide) k) ?_
    show own_Go p e below s _ _ (T3.setTop (mkF m 31 #[rv a0, iv 1, iv 1] []))
    refine own_via (fun k => XS.aloadN X3.here hx rfl (hb hby d6_31) rfl rfl  k) ?_
    show own_Go p e below s _ _ (T3.setTop (mkF m 32 #[rv a0, iv 1, iv 1] [(.ref a0)]))
    exact own_retA X3 hx hlk rfl (t := (.object "com/example/dani/dani/core/Key")) Bd.returns rfl (hb hby d6_32) (Q := (Q6_0 Z a0 (1 : Int32) b k2 h0 n0)) ⟨rfl, N0, (by rw [e3]; exact K0), (by rw [e3]; exact P0), (by rw [e3]; exact P1), (by rw [e3]; exact own_arv (show ([] : List Value) = [] from by rfl) P3)⟩ (by decide) (by decide)
  · subst hl1
    show own_Go p e below s _ _ (s₁.setTop (mkF m 0 #[rv a0, iv 2, .unset] []))
    refine own_via (fun k => XS.iloadN X0.here hx rfl (hb hby d6_0) rfl  (XS.istoreN X0.here hx rfl (hb hby d6_1) rfl (l' := #[rv a0, iv 2, iv 2]) rfl (XS.iloadN X0.here hx rfl (hb hby d6_2) rfl  (XS.aloadN X0.here hx rfl (hb hby d6_3) rfl rfl  k)))) ?_
    show own_Go p e below s _ _ (s₁.setTop (mkF m 4 #[rv a0, iv 2, iv 2] [(.ref a0), (.int 2)]))
    obtain ⟨T4, X4, e4, st4⟩ := getF X0 hx hZ hown (host := "") (Or.inl (hw _ (List.mem_of_getElem? (i := 28) rfl))) Via.refl e0 P1 (g := (mkF m 4 #[rv a0, iv 2, iv 2] [(.ref a0), (.int 2)])) rfl rfl (hb hby d6_4)
    refine own_via (fun k => st4 _ k) ?_
    show own_Go p e below s _ _ (T4.setTop (mkF m 7 #[rv a0, iv 2, iv 2] [(.int 0), (.int 2)]))
    refine own_via (fun k => XS.icmpYes X4.here hx rfl (pc0 := 7) (pc' := 31) rfl (hb hby d6_7) rfl (by decide) (by decide) (by decide) k) ?_
    show own_Go p e below s _ _ (T4.setTop (mkF m 31 #[rv a0, iv 2, iv 2] []))
    refine own_via (fun k => XS.aloadN X4.here hx rfl (hb hby d6_31) rfl rfl  k) ?_
    show own_Go p e below s _ _ (T4.setTop (mkF m 32 #[rv a0, iv 2, iv 2] [(.ref a0)]))
    exact own_retA X4 hx hlk rfl (t := (.object "com/example/dani/dani/core/Key")) Bd.returns rfl (hb hby d6_32) (Q := (Q6_0 Z a0 (2 : Int32) b k2 h0 n0)) ⟨rfl, N0, (by rw [e4]; exact K0), (by rw [e4]; exact P0), (by rw [e4]; exact P1), (by rw [e4]; exact own_arv (show ([] : List Value) = [] from by rfl) P3)⟩ (by decide) (by decide)
  · subst hl1
    show own_Go p e below s _ _ (s₁.setTop (mkF m 0 #[rv a0, iv 3, .unset] []))
    refine own_via (fun k => XS.iloadN X0.here hx rfl (hb hby d6_0) rfl  (XS.istoreN X0.here hx rfl (hb hby d6_1) rfl (l' := #[rv a0, iv 3, iv 3]) rfl (XS.iloadN X0.here hx rfl (hb hby d6_2) rfl  (XS.aloadN X0.here hx rfl (hb hby d6_3) rfl rfl  k)))) ?_
    show own_Go p e below s _ _ (s₁.setTop (mkF m 4 #[rv a0, iv 3, iv 3] [(.ref a0), (.int 3)]))
    obtain ⟨T5, X5, e5, st5⟩ := getF X0 hx hZ hown (host := "") (Or.inl (hw _ (List.mem_of_getElem? (i := 28) rfl))) Via.refl e0 P1 (g := (mkF m 4 #[rv a0, iv 3, iv 3] [(.ref a0), (.int 3)])) rfl rfl (hb hby d6_4)
    refine own_via (fun k => st5 _ k) ?_
    show own_Go p e below s _ _ (T5.setTop (mkF m 7 #[rv a0, iv 3, iv 3] [(.int 0), (.int 3)]))
    refine own_via (fun k => XS.icmpYes X5.here hx rfl (pc0 := 7) (pc' := 31) rfl (hb hby d6_7) rfl (by decide) (by decide) (by decide) k) ?_
    show own_Go p e below s _ _ (T5.setTop (mkF m 31 #[rv a0, iv 3, iv 3] []))
    refine own_via (fun k => XS.aloadN X5.here hx rfl (hb hby d6_31) rfl rfl  k) ?_
    show own_Go p e below s _ _ (T5.setTop (mkF m 32 #[rv a0, iv 3, iv 3] [(.ref a0)]))
    exact own_retA X5 hx hlk rfl (t := (.object "com/example/dani/dani/core/Key")) Bd.returns rfl (hb hby d6_32) (Q := (Q6_0 Z a0 (3 : Int32) b k2 h0 n0)) ⟨rfl, N0, (by rw [e5]; exact K0), (by rw [e5]; exact P0), (by rw [e5]; exact P1), (by rw [e5]; exact own_arv (show ([] : List Value) = [] from by rfl) P3)⟩ (by decide) (by decide)
  · subst hl1
    show own_Go p e below s _ _ (s₁.setTop (mkF m 0 #[rv a0, iv 4, .unset] []))
    refine own_via (fun k => XS.iloadN X0.here hx rfl (hb hby d6_0) rfl  (XS.istoreN X0.here hx rfl (hb hby d6_1) rfl (l' := #[rv a0, iv 4, iv 4]) rfl (XS.iloadN X0.here hx rfl (hb hby d6_2) rfl  (XS.aloadN X0.here hx rfl (hb hby d6_3) rfl rfl  k)))) ?_
    show own_Go p e below s _ _ (s₁.setTop (mkF m 4 #[rv a0, iv 4, iv 4] [(.ref a0), (.int 4)]))
    obtain ⟨T6, X6, e6, st6⟩ := getF X0 hx hZ hown (host := "") (Or.inl (hw _ (List.mem_of_getElem? (i := 28) rfl))) Via.refl e0 P1 (g := (mkF m 4 #[rv a0, iv 4, iv 4] [(.ref a0), (.int 4)])) rfl rfl (hb hby d6_4)
    refine own_via (fun k => st6 _ k) ?_
    show own_Go p e below s _ _ (T6.setTop (mkF m 7 #[rv a0, iv 4, iv 4] [(.int 0), (.int 4)]))
    refine own_via (fun k => XS.icmpYes X6.here hx rfl (pc0 := 7) (pc' := 31) rfl (hb hby d6_7) rfl (by decide) (by decide) (by decide) k) ?_
    show own_Go p e below s _ _ (T6.setTop (mkF m 31 #[rv a0, iv 4, iv 4] []))
    refine own_via (fun k => XS.aloadN X6.here hx rfl (hb hby d6_31) rfl rfl  k) ?_
    show own_Go p e below s _ _ (T6.setTop (mkF m 32 #[rv a0, iv 4, iv 4] [(.ref a0)]))
    exact own_retA X6 hx hlk rfl (t := (.object "com/example/dani/dani/core/Key")) Bd.returns rfl (hb hby d6_32) (Q := (Q6_0 Z a0 (4 : Int32) b k2 h0 n0)) ⟨rfl, N0, (by rw [e6]; exact K0), (by rw [e6]; exact P0), (by rw [e6]; exact P1), (by rw [e6]; exact own_arv (show ([] : List Value) = [] from by rfl) P3)⟩ (by decide) (by decide)
  · subst hl1
    show own_Go p e below s _ _ (s₁.setTop (mkF m 0 #[rv a0, iv 5, .unset] []))
    refine own_via (fun k => XS.iloadN X0.here hx rfl (hb hby d6_0) rfl  (XS.istoreN X0.here hx rfl (hb hby d6_1) rfl (l' := #[rv a0, iv 5, iv 5]) rfl (XS.iloadN X0.here hx rfl (hb hby d6_2) rfl  (XS.aloadN X0.here hx rfl (hb hby d6_3) rfl rfl  k)))) ?_
    show own_Go p e below s _ _ (s₁.setTop (mkF m 4 #[rv a0, iv 5, iv 5] [(.ref a0), (.int 5)]))
    obtain ⟨T7, X7, e7, st7⟩ := getF X0 hx hZ hown (host := "") (Or.inl (hw _ (List.mem_of_getElem? (i := 28) rfl))) Via.refl e0 P1 (g := (mkF m 4 #[rv a0, iv 5, iv 5] [(.ref a0), (.int 5)])) rfl rfl (hb hby d6_4)
    refine own_via (fun k => st7 _ k) ?_
    show own_Go p e below s _ _ (T7.setTop (mkF m 7 #[rv a0, iv 5, iv 5] [(.int 0), (.int 5)]))
    refine own_via (fun k => XS.icmpYes X7.here hx rfl (pc0 := 7) (pc' := 31) rfl (hb hby d6_7) rfl (by decide) (by decide) (by decide) k) ?_
    show own_Go p e below s _ _ (T7.setTop (mkF m 31 #[rv a0, iv 5, iv 5] []))
    refine own_via (fun k => XS.aloadN X7.here hx rfl (hb hby d6_31) rfl rfl  k) ?_
    show own_Go p e below s _ _ (T7.setTop (mkF m 32 #[rv a0, iv 5, iv 5] [(.ref a0)]))
    exact own_retA X7 hx hlk rfl (t := (.object "com/example/dani/dani/core/Key")) Bd.returns rfl (hb hby d6_32) (Q := (Q6_0 Z a0 (5 : Int32) b k2 h0 n0)) ⟨rfl, N0, (by rw [e7]; exact K0), (by rw [e7]; exact P0), (by rw [e7]; exact P1), (by rw [e7]; exact own_arv (show ([] : List Value) = [] from by rfl) P3)⟩ (by decide) (by decide)
  · subst hl1
    show own_Go p e below s _ _ (s₁.setTop (mkF m 0 #[rv a0, iv 6, .unset] []))
    refine own_via (fun k => XS.iloadN X0.here hx rfl (hb hby d6_0) rfl  (XS.istoreN X0.here hx rfl (hb hby d6_1) rfl (l' := #[rv a0, iv 6, iv 6]) rfl (XS.iloadN X0.here hx rfl (hb hby d6_2) rfl  (XS.aloadN X0.here hx rfl (hb hby d6_3) rfl rfl  k)))) ?_
    show own_Go p e below s _ _ (s₁.setTop (mkF m 4 #[rv a0, iv 6, iv 6] [(.ref a0), (.int 6)]))
    obtain ⟨T8, X8, e8, st8⟩ := getF X0 hx hZ hown (host := "") (Or.inl (hw _ (List.mem_of_getElem? (i := 28) rfl))) Via.refl e0 P1 (g := (mkF m 4 #[rv a0, iv 6, iv 6] [(.ref a0), (.int 6)])) rfl rfl (hb hby d6_4)
    refine own_via (fun k => st8 _ k) ?_
    show own_Go p e below s _ _ (T8.setTop (mkF m 7 #[rv a0, iv 6, iv 6] [(.int 0), (.int 6)]))
    refine own_via (fun k => XS.icmpYes X8.here hx rfl (pc0 := 7) (pc' := 31) rfl (hb hby d6_7) rfl (by decide) (by decide) (by decide) k) ?_
    show own_Go p e below s _ _ (T8.setTop (mkF m 31 #[rv a0, iv 6, iv 6] []))
    refine own_via (fun k => XS.aloadN X8.here hx rfl (hb hby d6_31) rfl rfl  k) ?_
    show own_Go p e below s _ _ (T8.setTop (mkF m 32 #[rv a0, iv 6, iv 6] [(.ref a0)]))
    exact own_retA X8 hx hlk rfl (t := (.object "com/example/dani/dani/core/Key")) Bd.returns rfl (hb hby d6_32) (Q := (Q6_0 Z a0 (6 : Int32) b k2 h0 n0)) ⟨rfl, N0, (by rw [e8]; exact K0), (by rw [e8]; exact P0), (by rw [e8]; exact P1), (by rw [e8]; exact own_arv (show ([] : List Value) = [] from by rfl) P3)⟩ (by decide) (by decide)
theorem d6_10 : decode prog_5_method_9_code 10 = .ok (.aload_n 0, 1) := by decide +kernel
theorem d6_11 : decode prog_5_method_9_code 11 = .ok (.getfield 7, 3) := by decide +kernel
theorem d6_14 : decode prog_5_method_9_code 14 = .ok (.iload_n 2, 1) := by decide +kernel
theorem d6_15 : decode prog_5_method_9_code 15 = .ok (.aload_n 0, 1) := by decide +kernel
theorem d6_16 : decode prog_5_method_9_code 16 = .ok (.getfield 7, 3) := by decide +kernel
theorem d6_19 : decode prog_5_method_9_code 19 = .ok (.iload_n 2, 1) := by decide +kernel
theorem d6_20 : decode prog_5_method_9_code 20 = .ok (.baload, 1) := by decide +kernel
theorem d6_21 : decode prog_5_method_9_code 21 = .ok (.iconst (-1), 1) := by decide +kernel
theorem d6_22 : decode prog_5_method_9_code 22 = .ok (.ixor, 1) := by decide +kernel
theorem d6_23 : decode prog_5_method_9_code 23 = .ok (.i2b, 1) := by decide +kernel
theorem d6_24 : decode prog_5_method_9_code 24 = .ok (.bastore, 1) := by decide +kernel
theorem d6_25 : decode prog_5_method_9_code 25 = .ok (.iinc 2 1, 3) := by decide +kernel
theorem d6_28 : decode prog_5_method_9_code 28 = .ok (.goto (-26), 3) := by decide +kernel
theorem ef_6_1 (m : MethodId) (x0 : Addr) (x1 : Int32) : entryFrame m #[(.ref x0), (.int x1)] 3 = mkF m 0 #[rv x0, iv x1, .unset] [] := by first | (simp [entryFrame, mkF, argsToLocals, Value.category]; done) | rfl
def Q6_1 (Z : State) (a0 : Addr) (p1 : Int32) (b : Addr) (k2 : ClassId) (w0 : Int32) (h0 : Heap) (n0 : Nat) (v : Option Value) (h : Heap) (L : List Loc) : Prop := v = some (.ref a0) ∧ Fr n0 L ∧ Keep h0 h [b] ∧ Fld Z h a0 "com/example/dani/dani/core/Key" "bytes" "[B" (.ref b) ∧ Fld Z h a0 "com/example/dani/dani/core/Key" "length" "I" (.int 1) ∧ Arv Z h b k2 .byte (64 : Int32) [(.int (own_r p1 (0 : Int32) w0))] (.int 0)
set_option maxRecDepth 65536 in
set_option maxHeartbeats 40000000 in
theorem rm6_1 (l : Launch) (Z : State) (aw : Array Value) (hw : ∀ d ∈ tables_1, d.before aw Z = true) (ws : List Jvm.Cond) (a0 : Addr) (p1 : Int32) (b : Addr) (k2 : ClassId) (w0 : Int32) (h0 : Heap) (n0 : Nat) (Z0 : n0 ≤ h0.size) (P0 : Fld Z h0 a0 "com/example/dani/dani/core/Key" "bytes" "[B" (.ref b)) (P1 : Fld Z h0 a0 "com/example/dani/dani/core/Key" "length" "I" (.int 1)) (P2 : Exa Z h0 a0 "com/example/dani/dani/core/Key") (P3 : Arv Z h0 b k2 .byte (64 : Int32) [(.int w0)] (.int 0)) (ge0 : n0 ≤ b) (nx0 : a0 ≠ b) (hs : p1 = (0 : Int32) ∨ p1 = (1 : Int32) ∨ p1 = (2 : Int32) ∨ p1 = (3 : Int32) ∨ p1 = (4 : Int32) ∨ p1 = (5 : Int32) ∨ p1 = (6 : Int32)) :
    MetFree l (⟨"com/example/dani/dani/core/Key", "reversedFrom", "(I)Lcom/example/dani/dani/core/Key;"⟩ : MethodName) (head1 (Jvm.Cond.code (⟨"com/example/dani/dani/core/Key", "reversedFrom", "(I)Lcom/example/dani/dani/core/Key;"⟩ : MethodName) prog_5_method_9_code 3 (some (.object "com/example/dani/dani/core/Key")) :: ws) ({ frames := 0, cells := 0, slots := 0, locals := 0 } : Room)) (fun a U => a = #[(.ref a0), (.int p1)] ∧ Z.Warmed39 U.vm ∧ U.heap = h0) (fun _ _ _ _ _ => True) (fun _ U o U' => ∃ v L, o = .returned v ∧ Q6_1 Z a0 p1 b k2 w0 h0 n0 v U'.heap L ∧ FrameEnd U o U' L ({ frames := 0, cells := 0, slots := 0, locals := 0 } : Room).cells ({ frames := 0, cells := 0, slots := 0, locals := 0 } : Room).slots) := by
  refine MetFree.of_bodySF (plainFor_of_name pn_6) hisR ?_
  intro p e s m args below meth c s₁ Bd hml0 hP hK
  obtain ⟨rfl, hZ, hh⟩ := hP
  have hx := Bd.exec
  have hby := Bd.bytes
  have hml : c.maxLocals = 3 := hml0
  have hown : s.vm.findClass "com/example/dani/dani/core/Key" = some m.cls := findClass_of_methodNamed Bd.named
  have hnm := (name_of_methodNamed Bd.named Bd.method).1
  have hlk : meth.locks = false := by first | exact BodyLoose.notSynchronized (by assumption) | exact Body.notSynchronized (by assumption)
  have X0 : Stand p l e ({ frames := 0, cells := 0, slots := 0, locals := 0 } : Room) s m #[(.ref a0), (.int p1)] below meth c s₁ [] 0 0 := Stand.of_body Bd
  have e0 : s₁.heap = h0 := by rw [← hh, Bd.state]; rfl
  have N0 := Fr.nil n0
  have K0 : Keep h0 h0 [b] := Keep.refl _ _
  refine own_start (CS := (0, 0)) (Q := (Q6_1 Z a0 p1 b k2 w0 h0 n0)) (ef_6_1 m a0 p1) ?_
  show own_Go p e below s _ _ (s₁.setTop (mkF m 0 #[rv a0, iv p1, .unset] []))
  rcases (hs : p1 = (0 : Int32) ∨ p1 = (1 : Int32) ∨ p1 = (2 : Int32) ∨ p1 = (3 : Int32) ∨ p1 = (4 : Int32) ∨ p1 = (5 : Int32) ∨ p1 = (6 : Int32)) with hl1 | hl1 | hl1 | hl1 | hl1 | hl1 | hl1
  · subst hl1
    show own_Go p e below s _ _ (s₁.setTop (mkF m 0 #[rv a0, iv 0, .unset] []))
    refine own_via (fun k => XS.iloadN X0.here hx rfl (hb hby d6_0) rfl  (XS.istoreN X0.here hx rfl (hb hby d6_1) rfl (l' := #[rv a0, iv 0, iv 0]) rfl (XS.iloadN X0.here hx rfl (hb hby d6_2) rfl  (XS.aloadN X0.here hx rfl (hb hby d6_3) rfl rfl  k)))) ?_
    show own_Go p e below s _ _ (s₁.setTop (mkF m 4 #[rv a0, iv 0, iv 0] [(.ref a0), (.int 0)]))
    obtain ⟨T2, X2, e2, st2⟩ := getF X0 hx hZ hown (host := "") (Or.inl (hw _ (List.mem_of_getElem? (i := 28) rfl))) Via.refl e0 P1 (g := (mkF m 4 #[rv a0, iv 0, iv 0] [(.ref a0), (.int 0)])) rfl rfl (hb hby d6_4)
    refine own_via (fun k => st2 _ k) ?_
    show own_Go p e below s _ _ (T2.setTop (mkF m 7 #[rv a0, iv 0, iv 0] [(.int 1), (.int 0)]))
    refine own_via (fun k => XS.icmpNo X2.here hx rfl (hb hby d6_7) rfl (by decide) k) ?_
    show own_Go p e below s _ _ (T2.setTop (mkF m 10 #[rv a0, iv 0, iv 0] []))
    refine own_via (fun k => XS.aloadN X2.here hx rfl (hb hby d6_10) rfl rfl  k) ?_
    show own_Go p e below s _ _ (T2.setTop (mkF m 11 #[rv a0, iv 0, iv 0] [(.ref a0)]))
    obtain ⟨T3, X3, e3, st3⟩ := getF X2 hx hZ hown (host := "") (Or.inl (hw _ (List.mem_of_getElem? (i := 11) rfl))) Via.refl e2 P0 (g := (mkF m 11 #[rv a0, iv 0, iv 0] [(.ref a0)])) rfl rfl (hb hby d6_11)
    refine own_via (fun k => st3 _ k) ?_
    show own_Go p e below s _ _ (T3.setTop (mkF m 14 #[rv a0, iv 0, iv 0] [(.ref b)]))
    refine own_via (fun k => XS.iloadN X3.here hx rfl (hb hby d6_14) rfl  (XS.aloadN X3.here hx rfl (hb hby d6_15) rfl rfl  k)) ?_
    show own_Go p e below s _ _ (T3.setTop (mkF m 16 #[rv a0, iv 0, iv 0] [(.ref a0), (.int 0), (.ref b)]))
    obtain ⟨T4, X4, e4, st4⟩ := getF X3 hx hZ hown (host := "") (Or.inl (hw _ (List.mem_of_getElem? (i := 11) rfl))) Via.refl e3 P0 (g := (mkF m 16 #[rv a0, iv 0, iv 0] [(.ref a0), (.int 0), (.ref b)])) rfl rfl (hb hby d6_16)
    refine own_via (fun k => st4 _ k) ?_
    show own_Go p e below s _ _ (T4.setTop (mkF m 19 #[rv a0, iv 0, iv 0] [(.ref b), (.int 0), (.ref b)]))
    refine own_via (fun k => XS.iloadN X4.here hx rfl (hb hby d6_19) rfl  k) ?_
    show own_Go p e below s _ _ (T4.setTop (mkF m 20 #[rv a0, iv 0, iv 0] [(.int 0), (.ref b), (.int 0), (.ref b)]))
    obtain ⟨cl5, Ar5, q5, S5, NN5, H5, G5⟩ := id P3
    have hin5 : ¬ ((0 : Int32) < 0 ∨ cl5.slots.size ≤ ((0 : Int32)).toNatClampNeg) := inb_of S5 ⟨by decide, by decide⟩
    have hat5 : cl5.slots[((0 : Int32)).toNatClampNeg]? = some (.int w0) := H5.at hin5 rfl
    refine own_via (fun k => X4.baloadBytes hx (j := (0 : Int32)) (v := (.int w0)) (by rw [e4]; exact Ar5.1) (State.isArrayOf_alike hZ.alike Ar5.2.1) Ar5.2.2 hin5 hat5 (g := (mkF m 20 #[rv a0, iv 0, iv 0] [(.int 0), (.ref b), (.int 0), (.ref b)])) rfl rfl (hb hby d6_20) _ k) ?_
    show own_Go p e below s _ _ (T4.setTop (mkF m 21 #[rv a0, iv 0, iv 0] [(.int w0), (.int 0), (.ref b)]))
    refine own_via (fun k => XS.iconst X4.here hx rfl (hb hby d6_21) (XS.ixor X4.here hx rfl (hb hby d6_22) rfl (XS.i2b X4.here hx rfl (hb hby d6_23) rfl k))) ?_
    show own_Go p e below s _ _ (T4.setTop (mkF m 24 #[rv a0, iv 0, iv 0] [(.int ((w0 ^^^ (-1 : Int32)).toInt8.toInt32)), (.int 0), (.ref b)]))
    obtain ⟨cl6, Ar6, q6, S6, NN6, H6, G6⟩ := id P3
    have hin6 : ¬ ((0 : Int32) < 0 ∨ cl6.slots.size ≤ ((0 : Int32)).toNatClampNeg) := inb_of S6 ⟨by decide, by decide⟩
    obtain ⟨T6, h6, X6, e6, W6, st6⟩ := stB X4 hx hZ e4 Ar6 (j := (0 : Int32)) hin6 (g := (mkF m 24 #[rv a0, iv 0, iv 0] [(.int ((w0 ^^^ (-1 : Int32)).toInt8.toInt32)), (.int 0), (.ref b)])) rfl rfl (hb hby d6_24)
    refine own_via (fun k => st6 _ k) ?_
    show own_Go p e below s _ _ (T6.setTop (mkF m 25 #[rv a0, iv 0, iv 0] []))
    have B7 := P0.other W6 (Or.inl nx0)
    have B8 := P1.other W6 (Or.inl nx0)
    have B9 := P2.wr W6
    have B10 : Arv Z h6 b k2 .byte (64 : Int32) [(.int (nar .byte ((w0 ^^^ (-1 : Int32)).toInt8.toInt32)))] (.int 0) := Arv.set Ar6 q6 S6 NN6 H6 G6 (fits_nar_byte _) W6 0 rfl (Nat.le_of_ble_eq_true rfl)
    have N11 := Fr.snoc X6 N0 ge0
    have K12 : Keep h0 h6 [b] := K0.wr W6 (Or.inl (List.mem_of_getElem? (i := 0) rfl))
    have Z13 : n0 ≤ h6.size := Nat.le_trans Z0 (Keep.of_wr W6).1
    refine own_via (fun k => XS.iinc X6.here hx rfl (hb hby d6_25) rfl (l' := #[rv a0, iv 0, iv 1]) rfl (XS.goto X6.here hx rfl (pc0 := 28) (pc' := 2) rfl (hb hby d6_28) (by decide) (by decide) (XS.iloadN X6.here hx rfl (hb hby d6_2) rfl  (XS.aloadN X6.here hx rfl (hb hby d6_3) rfl rfl  k)))) ?_
    show own_Go p e below s _ _ (T6.setTop (mkF m 4 #[rv a0, iv 0, iv 1] [(.ref a0), (.int 1)]))
    obtain ⟨T14, X14, e14, st14⟩ := getF X6 hx hZ hown (host := "") (Or.inl (hw _ (List.mem_of_getElem? (i := 28) rfl))) Via.refl e6 B8 (g := (mkF m 4 #[rv a0, iv 0, iv 1] [(.ref a0), (.int 1)])) rfl rfl (hb hby d6_4)
    refine own_via (fun k => st14 _ k) ?_
    show own_Go p e below s _ _ (T14.setTop (mkF m 7 #[rv a0, iv 0, iv 1] [(.int 1), (.int 1)]))
    refine own_via (fun k => XS.icmpYes X14.here hx rfl (pc0 := 7) (pc' := 31) rfl (hb hby d6_7) rfl (by decide) (by decide) (by decide) k) ?_
    show own_Go p e below s _ _ (T14.setTop (mkF m 31 #[rv a0, iv 0, iv 1] []))
    refine own_via (fun k => XS.aloadN X14.here hx rfl (hb hby d6_31) rfl rfl  k) ?_
    show own_Go p e below s _ _ (T14.setTop (mkF m 32 #[rv a0, iv 0, iv 1] [(.ref a0)]))
    exact own_retA X14 hx hlk rfl (t := (.object "com/example/dani/dani/core/Key")) Bd.returns rfl (hb hby d6_32) (Q := (Q6_1 Z a0 (0 : Int32) b k2 w0 h0 n0)) ⟨rfl, N11, (by rw [e14]; exact K12), (by rw [e14]; exact B7), (by rw [e14]; exact B8), (by rw [e14]; exact own_arv (show ([(.int (nar .byte ((w0 ^^^ (-1 : Int32)).toInt8.toInt32)))] : List Value) = [(.int (own_r (0 : Int32) (0 : Int32) w0))] from by rfl) B10)⟩ (by decide) (by decide)
  · subst hl1
    show own_Go p e below s _ _ (s₁.setTop (mkF m 0 #[rv a0, iv 1, .unset] []))
    refine own_via (fun k => XS.iloadN X0.here hx rfl (hb hby d6_0) rfl  (XS.istoreN X0.here hx rfl (hb hby d6_1) rfl (l' := #[rv a0, iv 1, iv 1]) rfl (XS.iloadN X0.here hx rfl (hb hby d6_2) rfl  (XS.aloadN X0.here hx rfl (hb hby d6_3) rfl rfl  k)))) ?_
    show own_Go p e below s _ _ (s₁.setTop (mkF m 4 #[rv a0, iv 1, iv 1] [(.ref a0), (.int 1)]))
    obtain ⟨T15, X15, e15, st15⟩ := getF X0 hx hZ hown (host := "") (Or.inl (hw _ (List.mem_of_getElem? (i := 28) rfl))) Via.refl e0 P1 (g := (mkF m 4 #[rv a0, iv 1, iv 1] [(.ref a0), (.int 1)])) rfl rfl (hb hby d6_4)
    refine own_via (fun k => st15 _ k) ?_
    show own_Go p e below s _ _ (T15.setTop (mkF m 7 #[rv a0, iv 1, iv 1] [(.int 1), (.int 1)]))
    refine own_via (fun k => XS.icmpYes X15.here hx rfl (pc0 := 7) (pc' := 31) rfl (hb hby d6_7) rfl (by decide) (by decide) (by decide) k) ?_
    show own_Go p e below s _ _ (T15.setTop (mkF m 31 #[rv a0, iv 1, iv 1] []))
    refine own_via (fun k => XS.aloadN X15.here hx rfl (hb hby d6_31) rfl rfl  k) ?_
    show own_Go p e below s _ _ (T15.setTop (mkF m 32 #[rv a0, iv 1, iv 1] [(.ref a0)]))
    exact own_retA X15 hx hlk rfl (t := (.object "com/example/dani/dani/core/Key")) Bd.returns rfl (hb hby d6_32) (Q := (Q6_1 Z a0 (1 : Int32) b k2 w0 h0 n0)) ⟨rfl, N0, (by rw [e15]; exact K0), (by rw [e15]; exact P0), (by rw [e15]; exact P1), (by rw [e15]; exact own_arv (show ([(.int w0)] : List Value) = [(.int (own_r (1 : Int32) (0 : Int32) w0))] from by rfl) P3)⟩ (by decide) (by decide)
  · subst hl1
    show own_Go p e below s _ _ (s₁.setTop (mkF m 0 #[rv a0, iv 2, .unset] []))
    refine own_via (fun k => XS.iloadN X0.here hx rfl (hb hby d6_0) rfl  (XS.istoreN X0.here hx rfl (hb hby d6_1) rfl (l' := #[rv a0, iv 2, iv 2]) rfl (XS.iloadN X0.here hx rfl (hb hby d6_2) rfl  (XS.aloadN X0.here hx rfl (hb hby d6_3) rfl rfl  k)))) ?_
    show own_Go p e below s _ _ (s₁.setTop (mkF m 4 #[rv a0, iv 2, iv 2] [(.ref a0), (.int 2)]))
    obtain ⟨T16, X16, e16, st16⟩ := getF X0 hx hZ hown (host := "") (Or.inl (hw _ (List.mem_of_getElem? (i := 28) rfl))) Via.refl e0 P1 (g := (mkF m 4 #[rv a0, iv 2, iv 2] [(.ref a0), (.int 2)])) rfl rfl (hb hby d6_4)
    refine own_via (fun k => st16 _ k) ?_
    show own_Go p e below s _ _ (T16.setTop (mkF m 7 #[rv a0, iv 2, iv 2] [(.int 1), (.int 2)]))
    refine own_via (fun k => XS.icmpYes X16.here hx rfl (pc0 := 7) (pc' := 31) rfl (hb hby d6_7) rfl (by decide) (by decide) (by decide) k) ?_
    show own_Go p e below s _ _ (T16.setTop (mkF m 31 #[rv a0, iv 2, iv 2] []))
    refine own_via (fun k => XS.aloadN X16.here hx rfl (hb hby d6_31) rfl rfl  k) ?_
    show own_Go p e below s _ _ (T16.setTop (mkF m 32 #[rv a0, iv 2, iv 2] [(.ref a0)]))
    exact own_retA X16 hx hlk rfl (t := (.object "com/example/dani/dani/core/Key")) Bd.returns rfl (hb hby d6_32) (Q := (Q6_1 Z a0 (2 : Int32) b k2 w0 h0 n0)) ⟨rfl, N0, (by rw [e16]; exact K0), (by rw [e16]; exact P0), (by rw [e16]; exact P1), (by rw [e16]; exact own_arv (show ([(.int w0)] : List Value) = [(.int (own_r (2 : Int32) (0 : Int32) w0))] from by rfl) P3)⟩ (by decide) (by decide)
  · subst hl1
    show own_Go p e below s _ _ (s₁.setTop (mkF m 0 #[rv a0, iv 3, .unset] []))
    refine own_via (fun k => XS.iloadN X0.here hx rfl (hb hby d6_0) rfl  (XS.istoreN X0.here hx rfl (hb hby d6_1) rfl (l' := #[rv a0, iv 3, iv 3]) rfl (XS.iloadN X0.here hx rfl (hb hby d6_2) rfl  (XS.aloadN X0.here hx rfl (hb hby d6_3) rfl rfl  k)))) ?_
    show own_Go p e below s _ _ (s₁.setTop (mkF m 4 #[rv a0, iv 3, iv 3] [(.ref a0), (.int 3)]))
    obtain ⟨T17, X17, e17, st17⟩ := getF X0 hx hZ hown (host := "") (Or.inl (hw _ (List.mem_of_getElem? (i := 28) rfl))) Via.refl e0 P1 (g := (mkF m 4 #[rv a0, iv 3, iv 3] [(.ref a0), (.int 3)])) rfl rfl (hb hby d6_4)
    refine own_via (fun k => st17 _ k) ?_
    show own_Go p e below s _ _ (T17.setTop (mkF m 7 #[rv a0, iv 3, iv 3] [(.int 1), (.int 3)]))
    refine own_via (fun k => XS.icmpYes X17.here hx rfl (pc0 := 7) (pc' := 31) rfl (hb hby d6_7) rfl (by decide) (by decide) (by decide) k) ?_
    show own_Go p e below s _ _ (T17.setTop (mkF m 31 #[rv a0, iv 3, iv 3] []))
    refine own_via (fun k => XS.aloadN X17.here hx rfl (hb hby d6_31) rfl rfl  k) ?_
    show own_Go p e below s _ _ (T17.setTop (mkF m 32 #[rv a0, iv 3, iv 3] [(.ref a0)]))
    exact own_retA X17 hx hlk rfl (t := (.object "com/example/dani/dani/core/Key")) Bd.returns rfl (hb hby d6_32) (Q := (Q6_1 Z a0 (3 : Int32) b k2 w0 h0 n0)) ⟨rfl, N0, (by rw [e17]; exact K0), (by rw [e17]; exact P0), (by rw [e17]; exact P1), (by rw [e17]; exact own_arv (show ([(.int w0)] : List Value) = [(.int (own_r (3 : Int32) (0 : Int32) w0))] from by rfl) P3)⟩ (by decide) (by decide)
  · subst hl1
    show own_Go p e below s _ _ (s₁.setTop (mkF m 0 #[rv a0, iv 4, .unset] []))
    refine own_via (fun k => XS.iloadN X0.here hx rfl (hb hby d6_0) rfl  (XS.istoreN X0.here hx rfl (hb hby d6_1) rfl (l' := #[rv a0, iv 4, iv 4]) rfl (XS.iloadN X0.here hx rfl (hb hby d6_2) rfl  (XS.aloadN X0.here hx rfl (hb hby d6_3) rfl rfl  k)))) ?_
    show own_Go p e below s _ _ (s₁.setTop (mkF m 4 #[rv a0, iv 4, iv 4] [(.ref a0), (.int 4)]))
    obtain ⟨T18, X18, e18, st18⟩ := getF X0 hx hZ hown (host := "") (Or.inl (hw _ (List.mem_of_getElem? (i := 28) rfl))) Via.refl e0 P1 (g := (mkF m 4 #[rv a0, iv 4, iv 4] [(.ref a0), (.int 4)])) rfl rfl (hb hby d6_4)
    refine own_via (fun k => st18 _ k) ?_
    show own_Go p e below s _ _ (T18.setTop (mkF m 7 #[rv a0, iv 4, iv 4] [(.int 1), (.int 4)]))
    refine own_via (fun k => XS.icmpYes X18.here hx rfl (pc0 := 7) (pc' := 31) rfl (hb hby d6_7) rfl (by decide) (by decide) (by decide) k) ?_
    show own_Go p e below s _ _ (T18.setTop (mkF m 31 #[rv a0, iv 4, iv 4] []))
    refine own_via (fun k => XS.aloadN X18.here hx rfl (hb hby d6_31) rfl rfl  k) ?_
    show own_Go p e below s _ _ (T18.setTop (mkF m 32 #[rv a0, iv 4, iv 4] [(.ref a0)]))
    exact own_retA X18 hx hlk rfl (t := (.object "com/example/dani/dani/core/Key")) Bd.returns rfl (hb hby d6_32) (Q := (Q6_1 Z a0 (4 : Int32) b k2 w0 h0 n0)) ⟨rfl, N0, (by rw [e18]; exact K0), (by rw [e18]; exact P0), (by rw [e18]; exact P1), (by rw [e18]; exact own_arv (show ([(.int w0)] : List Value) = [(.int (own_r (4 : Int32) (0 : Int32) w0))] from by rfl) P3)⟩ (by decide) (by decide)
  · subst hl1
    show own_Go p e below s _ _ (s₁.setTop (mkF m 0 #[rv a0, iv 5, .unset] []))
    refine own_via (fun k => XS.iloadN X0.here hx rfl (hb hby d6_0) rfl  (XS.istoreN X0.here hx rfl (hb hby d6_1) rfl (l' := #[rv a0, iv 5, iv 5]) rfl (XS.iloadN X0.here hx rfl (hb hby d6_2) rfl  (XS.aloadN X0.here hx rfl (hb hby d6_3) rfl rfl  k)))) ?_
    show own_Go p e below s _ _ (s₁.setTop (mkF m 4 #[rv a0, iv 5, iv 5] [(.ref a0), (.int 5)]))
    obtain ⟨T19, X19, e19, st19⟩ := getF X0 hx hZ hown (host := "") (Or.inl (hw _ (List.mem_of_getElem? (i := 28) rfl))) Via.refl e0 P1 (g := (mkF m 4 #[rv a0, iv 5, iv 5] [(.ref a0), (.int 5)])) rfl rfl (hb hby d6_4)
    refine own_via (fun k => st19 _ k) ?_
    show own_Go p e below s _ _ (T19.setTop (mkF m 7 #[rv a0, iv 5, iv 5] [(.int 1), (.int 5)]))
    refine own_via (fun k => XS.icmpYes X19.here hx rfl (pc0 := 7) (pc' := 31) rfl (hb hby d6_7) rfl (by decide) (by decide) (by decide) k) ?_
    show own_Go p e below s _ _ (T19.setTop (mkF m 31 #[rv a0, iv 5, iv 5] []))
    refine own_via (fun k => XS.aloadN X19.here hx rfl (hb hby d6_31) rfl rfl  k) ?_
    show own_Go p e below s _ _ (T19.setTop (mkF m 32 #[rv a0, iv 5, iv 5] [(.ref a0)]))
    exact own_retA X19 hx hlk rfl (t := (.object "com/example/dani/dani/core/Key")) Bd.returns rfl (hb hby d6_32) (Q := (Q6_1 Z a0 (5 : Int32) b k2 w0 h0 n0)) ⟨rfl, N0, (by rw [e19]; exact K0), (by rw [e19]; exact P0), (by rw [e19]; exact P1), (by rw [e19]; exact own_arv (show ([(.int w0)] : List Value) = [(.int (own_r (5 : Int32) (0 : Int32) w0))] from by rfl) P3)⟩ (by decide) (by decide)
  · subst hl1
    show own_Go p e below s _ _ (s₁.setTop (mkF m 0 #[rv a0, iv 6, .unset] []))
    refine own_via (fun k => XS.iloadN X0.here hx rfl (hb hby d6_0) rfl  (XS.istoreN X0.here hx rfl (hb hby d6_1) rfl (l' := #[rv a0, iv 6, iv 6]) rfl (XS.iloadN X0.here hx rfl (hb hby d6_2) rfl  (XS.aloadN X0.here hx rfl (hb hby d6_3) rfl rfl  k)))) ?_
    show own_Go p e below s _ _ (s₁.setTop (mkF m 4 #[rv a0, iv 6, iv 6] [(.ref a0), (.int 6)]))
    obtain ⟨T20, X20, e20, st20⟩ := getF X0 hx hZ hown (host := "") (Or.inl (hw _ (List.mem_of_getElem? (i := 28) rfl))) Via.refl e0 P1 (g := (mkF m 4 #[rv a0, iv 6, iv 6] [(.ref a0), (.int 6)])) rfl rfl (hb hby d6_4)
    refine own_via (fun k => st20 _ k) ?_
    show own_Go p e below s _ _ (T20.setTop (mkF m 7 #[rv a0, iv 6, iv 6] [(.int 1), (.int 6)]))
    refine own_via (fun k => XS.icmpYes X20.here hx rfl (pc0 := 7) (pc' := 31) rfl (hb hby d6_7) rfl (by decide) (by decide) (by decide) k) ?_
    show own_Go p e below s _ _ (T20.setTop (mkF m 31 #[rv a0, iv 6, iv 6] []))
    refine own_via (fun k => XS.aloadN X20.here hx rfl (hb hby d6_31) rfl rfl  k) ?_
    show own_Go p e below s _ _ (T20.setTop (mkF m 32 #[rv a0, iv 6, iv 6] [(.ref a0)]))
    exact own_retA X20 hx hlk rfl (t := (.object "com/example/dani/dani/core/Key")) Bd.returns rfl (hb hby d6_32) (Q := (Q6_1 Z a0 (6 : Int32) b k2 w0 h0 n0)) ⟨rfl, N0, (by rw [e20]; exact K0), (by rw [e20]; exact P0), (by rw [e20]; exact P1), (by rw [e20]; exact own_arv (show ([(.int w0)] : List Value) = [(.int (own_r (6 : Int32) (0 : Int32) w0))] from by rfl) P3)⟩ (by decide) (by decide)
theorem ef_6_2 (m : MethodId) (x0 : Addr) (x1 : Int32) : entryFrame m #[(.ref x0), (.int x1)] 3 = mkF m 0 #[rv x0, iv x1, .unset] [] := by first | (simp [entryFrame, mkF, argsToLocals, Value.category]; done) | rfl
def Q6_2 (Z : State) (a0 : Addr) (p1 : Int32) (b : Addr) (k2 : ClassId) (w0 : Int32) (w1 : Int32) (h0 : Heap) (n0 : Nat) (v : Option Value) (h : Heap) (L : List Loc) : Prop := v = some (.ref a0) ∧ Fr n0 L ∧ Keep h0 h [b] ∧ Fld Z h a0 "com/example/dani/dani/core/Key" "bytes" "[B" (.ref b) ∧ Fld Z h a0 "com/example/dani/dani/core/Key" "length" "I" (.int 2) ∧ Arv Z h b k2 .byte (64 : Int32) [(.int (own_r p1 (0 : Int32) w0)), (.int (own_r p1 (1 : Int32) w1))] (.int 0)
set_option maxRecDepth 65536 in
set_option maxHeartbeats 40000000 in
theorem rm6_2 (l : Launch) (Z : State) (aw : Array Value) (hw : ∀ d ∈ tables_1, d.before aw Z = true) (ws : List Jvm.Cond) (a0 : Addr) (p1 : Int32) (b : Addr) (k2 : ClassId) (w0 : Int32) (w1 : Int32) (h0 : Heap) (n0 : Nat) (Z0 : n0 ≤ h0.size) (P0 : Fld Z h0 a0 "com/example/dani/dani/core/Key" "bytes" "[B" (.ref b)) (P1 : Fld Z h0 a0 "com/example/dani/dani/core/Key" "length" "I" (.int 2)) (P2 : Exa Z h0 a0 "com/example/dani/dani/core/Key") (P3 : Arv Z h0 b k2 .byte (64 : Int32) [(.int w0), (.int w1)] (.int 0)) (ge0 : n0 ≤ b) (nx0 : a0 ≠ b) (hs : p1 = (0 : Int32) ∨ p1 = (1 : Int32) ∨ p1 = (2 : Int32) ∨ p1 = (3 : Int32) ∨ p1 = (4 : Int32) ∨ p1 = (5 : Int32) ∨ p1 = (6 : Int32)) :
    MetFree l (⟨"com/example/dani/dani/core/Key", "reversedFrom", "(I)Lcom/example/dani/dani/core/Key;"⟩ : MethodName) (head1 (Jvm.Cond.code (⟨"com/example/dani/dani/core/Key", "reversedFrom", "(I)Lcom/example/dani/dani/core/Key;"⟩ : MethodName) prog_5_method_9_code 3 (some (.object "com/example/dani/dani/core/Key")) :: ws) ({ frames := 0, cells := 0, slots := 0, locals := 0 } : Room)) (fun a U => a = #[(.ref a0), (.int p1)] ∧ Z.Warmed39 U.vm ∧ U.heap = h0) (fun _ _ _ _ _ => True) (fun _ U o U' => ∃ v L, o = .returned v ∧ Q6_2 Z a0 p1 b k2 w0 w1 h0 n0 v U'.heap L ∧ FrameEnd U o U' L ({ frames := 0, cells := 0, slots := 0, locals := 0 } : Room).cells ({ frames := 0, cells := 0, slots := 0, locals := 0 } : Room).slots) := by
  refine MetFree.of_bodySF (plainFor_of_name pn_6) hisR ?_
  intro p e s m args below meth c s₁ Bd hml0 hP hK
  obtain ⟨rfl, hZ, hh⟩ := hP
  have hx := Bd.exec
  have hby := Bd.bytes
  have hml : c.maxLocals = 3 := hml0
  have hown : s.vm.findClass "com/example/dani/dani/core/Key" = some m.cls := findClass_of_methodNamed Bd.named
  have hnm := (name_of_methodNamed Bd.named Bd.method).1
  have hlk : meth.locks = false := by first | exact BodyLoose.notSynchronized (by assumption) | exact Body.notSynchronized (by assumption)
  have X0 : Stand p l e ({ frames := 0, cells := 0, slots := 0, locals := 0 } : Room) s m #[(.ref a0), (.int p1)] below meth c s₁ [] 0 0 := Stand.of_body Bd
  have e0 : s₁.heap = h0 := by rw [← hh, Bd.state]; rfl
  have N0 := Fr.nil n0
  have K0 : Keep h0 h0 [b] := Keep.refl _ _
  refine own_start (CS := (0, 0)) (Q := (Q6_2 Z a0 p1 b k2 w0 w1 h0 n0)) (ef_6_2 m a0 p1) ?_
  show own_Go p e below s _ _ (s₁.setTop (mkF m 0 #[rv a0, iv p1, .unset] []))
  rcases (hs : p1 = (0 : Int32) ∨ p1 = (1 : Int32) ∨ p1 = (2 : Int32) ∨ p1 = (3 : Int32) ∨ p1 = (4 : Int32) ∨ p1 = (5 : Int32) ∨ p1 = (6 : Int32)) with hl1 | hl1 | hl1 | hl1 | hl1 | hl1 | hl1
  · subst hl1
    show own_Go p e below s _ _ (s₁.setTop (mkF m 0 #[rv a0, iv 0, .unset] []))
    refine own_via (fun k => XS.iloadN X0.here hx rfl (hb hby d6_0) rfl  (XS.istoreN X0.here hx rfl (hb hby d6_1) rfl (l' := #[rv a0, iv 0, iv 0]) rfl (XS.iloadN X0.here hx rfl (hb hby d6_2) rfl  (XS.aloadN X0.here hx rfl (hb hby d6_3) rfl rfl  k)))) ?_
    show own_Go p e below s _ _ (s₁.setTop (mkF m 4 #[rv a0, iv 0, iv 0] [(.ref a0), (.int 0)]))
    obtain ⟨T2, X2, e2, st2⟩ := getF X0 hx hZ hown (host := "") (Or.inl (hw _ (List.mem_of_getElem? (i := 28) rfl))) Via.refl e0 P1 (g := (mkF m 4 #[rv a0, iv 0, iv 0] [(.ref a0), (.int 0)])) rfl rfl (hb hby d6_4)
    refine own_via (fun k => st2 _ k) ?_
    show own_Go p e below s _ _ (T2.setTop (mkF m 7 #[rv a0, iv 0, iv 0] [(.int 2), (.int 0)]))
    refine own_via (fun k => XS.icmpNo X2.here hx rfl (hb hby d6_7) rfl (by decide) k) ?_
    show own_Go p e below s _ _ (T2.setTop (mkF m 10 #[rv a0, iv 0, iv 0] []))
    refine own_via (fun k => XS.aloadN X2.here hx rfl (hb hby d6_10) rfl rfl  k) ?_
    show own_Go p e below s _ _ (T2.setTop (mkF m 11 #[rv a0, iv 0, iv 0] [(.ref a0)]))
    obtain ⟨T3, X3, e3, st3⟩ := getF X2 hx hZ hown (host := "") (Or.inl (hw _ (List.mem_of_getElem? (i := 11) rfl))) Via.refl e2 P0 (g := (mkF m 11 #[rv a0, iv 0, iv 0] [(.ref a0)])) rfl rfl (hb hby d6_11)
    refine own_via (fun k => st3 _ k) ?_
    show own_Go p e below s _ _ (T3.setTop (mkF m 14 #[rv a0, iv 0, iv 0] [(.ref b)]))
    refine own_via (fun k => XS.iloadN X3.here hx rfl (hb hby d6_14) rfl  (XS.aloadN X3.here hx rfl (hb hby d6_15) rfl rfl  k)) ?_
    show own_Go p e below s _ _ (T3.setTop (mkF m 16 #[rv a0, iv 0, iv 0] [(.ref a0), (.int 0), (.ref b)]))
    obtain ⟨T4, X4, e4, st4⟩ := getF X3 hx hZ hown (host := "") (Or.inl (hw _ (List.mem_of_getElem? (i := 11) rfl))) Via.refl e3 P0 (g := (mkF m 16 #[rv a0, iv 0, iv 0] [(.ref a0), (.int 0), (.ref b)])) rfl rfl (hb hby d6_16)
    refine own_via (fun k => st4 _ k) ?_
    show own_Go p e below s _ _ (T4.setTop (mkF m 19 #[rv a0, iv 0, iv 0] [(.ref b), (.int 0), (.ref b)]))
    refine own_via (fun k => XS.iloadN X4.here hx rfl (hb hby d6_19) rfl  k) ?_
    show own_Go p e below s _ _ (T4.setTop (mkF m 20 #[rv a0, iv 0, iv 0] [(.int 0), (.ref b), (.int 0), (.ref b)]))
    obtain ⟨cl5, Ar5, q5, S5, NN5, H5, G5⟩ := id P3
    have hin5 : ¬ ((0 : Int32) < 0 ∨ cl5.slots.size ≤ ((0 : Int32)).toNatClampNeg) := inb_of S5 ⟨by decide, by decide⟩
    have hat5 : cl5.slots[((0 : Int32)).toNatClampNeg]? = some (.int w0) := H5.at hin5 rfl
    refine own_via (fun k => X4.baloadBytes hx (j := (0 : Int32)) (v := (.int w0)) (by rw [e4]; exact Ar5.1) (State.isArrayOf_alike hZ.alike Ar5.2.1) Ar5.2.2 hin5 hat5 (g := (mkF m 20 #[rv a0, iv 0, iv 0] [(.int 0), (.ref b), (.int 0), (.ref b)])) rfl rfl (hb hby d6_20) _ k) ?_
    show own_Go p e below s _ _ (T4.setTop (mkF m 21 #[rv a0, iv 0, iv 0] [(.int w0), (.int 0), (.ref b)]))
    refine own_via (fun k => XS.iconst X4.here hx rfl (hb hby d6_21) (XS.ixor X4.here hx rfl (hb hby d6_22) rfl (XS.i2b X4.here hx rfl (hb hby d6_23) rfl k))) ?_
    show own_Go p e below s _ _ (T4.setTop (mkF m 24 #[rv a0, iv 0, iv 0] [(.int ((w0 ^^^ (-1 : Int32)).toInt8.toInt32)), (.int 0), (.ref b)]))
    obtain ⟨cl6, Ar6, q6, S6, NN6, H6, G6⟩ := id P3
    have hin6 : ¬ ((0 : Int32) < 0 ∨ cl6.slots.size ≤ ((0 : Int32)).toNatClampNeg) := inb_of S6 ⟨by decide, by decide⟩
    obtain ⟨T6, h6, X6, e6, W6, st6⟩ := stB X4 hx hZ e4 Ar6 (j := (0 : Int32)) hin6 (g := (mkF m 24 #[rv a0, iv 0, iv 0] [(.int ((w0 ^^^ (-1 : Int32)).toInt8.toInt32)), (.int 0), (.ref b)])) rfl rfl (hb hby d6_24)
    refine own_via (fun k => st6 _ k) ?_
    show own_Go p e below s _ _ (T6.setTop (mkF m 25 #[rv a0, iv 0, iv 0] []))
    have B7 := P0.other W6 (Or.inl nx0)
    have B8 := P1.other W6 (Or.inl nx0)
    have B9 := P2.wr W6
    have B10 : Arv Z h6 b k2 .byte (64 : Int32) [(.int (nar .byte ((w0 ^^^ (-1 : Int32)).toInt8.toInt32))), (.int w1)] (.int 0) := Arv.set Ar6 q6 S6 NN6 H6 G6 (fits_nar_byte _) W6 0 rfl (Nat.le_of_ble_eq_true rfl)
    have N11 := Fr.snoc X6 N0 ge0
    have K12 : Keep h0 h6 [b] := K0.wr W6 (Or.inl (List.mem_of_getElem? (i := 0) rfl))
    have Z13 : n0 ≤ h6.size := Nat.le_trans Z0 (Keep.of_wr W6).1
    refine own_via (fun k => XS.iinc X6.here hx rfl (hb hby d6_25) rfl (l' := #[rv a0, iv 0, iv 1]) rfl (XS.goto X6.here hx rfl (pc0 := 28) (pc' := 2) rfl (hb hby d6_28) (by decide) (by decide) (XS.iloadN X6.here hx rfl (hb hby d6_2) rfl  (XS.aloadN X6.here hx rfl (hb hby d6_3) rfl rfl  k)))) ?_
    show own_Go p e below s _ _ (T6.setTop (mkF m 4 #[rv a0, iv 0, iv 1] [(.ref a0), (.int 1)]))
    obtain ⟨T14, X14, e14, st14⟩ := getF X6 hx hZ hown (host := "") (Or.inl (hw _ (List.mem_of_getElem? (i := 28) rfl))) Via.refl e6 B8 (g := (mkF m 4 #[rv a0, iv 0, iv 1] [(.ref a0), (.int 1)])) rfl rfl (hb hby d6_4)
    refine own_via (fun k => st14 _ k) ?_
    show own_Go p e below s _ _ (T14.setTop (mkF m 7 #[rv a0, iv 0, iv 1] [(.int 2), (.int 1)]))
    refine own_via (fun k => XS.icmpNo X14.here hx rfl (hb hby d6_7) rfl (by decide) k) ?_
    show own_Go p e below s _ _ (T14.setTop (mkF m 10 #[rv a0, iv 0, iv 1] []))
    refine own_via (fun k => XS.aloadN X14.here hx rfl (hb hby d6_10) rfl rfl  k) ?_
    show own_Go p e below s _ _ (T14.setTop (mkF m 11 #[rv a0, iv 0, iv 1] [(.ref a0)]))
    obtain ⟨T15, X15, e15, st15⟩ := getF X14 hx hZ hown (host := "") (Or.inl (hw _ (List.mem_of_getElem? (i := 11) rfl))) Via.refl e14 B7 (g := (mkF m 11 #[rv a0, iv 0, iv 1] [(.ref a0)])) rfl rfl (hb hby d6_11)
    refine own_via (fun k => st15 _ k) ?_
    show own_Go p e below s _ _ (T15.setTop (mkF m 14 #[rv a0, iv 0, iv 1] [(.ref b)]))
    refine own_via (fun k => XS.iloadN X15.here hx rfl (hb hby d6_14) rfl  (XS.aloadN X15.here hx rfl (hb hby d6_15) rfl rfl  k)) ?_
    show own_Go p e below s _ _ (T15.setTop (mkF m 16 #[rv a0, iv 0, iv 1] [(.ref a0), (.int 1), (.ref b)]))
    obtain ⟨T16, X16, e16, st16⟩ := getF X15 hx hZ hown (host := "") (Or.inl (hw _ (List.mem_of_getElem? (i := 11) rfl))) Via.refl e15 B7 (g := (mkF m 16 #[rv a0, iv 0, iv 1] [(.ref a0), (.int 1), (.ref b)])) rfl rfl (hb hby d6_16)
    refine own_via (fun k => st16 _ k) ?_
    show own_Go p e below s _ _ (T16.setTop (mkF m 19 #[rv a0, iv 0, iv 1] [(.ref b), (.int 1), (.ref b)]))
    refine own_via (fun k => XS.iloadN X16.here hx rfl (hb hby d6_19) rfl  k) ?_
    show own_Go p e below s _ _ (T16.setTop (mkF m 20 #[rv a0, iv 0, iv 1] [(.int 1), (.ref b), (.int 1), (.ref b)]))
    obtain ⟨cl17, Ar17, q17, S17, NN17, H17, G17⟩ := id B10
    have hin17 : ¬ ((1 : Int32) < 0 ∨ cl17.slots.size ≤ ((1 : Int32)).toNatClampNeg) := inb_of S17 ⟨by decide, by decide⟩
    have hat17 : cl17.slots[((1 : Int32)).toNatClampNeg]? = some (.int w1) := H17.at hin17 rfl
    refine own_via (fun k => X16.baloadBytes hx (j := (1 : Int32)) (v := (.int w1)) (by rw [e16]; exact Ar17.1) (State.isArrayOf_alike hZ.alike Ar17.2.1) Ar17.2.2 hin17 hat17 (g := (mkF m 20 #[rv a0, iv 0, iv 1] [(.int 1), (.ref b), (.int 1), (.ref b)])) rfl rfl (hb hby d6_20) _ k) ?_
    show own_Go p e below s _ _ (T16.setTop (mkF m 21 #[rv a0, iv 0, iv 1] [(.int w1), (.int 1), (.ref b)]))
    refine own_via (fun k => XS.iconst X16.here hx rfl (hb hby d6_21) (XS.ixor X16.here hx rfl (hb hby d6_22) rfl (XS.i2b X16.here hx rfl (hb hby d6_23) rfl k))) ?_
    show own_Go p e below s _ _ (T16.setTop (mkF m 24 #[rv a0, iv 0, iv 1] [(.int ((w1 ^^^ (-1 : Int32)).toInt8.toInt32)), (.int 1), (.ref b)]))
    obtain ⟨cl18, Ar18, q18, S18, NN18, H18, G18⟩ := id B10
    have hin18 : ¬ ((1 : Int32) < 0 ∨ cl18.slots.size ≤ ((1 : Int32)).toNatClampNeg) := inb_of S18 ⟨by decide, by decide⟩
    obtain ⟨T18, h18, X18, e18, W18, st18⟩ := stB X16 hx hZ e16 Ar18 (j := (1 : Int32)) hin18 (g := (mkF m 24 #[rv a0, iv 0, iv 1] [(.int ((w1 ^^^ (-1 : Int32)).toInt8.toInt32)), (.int 1), (.ref b)])) rfl rfl (hb hby d6_24)
    refine own_via (fun k => st18 _ k) ?_
    show own_Go p e below s _ _ (T18.setTop (mkF m 25 #[rv a0, iv 0, iv 1] []))
    have B19 := B7.other W18 (Or.inl nx0)
    have B20 := B8.other W18 (Or.inl nx0)
    have B21 := B9.wr W18
    have B22 : Arv Z h18 b k2 .byte (64 : Int32) [(.int (nar .byte ((w0 ^^^ (-1 : Int32)).toInt8.toInt32))), (.int (nar .byte ((w1 ^^^ (-1 : Int32)).toInt8.toInt32)))] (.int 0) := Arv.set Ar18 q18 S18 NN18 H18 G18 (fits_nar_byte _) W18 1 rfl (Nat.le_of_ble_eq_true rfl)
    have N23 := Fr.snoc X18 N11 ge0
    have K24 : Keep h0 h18 [b] := K12.wr W18 (Or.inl (List.mem_of_getElem? (i := 0) rfl))
    have Z25 : n0 ≤ h18.size := Nat.le_trans Z13 (Keep.of_wr W18).1
    refine own_via (fun k => XS.iinc X18.here hx rfl (hb hby d6_25) rfl (l' := #[rv a0, iv 0, iv 2]) rfl (XS.goto X18.here hx rfl (pc0 := 28) (pc' := 2) rfl (hb hby d6_28) (by decide) (by decide) (XS.iloadN X18.here hx rfl (hb hby d6_2) rfl  (XS.aloadN X18.here hx rfl (hb hby d6_3) rfl rfl  k)))) ?_
    show own_Go p e below s _ _ (T18.setTop (mkF m 4 #[rv a0, iv 0, iv 2] [(.ref a0), (.int 2)]))
    obtain ⟨T26, X26, e26, st26⟩ := getF X18 hx hZ hown (host := "") (Or.inl (hw _ (List.mem_of_getElem? (i := 28) rfl))) Via.refl e18 B20 (g := (mkF m 4 #[rv a0, iv 0, iv 2] [(.ref a0), (.int 2)])) rfl rfl (hb hby d6_4)
    refine own_via (fun k => st26 _ k) ?_
    show own_Go p e below s _ _ (T26.setTop (mkF m 7 #[rv a0, iv 0, iv 2] [(.int 2), (.int 2)]))
    refine own_via (fun k => XS.icmpYes X26.here hx rfl (pc0 := 7) (pc' := 31) rfl (hb hby d6_7) rfl (by decide) (by decide) (by decide) k) ?_
    show own_Go p e below s _ _ (T26.setTop (mkF m 31 #[rv a0, iv 0, iv 2] []))
    refine own_via (fun k => XS.aloadN X26.here hx rfl (hb hby d6_31) rfl rfl  k) ?_
    show own_Go p e below s _ _ (T26.setTop (mkF m 32 #[rv a0, iv 0, iv 2] [(.ref a0)]))
    exact own_retA X26 hx hlk rfl (t := (.object "com/example/dani/dani/core/Key")) Bd.returns rfl (hb hby d6_32) (Q := (Q6_2 Z a0 (0 : Int32) b k2 w0 w1 h0 n0)) ⟨rfl, N23, (by rw [e26]; exact K24), (by rw [e26]; exact B19), (by rw [e26]; exact B20), (by rw [e26]; exact own_arv (show ([(.int (nar .byte ((w0 ^^^ (-1 : Int32)).toInt8.toInt32))), (.int (nar .byte ((w1 ^^^ (-1 : Int32)).toInt8.toInt32)))] : List Value) = [(.int (own_r (0 : Int32) (0 : Int32) w0)), (.int (own_r (0 : Int32) (1 : Int32) w1))] from by rfl) B22)⟩ (by decide) (by decide)
  · subst hl1
    show own_Go p e below s _ _ (s₁.setTop (mkF m 0 #[rv a0, iv 1, .unset] []))
    refine own_via (fun k => XS.iloadN X0.here hx rfl (hb hby d6_0) rfl  (XS.istoreN X0.here hx rfl (hb hby d6_1) rfl (l' := #[rv a0, iv 1, iv 1]) rfl (XS.iloadN X0.here hx rfl (hb hby d6_2) rfl  (XS.aloadN X0.here hx rfl (hb hby d6_3) rfl rfl  k)))) ?_
    show own_Go p e below s _ _ (s₁.setTop (mkF m 4 #[rv a0, iv 1, iv 1] [(.ref a0), (.int 1)]))
    obtain ⟨T27, X27, e27, st27⟩ := getF X0 hx hZ hown (host := "") (Or.inl (hw _ (List.mem_of_getElem? (i := 28) rfl))) Via.refl e0 P1 (g := (mkF m 4 #[rv a0, iv 1, iv 1] [(.ref a0), (.int 1)])) rfl rfl (hb hby d6_4)
    refine own_via (fun k => st27 _ k) ?_
    show own_Go p e below s _ _ (T27.setTop (mkF m 7 #[rv a0, iv 1, iv 1] [(.int 2), (.int 1)]))
    refine own_via (fun k => XS.icmpNo X27.here hx rfl (hb hby d6_7) rfl (by decide) k) ?_
    show own_Go p e below s _ _ (T27.setTop (mkF m 10 #[rv a0, iv 1, iv 1] []))
    refine own_via (fun k => XS.aloadN X27.here hx rfl (hb hby d6_10) rfl rfl  k) ?_
    show own_Go p e below s _ _ (T27.setTop (mkF m 11 #[rv a0, iv 1, iv 1] [(.ref a0)]))
    obtain ⟨T28, X28, e28, st28⟩ := getF X27 hx hZ hown (host := "") (Or.inl (hw _ (List.mem_of_getElem? (i := 11) rfl))) Via.refl e27 P0 (g := (mkF m 11 #[rv a0, iv 1, iv 1] [(.ref a0)])) rfl rfl (hb hby d6_11)
    refine own_via (fun k => st28 _ k) ?_
    show own_Go p e below s _ _ (T28.setTop (mkF m 14 #[rv a0, iv 1, iv 1] [(.ref b)]))
    refine own_via (fun k => XS.iloadN X28.here hx rfl (hb hby d6_14) rfl  (XS.aloadN X28.here hx rfl (hb hby d6_15) rfl rfl  k)) ?_
    show own_Go p e below s _ _ (T28.setTop (mkF m 16 #[rv a0, iv 1, iv 1] [(.ref a0), (.int 1), (.ref b)]))
    obtain ⟨T29, X29, e29, st29⟩ := getF X28 hx hZ hown (host := "") (Or.inl (hw _ (List.mem_of_getElem? (i := 11) rfl))) Via.refl e28 P0 (g := (mkF m 16 #[rv a0, iv 1, iv 1] [(.ref a0), (.int 1), (.ref b)])) rfl rfl (hb hby d6_16)
    refine own_via (fun k => st29 _ k) ?_
    show own_Go p e below s _ _ (T29.setTop (mkF m 19 #[rv a0, iv 1, iv 1] [(.ref b), (.int 1), (.ref b)]))
    refine own_via (fun k => XS.iloadN X29.here hx rfl (hb hby d6_19) rfl  k) ?_
    show own_Go p e below s _ _ (T29.setTop (mkF m 20 #[rv a0, iv 1, iv 1] [(.int 1), (.ref b), (.int 1), (.ref b)]))
    obtain ⟨cl30, Ar30, q30, S30, NN30, H30, G30⟩ := id P3
    have hin30 : ¬ ((1 : Int32) < 0 ∨ cl30.slots.size ≤ ((1 : Int32)).toNatClampNeg) := inb_of S30 ⟨by decide, by decide⟩
    have hat30 : cl30.slots[((1 : Int32)).toNatClampNeg]? = some (.int w1) := H30.at hin30 rfl
    refine own_via (fun k => X29.baloadBytes hx (j := (1 : Int32)) (v := (.int w1)) (by rw [e29]; exact Ar30.1) (State.isArrayOf_alike hZ.alike Ar30.2.1) Ar30.2.2 hin30 hat30 (g := (mkF m 20 #[rv a0, iv 1, iv 1] [(.int 1), (.ref b), (.int 1), (.ref b)])) rfl rfl (hb hby d6_20) _ k) ?_
    show own_Go p e below s _ _ (T29.setTop (mkF m 21 #[rv a0, iv 1, iv 1] [(.int w1), (.int 1), (.ref b)]))
    refine own_via (fun k => XS.iconst X29.here hx rfl (hb hby d6_21) (XS.ixor X29.here hx rfl (hb hby d6_22) rfl (XS.i2b X29.here hx rfl (hb hby d6_23) rfl k))) ?_
    show own_Go p e below s _ _ (T29.setTop (mkF m 24 #[rv a0, iv 1, iv 1] [(.int ((w1 ^^^ (-1 : Int32)).toInt8.toInt32)), (.int 1), (.ref b)]))
    obtain ⟨cl31, Ar31, q31, S31, NN31, H31, G31⟩ := id P3
    have hin31 : ¬ ((1 : Int32) < 0 ∨ cl31.slots.size ≤ ((1 : Int32)).toNatClampNeg) := inb_of S31 ⟨by decide, by decide⟩
    obtain ⟨T31, h31, X31, e31, W31, st31⟩ := stB X29 hx hZ e29 Ar31 (j := (1 : Int32)) hin31 (g := (mkF m 24 #[rv a0, iv 1, iv 1] [(.int ((w1 ^^^ (-1 : Int32)).toInt8.toInt32)), (.int 1), (.ref b)])) rfl rfl (hb hby d6_24)
    refine own_via (fun k => st31 _ k) ?_
    show own_Go p e below s _ _ (T31.setTop (mkF m 25 #[rv a0, iv 1, iv 1] []))
    have B32 := P0.other W31 (Or.inl nx0)
    have B33 := P1.other W31 (Or.inl nx0)
    have B34 := P2.wr W31
    have B35 : Arv Z h31 b k2 .byte (64 : Int32) [(.int w0), (.int (nar .byte ((w1 ^^^ (-1 : Int32)).toInt8.toInt32)))] (.int 0) := Arv.set Ar31 q31 S31 NN31 H31 G31 (fits_nar_byte _) W31 1 rfl (Nat.le_of_ble_eq_true rfl)
    have N36 := Fr.snoc X31 N0 ge0
    have K37 : Keep h0 h31 [b] := K0.wr W31 (Or.inl (List.mem_of_getElem? (i := 0) rfl))
    have Z38 : n0 ≤ h31.size := Nat.le_trans Z0 (Keep.of_wr W31).1
    refine own_via (fun k => XS.iinc X31.here hx rfl (hb hby d6_25) rfl (l' := #[rv a0, iv 1, iv 2]) rfl (XS.goto X31.here hx rfl (pc0 := 28) (pc' := 2) rfl (hb hby d6_28) (by decide) (by decide) (XS.iloadN X31.here hx rfl (hb hby d6_2) rfl  (XS.aloadN X31.here hx rfl (hb hby d6_3) rfl rfl  k)))) ?_
    show own_Go p e below s _ _ (T31.setTop (mkF m 4 #[rv a0, iv 1, iv 2] [(.ref a0), (.int 2)]))
    obtain ⟨T39, X39, e39, st39⟩ := getF X31 hx hZ hown (host := "") (Or.inl (hw _ (List.mem_of_getElem? (i := 28) rfl))) Via.refl e31 B33 (g := (mkF m 4 #[rv a0, iv 1, iv 2] [(.ref a0), (.int 2)])) rfl rfl (hb hby d6_4)
    refine own_via (fun k => st39 _ k) ?_
    show own_Go p e below s _ _ (T39.setTop (mkF m 7 #[rv a0, iv 1, iv 2] [(.int 2), (.int 2)]))
    refine own_via (fun k => XS.icmpYes X39.here hx rfl (pc0 := 7) (pc' := 31) rfl (hb hby d6_7) rfl (by decide) (by decide) (by decide) k) ?_
    show own_Go p e below s _ _ (T39.setTop (mkF m 31 #[rv a0, iv 1, iv 2] []))
    refine own_via (fun k => XS.aloadN X39.here hx rfl (hb hby d6_31) rfl rfl  k) ?_
    show own_Go p e below s _ _ (T39.setTop (mkF m 32 #[rv a0, iv 1, iv 2] [(.ref a0)]))
    exact own_retA X39 hx hlk rfl (t := (.object "com/example/dani/dani/core/Key")) Bd.returns rfl (hb hby d6_32) (Q := (Q6_2 Z a0 (1 : Int32) b k2 w0 w1 h0 n0)) ⟨rfl, N36, (by rw [e39]; exact K37), (by rw [e39]; exact B32), (by rw [e39]; exact B33), (by rw [e39]; exact own_arv (show ([(.int w0), (.int (nar .byte ((w1 ^^^ (-1 : Int32)).toInt8.toInt32)))] : List Value) = [(.int (own_r (1 : Int32) (0 : Int32) w0)), (.int (own_r (1 : Int32) (1 : Int32) w1))] from by rfl) B35)⟩ (by decide) (by decide)
  · subst hl1
    show own_Go p e below s _ _ (s₁.setTop (mkF m 0 #[rv a0, iv 2, .unset] []))
    refine own_via (fun k => XS.iloadN X0.here hx rfl (hb hby d6_0) rfl  (XS.istoreN X0.here hx rfl (hb hby d6_1) rfl (l' := #[rv a0, iv 2, iv 2]) rfl (XS.iloadN X0.here hx rfl (hb hby d6_2) rfl  (XS.aloadN X0.here hx rfl (hb hby d6_3) rfl rfl  k)))) ?_
    show own_Go p e below s _ _ (s₁.setTop (mkF m 4 #[rv a0, iv 2, iv 2] [(.ref a0), (.int 2)]))
    obtain ⟨T40, X40, e40, st40⟩ := getF X0 hx hZ hown (host := "") (Or.inl (hw _ (List.mem_of_getElem? (i := 28) rfl))) Via.refl e0 P1 (g := (mkF m 4 #[rv a0, iv 2, iv 2] [(.ref a0), (.int 2)])) rfl rfl (hb hby d6_4)
    refine own_via (fun k => st40 _ k) ?_
    show own_Go p e below s _ _ (T40.setTop (mkF m 7 #[rv a0, iv 2, iv 2] [(.int 2), (.int 2)]))
    refine own_via (fun k => XS.icmpYes X40.here hx rfl (pc0 := 7) (pc' := 31) rfl (hb hby d6_7) rfl (by decide) (by decide) (by decide) k) ?_
    show own_Go p e below s _ _ (T40.setTop (mkF m 31 #[rv a0, iv 2, iv 2] []))
    refine own_via (fun k => XS.aloadN X40.here hx rfl (hb hby d6_31) rfl rfl  k) ?_
    show own_Go p e below s _ _ (T40.setTop (mkF m 32 #[rv a0, iv 2, iv 2] [(.ref a0)]))
    exact own_retA X40 hx hlk rfl (t := (.object "com/example/dani/dani/core/Key")) Bd.returns rfl (hb hby d6_32) (Q := (Q6_2 Z a0 (2 : Int32) b k2 w0 w1 h0 n0)) ⟨rfl, N0, (by rw [e40]; exact K0), (by rw [e40]; exact P0), (by rw [e40]; exact P1), (by rw [e40]; exact own_arv (show ([(.int w0), (.int w1)] : List Value) = [(.int (own_r (2 : Int32) (0 : Int32) w0)), (.int (own_r (2 : Int32) (1 : Int32) w1))] from by rfl) P3)⟩ (by decide) (by decide)
  · subst hl1
    show own_Go p e below s _ _ (s₁.setTop (mkF m 0 #[rv a0, iv 3, .unset] []))
    refine own_via (fun k => XS.iloadN X0.here hx rfl (hb hby d6_0) rfl  (XS.istoreN X0.here hx rfl (hb hby d6_1) rfl (l' := #[rv a0, iv 3, iv 3]) rfl (XS.iloadN X0.here hx rfl (hb hby d6_2) rfl  (XS.aloadN X0.here hx rfl (hb hby d6_3) rfl rfl  k)))) ?_
    show own_Go p e below s _ _ (s₁.setTop (mkF m 4 #[rv a0, iv 3, iv 3] [(.ref a0), (.int 3)]))
    obtain ⟨T41, X41, e41, st41⟩ := getF X0 hx hZ hown (host := "") (Or.inl (hw _ (List.mem_of_getElem? (i := 28) rfl))) Via.refl e0 P1 (g := (mkF m 4 #[rv a0, iv 3, iv 3] [(.ref a0), (.int 3)])) rfl rfl (hb hby d6_4)
    refine own_via (fun k => st41 _ k) ?_
    show own_Go p e below s _ _ (T41.setTop (mkF m 7 #[rv a0, iv 3, iv 3] [(.int 2), (.int 3)]))
    refine own_via (fun k => XS.icmpYes X41.here hx rfl (pc0 := 7) (pc' := 31) rfl (hb hby d6_7) rfl (by decide) (by decide) (by decide) k) ?_
    show own_Go p e below s _ _ (T41.setTop (mkF m 31 #[rv a0, iv 3, iv 3] []))
    refine own_via (fun k => XS.aloadN X41.here hx rfl (hb hby d6_31) rfl rfl  k) ?_
    show own_Go p e below s _ _ (T41.setTop (mkF m 32 #[rv a0, iv 3, iv 3] [(.ref a0)]))
    exact own_retA X41 hx hlk rfl (t := (.object "com/example/dani/dani/core/Key")) Bd.returns rfl (hb hby d6_32) (Q := (Q6_2 Z a0 (3 : Int32) b k2 w0 w1 h0 n0)) ⟨rfl, N0, (by rw [e41]; exact K0), (by rw [e41]; exact P0), (by rw [e41]; exact P1), (by rw [e41]; exact own_arv (show ([(.int w0), (.int w1)] : List Value) = [(.int (own_r (3 : Int32) (0 : Int32) w0)), (.int (own_r (3 : Int32) (1 : Int32) w1))] from by rfl) P3)⟩ (by decide) (by decide)
  · subst hl1
    show own_Go p e below s _ _ (s₁.setTop (mkF m 0 #[rv a0, iv 4, .unset] []))
    refine own_via (fun k => XS.iloadN X0.here hx rfl (hb hby d6_0) rfl  (XS.istoreN X0.here hx rfl (hb hby d6_1) rfl (l' := #[rv a0, iv 4, iv 4]) rfl (XS.iloadN X0.here hx rfl (hb hby d6_2) rfl  (XS.aloadN X0.here hx rfl (hb hby d6_3) rfl rfl  k)))) ?_
    show own_Go p e below s _ _ (s₁.setTop (mkF m 4 #[rv a0, iv 4, iv 4] [(.ref a0), (.int 4)]))
    obtain ⟨T42, X42, e42, st42⟩ := getF X0 hx hZ hown (host := "") (Or.inl (hw _ (List.mem_of_getElem? (i := 28) rfl))) Via.refl e0 P1 (g := (mkF m 4 #[rv a0, iv 4, iv 4] [(.ref a0), (.int 4)])) rfl rfl (hb hby d6_4)
    refine own_via (fun k => st42 _ k) ?_
    show own_Go p e below s _ _ (T42.setTop (mkF m 7 #[rv a0, iv 4, iv 4] [(.int 2), (.int 4)]))
    refine own_via (fun k => XS.icmpYes X42.here hx rfl (pc0 := 7) (pc' := 31) rfl (hb hby d6_7) rfl (by decide) (by decide) (by decide) k) ?_
    show own_Go p e below s _ _ (T42.setTop (mkF m 31 #[rv a0, iv 4, iv 4] []))
    refine own_via (fun k => XS.aloadN X42.here hx rfl (hb hby d6_31) rfl rfl  k) ?_
    show own_Go p e below s _ _ (T42.setTop (mkF m 32 #[rv a0, iv 4, iv 4] [(.ref a0)]))
    exact own_retA X42 hx hlk rfl (t := (.object "com/example/dani/dani/core/Key")) Bd.returns rfl (hb hby d6_32) (Q := (Q6_2 Z a0 (4 : Int32) b k2 w0 w1 h0 n0)) ⟨rfl, N0, (by rw [e42]; exact K0), (by rw [e42]; exact P0), (by rw [e42]; exact P1), (by rw [e42]; exact own_arv (show ([(.int w0), (.int w1)] : List Value) = [(.int (own_r (4 : Int32) (0 : Int32) w0)), (.int (own_r (4 : Int32) (1 : Int32) w1))] from by rfl) P3)⟩ (by decide) (by decide)
  · subst hl1
    show own_Go p e below s _ _ (s₁.setTop (mkF m 0 #[rv a0, iv 5, .unset] []))
    refine own_via (fun k => XS.iloadN X0.here hx rfl (hb hby d6_0) rfl  (XS.istoreN X0.here hx rfl (hb hby d6_1) rfl (l' := #[rv a0, iv 5, iv 5]) rfl (XS.iloadN X0.here hx rfl (hb hby d6_2) rfl  (XS.aloadN X0.here hx rfl (hb hby d6_3) rfl rfl  k)))) ?_
    show own_Go p e below s _ _ (s₁.setTop (mkF m 4 #[rv a0, iv 5, iv 5] [(.ref a0), (.int 5)]))
    obtain ⟨T43, X43, e43, st43⟩ := getF X0 hx hZ hown (host := "") (Or.inl (hw _ (List.mem_of_getElem? (i := 28) rfl))) Via.refl e0 P1 (g := (mkF m 4 #[rv a0, iv 5, iv 5] [(.ref a0), (.int 5)])) rfl rfl (hb hby d6_4)
    refine own_via (fun k => st43 _ k) ?_
    show own_Go p e below s _ _ (T43.setTop (mkF m 7 #[rv a0, iv 5, iv 5] [(.int 2), (.int 5)]))
    refine own_via (fun k => XS.icmpYes X43.here hx rfl (pc0 := 7) (pc' := 31) rfl (hb hby d6_7) rfl (by decide) (by decide) (by decide) k) ?_
    show own_Go p e below s _ _ (T43.setTop (mkF m 31 #[rv a0, iv 5, iv 5] []))
    refine own_via (fun k => XS.aloadN X43.here hx rfl (hb hby d6_31) rfl rfl  k) ?_
    show own_Go p e below s _ _ (T43.setTop (mkF m 32 #[rv a0, iv 5, iv 5] [(.ref a0)]))
    exact own_retA X43 hx hlk rfl (t := (.object "com/example/dani/dani/core/Key")) Bd.returns rfl (hb hby d6_32) (Q := (Q6_2 Z a0 (5 : Int32) b k2 w0 w1 h0 n0)) ⟨rfl, N0, (by rw [e43]; exact K0), (by rw [e43]; exact P0), (by rw [e43]; exact P1), (by rw [e43]; exact own_arv (show ([(.int w0), (.int w1)] : List Value) = [(.int (own_r (5 : Int32) (0 : Int32) w0)), (.int (own_r (5 : Int32) (1 : Int32) w1))] from by rfl) P3)⟩ (by decide) (by decide)
  · subst hl1
    show own_Go p e below s _ _ (s₁.setTop (mkF m 0 #[rv a0, iv 6, .unset] []))
    refine own_via (fun k => XS.iloadN X0.here hx rfl (hb hby d6_0) rfl  (XS.istoreN X0.here hx rfl (hb hby d6_1) rfl (l' := #[rv a0, iv 6, iv 6]) rfl (XS.iloadN X0.here hx rfl (hb hby d6_2) rfl  (XS.aloadN X0.here hx rfl (hb hby d6_3) rfl rfl  k)))) ?_
    show own_Go p e below s _ _ (s₁.setTop (mkF m 4 #[rv a0, iv 6, iv 6] [(.ref a0), (.int 6)]))
    obtain ⟨T44, X44, e44, st44⟩ := getF X0 hx hZ hown (host := "") (Or.inl (hw _ (List.mem_of_getElem? (i := 28) rfl))) Via.refl e0 P1 (g := (mkF m 4 #[rv a0, iv 6, iv 6] [(.ref a0), (.int 6)])) rfl rfl (hb hby d6_4)
    refine own_via (fun k => st44 _ k) ?_
    show own_Go p e below s _ _ (T44.setTop (mkF m 7 #[rv a0, iv 6, iv 6] [(.int 2), (.int 6)]))
    refine own_via (fun k => XS.icmpYes X44.here hx rfl (pc0 := 7) (pc' := 31) rfl (hb hby d6_7) rfl (by decide) (by decide) (by decide) k) ?_
    show own_Go p e below s _ _ (T44.setTop (mkF m 31 #[rv a0, iv 6, iv 6] []))
    refine own_via (fun k => XS.aloadN X44.here hx rfl (hb hby d6_31) rfl rfl  k) ?_
    show own_Go p e below s _ _ (T44.setTop (mkF m 32 #[rv a0, iv 6, iv 6] [(.ref a0)]))
    exact own_retA X44 hx hlk rfl (t := (.object "com/example/dani/dani/core/Key")) Bd.returns rfl (hb hby d6_32) (Q := (Q6_2 Z a0 (6 : Int32) b k2 w0 w1 h0 n0)) ⟨rfl, N0, (by rw [e44]; exact K0), (by rw [e44]; exact P0), (by rw [e44]; exact P1), (by rw [e44]; exact own_arv (show ([(.int w0), (.int w1)] : List Value) = [(.int (own_r (6 : Int32) (0 : Int32) w0)), (.int (own_r (6 : Int32) (1 : Int32) w1))] from by rfl) P3)⟩ (by decide) (by decide)
theorem ef_6_3 (m : MethodId) (x0 : Addr) (x1 : Int32) : entryFrame m #[(.ref x0), (.int x1)] 3 = mkF m 0 #[rv x0, iv x1, .unset] [] := by first | (simp [entryFrame, mkF, argsToLocals, Value.category]; done) | rfl
def Q6_3 (Z : State) (a0 : Addr) (p1 : Int32) (b : Addr) (k2 : ClassId) (w0 : Int32) (w1 : Int32) (w2 : Int32) (h0 : Heap) (n0 : Nat) (v : Option Value) (h : Heap) (L : List Loc) : Prop := v = some (.ref a0) ∧ Fr n0 L ∧ Keep h0 h [b] ∧ Fld Z h a0 "com/example/dani/dani/core/Key" "bytes" "[B" (.ref b) ∧ Fld Z h a0 "com/example/dani/dani/core/Key" "length" "I" (.int 3) ∧ Arv Z h b k2 .byte (64 : Int32) [(.int (own_r p1 (0 : Int32) w0)), (.int (own_r p1 (1 : Int32) w1)), (.int (own_r p1 (2 : Int32) w2))] (.int 0)
set_option maxRecDepth 65536 in
set_option maxHeartbeats 40000000 in
theorem rm6_3 (l : Launch) (Z : State) (aw : Array Value) (hw : ∀ d ∈ tables_1, d.before aw Z = true) (ws : List Jvm.Cond) (a0 : Addr) (p1 : Int32) (b : Addr) (k2 : ClassId) (w0 : Int32) (w1 : Int32) (w2 : Int32) (h0 : Heap) (n0 : Nat) (Z0 : n0 ≤ h0.size) (P0 : Fld Z h0 a0 "com/example/dani/dani/core/Key" "bytes" "[B" (.ref b)) (P1 : Fld Z h0 a0 "com/example/dani/dani/core/Key" "length" "I" (.int 3)) (P2 : Exa Z h0 a0 "com/example/dani/dani/core/Key") (P3 : Arv Z h0 b k2 .byte (64 : Int32) [(.int w0), (.int w1), (.int w2)] (.int 0)) (ge0 : n0 ≤ b) (nx0 : a0 ≠ b) (hs : p1 = (0 : Int32) ∨ p1 = (1 : Int32) ∨ p1 = (2 : Int32) ∨ p1 = (3 : Int32) ∨ p1 = (4 : Int32) ∨ p1 = (5 : Int32) ∨ p1 = (6 : Int32)) :
    MetFree l (⟨"com/example/dani/dani/core/Key", "reversedFrom", "(I)Lcom/example/dani/dani/core/Key;"⟩ : MethodName) (head1 (Jvm.Cond.code (⟨"com/example/dani/dani/core/Key", "reversedFrom", "(I)Lcom/example/dani/dani/core/Key;"⟩ : MethodName) prog_5_method_9_code 3 (some (.object "com/example/dani/dani/core/Key")) :: ws) ({ frames := 0, cells := 0, slots := 0, locals := 0 } : Room)) (fun a U => a = #[(.ref a0), (.int p1)] ∧ Z.Warmed39 U.vm ∧ U.heap = h0) (fun _ _ _ _ _ => True) (fun _ U o U' => ∃ v L, o = .returned v ∧ Q6_3 Z a0 p1 b k2 w0 w1 w2 h0 n0 v U'.heap L ∧ FrameEnd U o U' L ({ frames := 0, cells := 0, slots := 0, locals := 0 } : Room).cells ({ frames := 0, cells := 0, slots := 0, locals := 0 } : Room).slots) := by
  refine MetFree.of_bodySF (plainFor_of_name pn_6) hisR ?_
  intro p e s m args below meth c s₁ Bd hml0 hP hK
  obtain ⟨rfl, hZ, hh⟩ := hP
  have hx := Bd.exec
  have hby := Bd.bytes
  have hml : c.maxLocals = 3 := hml0
  have hown : s.vm.findClass "com/example/dani/dani/core/Key" = some m.cls := findClass_of_methodNamed Bd.named
  have hnm := (name_of_methodNamed Bd.named Bd.method).1
  have hlk : meth.locks = false := by first | exact BodyLoose.notSynchronized (by assumption) | exact Body.notSynchronized (by assumption)
  have X0 : Stand p l e ({ frames := 0, cells := 0, slots := 0, locals := 0 } : Room) s m #[(.ref a0), (.int p1)] below meth c s₁ [] 0 0 := Stand.of_body Bd
  have e0 : s₁.heap = h0 := by rw [← hh, Bd.state]; rfl
  have N0 := Fr.nil n0
  have K0 : Keep h0 h0 [b] := Keep.refl _ _
  refine own_start (CS := (0, 0)) (Q := (Q6_3 Z a0 p1 b k2 w0 w1 w2 h0 n0)) (ef_6_3 m a0 p1) ?_
  show own_Go p e below s _ _ (s₁.setTop (mkF m 0 #[rv a0, iv p1, .unset] []))
  rcases (hs : p1 = (0 : Int32) ∨ p1 = (1 : Int32) ∨ p1 = (2 : Int32) ∨ p1 = (3 : Int32) ∨ p1 = (4 : Int32) ∨ p1 = (5 : Int32) ∨ p1 = (6 : Int32)) with hl1 | hl1 | hl1 | hl1 | hl1 | hl1 | hl1
  · subst hl1
    show own_Go p e below s _ _ (s₁.setTop (mkF m 0 #[rv a0, iv 0, .unset] []))
    refine own_via (fun k => XS.iloadN X0.here hx rfl (hb hby d6_0) rfl  (XS.istoreN X0.here hx rfl (hb hby d6_1) rfl (l' := #[rv a0, iv 0, iv 0]) rfl (XS.iloadN X0.here hx rfl (hb hby d6_2) rfl  (XS.aloadN X0.here hx rfl (hb hby d6_3) rfl rfl  k)))) ?_
    show own_Go p e below s _ _ (s₁.setTop (mkF m 4 #[rv a0, iv 0, iv 0] [(.ref a0), (.int 0)]))
    obtain ⟨T2, X2, e2, st2⟩ := getF X0 hx hZ hown (host := "") (Or.inl (hw _ (List.mem_of_getElem? (i := 28) rfl))) Via.refl e0 P1 (g := (mkF m 4 #[rv a0, iv 0, iv 0] [(.ref a0), (.int 0)])) rfl rfl (hb hby d6_4)
    refine own_via (fun k => st2 _ k) ?_
    show own_Go p e below s _ _ (T2.setTop (mkF m 7 #[rv a0, iv 0, iv 0] [(.int 3), (.int 0)]))
    refine own_via (fun k => XS.icmpNo X2.here hx rfl (hb hby d6_7) rfl (by decide) k) ?_
    show own_Go p e below s _ _ (T2.setTop (mkF m 10 #[rv a0, iv 0, iv 0] []))
    refine own_via (fun k => XS.aloadN X2.here hx rfl (hb hby d6_10) rfl rfl  k) ?_
    show own_Go p e below s _ _ (T2.setTop (mkF m 11 #[rv a0, iv 0, iv 0] [(.ref a0)]))
    obtain ⟨T3, X3, e3, st3⟩ := getF X2 hx hZ hown (host := "") (Or.inl (hw _ (List.mem_of_getElem? (i := 11) rfl))) Via.refl e2 P0 (g := (mkF m 11 #[rv a0, iv 0, iv 0] [(.ref a0)])) rfl rfl (hb hby d6_11)
    refine own_via (fun k => st3 _ k) ?_
    show own_Go p e below s _ _ (T3.setTop (mkF m 14 #[rv a0, iv 0, iv 0] [(.ref b)]))
    refine own_via (fun k => XS.iloadN X3.here hx rfl (hb hby d6_14) rfl  (XS.aloadN X3.here hx rfl (hb hby d6_15) rfl rfl  k)) ?_
    show own_Go p e below s _ _ (T3.setTop (mkF m 16 #[rv a0, iv 0, iv 0] [(.ref a0), (.int 0), (.ref b)]))
    obtain ⟨T4, X4, e4, st4⟩ := getF X3 hx hZ hown (host := "") (Or.inl (hw _ (List.mem_of_getElem? (i := 11) rfl))) Via.refl e3 P0 (g := (mkF m 16 #[rv a0, iv 0, iv 0] [(.ref a0), (.int 0), (.ref b)])) rfl rfl (hb hby d6_16)
    refine own_via (fun k => st4 _ k) ?_
    show own_Go p e below s _ _ (T4.setTop (mkF m 19 #[rv a0, iv 0, iv 0] [(.ref b), (.int 0), (.ref b)]))
    refine own_via (fun k => XS.iloadN X4.here hx rfl (hb hby d6_19) rfl  k) ?_
    show own_Go p e below s _ _ (T4.setTop (mkF m 20 #[rv a0, iv 0, iv 0] [(.int 0), (.ref b), (.int 0), (.ref b)]))
    obtain ⟨cl5, Ar5, q5, S5, NN5, H5, G5⟩ := id P3
    have hin5 : ¬ ((0 : Int32) < 0 ∨ cl5.slots.size ≤ ((0 : Int32)).toNatClampNeg) := inb_of S5 ⟨by decide, by decide⟩
    have hat5 : cl5.slots[((0 : Int32)).toNatClampNeg]? = some (.int w0) := H5.at hin5 rfl
    refine own_via (fun k => X4.baloadBytes hx (j := (0 : Int32)) (v := (.int w0)) (by rw [e4]; exact Ar5.1) (State.isArrayOf_alike hZ.alike Ar5.2.1) Ar5.2.2 hin5 hat5 (g := (mkF m 20 #[rv a0, iv 0, iv 0] [(.int 0), (.ref b), (.int 0), (.ref b)])) rfl rfl (hb hby d6_20) _ k) ?_
    show own_Go p e below s _ _ (T4.setTop (mkF m 21 #[rv a0, iv 0, iv 0] [(.int w0), (.int 0), (.ref b)]))
    refine own_via (fun k => XS.iconst X4.here hx rfl (hb hby d6_21) (XS.ixor X4.here hx rfl (hb hby d6_22) rfl (XS.i2b X4.here hx rfl (hb hby d6_23) rfl k))) ?_
    show own_Go p e below s _ _ (T4.setTop (mkF m 24 #[rv a0, iv 0, iv 0] [(.int ((w0 ^^^ (-1 : Int32)).toInt8.toInt32)), (.int 0), (.ref b)]))
    obtain ⟨cl6, Ar6, q6, S6, NN6, H6, G6⟩ := id P3
    have hin6 : ¬ ((0 : Int32) < 0 ∨ cl6.slots.size ≤ ((0 : Int32)).toNatClampNeg) := inb_of S6 ⟨by decide, by decide⟩
    obtain ⟨T6, h6, X6, e6, W6, st6⟩ := stB X4 hx hZ e4 Ar6 (j := (0 : Int32)) hin6 (g := (mkF m 24 #[rv a0, iv 0, iv 0] [(.int ((w0 ^^^ (-1 : Int32)).toInt8.toInt32)), (.int 0), (.ref b)])) rfl rfl (hb hby d6_24)
    refine own_via (fun k => st6 _ k) ?_
    show own_Go p e below s _ _ (T6.setTop (mkF m 25 #[rv a0, iv 0, iv 0] []))
    have B7 := P0.other W6 (Or.inl nx0)
    have B8 := P1.other W6 (Or.inl nx0)
    have B9 := P2.wr W6
    have B10 : Arv Z h6 b k2 .byte (64 : Int32) [(.int (nar .byte ((w0 ^^^ (-1 : Int32)).toInt8.toInt32))), (.int w1), (.int w2)] (.int 0) := Arv.set Ar6 q6 S6 NN6 H6 G6 (fits_nar_byte _) W6 0 rfl (Nat.le_of_ble_eq_true rfl)
    have N11 := Fr.snoc X6 N0 ge0
    have K12 : Keep h0 h6 [b] := K0.wr W6 (Or.inl (List.mem_of_getElem? (i := 0) rfl))
    have Z13 : n0 ≤ h6.size := Nat.le_trans Z0 (Keep.of_wr W6).1
    refine own_via (fun k => XS.iinc X6.here hx rfl (hb hby d6_25) rfl (l' := #[rv a0, iv 0, iv 1]) rfl (XS.goto X6.here hx rfl (pc0 := 28) (pc' := 2) rfl (hb hby d6_28) (by decide) (by decide) (XS.iloadN X6.here hx rfl (hb hby d6_2) rfl  (XS.aloadN X6.here hx rfl (hb hby d6_3) rfl rfl  k)))) ?_
    show own_Go p e below s _ _ (T6.setTop (mkF m 4 #[rv a0, iv 0, iv 1] [(.ref a0), (.int 1)]))
    obtain ⟨T14, X14, e14, st14⟩ := getF X6 hx hZ hown (host := "") (Or.inl (hw _ (List.mem_of_getElem? (i := 28) rfl))) Via.refl e6 B8 (g := (mkF m 4 #[rv a0, iv 0, iv 1] [(.ref a0), (.int 1)])) rfl rfl (hb hby d6_4)
    refine own_via (fun k => st14 _ k) ?_
    show own_Go p e below s _ _ (T14.setTop (mkF m 7 #[rv a0, iv 0, iv 1] [(.int 3), (.int 1)]))
    refine own_via (fun k => XS.icmpNo X14.here hx rfl (hb hby d6_7) rfl (by decide) k) ?_
    show own_Go p e below s _ _ (T14.setTop (mkF m 10 #[rv a0, iv 0, iv 1] []))
    refine own_via (fun k => XS.aloadN X14.here hx rfl (hb hby d6_10) rfl rfl  k) ?_
    show own_Go p e below s _ _ (T14.setTop (mkF m 11 #[rv a0, iv 0, iv 1] [(.ref a0)]))
    obtain ⟨T15, X15, e15, st15⟩ := getF X14 hx hZ hown (host := "") (Or.inl (hw _ (List.mem_of_getElem? (i := 11) rfl))) Via.refl e14 B7 (g := (mkF m 11 #[rv a0, iv 0, iv 1] [(.ref a0)])) rfl rfl (hb hby d6_11)
    refine own_via (fun k => st15 _ k) ?_
    show own_Go p e below s _ _ (T15.setTop (mkF m 14 #[rv a0, iv 0, iv 1] [(.ref b)]))
    refine own_via (fun k => XS.iloadN X15.here hx rfl (hb hby d6_14) rfl  (XS.aloadN X15.here hx rfl (hb hby d6_15) rfl rfl  k)) ?_
    show own_Go p e below s _ _ (T15.setTop (mkF m 16 #[rv a0, iv 0, iv 1] [(.ref a0), (.int 1), (.ref b)]))
    obtain ⟨T16, X16, e16, st16⟩ := getF X15 hx hZ hown (host := "") (Or.inl (hw _ (List.mem_of_getElem? (i := 11) rfl))) Via.refl e15 B7 (g := (mkF m 16 #[rv a0, iv 0, iv 1] [(.ref a0), (.int 1), (.ref b)])) rfl rfl (hb hby d6_16)
    refine own_via (fun k => st16 _ k) ?_
    show own_Go p e below s _ _ (T16.setTop (mkF m 19 #[rv a0, iv 0, iv 1] [(.ref b), (.int 1), (.ref b)]))
    refine own_via (fun k => XS.iloadN X16.here hx rfl (hb hby d6_19) rfl  k) ?_
    show own_Go p e below s _ _ (T16.setTop (mkF m 20 #[rv a0, iv 0, iv 1] [(.int 1), (.ref b), (.int 1), (.ref b)]))
    obtain ⟨cl17, Ar17, q17, S17, NN17, H17, G17⟩ := id B10
    have hin17 : ¬ ((1 : Int32) < 0 ∨ cl17.slots.size ≤ ((1 : Int32)).toNatClampNeg) := inb_of S17 ⟨by decide, by decide⟩
    have hat17 : cl17.slots[((1 : Int32)).toNatClampNeg]? = some (.int w1) := H17.at hin17 rfl
    refine own_via (fun k => X16.baloadBytes hx (j := (1 : Int32)) (v := (.int w1)) (by rw [e16]; exact Ar17.1) (State.isArrayOf_alike hZ.alike Ar17.2.1) Ar17.2.2 hin17 hat17 (g := (mkF m 20 #[rv a0, iv 0, iv 1] [(.int 1), (.ref b), (.int 1), (.ref b)])) rfl rfl (hb hby d6_20) _ k) ?_
    show own_Go p e below s _ _ (T16.setTop (mkF m 21 #[rv a0, iv 0, iv 1] [(.int w1), (.int 1), (.ref b)]))
    refine own_via (fun k => XS.iconst X16.here hx rfl (hb hby d6_21) (XS.ixor X16.here hx rfl (hb hby d6_22) rfl (XS.i2b X16.here hx rfl (hb hby d6_23) rfl k))) ?_
    show own_Go p e below s _ _ (T16.setTop (mkF m 24 #[rv a0, iv 0, iv 1] [(.int ((w1 ^^^ (-1 : Int32)).toInt8.toInt32)), (.int 1), (.ref b)]))
    obtain ⟨cl18, Ar18, q18, S18, NN18, H18, G18⟩ := id B10
    have hin18 : ¬ ((1 : Int32) < 0 ∨ cl18.slots.size ≤ ((1 : Int32)).toNatClampNeg) := inb_of S18 ⟨by decide, by decide⟩
    obtain ⟨T18, h18, X18, e18, W18, st18⟩ := stB X16 hx hZ e16 Ar18 (j := (1 : Int32)) hin18 (g := (mkF m 24 #[rv a0, iv 0, iv 1] [(.int ((w1 ^^^ (-1 : Int32)).toInt8.toInt32)), (.int 1), (.ref b)])) rfl rfl (hb hby d6_24)
    refine own_via (fun k => st18 _ k) ?_
    show own_Go p e below s _ _ (T18.setTop (mkF m 25 #[rv a0, iv 0, iv 1] []))
    have B19 := B7.other W18 (Or.inl nx0)
    have B20 := B8.other W18 (Or.inl nx0)
    have B21 := B9.wr W18
    have B22 : Arv Z h18 b k2 .byte (64 : Int32) [(.int (nar .byte ((w0 ^^^ (-1 : Int32)).toInt8.toInt32))), (.int (nar .byte ((w1 ^^^ (-1 : Int32)).toInt8.toInt32))), (.int w2)] (.int 0) := Arv.set Ar18 q18 S18 NN18 H18 G18 (fits_nar_byte _) W18 1 rfl (Nat.le_of_ble_eq_true rfl)
    have N23 := Fr.snoc X18 N11 ge0
    have K24 : Keep h0 h18 [b] := K12.wr W18 (Or.inl (List.mem_of_getElem? (i := 0) rfl))
    have Z25 : n0 ≤ h18.size := Nat.le_trans Z13 (Keep.of_wr W18).1
    refine own_via (fun k => XS.iinc X18.here hx rfl (hb hby d6_25) rfl (l' := #[rv a0, iv 0, iv 2]) rfl (XS.goto X18.here hx rfl (pc0 := 28) (pc' := 2) rfl (hb hby d6_28) (by decide) (by decide) (XS.iloadN X18.here hx rfl (hb hby d6_2) rfl  (XS.aloadN X18.here hx rfl (hb hby d6_3) rfl rfl  k)))) ?_
    show own_Go p e below s _ _ (T18.setTop (mkF m 4 #[rv a0, iv 0, iv 2] [(.ref a0), (.int 2)]))
    obtain ⟨T26, X26, e26, st26⟩ := getF X18 hx hZ hown (host := "") (Or.inl (hw _ (List.mem_of_getElem? (i := 28) rfl))) Via.refl e18 B20 (g := (mkF m 4 #[rv a0, iv 0, iv 2] [(.ref a0), (.int 2)])) rfl rfl (hb hby d6_4)
    refine own_via (fun k => st26 _ k) ?_
    show own_Go p e below s _ _ (T26.setTop (mkF m 7 #[rv a0, iv 0, iv 2] [(.int 3), (.int 2)]))
    refine own_via (fun k => XS.icmpNo X26.here hx rfl (hb hby d6_7) rfl (by decide) k) ?_
    show own_Go p e below s _ _ (T26.setTop (mkF m 10 #[rv a0, iv 0, iv 2] []))
    refine own_via (fun k => XS.aloadN X26.here hx rfl (hb hby d6_10) rfl rfl  k) ?_
    show own_Go p e below s _ _ (T26.setTop (mkF m 11 #[rv a0, iv 0, iv 2] [(.ref a0)]))
    obtain ⟨T27, X27, e27, st27⟩ := getF X26 hx hZ hown (host := "") (Or.inl (hw _ (List.mem_of_getElem? (i := 11) rfl))) Via.refl e26 B19 (g := (mkF m 11 #[rv a0, iv 0, iv 2] [(.ref a0)])) rfl rfl (hb hby d6_11)
    refine own_via (fun k => st27 _ k) ?_
    show own_Go p e below s _ _ (T27.setTop (mkF m 14 #[rv a0, iv 0, iv 2] [(.ref b)]))
    refine own_via (fun k => XS.iloadN X27.here hx rfl (hb hby d6_14) rfl  (XS.aloadN X27.here hx rfl (hb hby d6_15) rfl rfl  k)) ?_
    show own_Go p e below s _ _ (T27.setTop (mkF m 16 #[rv a0, iv 0, iv 2] [(.ref a0), (.int 2), (.ref b)]))
    obtain ⟨T28, X28, e28, st28⟩ := getF X27 hx hZ hown (host := "") (Or.inl (hw _ (List.mem_of_getElem? (i := 11) rfl))) Via.refl e27 B19 (g := (mkF m 16 #[rv a0, iv 0, iv 2] [(.ref a0), (.int 2), (.ref b)])) rfl rfl (hb hby d6_16)
    refine own_via (fun k => st28 _ k) ?_
    show own_Go p e below s _ _ (T28.setTop (mkF m 19 #[rv a0, iv 0, iv 2] [(.ref b), (.int 2), (.ref b)]))
    refine own_via (fun k => XS.iloadN X28.here hx rfl (hb hby d6_19) rfl  k) ?_
    show own_Go p e below s _ _ (T28.setTop (mkF m 20 #[rv a0, iv 0, iv 2] [(.int 2), (.ref b), (.int 2), (.ref b)]))
    obtain ⟨cl29, Ar29, q29, S29, NN29, H29, G29⟩ := id B22
    have hin29 : ¬ ((2 : Int32) < 0 ∨ cl29.slots.size ≤ ((2 : Int32)).toNatClampNeg) := inb_of S29 ⟨by decide, by decide⟩
    have hat29 : cl29.slots[((2 : Int32)).toNatClampNeg]? = some (.int w2) := H29.at hin29 rfl
    refine own_via (fun k => X28.baloadBytes hx (j := (2 : Int32)) (v := (.int w2)) (by rw [e28]; exact Ar29.1) (State.isArrayOf_alike hZ.alike Ar29.2.1) Ar29.2.2 hin29 hat29 (g := (mkF m 20 #[rv a0, iv 0, iv 2] [(.int 2), (.ref b), (.int 2), (.ref b)])) rfl rfl (hb hby d6_20) _ k) ?_
    show own_Go p e below s _ _ (T28.setTop (mkF m 21 #[rv a0, iv 0, iv 2] [(.int w2), (.int 2), (.ref b)]))
    refine own_via (fun k => XS.iconst X28.here hx rfl (hb hby d6_21) (XS.ixor X28.here hx rfl (hb hby d6_22) rfl (XS.i2b X28.here hx rfl (hb hby d6_23) rfl k))) ?_
    show own_Go p e below s _ _ (T28.setTop (mkF m 24 #[rv a0, iv 0, iv 2] [(.int ((w2 ^^^ (-1 : Int32)).toInt8.toInt32)), (.int 2), (.ref b)]))
    obtain ⟨cl30, Ar30, q30, S30, NN30, H30, G30⟩ := id B22
    have hin30 : ¬ ((2 : Int32) < 0 ∨ cl30.slots.size ≤ ((2 : Int32)).toNatClampNeg) := inb_of S30 ⟨by decide, by decide⟩
    obtain ⟨T30, h30, X30, e30, W30, st30⟩ := stB X28 hx hZ e28 Ar30 (j := (2 : Int32)) hin30 (g := (mkF m 24 #[rv a0, iv 0, iv 2] [(.int ((w2 ^^^ (-1 : Int32)).toInt8.toInt32)), (.int 2), (.ref b)])) rfl rfl (hb hby d6_24)
    refine own_via (fun k => st30 _ k) ?_
    show own_Go p e below s _ _ (T30.setTop (mkF m 25 #[rv a0, iv 0, iv 2] []))
    have B31 := B19.other W30 (Or.inl nx0)
    have B32 := B20.other W30 (Or.inl nx0)
    have B33 := B21.wr W30
    have B34 : Arv Z h30 b k2 .byte (64 : Int32) [(.int (nar .byte ((w0 ^^^ (-1 : Int32)).toInt8.toInt32))), (.int (nar .byte ((w1 ^^^ (-1 : Int32)).toInt8.toInt32))), (.int (nar .byte ((w2 ^^^ (-1 : Int32)).toInt8.toInt32)))] (.int 0) := Arv.set Ar30 q30 S30 NN30 H30 G30 (fits_nar_byte _) W30 2 rfl (Nat.le_of_ble_eq_true rfl)
    have N35 := Fr.snoc X30 N23 ge0
    have K36 : Keep h0 h30 [b] := K24.wr W30 (Or.inl (List.mem_of_getElem? (i := 0) rfl))
    have Z37 : n0 ≤ h30.size := Nat.le_trans Z25 (Keep.of_wr W30).1
    refine own_via (fun k => XS.iinc X30.here hx rfl (hb hby d6_25) rfl (l' := #[rv a0, iv 0, iv 3]) rfl (XS.goto X30.here hx rfl (pc0 := 28) (pc' := 2) rfl (hb hby d6_28) (by decide) (by decide) (XS.iloadN X30.here hx rfl (hb hby d6_2) rfl  (XS.aloadN X30.here hx rfl (hb hby d6_3) rfl rfl  k)))) ?_
    show own_Go p e below s _ _ (T30.setTop (mkF m 4 #[rv a0, iv 0, iv 3] [(.ref a0), (.int 3)]))
    obtain ⟨T38, X38, e38, st38⟩ := getF X30 hx hZ hown (host := "") (Or.inl (hw _ (List.mem_of_getElem? (i := 28) rfl))) Via.refl e30 B32 (g := (mkF m 4 #[rv a0, iv 0, iv 3] [(.ref a0), (.int 3)])) rfl rfl (hb hby d6_4)
    refine own_via (fun k => st38 _ k) ?_
    show own_Go p e below s _ _ (T38.setTop (mkF m 7 #[rv a0, iv 0, iv 3] [(.int 3), (.int 3)]))
    refine own_via (fun k => XS.icmpYes X38.here hx rfl (pc0 := 7) (pc' := 31) rfl (hb hby d6_7) rfl (by decide) (by decide) (by decide) k) ?_
    show own_Go p e below s _ _ (T38.setTop (mkF m 31 #[rv a0, iv 0, iv 3] []))
    refine own_via (fun k => XS.aloadN X38.here hx rfl (hb hby d6_31) rfl rfl  k) ?_
    show own_Go p e below s _ _ (T38.setTop (mkF m 32 #[rv a0, iv 0, iv 3] [(.ref a0)]))
    exact own_retA X38 hx hlk rfl (t := (.object "com/example/dani/dani/core/Key")) Bd.returns rfl (hb hby d6_32) (Q := (Q6_3 Z a0 (0 : Int32) b k2 w0 w1 w2 h0 n0)) ⟨rfl, N35, (by rw [e38]; exact K36), (by rw [e38]; exact B31), (by rw [e38]; exact B32), (by rw [e38]; exact own_arv (show ([(.int (nar .byte ((w0 ^^^ (-1 : Int32)).toInt8.toInt32))), (.int (nar .byte ((w1 ^^^ (-1 : Int32)).toInt8.toInt32))), (.int (nar .byte ((w2 ^^^ (-1 : Int32)).toInt8.toInt32)))] : List Value) = [(.int (own_r (0 : Int32) (0 : Int32) w0)), (.int (own_r (0 : Int32) (1 : Int32) w1)), (.int (own_r (0 : Int32) (2 : Int32) w2))] from by rfl) B34)⟩ (by decide) (by decide)
  · subst hl1
    show own_Go p e below s _ _ (s₁.setTop (mkF m 0 #[rv a0, iv 1, .unset] []))
    refine own_via (fun k => XS.iloadN X0.here hx rfl (hb hby d6_0) rfl  (XS.istoreN X0.here hx rfl (hb hby d6_1) rfl (l' := #[rv a0, iv 1, iv 1]) rfl (XS.iloadN X0.here hx rfl (hb hby d6_2) rfl  (XS.aloadN X0.here hx rfl (hb hby d6_3) rfl rfl  k)))) ?_
    show own_Go p e below s _ _ (s₁.setTop (mkF m 4 #[rv a0, iv 1, iv 1] [(.ref a0), (.int 1)]))
    obtain ⟨T39, X39, e39, st39⟩ := getF X0 hx hZ hown (host := "") (Or.inl (hw _ (List.mem_of_getElem? (i := 28) rfl))) Via.refl e0 P1 (g := (mkF m 4 #[rv a0, iv 1, iv 1] [(.ref a0), (.int 1)])) rfl rfl (hb hby d6_4)
    refine own_via (fun k => st39 _ k) ?_
    show own_Go p e below s _ _ (T39.setTop (mkF m 7 #[rv a0, iv 1, iv 1] [(.int 3), (.int 1)]))
    refine own_via (fun k => XS.icmpNo X39.here hx rfl (hb hby d6_7) rfl (by decide) k) ?_
    show own_Go p e below s _ _ (T39.setTop (mkF m 10 #[rv a0, iv 1, iv 1] []))
    refine own_via (fun k => XS.aloadN X39.here hx rfl (hb hby d6_10) rfl rfl  k) ?_
    show own_Go p e below s _ _ (T39.setTop (mkF m 11 #[rv a0, iv 1, iv 1] [(.ref a0)]))
    obtain ⟨T40, X40, e40, st40⟩ := getF X39 hx hZ hown (host := "") (Or.inl (hw _ (List.mem_of_getElem? (i := 11) rfl))) Via.refl e39 P0 (g := (mkF m 11 #[rv a0, iv 1, iv 1] [(.ref a0)])) rfl rfl (hb hby d6_11)
    refine own_via (fun k => st40 _ k) ?_
    show own_Go p e below s _ _ (T40.setTop (mkF m 14 #[rv a0, iv 1, iv 1] [(.ref b)]))
    refine own_via (fun k => XS.iloadN X40.here hx rfl (hb hby d6_14) rfl  (XS.aloadN X40.here hx rfl (hb hby d6_15) rfl rfl  k)) ?_
    show own_Go p e below s _ _ (T40.setTop (mkF m 16 #[rv a0, iv 1, iv 1] [(.ref a0), (.int 1), (.ref b)]))
    obtain ⟨T41, X41, e41, st41⟩ := getF X40 hx hZ hown (host := "") (Or.inl (hw _ (List.mem_of_getElem? (i := 11) rfl))) Via.refl e40 P0 (g := (mkF m 16 #[rv a0, iv 1, iv 1] [(.ref a0), (.int 1), (.ref b)])) rfl rfl (hb hby d6_16)
    refine own_via (fun k => st41 _ k) ?_
    show own_Go p e below s _ _ (T41.setTop (mkF m 19 #[rv a0, iv 1, iv 1] [(.ref b), (.int 1), (.ref b)]))
    refine own_via (fun k => XS.iloadN X41.here hx rfl (hb hby d6_19) rfl  k) ?_
    show own_Go p e below s _ _ (T41.setTop (mkF m 20 #[rv a0, iv 1, iv 1] [(.int 1), (.ref b), (.int 1), (.ref b)]))
    obtain ⟨cl42, Ar42, q42, S42, NN42, H42, G42⟩ := id P3
    have hin42 : ¬ ((1 : Int32) < 0 ∨ cl42.slots.size ≤ ((1 : Int32)).toNatClampNeg) := inb_of S42 ⟨by decide, by decide⟩
    have hat42 : cl42.slots[((1 : Int32)).toNatClampNeg]? = some (.int w1) := H42.at hin42 rfl
    refine own_via (fun k => X41.baloadBytes hx (j := (1 : Int32)) (v := (.int w1)) (by rw [e41]; exact Ar42.1) (State.isArrayOf_alike hZ.alike Ar42.2.1) Ar42.2.2 hin42 hat42 (g := (mkF m 20 #[rv a0, iv 1, iv 1] [(.int 1), (.ref b), (.int 1), (.ref b)])) rfl rfl (hb hby d6_20) _ k) ?_
    show own_Go p e below s _ _ (T41.setTop (mkF m 21 #[rv a0, iv 1, iv 1] [(.int w1), (.int 1), (.ref b)]))
    refine own_via (fun k => XS.iconst X41.here hx rfl (hb hby d6_21) (XS.ixor X41.here hx rfl (hb hby d6_22) rfl (XS.i2b X41.here hx rfl (hb hby d6_23) rfl k))) ?_
    show own_Go p e below s _ _ (T41.setTop (mkF m 24 #[rv a0, iv 1, iv 1] [(.int ((w1 ^^^ (-1 : Int32)).toInt8.toInt32)), (.int 1), (.ref b)]))
    obtain ⟨cl43, Ar43, q43, S43, NN43, H43, G43⟩ := id P3
    have hin43 : ¬ ((1 : Int32) < 0 ∨ cl43.slots.size ≤ ((1 : Int32)).toNatClampNeg) := inb_of S43 ⟨by decide, by decide⟩
    obtain ⟨T43, h43, X43, e43, W43, st43⟩ := stB X41 hx hZ e41 Ar43 (j := (1 : Int32)) hin43 (g := (mkF m 24 #[rv a0, iv 1, iv 1] [(.int ((w1 ^^^ (-1 : Int32)).toInt8.toInt32)), (.int 1), (.ref b)])) rfl rfl (hb hby d6_24)
    refine own_via (fun k => st43 _ k) ?_
    show own_Go p e below s _ _ (T43.setTop (mkF m 25 #[rv a0, iv 1, iv 1] []))
    have B44 := P0.other W43 (Or.inl nx0)
    have B45 := P1.other W43 (Or.inl nx0)
    have B46 := P2.wr W43
    have B47 : Arv Z h43 b k2 .byte (64 : Int32) [(.int w0), (.int (nar .byte ((w1 ^^^ (-1 : Int32)).toInt8.toInt32))), (.int w2)] (.int 0) := Arv.set Ar43 q43 S43 NN43 H43 G43 (fits_nar_byte _) W43 1 rfl (Nat.le_of_ble_eq_true rfl)
    have N48 := Fr.snoc X43 N0 ge0
    have K49 : Keep h0 h43 [b] := K0.wr W43 (Or.inl (List.mem_of_getElem? (i := 0) rfl))
    have Z50 : n0 ≤ h43.size := Nat.le_trans Z0 (Keep.of_wr W43).1
    refine own_via (fun k => XS.iinc X43.here hx rfl (hb hby d6_25) rfl (l' := #[rv a0, iv 1, iv 2]) rfl (XS.goto X43.here hx rfl (pc0 := 28) (pc' := 2) rfl (hb hby d6_28) (by decide) (by decide) (XS.iloadN X43.here hx rfl (hb hby d6_2) rfl  (XS.aloadN X43.here hx rfl (hb hby d6_3) rfl rfl  k)))) ?_
    show own_Go p e below s _ _ (T43.setTop (mkF m 4 #[rv a0, iv 1, iv 2] [(.ref a0), (.int 2)]))
    obtain ⟨T51, X51, e51, st51⟩ := getF X43 hx hZ hown (host := "") (Or.inl (hw _ (List.mem_of_getElem? (i := 28) rfl))) Via.refl e43 B45 (g := (mkF m 4 #[rv a0, iv 1, iv 2] [(.ref a0), (.int 2)])) rfl rfl (hb hby d6_4)
    refine own_via (fun k => st51 _ k) ?_
    show own_Go p e below s _ _ (T51.setTop (mkF m 7 #[rv a0, iv 1, iv 2] [(.int 3), (.int 2)]))
    refine own_via (fun k => XS.icmpNo X51.here hx rfl (hb hby d6_7) rfl (by decide) k) ?_
    show own_Go p e below s _ _ (T51.setTop (mkF m 10 #[rv a0, iv 1, iv 2] []))
    refine own_via (fun k => XS.aloadN X51.here hx rfl (hb hby d6_10) rfl rfl  k) ?_
    show own_Go p e below s _ _ (T51.setTop (mkF m 11 #[rv a0, iv 1, iv 2] [(.ref a0)]))
    obtain ⟨T52, X52, e52, st52⟩ := getF X51 hx hZ hown (host := "") (Or.inl (hw _ (List.mem_of_getElem? (i := 11) rfl))) Via.refl e51 B44 (g := (mkF m 11 #[rv a0, iv 1, iv 2] [(.ref a0)])) rfl rfl (hb hby d6_11)
    refine own_via (fun k => st52 _ k) ?_
    show own_Go p e below s _ _ (T52.setTop (mkF m 14 #[rv a0, iv 1, iv 2] [(.ref b)]))
    refine own_via (fun k => XS.iloadN X52.here hx rfl (hb hby d6_14) rfl  (XS.aloadN X52.here hx rfl (hb hby d6_15) rfl rfl  k)) ?_
    show own_Go p e below s _ _ (T52.setTop (mkF m 16 #[rv a0, iv 1, iv 2] [(.ref a0), (.int 2), (.ref b)]))
    obtain ⟨T53, X53, e53, st53⟩ := getF X52 hx hZ hown (host := "") (Or.inl (hw _ (List.mem_of_getElem? (i := 11) rfl))) Via.refl e52 B44 (g := (mkF m 16 #[rv a0, iv 1, iv 2] [(.ref a0), (.int 2), (.ref b)])) rfl rfl (hb hby d6_16)
    refine own_via (fun k => st53 _ k) ?_
    show own_Go p e below s _ _ (T53.setTop (mkF m 19 #[rv a0, iv 1, iv 2] [(.ref b), (.int 2), (.ref b)]))
    refine own_via (fun k => XS.iloadN X53.here hx rfl (hb hby d6_19) rfl  k) ?_
    show own_Go p e below s _ _ (T53.setTop (mkF m 20 #[rv a0, iv 1, iv 2] [(.int 2), (.ref b), (.int 2), (.ref b)]))
    obtain ⟨cl54, Ar54, q54, S54, NN54, H54, G54⟩ := id B47
    have hin54 : ¬ ((2 : Int32) < 0 ∨ cl54.slots.size ≤ ((2 : Int32)).toNatClampNeg) := inb_of S54 ⟨by decide, by decide⟩
    have hat54 : cl54.slots[((2 : Int32)).toNatClampNeg]? = some (.int w2) := H54.at hin54 rfl
    refine own_via (fun k => X53.baloadBytes hx (j := (2 : Int32)) (v := (.int w2)) (by rw [e53]; exact Ar54.1) (State.isArrayOf_alike hZ.alike Ar54.2.1) Ar54.2.2 hin54 hat54 (g := (mkF m 20 #[rv a0, iv 1, iv 2] [(.int 2), (.ref b), (.int 2), (.ref b)])) rfl rfl (hb hby d6_20) _ k) ?_
    show own_Go p e below s _ _ (T53.setTop (mkF m 21 #[rv a0, iv 1, iv 2] [(.int w2), (.int 2), (.ref b)]))
    refine own_via (fun k => XS.iconst X53.here hx rfl (hb hby d6_21) (XS.ixor X53.here hx rfl (hb hby d6_22) rfl (XS.i2b X53.here hx rfl (hb hby d6_23) rfl k))) ?_
    show own_Go p e below s _ _ (T53.setTop (mkF m 24 #[rv a0, iv 1, iv 2] [(.int ((w2 ^^^ (-1 : Int32)).toInt8.toInt32)), (.int 2), (.ref b)]))
    obtain ⟨cl55, Ar55, q55, S55, NN55, H55, G55⟩ := id B47
    have hin55 : ¬ ((2 : Int32) < 0 ∨ cl55.slots.size ≤ ((2 : Int32)).toNatClampNeg) := inb_of S55 ⟨by decide, by decide⟩
    obtain ⟨T55, h55, X55, e55, W55, st55⟩ := stB X53 hx hZ e53 Ar55 (j := (2 : Int32)) hin55 (g := (mkF m 24 #[rv a0, iv 1, iv 2] [(.int ((w2 ^^^ (-1 : Int32)).toInt8.toInt32)), (.int 2), (.ref b)])) rfl rfl (hb hby d6_24)
    refine own_via (fun k => st55 _ k) ?_
    show own_Go p e below s _ _ (T55.setTop (mkF m 25 #[rv a0, iv 1, iv 2] []))
    have B56 := B44.other W55 (Or.inl nx0)
    have B57 := B45.other W55 (Or.inl nx0)
    have B58 := B46.wr W55
    have B59 : Arv Z h55 b k2 .byte (64 : Int32) [(.int w0), (.int (nar .byte ((w1 ^^^ (-1 : Int32)).toInt8.toInt32))), (.int (nar .byte ((w2 ^^^ (-1 : Int32)).toInt8.toInt32)))] (.int 0) := Arv.set Ar55 q55 S55 NN55 H55 G55 (fits_nar_byte _) W55 2 rfl (Nat.le_of_ble_eq_true rfl)
    have N60 := Fr.snoc X55 N48 ge0
    have K61 : Keep h0 h55 [b] := K49.wr W55 (Or.inl (List.mem_of_getElem? (i := 0) rfl))
    have Z62 : n0 ≤ h55.size := Nat.le_trans Z50 (Keep.of_wr W55).1
    refine own_via (fun k => XS.iinc X55.here hx rfl (hb hby d6_25) rfl (l' := #[rv a0, iv 1, iv 3]) rfl (XS.goto X55.here hx rfl (pc0 := 28) (pc' := 2) rfl (hb hby d6_28) (by decide) (by decide) (XS.iloadN X55.here hx rfl (hb hby d6_2) rfl  (XS.aloadN X55.here hx rfl (hb hby d6_3) rfl rfl  k)))) ?_
    show own_Go p e below s _ _ (T55.setTop (mkF m 4 #[rv a0, iv 1, iv 3] [(.ref a0), (.int 3)]))
    obtain ⟨T63, X63, e63, st63⟩ := getF X55 hx hZ hown (host := "") (Or.inl (hw _ (List.mem_of_getElem? (i := 28) rfl))) Via.refl e55 B57 (g := (mkF m 4 #[rv a0, iv 1, iv 3] [(.ref a0), (.int 3)])) rfl rfl (hb hby d6_4)
    refine own_via (fun k => st63 _ k) ?_
    show own_Go p e below s _ _ (T63.setTop (mkF m 7 #[rv a0, iv 1, iv 3] [(.int 3), (.int 3)]))
    refine own_via (fun k => XS.icmpYes X63.here hx rfl (pc0 := 7) (pc' := 31) rfl (hb hby d6_7) rfl (by decide) (by decide) (by decide) k) ?_
    show own_Go p e below s _ _ (T63.setTop (mkF m 31 #[rv a0, iv 1, iv 3] []))
    refine own_via (fun k => XS.aloadN X63.here hx rfl (hb hby d6_31) rfl rfl  k) ?_
    show own_Go p e below s _ _ (T63.setTop (mkF m 32 #[rv a0, iv 1, iv 3] [(.ref a0)]))
    exact own_retA X63 hx hlk rfl (t := (.object "com/example/dani/dani/core/Key")) Bd.returns rfl (hb hby d6_32) (Q := (Q6_3 Z a0 (1 : Int32) b k2 w0 w1 w2 h0 n0)) ⟨rfl, N60, (by rw [e63]; exact K61), (by rw [e63]; exact B56), (by rw [e63]; exact B57), (by rw [e63]; exact own_arv (show ([(.int w0), (.int (nar .byte ((w1 ^^^ (-1 : Int32)).toInt8.toInt32))), (.int (nar .byte ((w2 ^^^ (-1 : Int32)).toInt8.toInt32)))] : List Value) = [(.int (own_r (1 : Int32) (0 : Int32) w0)), (.int (own_r (1 : Int32) (1 : Int32) w1)), (.int (own_r (1 : Int32) (2 : Int32) w2))] from by rfl) B59)⟩ (by decide) (by decide)
  · subst hl1
    show own_Go p e below s _ _ (s₁.setTop (mkF m 0 #[rv a0, iv 2, .unset] []))
    refine own_via (fun k => XS.iloadN X0.here hx rfl (hb hby d6_0) rfl  (XS.istoreN X0.here hx rfl (hb hby d6_1) rfl (l' := #[rv a0, iv 2, iv 2]) rfl (XS.iloadN X0.here hx rfl (hb hby d6_2) rfl  (XS.aloadN X0.here hx rfl (hb hby d6_3) rfl rfl  k)))) ?_
    show own_Go p e below s _ _ (s₁.setTop (mkF m 4 #[rv a0, iv 2, iv 2] [(.ref a0), (.int 2)]))
    obtain ⟨T64, X64, e64, st64⟩ := getF X0 hx hZ hown (host := "") (Or.inl (hw _ (List.mem_of_getElem? (i := 28) rfl))) Via.refl e0 P1 (g := (mkF m 4 #[rv a0, iv 2, iv 2] [(.ref a0), (.int 2)])) rfl rfl (hb hby d6_4)
    refine own_via (fun k => st64 _ k) ?_
    show own_Go p e below s _ _ (T64.setTop (mkF m 7 #[rv a0, iv 2, iv 2] [(.int 3), (.int 2)]))
    refine own_via (fun k => XS.icmpNo X64.here hx rfl (hb hby d6_7) rfl (by decide) k) ?_
    show own_Go p e below s _ _ (T64.setTop (mkF m 10 #[rv a0, iv 2, iv 2] []))
    refine own_via (fun k => XS.aloadN X64.here hx rfl (hb hby d6_10) rfl rfl  k) ?_
    show own_Go p e below s _ _ (T64.setTop (mkF m 11 #[rv a0, iv 2, iv 2] [(.ref a0)]))
    obtain ⟨T65, X65, e65, st65⟩ := getF X64 hx hZ hown (host := "") (Or.inl (hw _ (List.mem_of_getElem? (i := 11) rfl))) Via.refl e64 P0 (g := (mkF m 11 #[rv a0, iv 2, iv 2] [(.ref a0)])) rfl rfl (hb hby d6_11)
    refine own_via (fun k => st65 _ k) ?_
    show own_Go p e below s _ _ (T65.setTop (mkF m 14 #[rv a0, iv 2, iv 2] [(.ref b)]))
    refine own_via (fun k => XS.iloadN X65.here hx rfl (hb hby d6_14) rfl  (XS.aloadN X65.here hx rfl (hb hby d6_15) rfl rfl  k)) ?_
    show own_Go p e below s _ _ (T65.setTop (mkF m 16 #[rv a0, iv 2, iv 2] [(.ref a0), (.int 2), (.ref b)]))
    obtain ⟨T66, X66, e66, st66⟩ := getF X65 hx hZ hown (host := "") (Or.inl (hw _ (List.mem_of_getElem? (i := 11) rfl))) Via.refl e65 P0 (g := (mkF m 16 #[rv a0, iv 2, iv 2] [(.ref a0), (.int 2), (.ref b)])) rfl rfl (hb hby d6_16)
    refine own_via (fun k => st66 _ k) ?_
    show own_Go p e below s _ _ (T66.setTop (mkF m 19 #[rv a0, iv 2, iv 2] [(.ref b), (.int 2), (.ref b)]))
    refine own_via (fun k => XS.iloadN X66.here hx rfl (hb hby d6_19) rfl  k) ?_
    show own_Go p e below s _ _ (T66.setTop (mkF m 20 #[rv a0, iv 2, iv 2] [(.int 2), (.ref b), (.int 2), (.ref b)]))
    obtain ⟨cl67, Ar67, q67, S67, NN67, H67, G67⟩ := id P3
    have hin67 : ¬ ((2 : Int32) < 0 ∨ cl67.slots.size ≤ ((2 : Int32)).toNatClampNeg) := inb_of S67 ⟨by decide, by decide⟩
    have hat67 : cl67.slots[((2 : Int32)).toNatClampNeg]? = some (.int w2) := H67.at hin67 rfl
    refine own_via (fun k => X66.baloadBytes hx (j := (2 : Int32)) (v := (.int w2)) (by rw [e66]; exact Ar67.1) (State.isArrayOf_alike hZ.alike Ar67.2.1) Ar67.2.2 hin67 hat67 (g := (mkF m 20 #[rv a0, iv 2, iv 2] [(.int 2), (.ref b), (.int 2), (.ref b)])) rfl rfl (hb hby d6_20) _ k) ?_
    show own_Go p e below s _ _ (T66.setTop (mkF m 21 #[rv a0, iv 2, iv 2] [(.int w2), (.int 2), (.ref b)]))
    refine own_via (fun k => XS.iconst X66.here hx rfl (hb hby d6_21) (XS.ixor X66.here hx rfl (hb hby d6_22) rfl (XS.i2b X66.here hx rfl (hb hby d6_23) rfl k))) ?_
    show own_Go p e below s _ _ (T66.setTop (mkF m 24 #[rv a0, iv 2, iv 2] [(.int ((w2 ^^^ (-1 : Int32)).toInt8.toInt32)), (.int 2), (.ref b)]))
    obtain ⟨cl68, Ar68, q68, S68, NN68, H68, G68⟩ := id P3
    have hin68 : ¬ ((2 : Int32) < 0 ∨ cl68.slots.size ≤ ((2 : Int32)).toNatClampNeg) := inb_of S68 ⟨by decide, by decide⟩
    obtain ⟨T68, h68, X68, e68, W68, st68⟩ := stB X66 hx hZ e66 Ar68 (j := (2 : Int32)) hin68 (g := (mkF m 24 #[rv a0, iv 2, iv 2] [(.int ((w2 ^^^ (-1 : Int32)).toInt8.toInt32)), (.int 2), (.ref b)])) rfl rfl (hb hby d6_24)
    refine own_via (fun k => st68 _ k) ?_
    show own_Go p e below s _ _ (T68.setTop (mkF m 25 #[rv a0, iv 2, iv 2] []))
    have B69 := P0.other W68 (Or.inl nx0)
    have B70 := P1.other W68 (Or.inl nx0)
    have B71 := P2.wr W68
    have B72 : Arv Z h68 b k2 .byte (64 : Int32) [(.int w0), (.int w1), (.int (nar .byte ((w2 ^^^ (-1 : Int32)).toInt8.toInt32)))] (.int 0) := Arv.set Ar68 q68 S68 NN68 H68 G68 (fits_nar_byte _) W68 2 rfl (Nat.le_of_ble_eq_true rfl)
    have N73 := Fr.snoc X68 N0 ge0
    have K74 : Keep h0 h68 [b] := K0.wr W68 (Or.inl (List.mem_of_getElem? (i := 0) rfl))
    have Z75 : n0 ≤ h68.size := Nat.le_trans Z0 (Keep.of_wr W68).1
    refine own_via (fun k => XS.iinc X68.here hx rfl (hb hby d6_25) rfl (l' := #[rv a0, iv 2, iv 3]) rfl (XS.goto X68.here hx rfl (pc0 := 28) (pc' := 2) rfl (hb hby d6_28) (by decide) (by decide) (XS.iloadN X68.here hx rfl (hb hby d6_2) rfl  (XS.aloadN X68.here hx rfl (hb hby d6_3) rfl rfl  k)))) ?_
    show own_Go p e below s _ _ (T68.setTop (mkF m 4 #[rv a0, iv 2, iv 3] [(.ref a0), (.int 3)]))
    obtain ⟨T76, X76, e76, st76⟩ := getF X68 hx hZ hown (host := "") (Or.inl (hw _ (List.mem_of_getElem? (i := 28) rfl))) Via.refl e68 B70 (g := (mkF m 4 #[rv a0, iv 2, iv 3] [(.ref a0), (.int 3)])) rfl rfl (hb hby d6_4)
    refine own_via (fun k => st76 _ k) ?_
    show own_Go p e below s _ _ (T76.setTop (mkF m 7 #[rv a0, iv 2, iv 3] [(.int 3), (.int 3)]))
    refine own_via (fun k => XS.icmpYes X76.here hx rfl (pc0 := 7) (pc' := 31) rfl (hb hby d6_7) rfl (by decide) (by decide) (by decide) k) ?_
    show own_Go p e below s _ _ (T76.setTop (mkF m 31 #[rv a0, iv 2, iv 3] []))
    refine own_via (fun k => XS.aloadN X76.here hx rfl (hb hby d6_31) rfl rfl  k) ?_
    show own_Go p e below s _ _ (T76.setTop (mkF m 32 #[rv a0, iv 2, iv 3] [(.ref a0)]))
    exact own_retA X76 hx hlk rfl (t := (.object "com/example/dani/dani/core/Key")) Bd.returns rfl (hb hby d6_32) (Q := (Q6_3 Z a0 (2 : Int32) b k2 w0 w1 w2 h0 n0)) ⟨rfl, N73, (by rw [e76]; exact K74), (by rw [e76]; exact B69), (by rw [e76]; exact B70), (by rw [e76]; exact own_arv (show ([(.int w0), (.int w1), (.int (nar .byte ((w2 ^^^ (-1 : Int32)).toInt8.toInt32)))] : List Value) = [(.int (own_r (2 : Int32) (0 : Int32) w0)), (.int (own_r (2 : Int32) (1 : Int32) w1)), (.int (own_r (2 : Int32) (2 : Int32) w2))] from by rfl) B72)⟩ (by decide) (by decide)
  · subst hl1
    show own_Go p e below s _ _ (s₁.setTop (mkF m 0 #[rv a0, iv 3, .unset] []))
    refine own_via (fun k => XS.iloadN X0.here hx rfl (hb hby d6_0) rfl  (XS.istoreN X0.here hx rfl (hb hby d6_1) rfl (l' := #[rv a0, iv 3, iv 3]) rfl (XS.iloadN X0.here hx rfl (hb hby d6_2) rfl  (XS.aloadN X0.here hx rfl (hb hby d6_3) rfl rfl  k)))) ?_
    show own_Go p e below s _ _ (s₁.setTop (mkF m 4 #[rv a0, iv 3, iv 3] [(.ref a0), (.int 3)]))
    obtain ⟨T77, X77, e77, st77⟩ := getF X0 hx hZ hown (host := "") (Or.inl (hw _ (List.mem_of_getElem? (i := 28) rfl))) Via.refl e0 P1 (g := (mkF m 4 #[rv a0, iv 3, iv 3] [(.ref a0), (.int 3)])) rfl rfl (hb hby d6_4)
    refine own_via (fun k => st77 _ k) ?_
    show own_Go p e below s _ _ (T77.setTop (mkF m 7 #[rv a0, iv 3, iv 3] [(.int 3), (.int 3)]))
    refine own_via (fun k => XS.icmpYes X77.here hx rfl (pc0 := 7) (pc' := 31) rfl (hb hby d6_7) rfl (by decide) (by decide) (by decide) k) ?_
    show own_Go p e below s _ _ (T77.setTop (mkF m 31 #[rv a0, iv 3, iv 3] []))
    refine own_via (fun k => XS.aloadN X77.here hx rfl (hb hby d6_31) rfl rfl  k) ?_
    show own_Go p e below s _ _ (T77.setTop (mkF m 32 #[rv a0, iv 3, iv 3] [(.ref a0)]))
    exact own_retA X77 hx hlk rfl (t := (.object "com/example/dani/dani/core/Key")) Bd.returns rfl (hb hby d6_32) (Q := (Q6_3 Z a0 (3 : Int32) b k2 w0 w1 w2 h0 n0)) ⟨rfl, N0, (by rw [e77]; exact K0), (by rw [e77]; exact P0), (by rw [e77]; exact P1), (by rw [e77]; exact own_arv (show ([(.int w0), (.int w1), (.int w2)] : List Value) = [(.int (own_r (3 : Int32) (0 : Int32) w0)), (.int (own_r (3 : Int32) (1 : Int32) w1)), (.int (own_r (3 : Int32) (2 : Int32) w2))] from by rfl) P3)⟩ (by decide) (by decide)
  · subst hl1
    show own_Go p e below s _ _ (s₁.setTop (mkF m 0 #[rv a0, iv 4, .unset] []))
    refine own_via (fun k => XS.iloadN X0.here hx rfl (hb hby d6_0) rfl  (XS.istoreN X0.here hx rfl (hb hby d6_1) rfl (l' := #[rv a0, iv 4, iv 4]) rfl (XS.iloadN X0.here hx rfl (hb hby d6_2) rfl  (XS.aloadN X0.here hx rfl (hb hby d6_3) rfl rfl  k)))) ?_
    show own_Go p e below s _ _ (s₁.setTop (mkF m 4 #[rv a0, iv 4, iv 4] [(.ref a0), (.int 4)]))
    obtain ⟨T78, X78, e78, st78⟩ := getF X0 hx hZ hown (host := "") (Or.inl (hw _ (List.mem_of_getElem? (i := 28) rfl))) Via.refl e0 P1 (g := (mkF m 4 #[rv a0, iv 4, iv 4] [(.ref a0), (.int 4)])) rfl rfl (hb hby d6_4)
    refine own_via (fun k => st78 _ k) ?_
    show own_Go p e below s _ _ (T78.setTop (mkF m 7 #[rv a0, iv 4, iv 4] [(.int 3), (.int 4)]))
    refine own_via (fun k => XS.icmpYes X78.here hx rfl (pc0 := 7) (pc' := 31) rfl (hb hby d6_7) rfl (by decide) (by decide) (by decide) k) ?_
    show own_Go p e below s _ _ (T78.setTop (mkF m 31 #[rv a0, iv 4, iv 4] []))
    refine own_via (fun k => XS.aloadN X78.here hx rfl (hb hby d6_31) rfl rfl  k) ?_
    show own_Go p e below s _ _ (T78.setTop (mkF m 32 #[rv a0, iv 4, iv 4] [(.ref a0)]))
    exact own_retA X78 hx hlk rfl (t := (.object "com/example/dani/dani/core/Key")) Bd.returns rfl (hb hby d6_32) (Q := (Q6_3 Z a0 (4 : Int32) b k2 w0 w1 w2 h0 n0)) ⟨rfl, N0, (by rw [e78]; exact K0), (by rw [e78]; exact P0), (by rw [e78]; exact P1), (by rw [e78]; exact own_arv (show ([(.int w0), (.int w1), (.int w2)] : List Value) = [(.int (own_r (4 : Int32) (0 : Int32) w0)), (.int (own_r (4 : Int32) (1 : Int32) w1)), (.int (own_r (4 : Int32) (2 : Int32) w2))] from by rfl) P3)⟩ (by decide) (by decide)
  · subst hl1
    show own_Go p e below s _ _ (s₁.setTop (mkF m 0 #[rv a0, iv 5, .unset] []))
    refine own_via (fun k => XS.iloadN X0.here hx rfl (hb hby d6_0) rfl  (XS.istoreN X0.here hx rfl (hb hby d6_1) rfl (l' := #[rv a0, iv 5, iv 5]) rfl (XS.iloadN X0.here hx rfl (hb hby d6_2) rfl  (XS.aloadN X0.here hx rfl (hb hby d6_3) rfl rfl  k)))) ?_
    show own_Go p e below s _ _ (s₁.setTop (mkF m 4 #[rv a0, iv 5, iv 5] [(.ref a0), (.int 5)]))
    obtain ⟨T79, X79, e79, st79⟩ := getF X0 hx hZ hown (host := "") (Or.inl (hw _ (List.mem_of_getElem? (i := 28) rfl))) Via.refl e0 P1 (g := (mkF m 4 #[rv a0, iv 5, iv 5] [(.ref a0), (.int 5)])) rfl rfl (hb hby d6_4)
    refine own_via (fun k => st79 _ k) ?_
    show own_Go p e below s _ _ (T79.setTop (mkF m 7 #[rv a0, iv 5, iv 5] [(.int 3), (.int 5)]))
    refine own_via (fun k => XS.icmpYes X79.here hx rfl (pc0 := 7) (pc' := 31) rfl (hb hby d6_7) rfl (by decide) (by decide) (by decide) k) ?_
    show own_Go p e below s _ _ (T79.setTop (mkF m 31 #[rv a0, iv 5, iv 5] []))
    refine own_via (fun k => XS.aloadN X79.here hx rfl (hb hby d6_31) rfl rfl  k) ?_
    show own_Go p e below s _ _ (T79.setTop (mkF m 32 #[rv a0, iv 5, iv 5] [(.ref a0)]))
    exact own_retA X79 hx hlk rfl (t := (.object "com/example/dani/dani/core/Key")) Bd.returns rfl (hb hby d6_32) (Q := (Q6_3 Z a0 (5 : Int32) b k2 w0 w1 w2 h0 n0)) ⟨rfl, N0, (by rw [e79]; exact K0), (by rw [e79]; exact P0), (by rw [e79]; exact P1), (by rw [e79]; exact own_arv (show ([(.int w0), (.int w1), (.int w2)] : List Value) = [(.int (own_r (5 : Int32) (0 : Int32) w0)), (.int (own_r (5 : Int32) (1 : Int32) w1)), (.int (own_r (5 : Int32) (2 : Int32) w2))] from by rfl) P3)⟩ (by decide) (by decide)
  · subst hl1
    show own_Go p e below s _ _ (s₁.setTop (mkF m 0 #[rv a0, iv 6, .unset] []))
    refine own_via (fun k => XS.iloadN X0.here hx rfl (hb hby d6_0) rfl  (XS.istoreN X0.here hx rfl (hb hby d6_1) rfl (l' := #[rv a0, iv 6, iv 6]) rfl (XS.iloadN X0.here hx rfl (hb hby d6_2) rfl  (XS.aloadN X0.here hx rfl (hb hby d6_3) rfl rfl  k)))) ?_
    show own_Go p e below s _ _ (s₁.setTop (mkF m 4 #[rv a0, iv 6, iv 6] [(.ref a0), (.int 6)]))
    obtain ⟨T80, X80, e80, st80⟩ := getF X0 hx hZ hown (host := "") (Or.inl (hw _ (List.mem_of_getElem? (i := 28) rfl))) Via.refl e0 P1 (g := (mkF m 4 #[rv a0, iv 6, iv 6] [(.ref a0), (.int 6)])) rfl rfl (hb hby d6_4)
    refine own_via (fun k => st80 _ k) ?_
    show own_Go p e below s _ _ (T80.setTop (mkF m 7 #[rv a0, iv 6, iv 6] [(.int 3), (.int 6)]))
    refine own_via (fun k => XS.icmpYes X80.here hx rfl (pc0 := 7) (pc' := 31) rfl (hb hby d6_7) rfl (by decide) (by decide) (by decide) k) ?_
    show own_Go p e below s _ _ (T80.setTop (mkF m 31 #[rv a0, iv 6, iv 6] []))
    refine own_via (fun k => XS.aloadN X80.here hx rfl (hb hby d6_31) rfl rfl  k) ?_
    show own_Go p e below s _ _ (T80.setTop (mkF m 32 #[rv a0, iv 6, iv 6] [(.ref a0)]))
    exact own_retA X80 hx hlk rfl (t := (.object "com/example/dani/dani/core/Key")) Bd.returns rfl (hb hby d6_32) (Q := (Q6_3 Z a0 (6 : Int32) b k2 w0 w1 w2 h0 n0)) ⟨rfl, N0, (by rw [e80]; exact K0), (by rw [e80]; exact P0), (by rw [e80]; exact P1), (by rw [e80]; exact own_arv (show ([(.int w0), (.int w1), (.int w2)] : List Value) = [(.int (own_r (6 : Int32) (0 : Int32) w0)), (.int (own_r (6 : Int32) (1 : Int32) w1)), (.int (own_r (6 : Int32) (2 : Int32) w2))] from by rfl) P3)⟩ (by decide) (by decide)
theorem ef_6_4 (m : MethodId) (x0 : Addr) (x1 : Int32) : entryFrame m #[(.ref x0), (.int x1)] 3 = mkF m 0 #[rv x0, iv x1, .unset] [] := by first | (simp [entryFrame, mkF, argsToLocals, Value.category]; done) | rfl
def Q6_4 (Z : State) (a0 : Addr) (p1 : Int32) (b : Addr) (k2 : ClassId) (w0 : Int32) (w1 : Int32) (w2 : Int32) (w3 : Int32) (h0 : Heap) (n0 : Nat) (v : Option Value) (h : Heap) (L : List Loc) : Prop := v = some (.ref a0) ∧ Fr n0 L ∧ Keep h0 h [b] ∧ Fld Z h a0 "com/example/dani/dani/core/Key" "bytes" "[B" (.ref b) ∧ Fld Z h a0 "com/example/dani/dani/core/Key" "length" "I" (.int 4) ∧ Arv Z h b k2 .byte (64 : Int32) [(.int (own_r p1 (0 : Int32) w0)), (.int (own_r p1 (1 : Int32) w1)), (.int (own_r p1 (2 : Int32) w2)), (.int (own_r p1 (3 : Int32) w3))] (.int 0)
set_option maxRecDepth 65536 in
set_option maxHeartbeats 40000000 in
theorem rm6_4 (l : Launch) (Z : State) (aw : Array Value) (hw : ∀ d ∈ tables_1, d.before aw Z = true) (ws : List Jvm.Cond) (a0 : Addr) (p1 : Int32) (b : Addr) (k2 : ClassId) (w0 : Int32) (w1 : Int32) (w2 : Int32) (w3 : Int32) (h0 : Heap) (n0 : Nat) (Z0 : n0 ≤ h0.size) (P0 : Fld Z h0 a0 "com/example/dani/dani/core/Key" "bytes" "[B" (.ref b)) (P1 : Fld Z h0 a0 "com/example/dani/dani/core/Key" "length" "I" (.int 4)) (P2 : Exa Z h0 a0 "com/example/dani/dani/core/Key") (P3 : Arv Z h0 b k2 .byte (64 : Int32) [(.int w0), (.int w1), (.int w2), (.int w3)] (.int 0)) (ge0 : n0 ≤ b) (nx0 : a0 ≠ b) (hs : p1 = (0 : Int32) ∨ p1 = (1 : Int32) ∨ p1 = (2 : Int32) ∨ p1 = (3 : Int32) ∨ p1 = (4 : Int32) ∨ p1 = (5 : Int32) ∨ p1 = (6 : Int32)) :
    MetFree l (⟨"com/example/dani/dani/core/Key", "reversedFrom", "(I)Lcom/example/dani/dani/core/Key;"⟩ : MethodName) (head1 (Jvm.Cond.code (⟨"com/example/dani/dani/core/Key", "reversedFrom", "(I)Lcom/example/dani/dani/core/Key;"⟩ : MethodName) prog_5_method_9_code 3 (some (.object "com/example/dani/dani/core/Key")) :: ws) ({ frames := 0, cells := 0, slots := 0, locals := 0 } : Room)) (fun a U => a = #[(.ref a0), (.int p1)] ∧ Z.Warmed39 U.vm ∧ U.heap = h0) (fun _ _ _ _ _ => True) (fun _ U o U' => ∃ v L, o = .returned v ∧ Q6_4 Z a0 p1 b k2 w0 w1 w2 w3 h0 n0 v U'.heap L ∧ FrameEnd U o U' L ({ frames := 0, cells := 0, slots := 0, locals := 0 } : Room).cells ({ frames := 0, cells := 0, slots := 0, locals := 0 } : Room).slots) := by
  refine MetFree.of_bodySF (plainFor_of_name pn_6) hisR ?_
  intro p e s m args below meth c s₁ Bd hml0 hP hK
  obtain ⟨rfl, hZ, hh⟩ := hP
  have hx := Bd.exec
  have hby := Bd.bytes
  have hml : c.maxLocals = 3 := hml0
  have hown : s.vm.findClass "com/example/dani/dani/core/Key" = some m.cls := findClass_of_methodNamed Bd.named
  have hnm := (name_of_methodNamed Bd.named Bd.method).1
  have hlk : meth.locks = false := by first | exact BodyLoose.notSynchronized (by assumption) | exact Body.notSynchronized (by assumption)
  have X0 : Stand p l e ({ frames := 0, cells := 0, slots := 0, locals := 0 } : Room) s m #[(.ref a0), (.int p1)] below meth c s₁ [] 0 0 := Stand.of_body Bd
  have e0 : s₁.heap = h0 := by rw [← hh, Bd.state]; rfl
  have N0 := Fr.nil n0
  have K0 : Keep h0 h0 [b] := Keep.refl _ _
  refine own_start (CS := (0, 0)) (Q := (Q6_4 Z a0 p1 b k2 w0 w1 w2 w3 h0 n0)) (ef_6_4 m a0 p1) ?_
  show own_Go p e below s _ _ (s₁.setTop (mkF m 0 #[rv a0, iv p1, .unset] []))
  rcases (hs : p1 = (0 : Int32) ∨ p1 = (1 : Int32) ∨ p1 = (2 : Int32) ∨ p1 = (3 : Int32) ∨ p1 = (4 : Int32) ∨ p1 = (5 : Int32) ∨ p1 = (6 : Int32)) with hl1 | hl1 | hl1 | hl1 | hl1 | hl1 | hl1
  · subst hl1
    show own_Go p e below s _ _ (s₁.setTop (mkF m 0 #[rv a0, iv 0, .unset] []))
    refine own_via (fun k => XS.iloadN X0.here hx rfl (hb hby d6_0) rfl  (XS.istoreN X0.here hx rfl (hb hby d6_1) rfl (l' := #[rv a0, iv 0, iv 0]) rfl (XS.iloadN X0.here hx rfl (hb hby d6_2) rfl  (XS.aloadN X0.here hx rfl (hb hby d6_3) rfl rfl  k)))) ?_
    show own_Go p e below s _ _ (s₁.setTop (mkF m 4 #[rv a0, iv 0, iv 0] [(.ref a0), (.int 0)]))
    obtain ⟨T2, X2, e2, st2⟩ := getF X0 hx hZ hown (host := "") (Or.inl (hw _ (List.mem_of_getElem? (i := 28) rfl))) Via.refl e0 P1 (g := (mkF m 4 #[rv a0, iv 0, iv 0] [(.ref a0), (.int 0)])) rfl rfl (hb hby d6_4)
    refine own_via (fun k => st2 _ k) ?_
    show own_Go p e below s _ _ (T2.setTop (mkF m 7 #[rv a0, iv 0, iv 0] [(.int 4), (.int 0)]))
    refine own_via (fun k => XS.icmpNo X2.here hx rfl (hb hby d6_7) rfl (by decide) k) ?_
    show own_Go p e below s _ _ (T2.setTop (mkF m 10 #[rv a0, iv 0, iv 0] []))
    refine own_via (fun k => XS.aloadN X2.here hx rfl (hb hby d6_10) rfl rfl  k) ?_
    show own_Go p e below s _ _ (T2.setTop (mkF m 11 #[rv a0, iv 0, iv 0] [(.ref a0)]))
    obtain ⟨T3, X3, e3, st3⟩ := getF X2 hx hZ hown (host := "") (Or.inl (hw _ (List.mem_of_getElem? (i := 11) rfl))) Via.refl e2 P0 (g := (mkF m 11 #[rv a0, iv 0, iv 0] [(.ref a0)])) rfl rfl (hb hby d6_11)
    refine own_via (fun k => st3 _ k) ?_
    show own_Go p e below s _ _ (T3.setTop (mkF m 14 #[rv a0, iv 0, iv 0] [(.ref b)]))
    refine own_via (fun k => XS.iloadN X3.here hx rfl (hb hby d6_14) rfl  (XS.aloadN X3.here hx rfl (hb hby d6_15) rfl rfl  k)) ?_
    show own_Go p e below s _ _ (T3.setTop (mkF m 16 #[rv a0, iv 0, iv 0] [(.ref a0), (.int 0), (.ref b)]))
    obtain ⟨T4, X4, e4, st4⟩ := getF X3 hx hZ hown (host := "") (Or.inl (hw _ (List.mem_of_getElem? (i := 11) rfl))) Via.refl e3 P0 (g := (mkF m 16 #[rv a0, iv 0, iv 0] [(.ref a0), (.int 0), (.ref b)])) rfl rfl (hb hby d6_16)
    refine own_via (fun k => st4 _ k) ?_
    show own_Go p e below s _ _ (T4.setTop (mkF m 19 #[rv a0, iv 0, iv 0] [(.ref b), (.int 0), (.ref b)]))
    refine own_via (fun k => XS.iloadN X4.here hx rfl (hb hby d6_19) rfl  k) ?_
    show own_Go p e below s _ _ (T4.setTop (mkF m 20 #[rv a0, iv 0, iv 0] [(.int 0), (.ref b), (.int 0), (.ref b)]))
    obtain ⟨cl5, Ar5, q5, S5, NN5, H5, G5⟩ := id P3
    have hin5 : ¬ ((0 : Int32) < 0 ∨ cl5.slots.size ≤ ((0 : Int32)).toNatClampNeg) := inb_of S5 ⟨by decide, by decide⟩
    have hat5 : cl5.slots[((0 : Int32)).toNatClampNeg]? = some (.int w0) := H5.at hin5 rfl
    refine own_via (fun k => X4.baloadBytes hx (j := (0 : Int32)) (v := (.int w0)) (by rw [e4]; exact Ar5.1) (State.isArrayOf_alike hZ.alike Ar5.2.1) Ar5.2.2 hin5 hat5 (g := (mkF m 20 #[rv a0, iv 0, iv 0] [(.int 0), (.ref b), (.int 0), (.ref b)])) rfl rfl (hb hby d6_20) _ k) ?_
    show own_Go p e below s _ _ (T4.setTop (mkF m 21 #[rv a0, iv 0, iv 0] [(.int w0), (.int 0), (.ref b)]))
    refine own_via (fun k => XS.iconst X4.here hx rfl (hb hby d6_21) (XS.ixor X4.here hx rfl (hb hby d6_22) rfl (XS.i2b X4.here hx rfl (hb hby d6_23) rfl k))) ?_
    show own_Go p e below s _ _ (T4.setTop (mkF m 24 #[rv a0, iv 0, iv 0] [(.int ((w0 ^^^ (-1 : Int32)).toInt8.toInt32)), (.int 0), (.ref b)]))
    obtain ⟨cl6, Ar6, q6, S6, NN6, H6, G6⟩ := id P3
    have hin6 : ¬ ((0 : Int32) < 0 ∨ cl6.slots.size ≤ ((0 : Int32)).toNatClampNeg) := inb_of S6 ⟨by decide, by decide⟩
    obtain ⟨T6, h6, X6, e6, W6, st6⟩ := stB X4 hx hZ e4 Ar6 (j := (0 : Int32)) hin6 (g := (mkF m 24 #[rv a0, iv 0, iv 0] [(.int ((w0 ^^^ (-1 : Int32)).toInt8.toInt32)), (.int 0), (.ref b)])) rfl rfl (hb hby d6_24)
    refine own_via (fun k => st6 _ k) ?_
    show own_Go p e below s _ _ (T6.setTop (mkF m 25 #[rv a0, iv 0, iv 0] []))
    have B7 := P0.other W6 (Or.inl nx0)
    have B8 := P1.other W6 (Or.inl nx0)
    have B9 := P2.wr W6
    have B10 : Arv Z h6 b k2 .byte (64 : Int32) [(.int (nar .byte ((w0 ^^^ (-1 : Int32)).toInt8.toInt32))), (.int w1), (.int w2), (.int w3)] (.int 0) := Arv.set Ar6 q6 S6 NN6 H6 G6 (fits_nar_byte _) W6 0 rfl (Nat.le_of_ble_eq_true rfl)
    have N11 := Fr.snoc X6 N0 ge0
    have K12 : Keep h0 h6 [b] := K0.wr W6 (Or.inl (List.mem_of_getElem? (i := 0) rfl))
    have Z13 : n0 ≤ h6.size := Nat.le_trans Z0 (Keep.of_wr W6).1
    refine own_via (fun k => XS.iinc X6.here hx rfl (hb hby d6_25) rfl (l' := #[rv a0, iv 0, iv 1]) rfl (XS.goto X6.here hx rfl (pc0 := 28) (pc' := 2) rfl (hb hby d6_28) (by decide) (by decide) (XS.iloadN X6.here hx rfl (hb hby d6_2) rfl  (XS.aloadN X6.here hx rfl (hb hby d6_3) rfl rfl  k)))) ?_
    show own_Go p e below s _ _ (T6.setTop (mkF m 4 #[rv a0, iv 0, iv 1] [(.ref a0), (.int 1)]))
    obtain ⟨T14, X14, e14, st14⟩ := getF X6 hx hZ hown (host := "") (Or.inl (hw _ (List.mem_of_getElem? (i := 28) rfl))) Via.refl e6 B8 (g := (mkF m 4 #[rv a0, iv 0, iv 1] [(.ref a0), (.int 1)])) rfl rfl (hb hby d6_4)
    refine own_via (fun k => st14 _ k) ?_
    show own_Go p e below s _ _ (T14.setTop (mkF m 7 #[rv a0, iv 0, iv 1] [(.int 4), (.int 1)]))
    refine own_via (fun k => XS.icmpNo X14.here hx rfl (hb hby d6_7) rfl (by decide) k) ?_
    show own_Go p e below s _ _ (T14.setTop (mkF m 10 #[rv a0, iv 0, iv 1] []))
    refine own_via (fun k => XS.aloadN X14.here hx rfl (hb hby d6_10) rfl rfl  k) ?_
    show own_Go p e below s _ _ (T14.setTop (mkF m 11 #[rv a0, iv 0, iv 1] [(.ref a0)]))
    obtain ⟨T15, X15, e15, st15⟩ := getF X14 hx hZ hown (host := "") (Or.inl (hw _ (List.mem_of_getElem? (i := 11) rfl))) Via.refl e14 B7 (g := (mkF m 11 #[rv a0, iv 0, iv 1] [(.ref a0)])) rfl rfl (hb hby d6_11)
    refine own_via (fun k => st15 _ k) ?_
    show own_Go p e below s _ _ (T15.setTop (mkF m 14 #[rv a0, iv 0, iv 1] [(.ref b)]))
    refine own_via (fun k => XS.iloadN X15.here hx rfl (hb hby d6_14) rfl  (XS.aloadN X15.here hx rfl (hb hby d6_15) rfl rfl  k)) ?_
    show own_Go p e below s _ _ (T15.setTop (mkF m 16 #[rv a0, iv 0, iv 1] [(.ref a0), (.int 1), (.ref b)]))
    obtain ⟨T16, X16, e16, st16⟩ := getF X15 hx hZ hown (host := "") (Or.inl (hw _ (List.mem_of_getElem? (i := 11) rfl))) Via.refl e15 B7 (g := (mkF m 16 #[rv a0, iv 0, iv 1] [(.ref a0), (.int 1), (.ref b)])) rfl rfl (hb hby d6_16)
    refine own_via (fun k => st16 _ k) ?_
    show own_Go p e below s _ _ (T16.setTop (mkF m 19 #[rv a0, iv 0, iv 1] [(.ref b), (.int 1), (.ref b)]))
    refine own_via (fun k => XS.iloadN X16.here hx rfl (hb hby d6_19) rfl  k) ?_
    show own_Go p e below s _ _ (T16.setTop (mkF m 20 #[rv a0, iv 0, iv 1] [(.int 1), (.ref b), (.int 1), (.ref b)]))
    obtain ⟨cl17, Ar17, q17, S17, NN17, H17, G17⟩ := id B10
    have hin17 : ¬ ((1 : Int32) < 0 ∨ cl17.slots.size ≤ ((1 : Int32)).toNatClampNeg) := inb_of S17 ⟨by decide, by decide⟩
    have hat17 : cl17.slots[((1 : Int32)).toNatClampNeg]? = some (.int w1) := H17.at hin17 rfl
    refine own_via (fun k => X16.baloadBytes hx (j := (1 : Int32)) (v := (.int w1)) (by rw [e16]; exact Ar17.1) (State.isArrayOf_alike hZ.alike Ar17.2.1) Ar17.2.2 hin17 hat17 (g := (mkF m 20 #[rv a0, iv 0, iv 1] [(.int 1), (.ref b), (.int 1), (.ref b)])) rfl rfl (hb hby d6_20) _ k) ?_
    show own_Go p e below s _ _ (T16.setTop (mkF m 21 #[rv a0, iv 0, iv 1] [(.int w1), (.int 1), (.ref b)]))
    refine own_via (fun k => XS.iconst X16.here hx rfl (hb hby d6_21) (XS.ixor X16.here hx rfl (hb hby d6_22) rfl (XS.i2b X16.here hx rfl (hb hby d6_23) rfl k))) ?_
    show own_Go p e below s _ _ (T16.setTop (mkF m 24 #[rv a0, iv 0, iv 1] [(.int ((w1 ^^^ (-1 : Int32)).toInt8.toInt32)), (.int 1), (.ref b)]))
    obtain ⟨cl18, Ar18, q18, S18, NN18, H18, G18⟩ := id B10
    have hin18 : ¬ ((1 : Int32) < 0 ∨ cl18.slots.size ≤ ((1 : Int32)).toNatClampNeg) := inb_of S18 ⟨by decide, by decide⟩
    obtain ⟨T18, h18, X18, e18, W18, st18⟩ := stB X16 hx hZ e16 Ar18 (j := (1 : Int32)) hin18 (g := (mkF m 24 #[rv a0, iv 0, iv 1] [(.int ((w1 ^^^ (-1 : Int32)).toInt8.toInt32)), (.int 1), (.ref b)])) rfl rfl (hb hby d6_24)
    refine own_via (fun k => st18 _ k) ?_
    show own_Go p e below s _ _ (T18.setTop (mkF m 25 #[rv a0, iv 0, iv 1] []))
    have B19 := B7.other W18 (Or.inl nx0)
    have B20 := B8.other W18 (Or.inl nx0)
    have B21 := B9.wr W18
    have B22 : Arv Z h18 b k2 .byte (64 : Int32) [(.int (nar .byte ((w0 ^^^ (-1 : Int32)).toInt8.toInt32))), (.int (nar .byte ((w1 ^^^ (-1 : Int32)).toInt8.toInt32))), (.int w2), (.int w3)] (.int 0) := Arv.set Ar18 q18 S18 NN18 H18 G18 (fits_nar_byte _) W18 1 rfl (Nat.le_of_ble_eq_true rfl)
    have N23 := Fr.snoc X18 N11 ge0
    have K24 : Keep h0 h18 [b] := K12.wr W18 (Or.inl (List.mem_of_getElem? (i := 0) rfl))
    have Z25 : n0 ≤ h18.size := Nat.le_trans Z13 (Keep.of_wr W18).1
    refine own_via (fun k => XS.iinc X18.here hx rfl (hb hby d6_25) rfl (l' := #[rv a0, iv 0, iv 2]) rfl (XS.goto X18.here hx rfl (pc0 := 28) (pc' := 2) rfl (hb hby d6_28) (by decide) (by decide) (XS.iloadN X18.here hx rfl (hb hby d6_2) rfl  (XS.aloadN X18.here hx rfl (hb hby d6_3) rfl rfl  k)))) ?_
    show own_Go p e below s _ _ (T18.setTop (mkF m 4 #[rv a0, iv 0, iv 2] [(.ref a0), (.int 2)]))
    obtain ⟨T26, X26, e26, st26⟩ := getF X18 hx hZ hown (host := "") (Or.inl (hw _ (List.mem_of_getElem? (i := 28) rfl))) Via.refl e18 B20 (g := (mkF m 4 #[rv a0, iv 0, iv 2] [(.ref a0), (.int 2)])) rfl rfl (hb hby d6_4)
    refine own_via (fun k => st26 _ k) ?_
    show own_Go p e below s _ _ (T26.setTop (mkF m 7 #[rv a0, iv 0, iv 2] [(.int 4), (.int 2)]))
    refine own_via (fun k => XS.icmpNo X26.here hx rfl (hb hby d6_7) rfl (by decide) k) ?_
    show own_Go p e below s _ _ (T26.setTop (mkF m 10 #[rv a0, iv 0, iv 2] []))
    refine own_via (fun k => XS.aloadN X26.here hx rfl (hb hby d6_10) rfl rfl  k) ?_
    show own_Go p e below s _ _ (T26.setTop (mkF m 11 #[rv a0, iv 0, iv 2] [(.ref a0)]))
    obtain ⟨T27, X27, e27, st27⟩ := getF X26 hx hZ hown (host := "") (Or.inl (hw _ (List.mem_of_getElem? (i := 11) rfl))) Via.refl e26 B19 (g := (mkF m 11 #[rv a0, iv 0, iv 2] [(.ref a0)])) rfl rfl (hb hby d6_11)
    refine own_via (fun k => st27 _ k) ?_
    show own_Go p e below s _ _ (T27.setTop (mkF m 14 #[rv a0, iv 0, iv 2] [(.ref b)]))
    refine own_via (fun k => XS.iloadN X27.here hx rfl (hb hby d6_14) rfl  (XS.aloadN X27.here hx rfl (hb hby d6_15) rfl rfl  k)) ?_
    show own_Go p e below s _ _ (T27.setTop (mkF m 16 #[rv a0, iv 0, iv 2] [(.ref a0), (.int 2), (.ref b)]))
    obtain ⟨T28, X28, e28, st28⟩ := getF X27 hx hZ hown (host := "") (Or.inl (hw _ (List.mem_of_getElem? (i := 11) rfl))) Via.refl e27 B19 (g := (mkF m 16 #[rv a0, iv 0, iv 2] [(.ref a0), (.int 2), (.ref b)])) rfl rfl (hb hby d6_16)
    refine own_via (fun k => st28 _ k) ?_
    show own_Go p e below s _ _ (T28.setTop (mkF m 19 #[rv a0, iv 0, iv 2] [(.ref b), (.int 2), (.ref b)]))
    refine own_via (fun k => XS.iloadN X28.here hx rfl (hb hby d6_19) rfl  k) ?_
    show own_Go p e below s _ _ (T28.setTop (mkF m 20 #[rv a0, iv 0, iv 2] [(.int 2), (.ref b), (.int 2), (.ref b)]))
    obtain ⟨cl29, Ar29, q29, S29, NN29, H29, G29⟩ := id B22
    have hin29 : ¬ ((2 : Int32) < 0 ∨ cl29.slots.size ≤ ((2 : Int32)).toNatClampNeg) := inb_of S29 ⟨by decide, by decide⟩
    have hat29 : cl29.slots[((2 : Int32)).toNatClampNeg]? = some (.int w2) := H29.at hin29 rfl
    refine own_via (fun k => X28.baloadBytes hx (j := (2 : Int32)) (v := (.int w2)) (by rw [e28]; exact Ar29.1) (State.isArrayOf_alike hZ.alike Ar29.2.1) Ar29.2.2 hin29 hat29 (g := (mkF m 20 #[rv a0, iv 0, iv 2] [(.int 2), (.ref b), (.int 2), (.ref b)])) rfl rfl (hb hby d6_20) _ k) ?_
    show own_Go p e below s _ _ (T28.setTop (mkF m 21 #[rv a0, iv 0, iv 2] [(.int w2), (.int 2), (.ref b)]))
    refine own_via (fun k => XS.iconst X28.here hx rfl (hb hby d6_21) (XS.ixor X28.here hx rfl (hb hby d6_22) rfl (XS.i2b X28.here hx rfl (hb hby d6_23) rfl k))) ?_
    show own_Go p e below s _ _ (T28.setTop (mkF m 24 #[rv a0, iv 0, iv 2] [(.int ((w2 ^^^ (-1 : Int32)).toInt8.toInt32)), (.int 2), (.ref b)]))
    obtain ⟨cl30, Ar30, q30, S30, NN30, H30, G30⟩ := id B22
    have hin30 : ¬ ((2 : Int32) < 0 ∨ cl30.slots.size ≤ ((2 : Int32)).toNatClampNeg) := inb_of S30 ⟨by decide, by decide⟩
    obtain ⟨T30, h30, X30, e30, W30, st30⟩ := stB X28 hx hZ e28 Ar30 (j := (2 : Int32)) hin30 (g := (mkF m 24 #[rv a0, iv 0, iv 2] [(.int ((w2 ^^^ (-1 : Int32)).toInt8.toInt32)), (.int 2), (.ref b)])) rfl rfl (hb hby d6_24)
    refine own_via (fun k => st30 _ k) ?_
    show own_Go p e below s _ _ (T30.setTop (mkF m 25 #[rv a0, iv 0, iv 2] []))
    have B31 := B19.other W30 (Or.inl nx0)
    have B32 := B20.other W30 (Or.inl nx0)
    have B33 := B21.wr W30
    have B34 : Arv Z h30 b k2 .byte (64 : Int32) [(.int (nar .byte ((w0 ^^^ (-1 : Int32)).toInt8.toInt32))), (.int (nar .byte ((w1 ^^^ (-1 : Int32)).toInt8.toInt32))), (.int (nar .byte ((w2 ^^^ (-1 : Int32)).toInt8.toInt32))), (.int w3)] (.int 0) := Arv.set Ar30 q30 S30 NN30 H30 G30 (fits_nar_byte _) W30 2 rfl (Nat.le_of_ble_eq_true rfl)
    have N35 := Fr.snoc X30 N23 ge0
    have K36 : Keep h0 h30 [b] := K24.wr W30 (Or.inl (List.mem_of_getElem? (i := 0) rfl))
    have Z37 : n0 ≤ h30.size := Nat.le_trans Z25 (Keep.of_wr W30).1
    refine own_via (fun k => XS.iinc X30.here hx rfl (hb hby d6_25) rfl (l' := #[rv a0, iv 0, iv 3]) rfl (XS.goto X30.here hx rfl (pc0 := 28) (pc' := 2) rfl (hb hby d6_28) (by decide) (by decide) (XS.iloadN X30.here hx rfl (hb hby d6_2) rfl  (XS.aloadN X30.here hx rfl (hb hby d6_3) rfl rfl  k)))) ?_
    show own_Go p e below s _ _ (T30.setTop (mkF m 4 #[rv a0, iv 0, iv 3] [(.ref a0), (.int 3)]))
    obtain ⟨T38, X38, e38, st38⟩ := getF X30 hx hZ hown (host := "") (Or.inl (hw _ (List.mem_of_getElem? (i := 28) rfl))) Via.refl e30 B32 (g := (mkF m 4 #[rv a0, iv 0, iv 3] [(.ref a0), (.int 3)])) rfl rfl (hb hby d6_4)
    refine own_via (fun k => st38 _ k) ?_
    show own_Go p e below s _ _ (T38.setTop (mkF m 7 #[rv a0, iv 0, iv 3] [(.int 4), (.int 3)]))
    refine own_via (fun k => XS.icmpNo X38.here hx rfl (hb hby d6_7) rfl (by decide) k) ?_
    show own_Go p e below s _ _ (T38.setTop (mkF m 10 #[rv a0, iv 0, iv 3] []))
    refine own_via (fun k => XS.aloadN X38.here hx rfl (hb hby d6_10) rfl rfl  k) ?_
    show own_Go p e below s _ _ (T38.setTop (mkF m 11 #[rv a0, iv 0, iv 3] [(.ref a0)]))
    obtain ⟨T39, X39, e39, st39⟩ := getF X38 hx hZ hown (host := "") (Or.inl (hw _ (List.mem_of_getElem? (i := 11) rfl))) Via.refl e38 B31 (g := (mkF m 11 #[rv a0, iv 0, iv 3] [(.ref a0)])) rfl rfl (hb hby d6_11)
    refine own_via (fun k => st39 _ k) ?_
    show own_Go p e below s _ _ (T39.setTop (mkF m 14 #[rv a0, iv 0, iv 3] [(.ref b)]))
    refine own_via (fun k => XS.iloadN X39.here hx rfl (hb hby d6_14) rfl  (XS.aloadN X39.here hx rfl (hb hby d6_15) rfl rfl  k)) ?_
    show own_Go p e below s _ _ (T39.setTop (mkF m 16 #[rv a0, iv 0, iv 3] [(.ref a0), (.int 3), (.ref b)]))
    obtain ⟨T40, X40, e40, st40⟩ := getF X39 hx hZ hown (host := "") (Or.inl (hw _ (List.mem_of_getElem? (i := 11) rfl))) Via.refl e39 B31 (g := (mkF m 16 #[rv a0, iv 0, iv 3] [(.ref a0), (.int 3), (.ref b)])) rfl rfl (hb hby d6_16)
    refine own_via (fun k => st40 _ k) ?_
    show own_Go p e below s _ _ (T40.setTop (mkF m 19 #[rv a0, iv 0, iv 3] [(.ref b), (.int 3), (.ref b)]))
    refine own_via (fun k => XS.iloadN X40.here hx rfl (hb hby d6_19) rfl  k) ?_
    show own_Go p e below s _ _ (T40.setTop (mkF m 20 #[rv a0, iv 0, iv 3] [(.int 3), (.ref b), (.int 3), (.ref b)]))
    obtain ⟨cl41, Ar41, q41, S41, NN41, H41, G41⟩ := id B34
    have hin41 : ¬ ((3 : Int32) < 0 ∨ cl41.slots.size ≤ ((3 : Int32)).toNatClampNeg) := inb_of S41 ⟨by decide, by decide⟩
    have hat41 : cl41.slots[((3 : Int32)).toNatClampNeg]? = some (.int w3) := H41.at hin41 rfl
    refine own_via (fun k => X40.baloadBytes hx (j := (3 : Int32)) (v := (.int w3)) (by rw [e40]; exact Ar41.1) (State.isArrayOf_alike hZ.alike Ar41.2.1) Ar41.2.2 hin41 hat41 (g := (mkF m 20 #[rv a0, iv 0, iv 3] [(.int 3), (.ref b), (.int 3), (.ref b)])) rfl rfl (hb hby d6_20) _ k) ?_
    show own_Go p e below s _ _ (T40.setTop (mkF m 21 #[rv a0, iv 0, iv 3] [(.int w3), (.int 3), (.ref b)]))
    refine own_via (fun k => XS.iconst X40.here hx rfl (hb hby d6_21) (XS.ixor X40.here hx rfl (hb hby d6_22) rfl (XS.i2b X40.here hx rfl (hb hby d6_23) rfl k))) ?_
    show own_Go p e below s _ _ (T40.setTop (mkF m 24 #[rv a0, iv 0, iv 3] [(.int ((w3 ^^^ (-1 : Int32)).toInt8.toInt32)), (.int 3), (.ref b)]))
    obtain ⟨cl42, Ar42, q42, S42, NN42, H42, G42⟩ := id B34
    have hin42 : ¬ ((3 : Int32) < 0 ∨ cl42.slots.size ≤ ((3 : Int32)).toNatClampNeg) := inb_of S42 ⟨by decide, by decide⟩
    obtain ⟨T42, h42, X42, e42, W42, st42⟩ := stB X40 hx hZ e40 Ar42 (j := (3 : Int32)) hin42 (g := (mkF m 24 #[rv a0, iv 0, iv 3] [(.int ((w3 ^^^ (-1 : Int32)).toInt8.toInt32)), (.int 3), (.ref b)])) rfl rfl (hb hby d6_24)
    refine own_via (fun k => st42 _ k) ?_
    show own_Go p e below s _ _ (T42.setTop (mkF m 25 #[rv a0, iv 0, iv 3] []))
    have B43 := B31.other W42 (Or.inl nx0)
    have B44 := B32.other W42 (Or.inl nx0)
    have B45 := B33.wr W42
    have B46 : Arv Z h42 b k2 .byte (64 : Int32) [(.int (nar .byte ((w0 ^^^ (-1 : Int32)).toInt8.toInt32))), (.int (nar .byte ((w1 ^^^ (-1 : Int32)).toInt8.toInt32))), (.int (nar .byte ((w2 ^^^ (-1 : Int32)).toInt8.toInt32))), (.int (nar .byte ((w3 ^^^ (-1 : Int32)).toInt8.toInt32)))] (.int 0) := Arv.set Ar42 q42 S42 NN42 H42 G42 (fits_nar_byte _) W42 3 rfl (Nat.le_of_ble_eq_true rfl)
    have N47 := Fr.snoc X42 N35 ge0
    have K48 : Keep h0 h42 [b] := K36.wr W42 (Or.inl (List.mem_of_getElem? (i := 0) rfl))
    have Z49 : n0 ≤ h42.size := Nat.le_trans Z37 (Keep.of_wr W42).1
    refine own_via (fun k => XS.iinc X42.here hx rfl (hb hby d6_25) rfl (l' := #[rv a0, iv 0, iv 4]) rfl (XS.goto X42.here hx rfl (pc0 := 28) (pc' := 2) rfl (hb hby d6_28) (by decide) (by decide) (XS.iloadN X42.here hx rfl (hb hby d6_2) rfl  (XS.aloadN X42.here hx rfl (hb hby d6_3) rfl rfl  k)))) ?_
    show own_Go p e below s _ _ (T42.setTop (mkF m 4 #[rv a0, iv 0, iv 4] [(.ref a0), (.int 4)]))
    obtain ⟨T50, X50, e50, st50⟩ := getF X42 hx hZ hown (host := "") (Or.inl (hw _ (List.mem_of_getElem? (i := 28) rfl))) Via.refl e42 B44 (g := (mkF m 4 #[rv a0, iv 0, iv 4] [(.ref a0), (.int 4)])) rfl rfl (hb hby d6_4)
    refine own_via (fun k => st50 _ k) ?_
    show own_Go p e below s _ _ (T50.setTop (mkF m 7 #[rv a0, iv 0, iv 4] [(.int 4), (.int 4)]))
    refine own_via (fun k => XS.icmpYes X50.here hx rfl (pc0 := 7) (pc' := 31) rfl (hb hby d6_7) rfl (by decide) (by decide) (by decide) k) ?_
    show own_Go p e below s _ _ (T50.setTop (mkF m 31 #[rv a0, iv 0, iv 4] []))
    refine own_via (fun k => XS.aloadN X50.here hx rfl (hb hby d6_31) rfl rfl  k) ?_
    show own_Go p e below s _ _ (T50.setTop (mkF m 32 #[rv a0, iv 0, iv 4] [(.ref a0)]))
    exact own_retA X50 hx hlk rfl (t := (.object "com/example/dani/dani/core/Key")) Bd.returns rfl (hb hby d6_32) (Q := (Q6_4 Z a0 (0 : Int32) b k2 w0 w1 w2 w3 h0 n0)) ⟨rfl, N47, (by rw [e50]; exact K48), (by rw [e50]; exact B43), (by rw [e50]; exact B44), (by rw [e50]; exact own_arv (show ([(.int (nar .byte ((w0 ^^^ (-1 : Int32)).toInt8.toInt32))), (.int (nar .byte ((w1 ^^^ (-1 : Int32)).toInt8.toInt32))), (.int (nar .byte ((w2 ^^^ (-1 : Int32)).toInt8.toInt32))), (.int (nar .byte ((w3 ^^^ (-1 : Int32)).toInt8.toInt32)))] : List Value) = [(.int (own_r (0 : Int32) (0 : Int32) w0)), (.int (own_r (0 : Int32) (1 : Int32) w1)), (.int (own_r (0 : Int32) (2 : Int32) w2)), (.int (own_r (0 : Int32) (3 : Int32) w3))] from by rfl) B46)⟩ (by decide) (by decide)
  · subst hl1
    show own_Go p e below s _ _ (s₁.setTop (mkF m 0 #[rv a0, iv 1, .unset] []))
    refine own_via (fun k => XS.iloadN X0.here hx rfl (hb hby d6_0) rfl  (XS.istoreN X0.here hx rfl (hb hby d6_1) rfl (l' := #[rv a0, iv 1, iv 1]) rfl (XS.iloadN X0.here hx rfl (hb hby d6_2) rfl  (XS.aloadN X0.here hx rfl (hb hby d6_3) rfl rfl  k)))) ?_
    show own_Go p e below s _ _ (s₁.setTop (mkF m 4 #[rv a0, iv 1, iv 1] [(.ref a0), (.int 1)]))
    obtain ⟨T51, X51, e51, st51⟩ := getF X0 hx hZ hown (host := "") (Or.inl (hw _ (List.mem_of_getElem? (i := 28) rfl))) Via.refl e0 P1 (g := (mkF m 4 #[rv a0, iv 1, iv 1] [(.ref a0), (.int 1)])) rfl rfl (hb hby d6_4)
    refine own_via (fun k => st51 _ k) ?_
    show own_Go p e below s _ _ (T51.setTop (mkF m 7 #[rv a0, iv 1, iv 1] [(.int 4), (.int 1)]))
    refine own_via (fun k => XS.icmpNo X51.here hx rfl (hb hby d6_7) rfl (by decide) k) ?_
    show own_Go p e below s _ _ (T51.setTop (mkF m 10 #[rv a0, iv 1, iv 1] []))
    refine own_via (fun k => XS.aloadN X51.here hx rfl (hb hby d6_10) rfl rfl  k) ?_
    show own_Go p e below s _ _ (T51.setTop (mkF m 11 #[rv a0, iv 1, iv 1] [(.ref a0)]))
    obtain ⟨T52, X52, e52, st52⟩ := getF X51 hx hZ hown (host := "") (Or.inl (hw _ (List.mem_of_getElem? (i := 11) rfl))) Via.refl e51 P0 (g := (mkF m 11 #[rv a0, iv 1, iv 1] [(.ref a0)])) rfl rfl (hb hby d6_11)
    refine own_via (fun k => st52 _ k) ?_
    show own_Go p e below s _ _ (T52.setTop (mkF m 14 #[rv a0, iv 1, iv 1] [(.ref b)]))
    refine own_via (fun k => XS.iloadN X52.here hx rfl (hb hby d6_14) rfl  (XS.aloadN X52.here hx rfl (hb hby d6_15) rfl rfl  k)) ?_
    show own_Go p e below s _ _ (T52.setTop (mkF m 16 #[rv a0, iv 1, iv 1] [(.ref a0), (.int 1), (.ref b)]))
    obtain ⟨T53, X53, e53, st53⟩ := getF X52 hx hZ hown (host := "") (Or.inl (hw _ (List.mem_of_getElem? (i := 11) rfl))) Via.refl e52 P0 (g := (mkF m 16 #[rv a0, iv 1, iv 1] [(.ref a0), (.int 1), (.ref b)])) rfl rfl (hb hby d6_16)
    refine own_via (fun k => st53 _ k) ?_
    show own_Go p e below s _ _ (T53.setTop (mkF m 19 #[rv a0, iv 1, iv 1] [(.ref b), (.int 1), (.ref b)]))
    refine own_via (fun k => XS.iloadN X53.here hx rfl (hb hby d6_19) rfl  k) ?_
    show own_Go p e below s _ _ (T53.setTop (mkF m 20 #[rv a0, iv 1, iv 1] [(.int 1), (.ref b), (.int 1), (.ref b)]))
    obtain ⟨cl54, Ar54, q54, S54, NN54, H54, G54⟩ := id P3
    have hin54 : ¬ ((1 : Int32) < 0 ∨ cl54.slots.size ≤ ((1 : Int32)).toNatClampNeg) := inb_of S54 ⟨by decide, by decide⟩
    have hat54 : cl54.slots[((1 : Int32)).toNatClampNeg]? = some (.int w1) := H54.at hin54 rfl
    refine own_via (fun k => X53.baloadBytes hx (j := (1 : Int32)) (v := (.int w1)) (by rw [e53]; exact Ar54.1) (State.isArrayOf_alike hZ.alike Ar54.2.1) Ar54.2.2 hin54 hat54 (g := (mkF m 20 #[rv a0, iv 1, iv 1] [(.int 1), (.ref b), (.int 1), (.ref b)])) rfl rfl (hb hby d6_20) _ k) ?_
    show own_Go p e below s _ _ (T53.setTop (mkF m 21 #[rv a0, iv 1, iv 1] [(.int w1), (.int 1), (.ref b)]))
    refine own_via (fun k => XS.iconst X53.here hx rfl (hb hby d6_21) (XS.ixor X53.here hx rfl (hb hby d6_22) rfl (XS.i2b X53.here hx rfl (hb hby d6_23) rfl k))) ?_
    show own_Go p e below s _ _ (T53.setTop (mkF m 24 #[rv a0, iv 1, iv 1] [(.int ((w1 ^^^ (-1 : Int32)).toInt8.toInt32)), (.int 1), (.ref b)]))
    obtain ⟨cl55, Ar55, q55, S55, NN55, H55, G55⟩ := id P3
    have hin55 : ¬ ((1 : Int32) < 0 ∨ cl55.slots.size ≤ ((1 : Int32)).toNatClampNeg) := inb_of S55 ⟨by decide, by decide⟩
    obtain ⟨T55, h55, X55, e55, W55, st55⟩ := stB X53 hx hZ e53 Ar55 (j := (1 : Int32)) hin55 (g := (mkF m 24 #[rv a0, iv 1, iv 1] [(.int ((w1 ^^^ (-1 : Int32)).toInt8.toInt32)), (.int 1), (.ref b)])) rfl rfl (hb hby d6_24)
    refine own_via (fun k => st55 _ k) ?_
    show own_Go p e below s _ _ (T55.setTop (mkF m 25 #[rv a0, iv 1, iv 1] []))
    have B56 := P0.other W55 (Or.inl nx0)
    have B57 := P1.other W55 (Or.inl nx0)
    have B58 := P2.wr W55
    have B59 : Arv Z h55 b k2 .byte (64 : Int32) [(.int w0), (.int (nar .byte ((w1 ^^^ (-1 : Int32)).toInt8.toInt32))), (.int w2), (.int w3)] (.int 0) := Arv.set Ar55 q55 S55 NN55 H55 G55 (fits_nar_byte _) W55 1 rfl (Nat.le_of_ble_eq_true rfl)
    have N60 := Fr.snoc X55 N0 ge0
    have K61 : Keep h0 h55 [b] := K0.wr W55 (Or.inl (List.mem_of_getElem? (i := 0) rfl))
    have Z62 : n0 ≤ h55.size := Nat.le_trans Z0 (Keep.of_wr W55).1
    refine own_via (fun k => XS.iinc X55.here hx rfl (hb hby d6_25) rfl (l' := #[rv a0, iv 1, iv 2]) rfl (XS.goto X55.here hx rfl (pc0 := 28) (pc' := 2) rfl (hb hby d6_28) (by decide) (by decide) (XS.iloadN X55.here hx rfl (hb hby d6_2) rfl  (XS.aloadN X55.here hx rfl (hb hby d6_3) rfl rfl  k)))) ?_
    show own_Go p e below s _ _ (T55.setTop (mkF m 4 #[rv a0, iv 1, iv 2] [(.ref a0), (.int 2)]))
    obtain ⟨T63, X63, e63, st63⟩ := getF X55 hx hZ hown (host := "") (Or.inl (hw _ (List.mem_of_getElem? (i := 28) rfl))) Via.refl e55 B57 (g := (mkF m 4 #[rv a0, iv 1, iv 2] [(.ref a0), (.int 2)])) rfl rfl (hb hby d6_4)
    refine own_via (fun k => st63 _ k) ?_
    show own_Go p e below s _ _ (T63.setTop (mkF m 7 #[rv a0, iv 1, iv 2] [(.int 4), (.int 2)]))
    refine own_via (fun k => XS.icmpNo X63.here hx rfl (hb hby d6_7) rfl (by decide) k) ?_
    show own_Go p e below s _ _ (T63.setTop (mkF m 10 #[rv a0, iv 1, iv 2] []))
    refine own_via (fun k => XS.aloadN X63.here hx rfl (hb hby d6_10) rfl rfl  k) ?_
    show own_Go p e below s _ _ (T63.setTop (mkF m 11 #[rv a0, iv 1, iv 2] [(.ref a0)]))
    obtain ⟨T64, X64, e64, st64⟩ := getF X63 hx hZ hown (host := "") (Or.inl (hw _ (List.mem_of_getElem? (i := 11) rfl))) Via.refl e63 B56 (g := (mkF m 11 #[rv a0, iv 1, iv 2] [(.ref a0)])) rfl rfl (hb hby d6_11)
    refine own_via (fun k => st64 _ k) ?_
    show own_Go p e below s _ _ (T64.setTop (mkF m 14 #[rv a0, iv 1, iv 2] [(.ref b)]))
    refine own_via (fun k => XS.iloadN X64.here hx rfl (hb hby d6_14) rfl  (XS.aloadN X64.here hx rfl (hb hby d6_15) rfl rfl  k)) ?_
    show own_Go p e below s _ _ (T64.setTop (mkF m 16 #[rv a0, iv 1, iv 2] [(.ref a0), (.int 2), (.ref b)]))
    obtain ⟨T65, X65, e65, st65⟩ := getF X64 hx hZ hown (host := "") (Or.inl (hw _ (List.mem_of_getElem? (i := 11) rfl))) Via.refl e64 B56 (g := (mkF m 16 #[rv a0, iv 1, iv 2] [(.ref a0), (.int 2), (.ref b)])) rfl rfl (hb hby d6_16)
    refine own_via (fun k => st65 _ k) ?_
    show own_Go p e below s _ _ (T65.setTop (mkF m 19 #[rv a0, iv 1, iv 2] [(.ref b), (.int 2), (.ref b)]))
    refine own_via (fun k => XS.iloadN X65.here hx rfl (hb hby d6_19) rfl  k) ?_
    show own_Go p e below s _ _ (T65.setTop (mkF m 20 #[rv a0, iv 1, iv 2] [(.int 2), (.ref b), (.int 2), (.ref b)]))
    obtain ⟨cl66, Ar66, q66, S66, NN66, H66, G66⟩ := id B59
    have hin66 : ¬ ((2 : Int32) < 0 ∨ cl66.slots.size ≤ ((2 : Int32)).toNatClampNeg) := inb_of S66 ⟨by decide, by decide⟩
    have hat66 : cl66.slots[((2 : Int32)).toNatClampNeg]? = some (.int w2) := H66.at hin66 rfl
    refine own_via (fun k => X65.baloadBytes hx (j := (2 : Int32)) (v := (.int w2)) (by rw [e65]; exact Ar66.1) (State.isArrayOf_alike hZ.alike Ar66.2.1) Ar66.2.2 hin66 hat66 (g := (mkF m 20 #[rv a0, iv 1, iv 2] [(.int 2), (.ref b), (.int 2), (.ref b)])) rfl rfl (hb hby d6_20) _ k) ?_
    show own_Go p e below s _ _ (T65.setTop (mkF m 21 #[rv a0, iv 1, iv 2] [(.int w2), (.int 2), (.ref b)]))
    refine own_via (fun k => XS.iconst X65.here hx rfl (hb hby d6_21) (XS.ixor X65.here hx rfl (hb hby d6_22) rfl (XS.i2b X65.here hx rfl (hb hby d6_23) rfl k))) ?_
    show own_Go p e below s _ _ (T65.setTop (mkF m 24 #[rv a0, iv 1, iv 2] [(.int ((w2 ^^^ (-1 : Int32)).toInt8.toInt32)), (.int 2), (.ref b)]))
    obtain ⟨cl67, Ar67, q67, S67, NN67, H67, G67⟩ := id B59
    have hin67 : ¬ ((2 : Int32) < 0 ∨ cl67.slots.size ≤ ((2 : Int32)).toNatClampNeg) := inb_of S67 ⟨by decide, by decide⟩
    obtain ⟨T67, h67, X67, e67, W67, st67⟩ := stB X65 hx hZ e65 Ar67 (j := (2 : Int32)) hin67 (g := (mkF m 24 #[rv a0, iv 1, iv 2] [(.int ((w2 ^^^ (-1 : Int32)).toInt8.toInt32)), (.int 2), (.ref b)])) rfl rfl (hb hby d6_24)
    refine own_via (fun k => st67 _ k) ?_
    show own_Go p e below s _ _ (T67.setTop (mkF m 25 #[rv a0, iv 1, iv 2] []))
    have B68 := B56.other W67 (Or.inl nx0)
    have B69 := B57.other W67 (Or.inl nx0)
    have B70 := B58.wr W67
    have B71 : Arv Z h67 b k2 .byte (64 : Int32) [(.int w0), (.int (nar .byte ((w1 ^^^ (-1 : Int32)).toInt8.toInt32))), (.int (nar .byte ((w2 ^^^ (-1 : Int32)).toInt8.toInt32))), (.int w3)] (.int 0) := Arv.set Ar67 q67 S67 NN67 H67 G67 (fits_nar_byte _) W67 2 rfl (Nat.le_of_ble_eq_true rfl)
    have N72 := Fr.snoc X67 N60 ge0
    have K73 : Keep h0 h67 [b] := K61.wr W67 (Or.inl (List.mem_of_getElem? (i := 0) rfl))
    have Z74 : n0 ≤ h67.size := Nat.le_trans Z62 (Keep.of_wr W67).1
    refine own_via (fun k => XS.iinc X67.here hx rfl (hb hby d6_25) rfl (l' := #[rv a0, iv 1, iv 3]) rfl (XS.goto X67.here hx rfl (pc0 := 28) (pc' := 2) rfl (hb hby d6_28) (by decide) (by decide) (XS.iloadN X67.here hx rfl (hb hby d6_2) rfl  (XS.aloadN X67.here hx rfl (hb hby d6_3) rfl rfl  k)))) ?_
    show own_Go p e below s _ _ (T67.setTop (mkF m 4 #[rv a0, iv 1, iv 3] [(.ref a0), (.int 3)]))
    obtain ⟨T75, X75, e75, st75⟩ := getF X67 hx hZ hown (host := "") (Or.inl (hw _ (List.mem_of_getElem? (i := 28) rfl))) Via.refl e67 B69 (g := (mkF m 4 #[rv a0, iv 1, iv 3] [(.ref a0), (.int 3)])) rfl rfl (hb hby d6_4)
    refine own_via (fun k => st75 _ k) ?_
    show own_Go p e below s _ _ (T75.setTop (mkF m 7 #[rv a0, iv 1, iv 3] [(.int 4), (.int 3)]))
    refine own_via (fun k => XS.icmpNo X75.here hx rfl (hb hby d6_7) rfl (by decide) k) ?_
    show own_Go p e below s _ _ (T75.setTop (mkF m 10 #[rv a0, iv 1, iv 3] []))
    refine own_via (fun k => XS.aloadN X75.here hx rfl (hb hby d6_10) rfl rfl  k) ?_
    show own_Go p e below s _ _ (T75.setTop (mkF m 11 #[rv a0, iv 1, iv 3] [(.ref a0)]))
    obtain ⟨T76, X76, e76, st76⟩ := getF X75 hx hZ hown (host := "") (Or.inl (hw _ (List.mem_of_getElem? (i := 11) rfl))) Via.refl e75 B68 (g := (mkF m 11 #[rv a0, iv 1, iv 3] [(.ref a0)])) rfl rfl (hb hby d6_11)
    refine own_via (fun k => st76 _ k) ?_
    show own_Go p e below s _ _ (T76.setTop (mkF m 14 #[rv a0, iv 1, iv 3] [(.ref b)]))
    refine own_via (fun k => XS.iloadN X76.here hx rfl (hb hby d6_14) rfl  (XS.aloadN X76.here hx rfl (hb hby d6_15) rfl rfl  k)) ?_
    show own_Go p e below s _ _ (T76.setTop (mkF m 16 #[rv a0, iv 1, iv 3] [(.ref a0), (.int 3), (.ref b)]))
    obtain ⟨T77, X77, e77, st77⟩ := getF X76 hx hZ hown (host := "") (Or.inl (hw _ (List.mem_of_getElem? (i := 11) rfl))) Via.refl e76 B68 (g := (mkF m 16 #[rv a0, iv 1, iv 3] [(.ref a0), (.int 3), (.ref b)])) rfl rfl (hb hby d6_16)
    refine own_via (fun k => st77 _ k) ?_
    show own_Go p e below s _ _ (T77.setTop (mkF m 19 #[rv a0, iv 1, iv 3] [(.ref b), (.int 3), (.ref b)]))
    refine own_via (fun k => XS.iloadN X77.here hx rfl (hb hby d6_19) rfl  k) ?_
    show own_Go p e below s _ _ (T77.setTop (mkF m 20 #[rv a0, iv 1, iv 3] [(.int 3), (.ref b), (.int 3), (.ref b)]))
    obtain ⟨cl78, Ar78, q78, S78, NN78, H78, G78⟩ := id B71
    have hin78 : ¬ ((3 : Int32) < 0 ∨ cl78.slots.size ≤ ((3 : Int32)).toNatClampNeg) := inb_of S78 ⟨by decide, by decide⟩
    have hat78 : cl78.slots[((3 : Int32)).toNatClampNeg]? = some (.int w3) := H78.at hin78 rfl
    refine own_via (fun k => X77.baloadBytes hx (j := (3 : Int32)) (v := (.int w3)) (by rw [e77]; exact Ar78.1) (State.isArrayOf_alike hZ.alike Ar78.2.1) Ar78.2.2 hin78 hat78 (g := (mkF m 20 #[rv a0, iv 1, iv 3] [(.int 3), (.ref b), (.int 3), (.ref b)])) rfl rfl (hb hby d6_20) _ k) ?_
    show own_Go p e below s _ _ (T77.setTop (mkF m 21 #[rv a0, iv 1, iv 3] [(.int w3), (.int 3), (.ref b)]))
    refine own_via (fun k => XS.iconst X77.here hx rfl (hb hby d6_21) (XS.ixor X77.here hx rfl (hb hby d6_22) rfl (XS.i2b X77.here hx rfl (hb hby d6_23) rfl k))) ?_
    show own_Go p e below s _ _ (T77.setTop (mkF m 24 #[rv a0, iv 1, iv 3] [(.int ((w3 ^^^ (-1 : Int32)).toInt8.toInt32)), (.int 3), (.ref b)]))
    obtain ⟨cl79, Ar79, q79, S79, NN79, H79, G79⟩ := id B71
    have hin79 : ¬ ((3 : Int32) < 0 ∨ cl79.slots.size ≤ ((3 : Int32)).toNatClampNeg) := inb_of S79 ⟨by decide, by decide⟩
    obtain ⟨T79, h79, X79, e79, W79, st79⟩ := stB X77 hx hZ e77 Ar79 (j := (3 : Int32)) hin79 (g := (mkF m 24 #[rv a0, iv 1, iv 3] [(.int ((w3 ^^^ (-1 : Int32)).toInt8.toInt32)), (.int 3), (.ref b)])) rfl rfl (hb hby d6_24)
    refine own_via (fun k => st79 _ k) ?_
    show own_Go p e below s _ _ (T79.setTop (mkF m 25 #[rv a0, iv 1, iv 3] []))
    have B80 := B68.other W79 (Or.inl nx0)
    have B81 := B69.other W79 (Or.inl nx0)
    have B82 := B70.wr W79
    have B83 : Arv Z h79 b k2 .byte (64 : Int32) [(.int w0), (.int (nar .byte ((w1 ^^^ (-1 : Int32)).toInt8.toInt32))), (.int (nar .byte ((w2 ^^^ (-1 : Int32)).toInt8.toInt32))), (.int (nar .byte ((w3 ^^^ (-1 : Int32)).toInt8.toInt32)))] (.int 0) := Arv.set Ar79 q79 S79 NN79 H79 G79 (fits_nar_byte _) W79 3 rfl (Nat.le_of_ble_eq_true rfl)
    have N84 := Fr.snoc X79 N72 ge0
    have K85 : Keep h0 h79 [b] := K73.wr W79 (Or.inl (List.mem_of_getElem? (i := 0) rfl))
    have Z86 : n0 ≤ h79.size := Nat.le_trans Z74 (Keep.of_wr W79).1
    refine own_via (fun k => XS.iinc X79.here hx rfl (hb hby d6_25) rfl (l' := #[rv a0, iv 1, iv 4]) rfl (XS.goto X79.here hx rfl (pc0 := 28) (pc' := 2) rfl (hb hby d6_28) (by decide) (by decide) (XS.iloadN X79.here hx rfl (hb hby d6_2) rfl  (XS.aloadN X79.here hx rfl (hb hby d6_3) rfl rfl  k)))) ?_
    show own_Go p e below s _ _ (T79.setTop (mkF m 4 #[rv a0, iv 1, iv 4] [(.ref a0), (.int 4)]))
    obtain ⟨T87, X87, e87, st87⟩ := getF X79 hx hZ hown (host := "") (Or.inl (hw _ (List.mem_of_getElem? (i := 28) rfl))) Via.refl e79 B81 (g := (mkF m 4 #[rv a0, iv 1, iv 4] [(.ref a0), (.int 4)])) rfl rfl (hb hby d6_4)
    refine own_via (fun k => st87 _ k) ?_
    show own_Go p e below s _ _ (T87.setTop (mkF m 7 #[rv a0, iv 1, iv 4] [(.int 4), (.int 4)]))
    refine own_via (fun k => XS.icmpYes X87.here hx rfl (pc0 := 7) (pc' := 31) rfl (hb hby d6_7) rfl (by decide) (by decide) (by decide) k) ?_
    show own_Go p e below s _ _ (T87.setTop (mkF m 31 #[rv a0, iv 1, iv 4] []))
    refine own_via (fun k => XS.aloadN X87.here hx rfl (hb hby d6_31) rfl rfl  k) ?_
    show own_Go p e below s _ _ (T87.setTop (mkF m 32 #[rv a0, iv 1, iv 4] [(.ref a0)]))
    exact own_retA X87 hx hlk rfl (t := (.object "com/example/dani/dani/core/Key")) Bd.returns rfl (hb hby d6_32) (Q := (Q6_4 Z a0 (1 : Int32) b k2 w0 w1 w2 w3 h0 n0)) ⟨rfl, N84, (by rw [e87]; exact K85), (by rw [e87]; exact B80), (by rw [e87]; exact B81), (by rw [e87]; exact own_arv (show ([(.int w0), (.int (nar .byte ((w1 ^^^ (-1 : Int32)).toInt8.toInt32))), (.int (nar .byte ((w2 ^^^ (-1 : Int32)).toInt8.toInt32))), (.int (nar .byte ((w3 ^^^ (-1 : Int32)).toInt8.toInt32)))] : List Value) = [(.int (own_r (1 : Int32) (0 : Int32) w0)), (.int (own_r (1 : Int32) (1 : Int32) w1)), (.int (own_r (1 : Int32) (2 : Int32) w2)), (.int (own_r (1 : Int32) (3 : Int32) w3))] from by rfl) B83)⟩ (by decide) (by decide)
  · subst hl1
    show own_Go p e below s _ _ (s₁.setTop (mkF m 0 #[rv a0, iv 2, .unset] []))
    refine own_via (fun k => XS.iloadN X0.here hx rfl (hb hby d6_0) rfl  (XS.istoreN X0.here hx rfl (hb hby d6_1) rfl (l' := #[rv a0, iv 2, iv 2]) rfl (XS.iloadN X0.here hx rfl (hb hby d6_2) rfl  (XS.aloadN X0.here hx rfl (hb hby d6_3) rfl rfl  k)))) ?_
    show own_Go p e below s _ _ (s₁.setTop (mkF m 4 #[rv a0, iv 2, iv 2] [(.ref a0), (.int 2)]))
    obtain ⟨T88, X88, e88, st88⟩ := getF X0 hx hZ hown (host := "") (Or.inl (hw _ (List.mem_of_getElem? (i := 28) rfl))) Via.refl e0 P1 (g := (mkF m 4 #[rv a0, iv 2, iv 2] [(.ref a0), (.int 2)])) rfl rfl (hb hby d6_4)
    refine own_via (fun k => st88 _ k) ?_
    show own_Go p e below s _ _ (T88.setTop (mkF m 7 #[rv a0, iv 2, iv 2] [(.int 4), (.int 2)]))
    refine own_via (fun k => XS.icmpNo X88.here hx rfl (hb hby d6_7) rfl (by decide) k) ?_
    show own_Go p e below s _ _ (T88.setTop (mkF m 10 #[rv a0, iv 2, iv 2] []))
    refine own_via (fun k => XS.aloadN X88.here hx rfl (hb hby d6_10) rfl rfl  k) ?_
    show own_Go p e below s _ _ (T88.setTop (mkF m 11 #[rv a0, iv 2, iv 2] [(.ref a0)]))
    obtain ⟨T89, X89, e89, st89⟩ := getF X88 hx hZ hown (host := "") (Or.inl (hw _ (List.mem_of_getElem? (i := 11) rfl))) Via.refl e88 P0 (g := (mkF m 11 #[rv a0, iv 2, iv 2] [(.ref a0)])) rfl rfl (hb hby d6_11)
    refine own_via (fun k => st89 _ k) ?_
    show own_Go p e below s _ _ (T89.setTop (mkF m 14 #[rv a0, iv 2, iv 2] [(.ref b)]))
    refine own_via (fun k => XS.iloadN X89.here hx rfl (hb hby d6_14) rfl  (XS.aloadN X89.here hx rfl (hb hby d6_15) rfl rfl  k)) ?_
    show own_Go p e below s _ _ (T89.setTop (mkF m 16 #[rv a0, iv 2, iv 2] [(.ref a0), (.int 2), (.ref b)]))
    obtain ⟨T90, X90, e90, st90⟩ := getF X89 hx hZ hown (host := "") (Or.inl (hw _ (List.mem_of_getElem? (i := 11) rfl))) Via.refl e89 P0 (g := (mkF m 16 #[rv a0, iv 2, iv 2] [(.ref a0), (.int 2), (.ref b)])) rfl rfl (hb hby d6_16)
    refine own_via (fun k => st90 _ k) ?_
    show own_Go p e below s _ _ (T90.setTop (mkF m 19 #[rv a0, iv 2, iv 2] [(.ref b), (.int 2), (.ref b)]))
    refine own_via (fun k => XS.iloadN X90.here hx rfl (hb hby d6_19) rfl  k) ?_
    show own_Go p e below s _ _ (T90.setTop (mkF m 20 #[rv a0, iv 2, iv 2] [(.int 2), (.ref b), (.int 2), (.ref b)]))
    obtain ⟨cl91, Ar91, q91, S91, NN91, H91, G91⟩ := id P3
    have hin91 : ¬ ((2 : Int32) < 0 ∨ cl91.slots.size ≤ ((2 : Int32)).toNatClampNeg) := inb_of S91 ⟨by decide, by decide⟩
    have hat91 : cl91.slots[((2 : Int32)).toNatClampNeg]? = some (.int w2) := H91.at hin91 rfl
    refine own_via (fun k => X90.baloadBytes hx (j := (2 : Int32)) (v := (.int w2)) (by rw [e90]; exact Ar91.1) (State.isArrayOf_alike hZ.alike Ar91.2.1) Ar91.2.2 hin91 hat91 (g := (mkF m 20 #[rv a0, iv 2, iv 2] [(.int 2), (.ref b), (.int 2), (.ref b)])) rfl rfl (hb hby d6_20) _ k) ?_
    show own_Go p e below s _ _ (T90.setTop (mkF m 21 #[rv a0, iv 2, iv 2] [(.int w2), (.int 2), (.ref b)]))
    refine own_via (fun k => XS.iconst X90.here hx rfl (hb hby d6_21) (XS.ixor X90.here hx rfl (hb hby d6_22) rfl (XS.i2b X90.here hx rfl (hb hby d6_23) rfl k))) ?_
    show own_Go p e below s _ _ (T90.setTop (mkF m 24 #[rv a0, iv 2, iv 2] [(.int ((w2 ^^^ (-1 : Int32)).toInt8.toInt32)), (.int 2), (.ref b)]))
    obtain ⟨cl92, Ar92, q92, S92, NN92, H92, G92⟩ := id P3
    have hin92 : ¬ ((2 : Int32) < 0 ∨ cl92.slots.size ≤ ((2 : Int32)).toNatClampNeg) := inb_of S92 ⟨by decide, by decide⟩
    obtain ⟨T92, h92, X92, e92, W92, st92⟩ := stB X90 hx hZ e90 Ar92 (j := (2 : Int32)) hin92 (g := (mkF m 24 #[rv a0, iv 2, iv 2] [(.int ((w2 ^^^ (-1 : Int32)).toInt8.toInt32)), (.int 2), (.ref b)])) rfl rfl (hb hby d6_24)
    refine own_via (fun k => st92 _ k) ?_
    show own_Go p e below s _ _ (T92.setTop (mkF m 25 #[rv a0, iv 2, iv 2] []))
    have B93 := P0.other W92 (Or.inl nx0)
    have B94 := P1.other W92 (Or.inl nx0)
    have B95 := P2.wr W92
    have B96 : Arv Z h92 b k2 .byte (64 : Int32) [(.int w0), (.int w1), (.int (nar .byte ((w2 ^^^ (-1 : Int32)).toInt8.toInt32))), (.int w3)] (.int 0) := Arv.set Ar92 q92 S92 NN92 H92 G92 (fits_nar_byte _) W92 2 rfl (Nat.le_of_ble_eq_true rfl)
    have N97 := Fr.snoc X92 N0 ge0
    have K98 : Keep h0 h92 [b] := K0.wr W92 (Or.inl (List.mem_of_getElem? (i := 0) rfl))
    have Z99 : n0 ≤ h92.size := Nat.le_trans Z0 (Keep.of_wr W92).1
    refine own_via (fun k => XS.iinc X92.here hx rfl (hb hby d6_25) rfl (l' := #[rv a0, iv 2, iv 3]) rfl (XS.goto X92.here hx rfl (pc0 := 28) (pc' := 2) rfl (hb hby d6_28) (by decide) (by decide) (XS.iloadN X92.here hx rfl (hb hby d6_2) rfl  (XS.aloadN X92.here hx rfl (hb hby d6_3) rfl rfl  k)))) ?_
    show own_Go p e below s _ _ (T92.setTop (mkF m 4 #[rv a0, iv 2, iv 3] [(.ref a0), (.int 3)]))
    obtain ⟨T100, X100, e100, st100⟩ := getF X92 hx hZ hown (host := "") (Or.inl (hw _ (List.mem_of_getElem? (i := 28) rfl))) Via.refl e92 B94 (g := (mkF m 4 #[rv a0, iv 2, iv 3] [(.ref a0), (.int 3)])) rfl rfl (hb hby d6_4)
    refine own_via (fun k => st100 _ k) ?_
    show own_Go p e below s _ _ (T100.setTop (mkF m 7 #[rv a0, iv 2, iv 3] [(.int 4), (.int 3)]))
    refine own_via (fun k => XS.icmpNo X100.here hx rfl (hb hby d6_7) rfl (by decide) k) ?_
    show own_Go p e below s _ _ (T100.setTop (mkF m 10 #[rv a0, iv 2, iv 3] []))
    refine own_via (fun k => XS.aloadN X100.here hx rfl (hb hby d6_10) rfl rfl  k) ?_
    show own_Go p e below s _ _ (T100.setTop (mkF m 11 #[rv a0, iv 2, iv 3] [(.ref a0)]))
    obtain ⟨T101, X101, e101, st101⟩ := getF X100 hx hZ hown (host := "") (Or.inl (hw _ (List.mem_of_getElem? (i := 11) rfl))) Via.refl e100 B93 (g := (mkF m 11 #[rv a0, iv 2, iv 3] [(.ref a0)])) rfl rfl (hb hby d6_11)
    refine own_via (fun k => st101 _ k) ?_
    show own_Go p e below s _ _ (T101.setTop (mkF m 14 #[rv a0, iv 2, iv 3] [(.ref b)]))
    refine own_via (fun k => XS.iloadN X101.here hx rfl (hb hby d6_14) rfl  (XS.aloadN X101.here hx rfl (hb hby d6_15) rfl rfl  k)) ?_
    show own_Go p e below s _ _ (T101.setTop (mkF m 16 #[rv a0, iv 2, iv 3] [(.ref a0), (.int 3), (.ref b)]))
    obtain ⟨T102, X102, e102, st102⟩ := getF X101 hx hZ hown (host := "") (Or.inl (hw _ (List.mem_of_getElem? (i := 11) rfl))) Via.refl e101 B93 (g := (mkF m 16 #[rv a0, iv 2, iv 3] [(.ref a0), (.int 3), (.ref b)])) rfl rfl (hb hby d6_16)
    refine own_via (fun k => st102 _ k) ?_
    show own_Go p e below s _ _ (T102.setTop (mkF m 19 #[rv a0, iv 2, iv 3] [(.ref b), (.int 3), (.ref b)]))
    refine own_via (fun k => XS.iloadN X102.here hx rfl (hb hby d6_19) rfl  k) ?_
    show own_Go p e below s _ _ (T102.setTop (mkF m 20 #[rv a0, iv 2, iv 3] [(.int 3), (.ref b), (.int 3), (.ref b)]))
    obtain ⟨cl103, Ar103, q103, S103, NN103, H103, G103⟩ := id B96
    have hin103 : ¬ ((3 : Int32) < 0 ∨ cl103.slots.size ≤ ((3 : Int32)).toNatClampNeg) := inb_of S103 ⟨by decide, by decide⟩
    have hat103 : cl103.slots[((3 : Int32)).toNatClampNeg]? = some (.int w3) := H103.at hin103 rfl
    refine own_via (fun k => X102.baloadBytes hx (j := (3 : Int32)) (v := (.int w3)) (by rw [e102]; exact Ar103.1) (State.isArrayOf_alike hZ.alike Ar103.2.1) Ar103.2.2 hin103 hat103 (g := (mkF m 20 #[rv a0, iv 2, iv 3] [(.int 3), (.ref b), (.int 3), (.ref b)])) rfl rfl (hb hby d6_20) _ k) ?_
    show own_Go p e below s _ _ (T102.setTop (mkF m 21 #[rv a0, iv 2, iv 3] [(.int w3), (.int 3), (.ref b)]))
    refine own_via (fun k => XS.iconst X102.here hx rfl (hb hby d6_21) (XS.ixor X102.here hx rfl (hb hby d6_22) rfl (XS.i2b X102.here hx rfl (hb hby d6_23) rfl k))) ?_
    show own_Go p e below s _ _ (T102.setTop (mkF m 24 #[rv a0, iv 2, iv 3] [(.int ((w3 ^^^ (-1 : Int32)).toInt8.toInt32)), (.int 3), (.ref b)]))
    obtain ⟨cl104, Ar104, q104, S104, NN104, H104, G104⟩ := id B96
    have hin104 : ¬ ((3 : Int32) < 0 ∨ cl104.slots.size ≤ ((3 : Int32)).toNatClampNeg) := inb_of S104 ⟨by decide, by decide⟩
    obtain ⟨T104, h104, X104, e104, W104, st104⟩ := stB X102 hx hZ e102 Ar104 (j := (3 : Int32)) hin104 (g := (mkF m 24 #[rv a0, iv 2, iv 3] [(.int ((w3 ^^^ (-1 : Int32)).toInt8.toInt32)), (.int 3), (.ref b)])) rfl rfl (hb hby d6_24)
    refine own_via (fun k => st104 _ k) ?_
    show own_Go p e below s _ _ (T104.setTop (mkF m 25 #[rv a0, iv 2, iv 3] []))
    have B105 := B93.other W104 (Or.inl nx0)
    have B106 := B94.other W104 (Or.inl nx0)
    have B107 := B95.wr W104
    have B108 : Arv Z h104 b k2 .byte (64 : Int32) [(.int w0), (.int w1), (.int (nar .byte ((w2 ^^^ (-1 : Int32)).toInt8.toInt32))), (.int (nar .byte ((w3 ^^^ (-1 : Int32)).toInt8.toInt32)))] (.int 0) := Arv.set Ar104 q104 S104 NN104 H104 G104 (fits_nar_byte _) W104 3 rfl (Nat.le_of_ble_eq_true rfl)
    have N109 := Fr.snoc X104 N97 ge0
    have K110 : Keep h0 h104 [b] := K98.wr W104 (Or.inl (List.mem_of_getElem? (i := 0) rfl))
    have Z111 : n0 ≤ h104.size := Nat.le_trans Z99 (Keep.of_wr W104).1
    refine own_via (fun k => XS.iinc X104.here hx rfl (hb hby d6_25) rfl (l' := #[rv a0, iv 2, iv 4]) rfl (XS.goto X104.here hx rfl (pc0 := 28) (pc' := 2) rfl (hb hby d6_28) (by decide) (by decide) (XS.iloadN X104.here hx rfl (hb hby d6_2) rfl  (XS.aloadN X104.here hx rfl (hb hby d6_3) rfl rfl  k)))) ?_
    show own_Go p e below s _ _ (T104.setTop (mkF m 4 #[rv a0, iv 2, iv 4] [(.ref a0), (.int 4)]))
    obtain ⟨T112, X112, e112, st112⟩ := getF X104 hx hZ hown (host := "") (Or.inl (hw _ (List.mem_of_getElem? (i := 28) rfl))) Via.refl e104 B106 (g := (mkF m 4 #[rv a0, iv 2, iv 4] [(.ref a0), (.int 4)])) rfl rfl (hb hby d6_4)
    refine own_via (fun k => st112 _ k) ?_
    show own_Go p e below s _ _ (T112.setTop (mkF m 7 #[rv a0, iv 2, iv 4] [(.int 4), (.int 4)]))
    refine own_via (fun k => XS.icmpYes X112.here hx rfl (pc0 := 7) (pc' := 31) rfl (hb hby d6_7) rfl (by decide) (by decide) (by decide) k) ?_
    show own_Go p e below s _ _ (T112.setTop (mkF m 31 #[rv a0, iv 2, iv 4] []))
    refine own_via (fun k => XS.aloadN X112.here hx rfl (hb hby d6_31) rfl rfl  k) ?_
    show own_Go p e below s _ _ (T112.setTop (mkF m 32 #[rv a0, iv 2, iv 4] [(.ref a0)]))
    exact own_retA X112 hx hlk rfl (t := (.object "com/example/dani/dani/core/Key")) Bd.returns rfl (hb hby d6_32) (Q := (Q6_4 Z a0 (2 : Int32) b k2 w0 w1 w2 w3 h0 n0)) ⟨rfl, N109, (by rw [e112]; exact K110), (by rw [e112]; exact B105), (by rw [e112]; exact B106), (by rw [e112]; exact own_arv (show ([(.int w0), (.int w1), (.int (nar .byte ((w2 ^^^ (-1 : Int32)).toInt8.toInt32))), (.int (nar .byte ((w3 ^^^ (-1 : Int32)).toInt8.toInt32)))] : List Value) = [(.int (own_r (2 : Int32) (0 : Int32) w0)), (.int (own_r (2 : Int32) (1 : Int32) w1)), (.int (own_r (2 : Int32) (2 : Int32) w2)), (.int (own_r (2 : Int32) (3 : Int32) w3))] from by rfl) B108)⟩ (by decide) (by decide)
  · subst hl1
    show own_Go p e below s _ _ (s₁.setTop (mkF m 0 #[rv a0, iv 3, .unset] []))
    refine own_via (fun k => XS.iloadN X0.here hx rfl (hb hby d6_0) rfl  (XS.istoreN X0.here hx rfl (hb hby d6_1) rfl (l' := #[rv a0, iv 3, iv 3]) rfl (XS.iloadN X0.here hx rfl (hb hby d6_2) rfl  (XS.aloadN X0.here hx rfl (hb hby d6_3) rfl rfl  k)))) ?_
    show own_Go p e below s _ _ (s₁.setTop (mkF m 4 #[rv a0, iv 3, iv 3] [(.ref a0), (.int 3)]))
    obtain ⟨T113, X113, e113, st113⟩ := getF X0 hx hZ hown (host := "") (Or.inl (hw _ (List.mem_of_getElem? (i := 28) rfl))) Via.refl e0 P1 (g := (mkF m 4 #[rv a0, iv 3, iv 3] [(.ref a0), (.int 3)])) rfl rfl (hb hby d6_4)
    refine own_via (fun k => st113 _ k) ?_
    show own_Go p e below s _ _ (T113.setTop (mkF m 7 #[rv a0, iv 3, iv 3] [(.int 4), (.int 3)]))
    refine own_via (fun k => XS.icmpNo X113.here hx rfl (hb hby d6_7) rfl (by decide) k) ?_
    show own_Go p e below s _ _ (T113.setTop (mkF m 10 #[rv a0, iv 3, iv 3] []))
    refine own_via (fun k => XS.aloadN X113.here hx rfl (hb hby d6_10) rfl rfl  k) ?_
    show own_Go p e below s _ _ (T113.setTop (mkF m 11 #[rv a0, iv 3, iv 3] [(.ref a0)]))
    obtain ⟨T114, X114, e114, st114⟩ := getF X113 hx hZ hown (host := "") (Or.inl (hw _ (List.mem_of_getElem? (i := 11) rfl))) Via.refl e113 P0 (g := (mkF m 11 #[rv a0, iv 3, iv 3] [(.ref a0)])) rfl rfl (hb hby d6_11)
    refine own_via (fun k => st114 _ k) ?_
    show own_Go p e below s _ _ (T114.setTop (mkF m 14 #[rv a0, iv 3, iv 3] [(.ref b)]))
    refine own_via (fun k => XS.iloadN X114.here hx rfl (hb hby d6_14) rfl  (XS.aloadN X114.here hx rfl (hb hby d6_15) rfl rfl  k)) ?_
    show own_Go p e below s _ _ (T114.setTop (mkF m 16 #[rv a0, iv 3, iv 3] [(.ref a0), (.int 3), (.ref b)]))
    obtain ⟨T115, X115, e115, st115⟩ := getF X114 hx hZ hown (host := "") (Or.inl (hw _ (List.mem_of_getElem? (i := 11) rfl))) Via.refl e114 P0 (g := (mkF m 16 #[rv a0, iv 3, iv 3] [(.ref a0), (.int 3), (.ref b)])) rfl rfl (hb hby d6_16)
    refine own_via (fun k => st115 _ k) ?_
    show own_Go p e below s _ _ (T115.setTop (mkF m 19 #[rv a0, iv 3, iv 3] [(.ref b), (.int 3), (.ref b)]))
    refine own_via (fun k => XS.iloadN X115.here hx rfl (hb hby d6_19) rfl  k) ?_
    show own_Go p e below s _ _ (T115.setTop (mkF m 20 #[rv a0, iv 3, iv 3] [(.int 3), (.ref b), (.int 3), (.ref b)]))
    obtain ⟨cl116, Ar116, q116, S116, NN116, H116, G116⟩ := id P3
    have hin116 : ¬ ((3 : Int32) < 0 ∨ cl116.slots.size ≤ ((3 : Int32)).toNatClampNeg) := inb_of S116 ⟨by decide, by decide⟩
    have hat116 : cl116.slots[((3 : Int32)).toNatClampNeg]? = some (.int w3) := H116.at hin116 rfl
    refine own_via (fun k => X115.baloadBytes hx (j := (3 : Int32)) (v := (.int w3)) (by rw [e115]; exact Ar116.1) (State.isArrayOf_alike hZ.alike Ar116.2.1) Ar116.2.2 hin116 hat116 (g := (mkF m 20 #[rv a0, iv 3, iv 3] [(.int 3), (.ref b), (.int 3), (.ref b)])) rfl rfl (hb hby d6_20) _ k) ?_
    show own_Go p e below s _ _ (T115.setTop (mkF m 21 #[rv a0, iv 3, iv 3] [(.int w3), (.int 3), (.ref b)]))
    refine own_via (fun k => XS.iconst X115.here hx rfl (hb hby d6_21) (XS.ixor X115.here hx rfl (hb hby d6_22) rfl (XS.i2b X115.here hx rfl (hb hby d6_23) rfl k))) ?_
    show own_Go p e below s _ _ (T115.setTop (mkF m 24 #[rv a0, iv 3, iv 3] [(.int ((w3 ^^^ (-1 : Int32)).toInt8.toInt32)), (.int 3), (.ref b)]))
    obtain ⟨cl117, Ar117, q117, S117, NN117, H117, G117⟩ := id P3
    have hin117 : ¬ ((3 : Int32) < 0 ∨ cl117.slots.size ≤ ((3 : Int32)).toNatClampNeg) := inb_of S117 ⟨by decide, by decide⟩
    obtain ⟨T117, h117, X117, e117, W117, st117⟩ := stB X115 hx hZ e115 Ar117 (j := (3 : Int32)) hin117 (g := (mkF m 24 #[rv a0, iv 3, iv 3] [(.int ((w3 ^^^ (-1 : Int32)).toInt8.toInt32)), (.int 3), (.ref b)])) rfl rfl (hb hby d6_24)
    refine own_via (fun k => st117 _ k) ?_
    show own_Go p e below s _ _ (T117.setTop (mkF m 25 #[rv a0, iv 3, iv 3] []))
    have B118 := P0.other W117 (Or.inl nx0)
    have B119 := P1.other W117 (Or.inl nx0)
    have B120 := P2.wr W117
    have B121 : Arv Z h117 b k2 .byte (64 : Int32) [(.int w0), (.int w1), (.int w2), (.int (nar .byte ((w3 ^^^ (-1 : Int32)).toInt8.toInt32)))] (.int 0) := Arv.set Ar117 q117 S117 NN117 H117 G117 (fits_nar_byte _) W117 3 rfl (Nat.le_of_ble_eq_true rfl)
    have N122 := Fr.snoc X117 N0 ge0
    have K123 : Keep h0 h117 [b] := K0.wr W117 (Or.inl (List.mem_of_getElem? (i := 0) rfl))
    have Z124 : n0 ≤ h117.size := Nat.le_trans Z0 (Keep.of_wr W117).1
    refine own_via (fun k => XS.iinc X117.here hx rfl (hb hby d6_25) rfl (l' := #[rv a0, iv 3, iv 4]) rfl (XS.goto X117.here hx rfl (pc0 := 28) (pc' := 2) rfl (hb hby d6_28) (by decide) (by decide) (XS.iloadN X117.here hx rfl (hb hby d6_2) rfl  (XS.aloadN X117.here hx rfl (hb hby d6_3) rfl rfl  k)))) ?_
    show own_Go p e below s _ _ (T117.setTop (mkF m 4 #[rv a0, iv 3, iv 4] [(.ref a0), (.int 4)]))
    obtain ⟨T125, X125, e125, st125⟩ := getF X117 hx hZ hown (host := "") (Or.inl (hw _ (List.mem_of_getElem? (i := 28) rfl))) Via.refl e117 B119 (g := (mkF m 4 #[rv a0, iv 3, iv 4] [(.ref a0), (.int 4)])) rfl rfl (hb hby d6_4)
    refine own_via (fun k => st125 _ k) ?_
    show own_Go p e below s _ _ (T125.setTop (mkF m 7 #[rv a0, iv 3, iv 4] [(.int 4), (.int 4)]))
    refine own_via (fun k => XS.icmpYes X125.here hx rfl (pc0 := 7) (pc' := 31) rfl (hb hby d6_7) rfl (by decide) (by decide) (by decide) k) ?_
    show own_Go p e below s _ _ (T125.setTop (mkF m 31 #[rv a0, iv 3, iv 4] []))
    refine own_via (fun k => XS.aloadN X125.here hx rfl (hb hby d6_31) rfl rfl  k) ?_
    show own_Go p e below s _ _ (T125.setTop (mkF m 32 #[rv a0, iv 3, iv 4] [(.ref a0)]))
    exact own_retA X125 hx hlk rfl (t := (.object "com/example/dani/dani/core/Key")) Bd.returns rfl (hb hby d6_32) (Q := (Q6_4 Z a0 (3 : Int32) b k2 w0 w1 w2 w3 h0 n0)) ⟨rfl, N122, (by rw [e125]; exact K123), (by rw [e125]; exact B118), (by rw [e125]; exact B119), (by rw [e125]; exact own_arv (show ([(.int w0), (.int w1), (.int w2), (.int (nar .byte ((w3 ^^^ (-1 : Int32)).toInt8.toInt32)))] : List Value) = [(.int (own_r (3 : Int32) (0 : Int32) w0)), (.int (own_r (3 : Int32) (1 : Int32) w1)), (.int (own_r (3 : Int32) (2 : Int32) w2)), (.int (own_r (3 : Int32) (3 : Int32) w3))] from by rfl) B121)⟩ (by decide) (by decide)
  · subst hl1
    show own_Go p e below s _ _ (s₁.setTop (mkF m 0 #[rv a0, iv 4, .unset] []))
    refine own_via (fun k => XS.iloadN X0.here hx rfl (hb hby d6_0) rfl  (XS.istoreN X0.here hx rfl (hb hby d6_1) rfl (l' := #[rv a0, iv 4, iv 4]) rfl (XS.iloadN X0.here hx rfl (hb hby d6_2) rfl  (XS.aloadN X0.here hx rfl (hb hby d6_3) rfl rfl  k)))) ?_
    show own_Go p e below s _ _ (s₁.setTop (mkF m 4 #[rv a0, iv 4, iv 4] [(.ref a0), (.int 4)]))
    obtain ⟨T126, X126, e126, st126⟩ := getF X0 hx hZ hown (host := "") (Or.inl (hw _ (List.mem_of_getElem? (i := 28) rfl))) Via.refl e0 P1 (g := (mkF m 4 #[rv a0, iv 4, iv 4] [(.ref a0), (.int 4)])) rfl rfl (hb hby d6_4)
    refine own_via (fun k => st126 _ k) ?_
    show own_Go p e below s _ _ (T126.setTop (mkF m 7 #[rv a0, iv 4, iv 4] [(.int 4), (.int 4)]))
    refine own_via (fun k => XS.icmpYes X126.here hx rfl (pc0 := 7) (pc' := 31) rfl (hb hby d6_7) rfl (by decide) (by decide) (by decide) k) ?_
    show own_Go p e below s _ _ (T126.setTop (mkF m 31 #[rv a0, iv 4, iv 4] []))
    refine own_via (fun k => XS.aloadN X126.here hx rfl (hb hby d6_31) rfl rfl  k) ?_
    show own_Go p e below s _ _ (T126.setTop (mkF m 32 #[rv a0, iv 4, iv 4] [(.ref a0)]))
    exact own_retA X126 hx hlk rfl (t := (.object "com/example/dani/dani/core/Key")) Bd.returns rfl (hb hby d6_32) (Q := (Q6_4 Z a0 (4 : Int32) b k2 w0 w1 w2 w3 h0 n0)) ⟨rfl, N0, (by rw [e126]; exact K0), (by rw [e126]; exact P0), (by rw [e126]; exact P1), (by rw [e126]; exact own_arv (show ([(.int w0), (.int w1), (.int w2), (.int w3)] : List Value) = [(.int (own_r (4 : Int32) (0 : Int32) w0)), (.int (own_r (4 : Int32) (1 : Int32) w1)), (.int (own_r (4 : Int32) (2 : Int32) w2)), (.int (own_r (4 : Int32) (3 : Int32) w3))] from by rfl) P3)⟩ (by decide) (by decide)
  · subst hl1
    show own_Go p e below s _ _ (s₁.setTop (mkF m 0 #[rv a0, iv 5, .unset] []))
    refine own_via (fun k => XS.iloadN X0.here hx rfl (hb hby d6_0) rfl  (XS.istoreN X0.here hx rfl (hb hby d6_1) rfl (l' := #[rv a0, iv 5, iv 5]) rfl (XS.iloadN X0.here hx rfl (hb hby d6_2) rfl  (XS.aloadN X0.here hx rfl (hb hby d6_3) rfl rfl  k)))) ?_
    show own_Go p e below s _ _ (s₁.setTop (mkF m 4 #[rv a0, iv 5, iv 5] [(.ref a0), (.int 5)]))
    obtain ⟨T127, X127, e127, st127⟩ := getF X0 hx hZ hown (host := "") (Or.inl (hw _ (List.mem_of_getElem? (i := 28) rfl))) Via.refl e0 P1 (g := (mkF m 4 #[rv a0, iv 5, iv 5] [(.ref a0), (.int 5)])) rfl rfl (hb hby d6_4)
    refine own_via (fun k => st127 _ k) ?_
    show own_Go p e below s _ _ (T127.setTop (mkF m 7 #[rv a0, iv 5, iv 5] [(.int 4), (.int 5)]))
    refine own_via (fun k => XS.icmpYes X127.here hx rfl (pc0 := 7) (pc' := 31) rfl (hb hby d6_7) rfl (by decide) (by decide) (by decide) k) ?_
    show own_Go p e below s _ _ (T127.setTop (mkF m 31 #[rv a0, iv 5, iv 5] []))
    refine own_via (fun k => XS.aloadN X127.here hx rfl (hb hby d6_31) rfl rfl  k) ?_
    show own_Go p e below s _ _ (T127.setTop (mkF m 32 #[rv a0, iv 5, iv 5] [(.ref a0)]))
    exact own_retA X127 hx hlk rfl (t := (.object "com/example/dani/dani/core/Key")) Bd.returns rfl (hb hby d6_32) (Q := (Q6_4 Z a0 (5 : Int32) b k2 w0 w1 w2 w3 h0 n0)) ⟨rfl, N0, (by rw [e127]; exact K0), (by rw [e127]; exact P0), (by rw [e127]; exact P1), (by rw [e127]; exact own_arv (show ([(.int w0), (.int w1), (.int w2), (.int w3)] : List Value) = [(.int (own_r (5 : Int32) (0 : Int32) w0)), (.int (own_r (5 : Int32) (1 : Int32) w1)), (.int (own_r (5 : Int32) (2 : Int32) w2)), (.int (own_r (5 : Int32) (3 : Int32) w3))] from by rfl) P3)⟩ (by decide) (by decide)
  · subst hl1
    show own_Go p e below s _ _ (s₁.setTop (mkF m 0 #[rv a0, iv 6, .unset] []))
    refine own_via (fun k => XS.iloadN X0.here hx rfl (hb hby d6_0) rfl  (XS.istoreN X0.here hx rfl (hb hby d6_1) rfl (l' := #[rv a0, iv 6, iv 6]) rfl (XS.iloadN X0.here hx rfl (hb hby d6_2) rfl  (XS.aloadN X0.here hx rfl (hb hby d6_3) rfl rfl  k)))) ?_
    show own_Go p e below s _ _ (s₁.setTop (mkF m 4 #[rv a0, iv 6, iv 6] [(.ref a0), (.int 6)]))
    obtain ⟨T128, X128, e128, st128⟩ := getF X0 hx hZ hown (host := "") (Or.inl (hw _ (List.mem_of_getElem? (i := 28) rfl))) Via.refl e0 P1 (g := (mkF m 4 #[rv a0, iv 6, iv 6] [(.ref a0), (.int 6)])) rfl rfl (hb hby d6_4)
    refine own_via (fun k => st128 _ k) ?_
    show own_Go p e below s _ _ (T128.setTop (mkF m 7 #[rv a0, iv 6, iv 6] [(.int 4), (.int 6)]))
    refine own_via (fun k => XS.icmpYes X128.here hx rfl (pc0 := 7) (pc' := 31) rfl (hb hby d6_7) rfl (by decide) (by decide) (by decide) k) ?_
    show own_Go p e below s _ _ (T128.setTop (mkF m 31 #[rv a0, iv 6, iv 6] []))
    refine own_via (fun k => XS.aloadN X128.here hx rfl (hb hby d6_31) rfl rfl  k) ?_
    show own_Go p e below s _ _ (T128.setTop (mkF m 32 #[rv a0, iv 6, iv 6] [(.ref a0)]))
    exact own_retA X128 hx hlk rfl (t := (.object "com/example/dani/dani/core/Key")) Bd.returns rfl (hb hby d6_32) (Q := (Q6_4 Z a0 (6 : Int32) b k2 w0 w1 w2 w3 h0 n0)) ⟨rfl, N0, (by rw [e128]; exact K0), (by rw [e128]; exact P0), (by rw [e128]; exact P1), (by rw [e128]; exact own_arv (show ([(.int w0), (.int w1), (.int w2), (.int w3)] : List Value) = [(.int (own_r (6 : Int32) (0 : Int32) w0)), (.int (own_r (6 : Int32) (1 : Int32) w1)), (.int (own_r (6 : Int32) (2 : Int32) w2)), (.int (own_r (6 : Int32) (3 : Int32) w3))] from by rfl) P3)⟩ (by decide) (by decide)
theorem d7_0 : decode prog_5_method_10_code 0 = .ok (.aload_n 0, 1) := by decide +kernel
theorem d7_1 : decode prog_5_method_10_code 1 = .ok (.getfield 29, 3) := by decide +kernel
theorem d7_4 : decode prog_5_method_10_code 4 = .ok (.ireturn, 1) := by decide +kernel
theorem pn_7 : plainName "com/example/dani/dani/core/Key" = true := by first | (simp [plainName, overriddenIn]; done) | decide +kernel
theorem ef_7_0 (m : MethodId) (x0 : Addr) : entryFrame m #[(.ref x0)] 1 = mkF m 0 #[rv x0] [] := by first | (simp [entryFrame, mkF, argsToLocals, Value.category]; done) | rfl
def Q7_0 (Z : State) (a0 : Addr) (h0 : Heap) (n0 : Nat) (v : Option Value) (h : Heap) (L : List Loc) : Prop := v = some (.int 0) ∧ Fr n0 L ∧ h = h0
set_option maxRecDepth 65536 in
set_option maxHeartbeats 40000000 in
theorem rm7_0 (l : Launch) (Z : State) (aw : Array Value) (hw : ∀ d ∈ tables_1, d.before aw Z = true) (ws : List Jvm.Cond) (a0 : Addr) (h0 : Heap) (n0 : Nat) (Z0 : n0 ≤ h0.size) (P0 : Fld Z h0 a0 "com/example/dani/dani/core/Key" "length" "I" (.int 0)) :
    MetFree l (⟨"com/example/dani/dani/core/Key", "length", "()I"⟩ : MethodName) (head1 (Jvm.Cond.code (⟨"com/example/dani/dani/core/Key", "length", "()I"⟩ : MethodName) prog_5_method_10_code 1 (some .int) :: ws) ({ frames := 0, cells := 0, slots := 0, locals := 0 } : Room)) (fun a U => a = #[(.ref a0)] ∧ Z.Warmed39 U.vm ∧ U.heap = h0) (fun _ _ _ _ _ => True) (fun _ U o U' => ∃ v L, o = .returned v ∧ Q7_0 Z a0 h0 n0 v U'.heap L ∧ FrameEnd U o U' L ({ frames := 0, cells := 0, slots := 0, locals := 0 } : Room).cells ({ frames := 0, cells := 0, slots := 0, locals := 0 } : Room).slots) := by
  refine MetFree.of_bodySF (plainFor_of_name pn_7) hisR ?_
  intro p e s m args below meth c s₁ Bd hml0 hP hK
  obtain ⟨rfl, hZ, hh⟩ := hP
  have hx := Bd.exec
  have hby := Bd.bytes
  have hml : c.maxLocals = 1 := hml0
  have hown : s.vm.findClass "com/example/dani/dani/core/Key" = some m.cls := findClass_of_methodNamed Bd.named
  have hnm := (name_of_methodNamed Bd.named Bd.method).1
  have hlk : meth.locks = false := by first | exact BodyLoose.notSynchronized (by assumption) | exact Body.notSynchronized (by assumption)
  have X0 : Stand p l e ({ frames := 0, cells := 0, slots := 0, locals := 0 } : Room) s m #[(.ref a0)] below meth c s₁ [] 0 0 := Stand.of_body Bd
  have e0 : s₁.heap = h0 := by rw [← hh, Bd.state]; rfl
  have N0 := Fr.nil n0
  have K0 : Keep h0 h0 [] := Keep.refl _ _
  refine own_start (CS := (0, 0)) (Q := (Q7_0 Z a0 h0 n0)) (ef_7_0 m a0) ?_
  show own_Go p e below s _ _ (s₁.setTop (mkF m 0 #[rv a0] []))
  refine own_via (fun k => XS.aloadN X0.here hx rfl (hb hby d7_0) rfl rfl  k) ?_
  show own_Go p e below s _ _ (s₁.setTop (mkF m 1 #[rv a0] [(.ref a0)]))
  obtain ⟨T1, X1, e1, st1⟩ := getF X0 hx hZ hown (host := "") (Or.inl (hw _ (List.mem_of_getElem? (i := 28) rfl))) Via.refl e0 P0 (g := (mkF m 1 #[rv a0] [(.ref a0)])) rfl rfl (hb hby d7_1)
  refine own_via (fun k => st1 _ k) ?_
  show own_Go p e below s _ _ (T1.setTop (mkF m 4 #[rv a0] [(.int 0)]))
  exact own_retI X1 hx hlk Bd.returns (hb hby d7_4) (Q := (Q7_0 Z a0 h0 n0)) ⟨rfl, N0, e1⟩ (by decide) (by decide)
theorem ef_7_1 (m : MethodId) (x0 : Addr) : entryFrame m #[(.ref x0)] 1 = mkF m 0 #[rv x0] [] := by first | (simp [entryFrame, mkF, argsToLocals, Value.category]; done) | rfl
def Q7_1 (Z : State) (a0 : Addr) (h0 : Heap) (n0 : Nat) (v : Option Value) (h : Heap) (L : List Loc) : Prop := v = some (.int 1) ∧ Fr n0 L ∧ h = h0
set_option maxRecDepth 65536 in
set_option maxHeartbeats 40000000 in
theorem rm7_1 (l : Launch) (Z : State) (aw : Array Value) (hw : ∀ d ∈ tables_1, d.before aw Z = true) (ws : List Jvm.Cond) (a0 : Addr) (h0 : Heap) (n0 : Nat) (Z0 : n0 ≤ h0.size) (P0 : Fld Z h0 a0 "com/example/dani/dani/core/Key" "length" "I" (.int 1)) :
    MetFree l (⟨"com/example/dani/dani/core/Key", "length", "()I"⟩ : MethodName) (head1 (Jvm.Cond.code (⟨"com/example/dani/dani/core/Key", "length", "()I"⟩ : MethodName) prog_5_method_10_code 1 (some .int) :: ws) ({ frames := 0, cells := 0, slots := 0, locals := 0 } : Room)) (fun a U => a = #[(.ref a0)] ∧ Z.Warmed39 U.vm ∧ U.heap = h0) (fun _ _ _ _ _ => True) (fun _ U o U' => ∃ v L, o = .returned v ∧ Q7_1 Z a0 h0 n0 v U'.heap L ∧ FrameEnd U o U' L ({ frames := 0, cells := 0, slots := 0, locals := 0 } : Room).cells ({ frames := 0, cells := 0, slots := 0, locals := 0 } : Room).slots) := by
  refine MetFree.of_bodySF (plainFor_of_name pn_7) hisR ?_
  intro p e s m args below meth c s₁ Bd hml0 hP hK
  obtain ⟨rfl, hZ, hh⟩ := hP
  have hx := Bd.exec
  have hby := Bd.bytes
  have hml : c.maxLocals = 1 := hml0
  have hown : s.vm.findClass "com/example/dani/dani/core/Key" = some m.cls := findClass_of_methodNamed Bd.named
  have hnm := (name_of_methodNamed Bd.named Bd.method).1
  have hlk : meth.locks = false := by first | exact BodyLoose.notSynchronized (by assumption) | exact Body.notSynchronized (by assumption)
  have X0 : Stand p l e ({ frames := 0, cells := 0, slots := 0, locals := 0 } : Room) s m #[(.ref a0)] below meth c s₁ [] 0 0 := Stand.of_body Bd
  have e0 : s₁.heap = h0 := by rw [← hh, Bd.state]; rfl
  have N0 := Fr.nil n0
  have K0 : Keep h0 h0 [] := Keep.refl _ _
  refine own_start (CS := (0, 0)) (Q := (Q7_1 Z a0 h0 n0)) (ef_7_1 m a0) ?_
  show own_Go p e below s _ _ (s₁.setTop (mkF m 0 #[rv a0] []))
  refine own_via (fun k => XS.aloadN X0.here hx rfl (hb hby d7_0) rfl rfl  k) ?_
  show own_Go p e below s _ _ (s₁.setTop (mkF m 1 #[rv a0] [(.ref a0)]))
  obtain ⟨T1, X1, e1, st1⟩ := getF X0 hx hZ hown (host := "") (Or.inl (hw _ (List.mem_of_getElem? (i := 28) rfl))) Via.refl e0 P0 (g := (mkF m 1 #[rv a0] [(.ref a0)])) rfl rfl (hb hby d7_1)
  refine own_via (fun k => st1 _ k) ?_
  show own_Go p e below s _ _ (T1.setTop (mkF m 4 #[rv a0] [(.int 1)]))
  exact own_retI X1 hx hlk Bd.returns (hb hby d7_4) (Q := (Q7_1 Z a0 h0 n0)) ⟨rfl, N0, e1⟩ (by decide) (by decide)
theorem ef_7_2 (m : MethodId) (x0 : Addr) : entryFrame m #[(.ref x0)] 1 = mkF m 0 #[rv x0] [] := by first | (simp [entryFrame, mkF, argsToLocals, Value.category]; done) | rfl
def Q7_2 (Z : State) (a0 : Addr) (h0 : Heap) (n0 : Nat) (v : Option Value) (h : Heap) (L : List Loc) : Prop := v = some (.int 2) ∧ Fr n0 L ∧ h = h0
set_option maxRecDepth 65536 in
set_option maxHeartbeats 40000000 in
theorem rm7_2 (l : Launch) (Z : State) (aw : Array Value) (hw : ∀ d ∈ tables_1, d.before aw Z = true) (ws : List Jvm.Cond) (a0 : Addr) (h0 : Heap) (n0 : Nat) (Z0 : n0 ≤ h0.size) (P0 : Fld Z h0 a0 "com/example/dani/dani/core/Key" "length" "I" (.int 2)) :
    MetFree l (⟨"com/example/dani/dani/core/Key", "length", "()I"⟩ : MethodName) (head1 (Jvm.Cond.code (⟨"com/example/dani/dani/core/Key", "length", "()I"⟩ : MethodName) prog_5_method_10_code 1 (some .int) :: ws) ({ frames := 0, cells := 0, slots := 0, locals := 0 } : Room)) (fun a U => a = #[(.ref a0)] ∧ Z.Warmed39 U.vm ∧ U.heap = h0) (fun _ _ _ _ _ => True) (fun _ U o U' => ∃ v L, o = .returned v ∧ Q7_2 Z a0 h0 n0 v U'.heap L ∧ FrameEnd U o U' L ({ frames := 0, cells := 0, slots := 0, locals := 0 } : Room).cells ({ frames := 0, cells := 0, slots := 0, locals := 0 } : Room).slots) := by
  refine MetFree.of_bodySF (plainFor_of_name pn_7) hisR ?_
  intro p e s m args below meth c s₁ Bd hml0 hP hK
  obtain ⟨rfl, hZ, hh⟩ := hP
  have hx := Bd.exec
  have hby := Bd.bytes
  have hml : c.maxLocals = 1 := hml0
  have hown : s.vm.findClass "com/example/dani/dani/core/Key" = some m.cls := findClass_of_methodNamed Bd.named
  have hnm := (name_of_methodNamed Bd.named Bd.method).1
  have hlk : meth.locks = false := by first | exact BodyLoose.notSynchronized (by assumption) | exact Body.notSynchronized (by assumption)
  have X0 : Stand p l e ({ frames := 0, cells := 0, slots := 0, locals := 0 } : Room) s m #[(.ref a0)] below meth c s₁ [] 0 0 := Stand.of_body Bd
  have e0 : s₁.heap = h0 := by rw [← hh, Bd.state]; rfl
  have N0 := Fr.nil n0
  have K0 : Keep h0 h0 [] := Keep.refl _ _
  refine own_start (CS := (0, 0)) (Q := (Q7_2 Z a0 h0 n0)) (ef_7_2 m a0) ?_
  show own_Go p e below s _ _ (s₁.setTop (mkF m 0 #[rv a0] []))
  refine own_via (fun k => XS.aloadN X0.here hx rfl (hb hby d7_0) rfl rfl  k) ?_
  show own_Go p e below s _ _ (s₁.setTop (mkF m 1 #[rv a0] [(.ref a0)]))
  obtain ⟨T1, X1, e1, st1⟩ := getF X0 hx hZ hown (host := "") (Or.inl (hw _ (List.mem_of_getElem? (i := 28) rfl))) Via.refl e0 P0 (g := (mkF m 1 #[rv a0] [(.ref a0)])) rfl rfl (hb hby d7_1)
  refine own_via (fun k => st1 _ k) ?_
  show own_Go p e below s _ _ (T1.setTop (mkF m 4 #[rv a0] [(.int 2)]))
  exact own_retI X1 hx hlk Bd.returns (hb hby d7_4) (Q := (Q7_2 Z a0 h0 n0)) ⟨rfl, N0, e1⟩ (by decide) (by decide)
theorem ef_7_3 (m : MethodId) (x0 : Addr) : entryFrame m #[(.ref x0)] 1 = mkF m 0 #[rv x0] [] := by first | (simp [entryFrame, mkF, argsToLocals, Value.category]; done) | rfl
def Q7_3 (Z : State) (a0 : Addr) (h0 : Heap) (n0 : Nat) (v : Option Value) (h : Heap) (L : List Loc) : Prop := v = some (.int 3) ∧ Fr n0 L ∧ h = h0
set_option maxRecDepth 65536 in
set_option maxHeartbeats 40000000 in
theorem rm7_3 (l : Launch) (Z : State) (aw : Array Value) (hw : ∀ d ∈ tables_1, d.before aw Z = true) (ws : List Jvm.Cond) (a0 : Addr) (h0 : Heap) (n0 : Nat) (Z0 : n0 ≤ h0.size) (P0 : Fld Z h0 a0 "com/example/dani/dani/core/Key" "length" "I" (.int 3)) :
    MetFree l (⟨"com/example/dani/dani/core/Key", "length", "()I"⟩ : MethodName) (head1 (Jvm.Cond.code (⟨"com/example/dani/dani/core/Key", "length", "()I"⟩ : MethodName) prog_5_method_10_code 1 (some .int) :: ws) ({ frames := 0, cells := 0, slots := 0, locals := 0 } : Room)) (fun a U => a = #[(.ref a0)] ∧ Z.Warmed39 U.vm ∧ U.heap = h0) (fun _ _ _ _ _ => True) (fun _ U o U' => ∃ v L, o = .returned v ∧ Q7_3 Z a0 h0 n0 v U'.heap L ∧ FrameEnd U o U' L ({ frames := 0, cells := 0, slots := 0, locals := 0 } : Room).cells ({ frames := 0, cells := 0, slots := 0, locals := 0 } : Room).slots) := by
  refine MetFree.of_bodySF (plainFor_of_name pn_7) hisR ?_
  intro p e s m args below meth c s₁ Bd hml0 hP hK
  obtain ⟨rfl, hZ, hh⟩ := hP
  have hx := Bd.exec
  have hby := Bd.bytes
  have hml : c.maxLocals = 1 := hml0
  have hown : s.vm.findClass "com/example/dani/dani/core/Key" = some m.cls := findClass_of_methodNamed Bd.named
  have hnm := (name_of_methodNamed Bd.named Bd.method).1
  have hlk : meth.locks = false := by first | exact BodyLoose.notSynchronized (by assumption) | exact Body.notSynchronized (by assumption)
  have X0 : Stand p l e ({ frames := 0, cells := 0, slots := 0, locals := 0 } : Room) s m #[(.ref a0)] below meth c s₁ [] 0 0 := Stand.of_body Bd
  have e0 : s₁.heap = h0 := by rw [← hh, Bd.state]; rfl
  have N0 := Fr.nil n0
  have K0 : Keep h0 h0 [] := Keep.refl _ _
  refine own_start (CS := (0, 0)) (Q := (Q7_3 Z a0 h0 n0)) (ef_7_3 m a0) ?_
  show own_Go p e below s _ _ (s₁.setTop (mkF m 0 #[rv a0] []))
  refine own_via (fun k => XS.aloadN X0.here hx rfl (hb hby d7_0) rfl rfl  k) ?_
  show own_Go p e below s _ _ (s₁.setTop (mkF m 1 #[rv a0] [(.ref a0)]))
  obtain ⟨T1, X1, e1, st1⟩ := getF X0 hx hZ hown (host := "") (Or.inl (hw _ (List.mem_of_getElem? (i := 28) rfl))) Via.refl e0 P0 (g := (mkF m 1 #[rv a0] [(.ref a0)])) rfl rfl (hb hby d7_1)
  refine own_via (fun k => st1 _ k) ?_
  show own_Go p e below s _ _ (T1.setTop (mkF m 4 #[rv a0] [(.int 3)]))
  exact own_retI X1 hx hlk Bd.returns (hb hby d7_4) (Q := (Q7_3 Z a0 h0 n0)) ⟨rfl, N0, e1⟩ (by decide) (by decide)
theorem ef_7_4 (m : MethodId) (x0 : Addr) : entryFrame m #[(.ref x0)] 1 = mkF m 0 #[rv x0] [] := by first | (simp [entryFrame, mkF, argsToLocals, Value.category]; done) | rfl
def Q7_4 (Z : State) (a0 : Addr) (h0 : Heap) (n0 : Nat) (v : Option Value) (h : Heap) (L : List Loc) : Prop := v = some (.int 4) ∧ Fr n0 L ∧ h = h0
set_option maxRecDepth 65536 in
set_option maxHeartbeats 40000000 in
theorem rm7_4 (l : Launch) (Z : State) (aw : Array Value) (hw : ∀ d ∈ tables_1, d.before aw Z = true) (ws : List Jvm.Cond) (a0 : Addr) (h0 : Heap) (n0 : Nat) (Z0 : n0 ≤ h0.size) (P0 : Fld Z h0 a0 "com/example/dani/dani/core/Key" "length" "I" (.int 4)) :
    MetFree l (⟨"com/example/dani/dani/core/Key", "length", "()I"⟩ : MethodName) (head1 (Jvm.Cond.code (⟨"com/example/dani/dani/core/Key", "length", "()I"⟩ : MethodName) prog_5_method_10_code 1 (some .int) :: ws) ({ frames := 0, cells := 0, slots := 0, locals := 0 } : Room)) (fun a U => a = #[(.ref a0)] ∧ Z.Warmed39 U.vm ∧ U.heap = h0) (fun _ _ _ _ _ => True) (fun _ U o U' => ∃ v L, o = .returned v ∧ Q7_4 Z a0 h0 n0 v U'.heap L ∧ FrameEnd U o U' L ({ frames := 0, cells := 0, slots := 0, locals := 0 } : Room).cells ({ frames := 0, cells := 0, slots := 0, locals := 0 } : Room).slots) := by
  refine MetFree.of_bodySF (plainFor_of_name pn_7) hisR ?_
  intro p e s m args below meth c s₁ Bd hml0 hP hK
  obtain ⟨rfl, hZ, hh⟩ := hP
  have hx := Bd.exec
  have hby := Bd.bytes
  have hml : c.maxLocals = 1 := hml0
  have hown : s.vm.findClass "com/example/dani/dani/core/Key" = some m.cls := findClass_of_methodNamed Bd.named
  have hnm := (name_of_methodNamed Bd.named Bd.method).1
  have hlk : meth.locks = false := by first | exact BodyLoose.notSynchronized (by assumption) | exact Body.notSynchronized (by assumption)
  have X0 : Stand p l e ({ frames := 0, cells := 0, slots := 0, locals := 0 } : Room) s m #[(.ref a0)] below meth c s₁ [] 0 0 := Stand.of_body Bd
  have e0 : s₁.heap = h0 := by rw [← hh, Bd.state]; rfl
  have N0 := Fr.nil n0
  have K0 : Keep h0 h0 [] := Keep.refl _ _
  refine own_start (CS := (0, 0)) (Q := (Q7_4 Z a0 h0 n0)) (ef_7_4 m a0) ?_
  show own_Go p e below s _ _ (s₁.setTop (mkF m 0 #[rv a0] []))
  refine own_via (fun k => XS.aloadN X0.here hx rfl (hb hby d7_0) rfl rfl  k) ?_
  show own_Go p e below s _ _ (s₁.setTop (mkF m 1 #[rv a0] [(.ref a0)]))
  obtain ⟨T1, X1, e1, st1⟩ := getF X0 hx hZ hown (host := "") (Or.inl (hw _ (List.mem_of_getElem? (i := 28) rfl))) Via.refl e0 P0 (g := (mkF m 1 #[rv a0] [(.ref a0)])) rfl rfl (hb hby d7_1)
  refine own_via (fun k => st1 _ k) ?_
  show own_Go p e below s _ _ (T1.setTop (mkF m 4 #[rv a0] [(.int 4)]))
  exact own_retI X1 hx hlk Bd.returns (hb hby d7_4) (Q := (Q7_4 Z a0 h0 n0)) ⟨rfl, N0, e1⟩ (by decide) (by decide)
theorem d8_0 : decode prog_5_method_12_code 0 = .ok (.aload_n 0, 1) := by decide +kernel
theorem d8_1 : decode prog_5_method_12_code 1 = .ok (.getfield 7, 3) := by decide +kernel
theorem d8_4 : decode prog_5_method_12_code 4 = .ok (.aload_n 0, 1) := by decide +kernel
theorem d8_5 : decode prog_5_method_12_code 5 = .ok (.getfield 29, 3) := by decide +kernel
theorem d8_8 : decode prog_5_method_12_code 8 = .ok (.invokestatic 23, 3) := by decide +kernel
theorem d8_11 : decode prog_5_method_12_code 11 = .ok (.areturn, 1) := by decide +kernel
theorem pn_8 : plainName "com/example/dani/dani/core/Key" = true := by first | (simp [plainName, overriddenIn]; done) | decide +kernel
theorem ef_8_0 (m : MethodId) (x0 : Addr) : entryFrame m #[(.ref x0)] 1 = mkF m 0 #[rv x0] [] := by first | (simp [entryFrame, mkF, argsToLocals, Value.category]; done) | rfl
def Q8_0 (Z : State) (a0 : Addr) (c0 : Addr) (k : ClassId) (h0 : Heap) (n0 : Nat) (v : Option Value) (h : Heap) (L : List Loc) : Prop := ∃ (b : Addr), ∃ (k2 : ClassId), v = some (.ref b) ∧ Fr n0 L ∧ Keep h0 h [] ∧ Arv Z h b k2 .byte (0 : Int32) [] (.int 0) ∧ h0.size ≤ b
set_option maxRecDepth 65536 in
set_option maxHeartbeats 40000000 in
theorem rm8_0 (l : Launch) (Z : State) (aw : Array Value) (hw : ∀ d ∈ tables_1, d.before aw Z = true) (ws : List Jvm.Cond) (a0 : Addr) (c0 : Addr) (k : ClassId) (h0 : Heap) (n0 : Nat) (Z0 : n0 ≤ h0.size) (P0 : Fld Z h0 a0 "com/example/dani/dani/core/Key" "bytes" "[B" (.ref c0)) (P1 : Fld Z h0 a0 "com/example/dani/dani/core/Key" "length" "I" (.int 0)) (P2 : Arv Z h0 c0 k .byte (64 : Int32) [] (.int 0)) :
    MetFree l (⟨"com/example/dani/dani/core/Key", "toBytes", "()[B"⟩ : MethodName) (head1 (Jvm.Cond.code (⟨"com/example/dani/dani/core/Key", "toBytes", "()[B"⟩ : MethodName) prog_5_method_12_code 1 (some (.array .byte)) :: ws) ({ frames := 2, cells := 1, slots := 0, locals := 41 } : Room)) (fun a U => a = #[(.ref a0)] ∧ Z.Warmed39 U.vm ∧ U.heap = h0) (fun _ _ _ _ _ => True) (fun _ U o U' => ∃ v L, o = .returned v ∧ Q8_0 Z a0 c0 k h0 n0 v U'.heap L ∧ FrameEnd U o U' L ({ frames := 2, cells := 1, slots := 0, locals := 41 } : Room).cells ({ frames := 2, cells := 1, slots := 0, locals := 41 } : Room).slots) := by
  refine MetFree.of_bodySF (plainFor_of_name pn_8) hisR ?_
  intro p e s m args below meth c s₁ Bd hml0 hP hK
  obtain ⟨rfl, hZ, hh⟩ := hP
  have hx := Bd.exec
  have hby := Bd.bytes
  have hml : c.maxLocals = 1 := hml0
  have hown : s.vm.findClass "com/example/dani/dani/core/Key" = some m.cls := findClass_of_methodNamed Bd.named
  have hnm := (name_of_methodNamed Bd.named Bd.method).1
  have hlk : meth.locks = false := by first | exact BodyLoose.notSynchronized (by assumption) | exact Body.notSynchronized (by assumption)
  have X0 : Stand p l e ({ frames := 2, cells := 1, slots := 0, locals := 41 } : Room) s m #[(.ref a0)] below meth c s₁ [] 0 0 := Stand.of_body Bd
  have e0 : s₁.heap = h0 := by rw [← hh, Bd.state]; rfl
  have N0 := Fr.nil n0
  have K0 : Keep h0 h0 [] := Keep.refl _ _
  refine own_start (CS := (1, 0)) (Q := (Q8_0 Z a0 c0 k h0 n0)) (ef_8_0 m a0) ?_
  show own_Go p e below s _ _ (s₁.setTop (mkF m 0 #[rv a0] []))
  refine own_via (fun k => XS.aloadN X0.here hx rfl (hb hby d8_0) rfl rfl  k) ?_
  show own_Go p e below s _ _ (s₁.setTop (mkF m 1 #[rv a0] [(.ref a0)]))
  obtain ⟨T1, X1, e1, st1⟩ := getF X0 hx hZ hown (host := "") (Or.inl (hw _ (List.mem_of_getElem? (i := 11) rfl))) Via.refl e0 P0 (g := (mkF m 1 #[rv a0] [(.ref a0)])) rfl rfl (hb hby d8_1)
  refine own_via (fun k => st1 _ k) ?_
  show own_Go p e below s _ _ (T1.setTop (mkF m 4 #[rv a0] [(.ref c0)]))
  refine own_via (fun k => XS.aloadN X1.here hx rfl (hb hby d8_4) rfl rfl  k) ?_
  show own_Go p e below s _ _ (T1.setTop (mkF m 5 #[rv a0] [(.ref a0), (.ref c0)]))
  obtain ⟨T2, X2, e2, st2⟩ := getF X1 hx hZ hown (host := "") (Or.inl (hw _ (List.mem_of_getElem? (i := 28) rfl))) Via.refl e1 P1 (g := (mkF m 5 #[rv a0] [(.ref a0), (.ref c0)])) rfl rfl (hb hby d8_5)
  refine own_via (fun k => st2 _ k) ?_
  show own_Go p e below s _ _ (T2.setTop (mkF m 8 #[rv a0] [(.int 0), (.ref c0)]))
  obtain ⟨_, _, ⟨T3, L3, k3, n3⟩, -, X3, ⟨Lc3, hQ3, l3, y3, z3⟩, st3⟩ := Jvm.LawKit.callS X2 hx (y := (⟨"java/util/Arrays", "copyOf", "([BI)[B"⟩ : MethodName)) hown (mvT hZ (hw _ (List.mem_of_getElem? (i := 17) rfl))) (mvT hZ (hw _ (List.mem_of_getElem? (i := 18) rfl))) (mvT hZ (hw _ (List.mem_of_getElem? (i := 19) rfl))) (mvT hZ (hw _ (List.mem_of_getElem? (i := 20) rfl))) (by decide) (backOf (W := 0) (rm4_64_0 l Z aw hw [] c0 k h0 n0 Z0 P2) hZ (hw _ (List.mem_of_getElem? (i := 20) rfl)) (hw _ (List.mem_of_getElem? (i := 19) rfl)) (by decide) (by decide)) (g := (mkF m 8 #[rv a0] [(.int 0), (.ref c0)])) rfl (by rw [hml]; rfl) (argsL := [(.ref c0), (.int 0)]) (rest := []) (lenOf pd_3 rfl) rfl (by show 2 * 0 + _ ≤ _; exact Nat.le_of_eq rfl) (hb hby d8_8) (fun _ _ => ⟨rfl, e2, (by decide : 0 + 1 ≤ _), (by decide : 0 + 0 ≤ _)⟩)
  dsimp only [Pt.U, Pt.locs, Pt.cells, Pt.slots] at X3 l3 y3 z3 st3 hQ3
  subst l3 y3 z3
  obtain ⟨b_3, k2_3, rfl, N3q, K3, B4, g5⟩ := hQ3
  have N6 := Fr.app N0 N3q
  have B7 := P0.keep K3 nin0
  have B8 := P1.keep K3 nin0
  have B9 := P2.keep K3 nin0
  have Z10 : n0 ≤ T3.heap.size := Nat.le_trans Z0 K3.1
  have K11 : Keep h0 T3.heap [] := K0.trans K3 all0
  have g12 : n0 ≤ b_3 := Nat.le_trans Z0 g5
  have sz13 : h0.size ≤ b_3 := Nat.le_trans K0.1 g5
  have ne14 : a0 ≠ b_3 := Nat.ne_of_lt (Nat.lt_of_lt_of_le P0.lt g5)
  have ne15 : c0 ≠ b_3 := Nat.ne_of_lt (Nat.lt_of_lt_of_le P2.lt g5)
  refine own_via (fun k => st3 _ k) ?_
  show own_Go p e below s _ _ (T3.setTop (mkF m 11 #[rv a0] [(.ref b_3)]))
  exact own_retA X3 hx hlk rfl (t := (.array .byte)) Bd.returns rfl (hb hby d8_11) (Q := (Q8_0 Z a0 c0 k h0 n0)) ⟨b_3, k2_3, rfl, N6, (K11), (B4), sz13⟩ (by decide) (by decide)
theorem ef_8_1 (m : MethodId) (x0 : Addr) : entryFrame m #[(.ref x0)] 1 = mkF m 0 #[rv x0] [] := by first | (simp [entryFrame, mkF, argsToLocals, Value.category]; done) | rfl
def Q8_1 (Z : State) (a0 : Addr) (c0 : Addr) (k : ClassId) (w0 : Int32) (h0 : Heap) (n0 : Nat) (v : Option Value) (h : Heap) (L : List Loc) : Prop := ∃ (b : Addr), ∃ (k2 : ClassId), v = some (.ref b) ∧ Fr n0 L ∧ Keep h0 h [] ∧ Arv Z h b k2 .byte (1 : Int32) [(.int w0)] (.int 0) ∧ h0.size ≤ b
set_option maxRecDepth 65536 in
set_option maxHeartbeats 40000000 in
theorem rm8_1 (l : Launch) (Z : State) (aw : Array Value) (hw : ∀ d ∈ tables_1, d.before aw Z = true) (ws : List Jvm.Cond) (a0 : Addr) (c0 : Addr) (k : ClassId) (w0 : Int32) (h0 : Heap) (n0 : Nat) (Z0 : n0 ≤ h0.size) (P0 : Fld Z h0 a0 "com/example/dani/dani/core/Key" "bytes" "[B" (.ref c0)) (P1 : Fld Z h0 a0 "com/example/dani/dani/core/Key" "length" "I" (.int 1)) (P2 : Arv Z h0 c0 k .byte (64 : Int32) [(.int w0)] (.int 0)) :
    MetFree l (⟨"com/example/dani/dani/core/Key", "toBytes", "()[B"⟩ : MethodName) (head1 (Jvm.Cond.code (⟨"com/example/dani/dani/core/Key", "toBytes", "()[B"⟩ : MethodName) prog_5_method_12_code 1 (some (.array .byte)) :: ws) ({ frames := 2, cells := 1, slots := 1, locals := 41 } : Room)) (fun a U => a = #[(.ref a0)] ∧ Z.Warmed39 U.vm ∧ U.heap = h0) (fun _ _ _ _ _ => True) (fun _ U o U' => ∃ v L, o = .returned v ∧ Q8_1 Z a0 c0 k w0 h0 n0 v U'.heap L ∧ FrameEnd U o U' L ({ frames := 2, cells := 1, slots := 1, locals := 41 } : Room).cells ({ frames := 2, cells := 1, slots := 1, locals := 41 } : Room).slots) := by
  refine MetFree.of_bodySF (plainFor_of_name pn_8) hisR ?_
  intro p e s m args below meth c s₁ Bd hml0 hP hK
  obtain ⟨rfl, hZ, hh⟩ := hP
  have hx := Bd.exec
  have hby := Bd.bytes
  have hml : c.maxLocals = 1 := hml0
  have hown : s.vm.findClass "com/example/dani/dani/core/Key" = some m.cls := findClass_of_methodNamed Bd.named
  have hnm := (name_of_methodNamed Bd.named Bd.method).1
  have hlk : meth.locks = false := by first | exact BodyLoose.notSynchronized (by assumption) | exact Body.notSynchronized (by assumption)
  have X0 : Stand p l e ({ frames := 2, cells := 1, slots := 1, locals := 41 } : Room) s m #[(.ref a0)] below meth c s₁ [] 0 0 := Stand.of_body Bd
  have e0 : s₁.heap = h0 := by rw [← hh, Bd.state]; rfl
  have N0 := Fr.nil n0
  have K0 : Keep h0 h0 [] := Keep.refl _ _
  refine own_start (CS := (1, 1)) (Q := (Q8_1 Z a0 c0 k w0 h0 n0)) (ef_8_1 m a0) ?_
  show own_Go p e below s _ _ (s₁.setTop (mkF m 0 #[rv a0] []))
  refine own_via (fun k => XS.aloadN X0.here hx rfl (hb hby d8_0) rfl rfl  k) ?_
  show own_Go p e below s _ _ (s₁.setTop (mkF m 1 #[rv a0] [(.ref a0)]))
  obtain ⟨T1, X1, e1, st1⟩ := getF X0 hx hZ hown (host := "") (Or.inl (hw _ (List.mem_of_getElem? (i := 11) rfl))) Via.refl e0 P0 (g := (mkF m 1 #[rv a0] [(.ref a0)])) rfl rfl (hb hby d8_1)
  refine own_via (fun k => st1 _ k) ?_
  show own_Go p e below s _ _ (T1.setTop (mkF m 4 #[rv a0] [(.ref c0)]))
  refine own_via (fun k => XS.aloadN X1.here hx rfl (hb hby d8_4) rfl rfl  k) ?_
  show own_Go p e below s _ _ (T1.setTop (mkF m 5 #[rv a0] [(.ref a0), (.ref c0)]))
  obtain ⟨T2, X2, e2, st2⟩ := getF X1 hx hZ hown (host := "") (Or.inl (hw _ (List.mem_of_getElem? (i := 28) rfl))) Via.refl e1 P1 (g := (mkF m 5 #[rv a0] [(.ref a0), (.ref c0)])) rfl rfl (hb hby d8_5)
  refine own_via (fun k => st2 _ k) ?_
  show own_Go p e below s _ _ (T2.setTop (mkF m 8 #[rv a0] [(.int 1), (.ref c0)]))
  obtain ⟨_, _, ⟨T3, L3, k3, n3⟩, -, X3, ⟨Lc3, hQ3, l3, y3, z3⟩, st3⟩ := Jvm.LawKit.callS X2 hx (y := (⟨"java/util/Arrays", "copyOf", "([BI)[B"⟩ : MethodName)) hown (mvT hZ (hw _ (List.mem_of_getElem? (i := 17) rfl))) (mvT hZ (hw _ (List.mem_of_getElem? (i := 18) rfl))) (mvT hZ (hw _ (List.mem_of_getElem? (i := 19) rfl))) (mvT hZ (hw _ (List.mem_of_getElem? (i := 20) rfl))) (by decide) (backOf (W := 0) (rm4_64_1 l Z aw hw [] c0 k w0 h0 n0 Z0 P2) hZ (hw _ (List.mem_of_getElem? (i := 20) rfl)) (hw _ (List.mem_of_getElem? (i := 19) rfl)) (by decide) (by decide)) (g := (mkF m 8 #[rv a0] [(.int 1), (.ref c0)])) rfl (by rw [hml]; rfl) (argsL := [(.ref c0), (.int 1)]) (rest := []) (lenOf pd_3 rfl) rfl (by show 2 * 0 + _ ≤ _; exact Nat.le_of_eq rfl) (hb hby d8_8) (fun _ _ => ⟨rfl, e2, (by decide : 0 + 1 ≤ _), (by decide : 0 + 1 ≤ _)⟩)
  dsimp only [Pt.U, Pt.locs, Pt.cells, Pt.slots] at X3 l3 y3 z3 st3 hQ3
  subst l3 y3 z3
  obtain ⟨b_3, k2_3, rfl, N3q, K3, B4, g5⟩ := hQ3
  have N6 := Fr.app N0 N3q
  have B7 := P0.keep K3 nin0
  have B8 := P1.keep K3 nin0
  have B9 := P2.keep K3 nin0
  have Z10 : n0 ≤ T3.heap.size := Nat.le_trans Z0 K3.1
  have K11 : Keep h0 T3.heap [] := K0.trans K3 all0
  have g12 : n0 ≤ b_3 := Nat.le_trans Z0 g5
  have sz13 : h0.size ≤ b_3 := Nat.le_trans K0.1 g5
  have ne14 : a0 ≠ b_3 := Nat.ne_of_lt (Nat.lt_of_lt_of_le P0.lt g5)
  have ne15 : c0 ≠ b_3 := Nat.ne_of_lt (Nat.lt_of_lt_of_le P2.lt g5)
  refine own_via (fun k => st3 _ k) ?_
  show own_Go p e below s _ _ (T3.setTop (mkF m 11 #[rv a0] [(.ref b_3)]))
  exact own_retA X3 hx hlk rfl (t := (.array .byte)) Bd.returns rfl (hb hby d8_11) (Q := (Q8_1 Z a0 c0 k w0 h0 n0)) ⟨b_3, k2_3, rfl, N6, (K11), (B4), sz13⟩ (by decide) (by decide)
theorem ef_8_2 (m : MethodId) (x0 : Addr) : entryFrame m #[(.ref x0)] 1 = mkF m 0 #[rv x0] [] := by first | (simp [entryFrame, mkF, argsToLocals, Value.category]; done) | rfl
def Q8_2 (Z : State) (a0 : Addr) (c0 : Addr) (k : ClassId) (w0 : Int32) (w1 : Int32) (h0 : Heap) (n0 : Nat) (v : Option Value) (h : Heap) (L : List Loc) : Prop := ∃ (b : Addr), ∃ (k2 : ClassId), v = some (.ref b) ∧ Fr n0 L ∧ Keep h0 h [] ∧ Arv Z h b k2 .byte (2 : Int32) [(.int w0), (.int w1)] (.int 0) ∧ h0.size ≤ b
set_option maxRecDepth 65536 in
set_option maxHeartbeats 40000000 in
theorem rm8_2 (l : Launch) (Z : State) (aw : Array Value) (hw : ∀ d ∈ tables_1, d.before aw Z = true) (ws : List Jvm.Cond) (a0 : Addr) (c0 : Addr) (k : ClassId) (w0 : Int32) (w1 : Int32) (h0 : Heap) (n0 : Nat) (Z0 : n0 ≤ h0.size) (P0 : Fld Z h0 a0 "com/example/dani/dani/core/Key" "bytes" "[B" (.ref c0)) (P1 : Fld Z h0 a0 "com/example/dani/dani/core/Key" "length" "I" (.int 2)) (P2 : Arv Z h0 c0 k .byte (64 : Int32) [(.int w0), (.int w1)] (.int 0)) :
    MetFree l (⟨"com/example/dani/dani/core/Key", "toBytes", "()[B"⟩ : MethodName) (head1 (Jvm.Cond.code (⟨"com/example/dani/dani/core/Key", "toBytes", "()[B"⟩ : MethodName) prog_5_method_12_code 1 (some (.array .byte)) :: ws) ({ frames := 2, cells := 1, slots := 2, locals := 41 } : Room)) (fun a U => a = #[(.ref a0)] ∧ Z.Warmed39 U.vm ∧ U.heap = h0) (fun _ _ _ _ _ => True) (fun _ U o U' => ∃ v L, o = .returned v ∧ Q8_2 Z a0 c0 k w0 w1 h0 n0 v U'.heap L ∧ FrameEnd U o U' L ({ frames := 2, cells := 1, slots := 2, locals := 41 } : Room).cells ({ frames := 2, cells := 1, slots := 2, locals := 41 } : Room).slots) := by
  refine MetFree.of_bodySF (plainFor_of_name pn_8) hisR ?_
  intro p e s m args below meth c s₁ Bd hml0 hP hK
  obtain ⟨rfl, hZ, hh⟩ := hP
  have hx := Bd.exec
  have hby := Bd.bytes
  have hml : c.maxLocals = 1 := hml0
  have hown : s.vm.findClass "com/example/dani/dani/core/Key" = some m.cls := findClass_of_methodNamed Bd.named
  have hnm := (name_of_methodNamed Bd.named Bd.method).1
  have hlk : meth.locks = false := by first | exact BodyLoose.notSynchronized (by assumption) | exact Body.notSynchronized (by assumption)
  have X0 : Stand p l e ({ frames := 2, cells := 1, slots := 2, locals := 41 } : Room) s m #[(.ref a0)] below meth c s₁ [] 0 0 := Stand.of_body Bd
  have e0 : s₁.heap = h0 := by rw [← hh, Bd.state]; rfl
  have N0 := Fr.nil n0
  have K0 : Keep h0 h0 [] := Keep.refl _ _
  refine own_start (CS := (1, 2)) (Q := (Q8_2 Z a0 c0 k w0 w1 h0 n0)) (ef_8_2 m a0) ?_
  show own_Go p e below s _ _ (s₁.setTop (mkF m 0 #[rv a0] []))
  refine own_via (fun k => XS.aloadN X0.here hx rfl (hb hby d8_0) rfl rfl  k) ?_
  show own_Go p e below s _ _ (s₁.setTop (mkF m 1 #[rv a0] [(.ref a0)]))
  obtain ⟨T1, X1, e1, st1⟩ := getF X0 hx hZ hown (host := "") (Or.inl (hw _ (List.mem_of_getElem? (i := 11) rfl))) Via.refl e0 P0 (g := (mkF m 1 #[rv a0] [(.ref a0)])) rfl rfl (hb hby d8_1)
  refine own_via (fun k => st1 _ k) ?_
  show own_Go p e below s _ _ (T1.setTop (mkF m 4 #[rv a0] [(.ref c0)]))
  refine own_via (fun k => XS.aloadN X1.here hx rfl (hb hby d8_4) rfl rfl  k) ?_
  show own_Go p e below s _ _ (T1.setTop (mkF m 5 #[rv a0] [(.ref a0), (.ref c0)]))
  obtain ⟨T2, X2, e2, st2⟩ := getF X1 hx hZ hown (host := "") (Or.inl (hw _ (List.mem_of_getElem? (i := 28) rfl))) Via.refl e1 P1 (g := (mkF m 5 #[rv a0] [(.ref a0), (.ref c0)])) rfl rfl (hb hby d8_5)
  refine own_via (fun k => st2 _ k) ?_
  show own_Go p e below s _ _ (T2.setTop (mkF m 8 #[rv a0] [(.int 2), (.ref c0)]))
  obtain ⟨_, _, ⟨T3, L3, k3, n3⟩, -, X3, ⟨Lc3, hQ3, l3, y3, z3⟩, st3⟩ := Jvm.LawKit.callS X2 hx (y := (⟨"java/util/Arrays", "copyOf", "([BI)[B"⟩ : MethodName)) hown (mvT hZ (hw _ (List.mem_of_getElem? (i := 17) rfl))) (mvT hZ (hw _ (List.mem_of_getElem? (i := 18) rfl))) (mvT hZ (hw _ (List.mem_of_getElem? (i := 19) rfl))) (mvT hZ (hw _ (List.mem_of_getElem? (i := 20) rfl))) (by decide) (backOf (W := 0) (rm4_64_2 l Z aw hw [] c0 k w0 w1 h0 n0 Z0 P2) hZ (hw _ (List.mem_of_getElem? (i := 20) rfl)) (hw _ (List.mem_of_getElem? (i := 19) rfl)) (by decide) (by decide)) (g := (mkF m 8 #[rv a0] [(.int 2), (.ref c0)])) rfl (by rw [hml]; rfl) (argsL := [(.ref c0), (.int 2)]) (rest := []) (lenOf pd_3 rfl) rfl (by show 2 * 0 + _ ≤ _; exact Nat.le_of_eq rfl) (hb hby d8_8) (fun _ _ => ⟨rfl, e2, (by decide : 0 + 1 ≤ _), (by decide : 0 + 2 ≤ _)⟩)
  dsimp only [Pt.U, Pt.locs, Pt.cells, Pt.slots] at X3 l3 y3 z3 st3 hQ3
  subst l3 y3 z3
  obtain ⟨b_3, k2_3, rfl, N3q, K3, B4, g5⟩ := hQ3
  have N6 := Fr.app N0 N3q
  have B7 := P0.keep K3 nin0
  have B8 := P1.keep K3 nin0
  have B9 := P2.keep K3 nin0
  have Z10 : n0 ≤ T3.heap.size := Nat.le_trans Z0 K3.1
  have K11 : Keep h0 T3.heap [] := K0.trans K3 all0
  have g12 : n0 ≤ b_3 := Nat.le_trans Z0 g5
  have sz13 : h0.size ≤ b_3 := Nat.le_trans K0.1 g5
  have ne14 : a0 ≠ b_3 := Nat.ne_of_lt (Nat.lt_of_lt_of_le P0.lt g5)
  have ne15 : c0 ≠ b_3 := Nat.ne_of_lt (Nat.lt_of_lt_of_le P2.lt g5)
  refine own_via (fun k => st3 _ k) ?_
  show own_Go p e below s _ _ (T3.setTop (mkF m 11 #[rv a0] [(.ref b_3)]))
  exact own_retA X3 hx hlk rfl (t := (.array .byte)) Bd.returns rfl (hb hby d8_11) (Q := (Q8_2 Z a0 c0 k w0 w1 h0 n0)) ⟨b_3, k2_3, rfl, N6, (K11), (B4), sz13⟩ (by decide) (by decide)
theorem ef_8_3 (m : MethodId) (x0 : Addr) : entryFrame m #[(.ref x0)] 1 = mkF m 0 #[rv x0] [] := by first | (simp [entryFrame, mkF, argsToLocals, Value.category]; done) | rfl
def Q8_3 (Z : State) (a0 : Addr) (c0 : Addr) (k : ClassId) (w0 : Int32) (w1 : Int32) (w2 : Int32) (h0 : Heap) (n0 : Nat) (v : Option Value) (h : Heap) (L : List Loc) : Prop := ∃ (b : Addr), ∃ (k2 : ClassId), v = some (.ref b) ∧ Fr n0 L ∧ Keep h0 h [] ∧ Arv Z h b k2 .byte (3 : Int32) [(.int w0), (.int w1), (.int w2)] (.int 0) ∧ h0.size ≤ b
set_option maxRecDepth 65536 in
set_option maxHeartbeats 40000000 in
theorem rm8_3 (l : Launch) (Z : State) (aw : Array Value) (hw : ∀ d ∈ tables_1, d.before aw Z = true) (ws : List Jvm.Cond) (a0 : Addr) (c0 : Addr) (k : ClassId) (w0 : Int32) (w1 : Int32) (w2 : Int32) (h0 : Heap) (n0 : Nat) (Z0 : n0 ≤ h0.size) (P0 : Fld Z h0 a0 "com/example/dani/dani/core/Key" "bytes" "[B" (.ref c0)) (P1 : Fld Z h0 a0 "com/example/dani/dani/core/Key" "length" "I" (.int 3)) (P2 : Arv Z h0 c0 k .byte (64 : Int32) [(.int w0), (.int w1), (.int w2)] (.int 0)) :
    MetFree l (⟨"com/example/dani/dani/core/Key", "toBytes", "()[B"⟩ : MethodName) (head1 (Jvm.Cond.code (⟨"com/example/dani/dani/core/Key", "toBytes", "()[B"⟩ : MethodName) prog_5_method_12_code 1 (some (.array .byte)) :: ws) ({ frames := 2, cells := 1, slots := 3, locals := 41 } : Room)) (fun a U => a = #[(.ref a0)] ∧ Z.Warmed39 U.vm ∧ U.heap = h0) (fun _ _ _ _ _ => True) (fun _ U o U' => ∃ v L, o = .returned v ∧ Q8_3 Z a0 c0 k w0 w1 w2 h0 n0 v U'.heap L ∧ FrameEnd U o U' L ({ frames := 2, cells := 1, slots := 3, locals := 41 } : Room).cells ({ frames := 2, cells := 1, slots := 3, locals := 41 } : Room).slots) := by
  refine MetFree.of_bodySF (plainFor_of_name pn_8) hisR ?_
  intro p e s m args below meth c s₁ Bd hml0 hP hK
  obtain ⟨rfl, hZ, hh⟩ := hP
  have hx := Bd.exec
  have hby := Bd.bytes
  have hml : c.maxLocals = 1 := hml0
  have hown : s.vm.findClass "com/example/dani/dani/core/Key" = some m.cls := findClass_of_methodNamed Bd.named
  have hnm := (name_of_methodNamed Bd.named Bd.method).1
  have hlk : meth.locks = false := by first | exact BodyLoose.notSynchronized (by assumption) | exact Body.notSynchronized (by assumption)
  have X0 : Stand p l e ({ frames := 2, cells := 1, slots := 3, locals := 41 } : Room) s m #[(.ref a0)] below meth c s₁ [] 0 0 := Stand.of_body Bd
  have e0 : s₁.heap = h0 := by rw [← hh, Bd.state]; rfl
  have N0 := Fr.nil n0
  have K0 : Keep h0 h0 [] := Keep.refl _ _
  refine own_start (CS := (1, 3)) (Q := (Q8_3 Z a0 c0 k w0 w1 w2 h0 n0)) (ef_8_3 m a0) ?_
  show own_Go p e below s _ _ (s₁.setTop (mkF m 0 #[rv a0] []))
  refine own_via (fun k => XS.aloadN X0.here hx rfl (hb hby d8_0) rfl rfl  k) ?_
  show own_Go p e below s _ _ (s₁.setTop (mkF m 1 #[rv a0] [(.ref a0)]))
  obtain ⟨T1, X1, e1, st1⟩ := getF X0 hx hZ hown (host := "") (Or.inl (hw _ (List.mem_of_getElem? (i := 11) rfl))) Via.refl e0 P0 (g := (mkF m 1 #[rv a0] [(.ref a0)])) rfl rfl (hb hby d8_1)
  refine own_via (fun k => st1 _ k) ?_
  show own_Go p e below s _ _ (T1.setTop (mkF m 4 #[rv a0] [(.ref c0)]))
  refine own_via (fun k => XS.aloadN X1.here hx rfl (hb hby d8_4) rfl rfl  k) ?_
  show own_Go p e below s _ _ (T1.setTop (mkF m 5 #[rv a0] [(.ref a0), (.ref c0)]))
  obtain ⟨T2, X2, e2, st2⟩ := getF X1 hx hZ hown (host := "") (Or.inl (hw _ (List.mem_of_getElem? (i := 28) rfl))) Via.refl e1 P1 (g := (mkF m 5 #[rv a0] [(.ref a0), (.ref c0)])) rfl rfl (hb hby d8_5)
  refine own_via (fun k => st2 _ k) ?_
  show own_Go p e below s _ _ (T2.setTop (mkF m 8 #[rv a0] [(.int 3), (.ref c0)]))
  obtain ⟨_, _, ⟨T3, L3, k3, n3⟩, -, X3, ⟨Lc3, hQ3, l3, y3, z3⟩, st3⟩ := Jvm.LawKit.callS X2 hx (y := (⟨"java/util/Arrays", "copyOf", "([BI)[B"⟩ : MethodName)) hown (mvT hZ (hw _ (List.mem_of_getElem? (i := 17) rfl))) (mvT hZ (hw _ (List.mem_of_getElem? (i := 18) rfl))) (mvT hZ (hw _ (List.mem_of_getElem? (i := 19) rfl))) (mvT hZ (hw _ (List.mem_of_getElem? (i := 20) rfl))) (by decide) (backOf (W := 0) (rm4_64_3 l Z aw hw [] c0 k w0 w1 w2 h0 n0 Z0 P2) hZ (hw _ (List.mem_of_getElem? (i := 20) rfl)) (hw _ (List.mem_of_getElem? (i := 19) rfl)) (by decide) (by decide)) (g := (mkF m 8 #[rv a0] [(.int 3), (.ref c0)])) rfl (by rw [hml]; rfl) (argsL := [(.ref c0), (.int 3)]) (rest := []) (lenOf pd_3 rfl) rfl (by show 2 * 0 + _ ≤ _; exact Nat.le_of_eq rfl) (hb hby d8_8) (fun _ _ => ⟨rfl, e2, (by decide : 0 + 1 ≤ _), (by decide : 0 + 3 ≤ _)⟩)
  dsimp only [Pt.U, Pt.locs, Pt.cells, Pt.slots] at X3 l3 y3 z3 st3 hQ3
  subst l3 y3 z3
  obtain ⟨b_3, k2_3, rfl, N3q, K3, B4, g5⟩ := hQ3
  have N6 := Fr.app N0 N3q
  have B7 := P0.keep K3 nin0
  have B8 := P1.keep K3 nin0
  have B9 := P2.keep K3 nin0
  have Z10 : n0 ≤ T3.heap.size := Nat.le_trans Z0 K3.1
  have K11 : Keep h0 T3.heap [] := K0.trans K3 all0
  have g12 : n0 ≤ b_3 := Nat.le_trans Z0 g5
  have sz13 : h0.size ≤ b_3 := Nat.le_trans K0.1 g5
  have ne14 : a0 ≠ b_3 := Nat.ne_of_lt (Nat.lt_of_lt_of_le P0.lt g5)
  have ne15 : c0 ≠ b_3 := Nat.ne_of_lt (Nat.lt_of_lt_of_le P2.lt g5)
  refine own_via (fun k => st3 _ k) ?_
  show own_Go p e below s _ _ (T3.setTop (mkF m 11 #[rv a0] [(.ref b_3)]))
  exact own_retA X3 hx hlk rfl (t := (.array .byte)) Bd.returns rfl (hb hby d8_11) (Q := (Q8_3 Z a0 c0 k w0 w1 w2 h0 n0)) ⟨b_3, k2_3, rfl, N6, (K11), (B4), sz13⟩ (by decide) (by decide)
theorem ef_8_4 (m : MethodId) (x0 : Addr) : entryFrame m #[(.ref x0)] 1 = mkF m 0 #[rv x0] [] := by first | (simp [entryFrame, mkF, argsToLocals, Value.category]; done) | rfl
def Q8_4 (Z : State) (a0 : Addr) (c0 : Addr) (k : ClassId) (w0 : Int32) (w1 : Int32) (w2 : Int32) (w3 : Int32) (h0 : Heap) (n0 : Nat) (v : Option Value) (h : Heap) (L : List Loc) : Prop := ∃ (b : Addr), ∃ (k2 : ClassId), v = some (.ref b) ∧ Fr n0 L ∧ Keep h0 h [] ∧ Arv Z h b k2 .byte (4 : Int32) [(.int w0), (.int w1), (.int w2), (.int w3)] (.int 0) ∧ h0.size ≤ b
set_option maxRecDepth 65536 in
set_option maxHeartbeats 40000000 in
theorem rm8_4 (l : Launch) (Z : State) (aw : Array Value) (hw : ∀ d ∈ tables_1, d.before aw Z = true) (ws : List Jvm.Cond) (a0 : Addr) (c0 : Addr) (k : ClassId) (w0 : Int32) (w1 : Int32) (w2 : Int32) (w3 : Int32) (h0 : Heap) (n0 : Nat) (Z0 : n0 ≤ h0.size) (P0 : Fld Z h0 a0 "com/example/dani/dani/core/Key" "bytes" "[B" (.ref c0)) (P1 : Fld Z h0 a0 "com/example/dani/dani/core/Key" "length" "I" (.int 4)) (P2 : Arv Z h0 c0 k .byte (64 : Int32) [(.int w0), (.int w1), (.int w2), (.int w3)] (.int 0)) :
    MetFree l (⟨"com/example/dani/dani/core/Key", "toBytes", "()[B"⟩ : MethodName) (head1 (Jvm.Cond.code (⟨"com/example/dani/dani/core/Key", "toBytes", "()[B"⟩ : MethodName) prog_5_method_12_code 1 (some (.array .byte)) :: ws) ({ frames := 2, cells := 1, slots := 4, locals := 41 } : Room)) (fun a U => a = #[(.ref a0)] ∧ Z.Warmed39 U.vm ∧ U.heap = h0) (fun _ _ _ _ _ => True) (fun _ U o U' => ∃ v L, o = .returned v ∧ Q8_4 Z a0 c0 k w0 w1 w2 w3 h0 n0 v U'.heap L ∧ FrameEnd U o U' L ({ frames := 2, cells := 1, slots := 4, locals := 41 } : Room).cells ({ frames := 2, cells := 1, slots := 4, locals := 41 } : Room).slots) := by
  refine MetFree.of_bodySF (plainFor_of_name pn_8) hisR ?_
  intro p e s m args below meth c s₁ Bd hml0 hP hK
  obtain ⟨rfl, hZ, hh⟩ := hP
  have hx := Bd.exec
  have hby := Bd.bytes
  have hml : c.maxLocals = 1 := hml0
  have hown : s.vm.findClass "com/example/dani/dani/core/Key" = some m.cls := findClass_of_methodNamed Bd.named
  have hnm := (name_of_methodNamed Bd.named Bd.method).1
  have hlk : meth.locks = false := by first | exact BodyLoose.notSynchronized (by assumption) | exact Body.notSynchronized (by assumption)
  have X0 : Stand p l e ({ frames := 2, cells := 1, slots := 4, locals := 41 } : Room) s m #[(.ref a0)] below meth c s₁ [] 0 0 := Stand.of_body Bd
  have e0 : s₁.heap = h0 := by rw [← hh, Bd.state]; rfl
  have N0 := Fr.nil n0
  have K0 : Keep h0 h0 [] := Keep.refl _ _
  refine own_start (CS := (1, 4)) (Q := (Q8_4 Z a0 c0 k w0 w1 w2 w3 h0 n0)) (ef_8_4 m a0) ?_
  show own_Go p e below s _ _ (s₁.setTop (mkF m 0 #[rv a0] []))
  refine own_via (fun k => XS.aloadN X0.here hx rfl (hb hby d8_0) rfl rfl  k) ?_
  show own_Go p e below s _ _ (s₁.setTop (mkF m 1 #[rv a0] [(.ref a0)]))
  obtain ⟨T1, X1, e1, st1⟩ := getF X0 hx hZ hown (host := "") (Or.inl (hw _ (List.mem_of_getElem? (i := 11) rfl))) Via.refl e0 P0 (g := (mkF m 1 #[rv a0] [(.ref a0)])) rfl rfl (hb hby d8_1)
  refine own_via (fun k => st1 _ k) ?_
  show own_Go p e below s _ _ (T1.setTop (mkF m 4 #[rv a0] [(.ref c0)]))
  refine own_via (fun k => XS.aloadN X1.here hx rfl (hb hby d8_4) rfl rfl  k) ?_
  show own_Go p e below s _ _ (T1.setTop (mkF m 5 #[rv a0] [(.ref a0), (.ref c0)]))
  obtain ⟨T2, X2, e2, st2⟩ := getF X1 hx hZ hown (host := "") (Or.inl (hw _ (List.mem_of_getElem? (i := 28) rfl))) Via.refl e1 P1 (g := (mkF m 5 #[rv a0] [(.ref a0), (.ref c0)])) rfl rfl (hb hby d8_5)
  refine own_via (fun k => st2 _ k) ?_
  show own_Go p e below s _ _ (T2.setTop (mkF m 8 #[rv a0] [(.int 4), (.ref c0)]))
  obtain ⟨_, _, ⟨T3, L3, k3, n3⟩, -, X3, ⟨Lc3, hQ3, l3, y3, z3⟩, st3⟩ := Jvm.LawKit.callS X2 hx (y := (⟨"java/util/Arrays", "copyOf", "([BI)[B"⟩ : MethodName)) hown (mvT hZ (hw _ (List.mem_of_getElem? (i := 17) rfl))) (mvT hZ (hw _ (List.mem_of_getElem? (i := 18) rfl))) (mvT hZ (hw _ (List.mem_of_getElem? (i := 19) rfl))) (mvT hZ (hw _ (List.mem_of_getElem? (i := 20) rfl))) (by decide) (backOf (W := 0) (rm4_64_4 l Z aw hw [] c0 k w0 w1 w2 w3 h0 n0 Z0 P2) hZ (hw _ (List.mem_of_getElem? (i := 20) rfl)) (hw _ (List.mem_of_getElem? (i := 19) rfl)) (by decide) (by decide)) (g := (mkF m 8 #[rv a0] [(.int 4), (.ref c0)])) rfl (by rw [hml]; rfl) (argsL := [(.ref c0), (.int 4)]) (rest := []) (lenOf pd_3 rfl) rfl (by show 2 * 0 + _ ≤ _; exact Nat.le_of_eq rfl) (hb hby d8_8) (fun _ _ => ⟨rfl, e2, (by decide : 0 + 1 ≤ _), (by decide : 0 + 4 ≤ _)⟩)
  dsimp only [Pt.U, Pt.locs, Pt.cells, Pt.slots] at X3 l3 y3 z3 st3 hQ3
  subst l3 y3 z3
  obtain ⟨b_3, k2_3, rfl, N3q, K3, B4, g5⟩ := hQ3
  have N6 := Fr.app N0 N3q
  have B7 := P0.keep K3 nin0
  have B8 := P1.keep K3 nin0
  have B9 := P2.keep K3 nin0
  have Z10 : n0 ≤ T3.heap.size := Nat.le_trans Z0 K3.1
  have K11 : Keep h0 T3.heap [] := K0.trans K3 all0
  have g12 : n0 ≤ b_3 := Nat.le_trans Z0 g5
  have sz13 : h0.size ≤ b_3 := Nat.le_trans K0.1 g5
  have ne14 : a0 ≠ b_3 := Nat.ne_of_lt (Nat.lt_of_lt_of_le P0.lt g5)
  have ne15 : c0 ≠ b_3 := Nat.ne_of_lt (Nat.lt_of_lt_of_le P2.lt g5)
  refine own_via (fun k => st3 _ k) ?_
  show own_Go p e below s _ _ (T3.setTop (mkF m 11 #[rv a0] [(.ref b_3)]))
  exact own_retA X3 hx hlk rfl (t := (.array .byte)) Bd.returns rfl (hb hby d8_11) (Q := (Q8_4 Z a0 c0 k w0 w1 w2 w3 h0 n0)) ⟨b_3, k2_3, rfl, N6, (K11), (B4), sz13⟩ (by decide) (by decide)
theorem d9_0 : decode method_3_code 0 = .ok (.iload_n 2, 1) := by decide +kernel
theorem d9_1 : decode method_3_code 1 = .ok (.aload_n 1, 1) := by decide +kernel
theorem d9_2 : decode method_3_code 2 = .ok (.arraylength, 1) := by decide +kernel
theorem d9_3 : decode method_3_code 3 = .ok (.if_icmp .lt 5, 3) := by decide +kernel
theorem d9_6 : decode method_3_code 6 = .ok (.iconst 1, 1) := by decide +kernel
theorem d9_7 : decode method_3_code 7 = .ok (.ireturn, 1) := by decide +kernel
theorem pn_9 : plainName "com/example/dani/dani/core/KeyReversedFromPinLaw" = true := by first | (simp [plainName, overriddenIn]; done) | decide +kernel
theorem ef_9_0_0 (m : MethodId) (x0 : Addr) (x1 : Addr) (x2 : Int32) (x3 : Int32) : entryFrame m #[(.ref x0), (.ref x1), (.int x2), (.int x3)] 5 = mkF m 0 #[rv x0, rv x1, iv x2, iv x3, .unset] [] := by first | (simp [entryFrame, mkF, argsToLocals, Value.category]; done) | rfl
def own_f9_0_0  : Int32 := (1 : Int32)
def Q9_0_0 (Z : State) (a0 : Addr) (a1 : Addr) (p3 : Int32) (k : ClassId) (k2 : ClassId) (h0 : Heap) (n0 : Nat) (v : Option Value) (h : Heap) (L : List Loc) : Prop := v = some (.int own_f9_0_0) ∧ Fr n0 L ∧ h = h0
set_option maxRecDepth 65536 in
set_option maxHeartbeats 40000000 in
theorem rm9_0_0 (l : Launch) (Z : State) (aw : Array Value) (hw : ∀ d ∈ tables_1, d.before aw Z = true) (ws : List Jvm.Cond) (a0 : Addr) (a1 : Addr) (p3 : Int32) (k : ClassId) (k2 : ClassId) (h0 : Heap) (n0 : Nat) (Z0 : n0 ≤ h0.size) (P0 : Arv Z h0 a0 k .byte (0 : Int32) [] (.int 0)) (P1 : Arv Z h0 a1 k2 .byte (0 : Int32) [] (.int 0)) :
    MetFree l (⟨"com/example/dani/dani/core/KeyReversedFromPinLaw", "at", "([B[BII)Z"⟩ : MethodName) (head1 (Jvm.Cond.code (⟨"com/example/dani/dani/core/KeyReversedFromPinLaw", "at", "([B[BII)Z"⟩ : MethodName) method_3_code 5 (some .boolean) :: ws) ({ frames := 0, cells := 0, slots := 0, locals := 0 } : Room)) (fun a U => a = #[(.ref a0), (.ref a1), (.int 0), (.int p3)] ∧ Z.Warmed39 U.vm ∧ U.heap = h0) (fun _ _ _ _ _ => True) (fun _ U o U' => ∃ v L, o = .returned v ∧ Q9_0_0 Z a0 a1 p3 k k2 h0 n0 v U'.heap L ∧ FrameEnd U o U' L ({ frames := 0, cells := 0, slots := 0, locals := 0 } : Room).cells ({ frames := 0, cells := 0, slots := 0, locals := 0 } : Room).slots) := by
  refine MetFree.of_bodySF (plainFor_of_name pn_9) hisR ?_
  intro p e s m args below meth c s₁ Bd hml0 hP hK
  obtain ⟨rfl, hZ, hh⟩ := hP
  have hx := Bd.exec
  have hby := Bd.bytes
  have hml : c.maxLocals = 5 := hml0
  have hown : s.vm.findClass "com/example/dani/dani/core/KeyReversedFromPinLaw" = some m.cls := findClass_of_methodNamed Bd.named
  have hnm := (name_of_methodNamed Bd.named Bd.method).1
  have hlk : meth.locks = false := by first | exact BodyLoose.notSynchronized (by assumption) | exact Body.notSynchronized (by assumption)
  have X0 : Stand p l e ({ frames := 0, cells := 0, slots := 0, locals := 0 } : Room) s m #[(.ref a0), (.ref a1), (.int 0), (.int p3)] below meth c s₁ [] 0 0 := Stand.of_body Bd
  have e0 : s₁.heap = h0 := by rw [← hh, Bd.state]; rfl
  have N0 := Fr.nil n0
  have K0 : Keep h0 h0 [] := Keep.refl _ _
  refine own_start (CS := (0, 0)) (Q := (Q9_0_0 Z a0 a1 p3 k k2 h0 n0)) (ef_9_0_0 m a0 a1 (0 : Int32) p3) ?_
  show own_Go p e below s _ _ (s₁.setTop (mkF m 0 #[rv a0, rv a1, iv 0, iv p3, .unset] []))
  refine own_via (fun k => XS.iloadN X0.here hx rfl (hb hby d9_0) rfl  (XS.aloadN X0.here hx rfl (hb hby d9_1) rfl rfl  k)) ?_
  show own_Go p e below s _ _ (s₁.setTop (mkF m 2 #[rv a0, rv a1, iv 0, iv p3, .unset] [(.ref a1), (.int 0)]))
  obtain ⟨cl1, Ar1, -, S1, NN1, -, -⟩ := id P1
  refine own_via (fun k => X0.arraylength hx (by rw [e0]; exact Ar1.1) (State.isArrayOf_alike hZ.alike Ar1.2.1) (g := (mkF m 2 #[rv a0, rv a1, iv 0, iv p3, .unset] [(.ref a1), (.int 0)])) rfl rfl (hb hby d9_2) _ k) ?_
  rw [len_of S1 NN1]
  show own_Go p e below s _ _ (s₁.setTop (mkF m 3 #[rv a0, rv a1, iv 0, iv p3, .unset] [(.int 0), (.int 0)]))
  refine own_via (fun k => XS.icmpNo X0.here hx rfl (hb hby d9_3) rfl (by decide) k) ?_
  show own_Go p e below s _ _ (s₁.setTop (mkF m 6 #[rv a0, rv a1, iv 0, iv p3, .unset] []))
  refine own_via (fun k => XS.iconst X0.here hx rfl (hb hby d9_6) k) ?_
  show own_Go p e below s _ _ (s₁.setTop (mkF m 7 #[rv a0, rv a1, iv 0, iv p3, .unset] [(.int 1)]))
  exact own_retN X0 hx hlk (t := .boolean) Bd.returns (by simp) (hb hby d9_7) (Q := (Q9_0_0 Z a0 a1 p3 k k2 h0 n0)) ⟨(congrArg (fun z => some (Value.int z)) (show (1 : Int32) = own_f9_0_0 from rfl)), N0, e0⟩ (by decide) (by decide)
theorem ef_9_0_1 (m : MethodId) (x0 : Addr) (x1 : Addr) (x2 : Int32) (x3 : Int32) : entryFrame m #[(.ref x0), (.ref x1), (.int x2), (.int x3)] 5 = mkF m 0 #[rv x0, rv x1, iv x2, iv x3, .unset] [] := by first | (simp [entryFrame, mkF, argsToLocals, Value.category]; done) | rfl
def own_f9_0_1  : Int32 := (1 : Int32)
def Q9_0_1 (Z : State) (a0 : Addr) (a1 : Addr) (p3 : Int32) (k : ClassId) (k2 : ClassId) (h0 : Heap) (n0 : Nat) (v : Option Value) (h : Heap) (L : List Loc) : Prop := v = some (.int own_f9_0_1) ∧ Fr n0 L ∧ h = h0
set_option maxRecDepth 65536 in
set_option maxHeartbeats 40000000 in
theorem rm9_0_1 (l : Launch) (Z : State) (aw : Array Value) (hw : ∀ d ∈ tables_1, d.before aw Z = true) (ws : List Jvm.Cond) (a0 : Addr) (a1 : Addr) (p3 : Int32) (k : ClassId) (k2 : ClassId) (h0 : Heap) (n0 : Nat) (Z0 : n0 ≤ h0.size) (P0 : Arv Z h0 a0 k .byte (0 : Int32) [] (.int 0)) (P1 : Arv Z h0 a1 k2 .byte (0 : Int32) [] (.int 0)) :
    MetFree l (⟨"com/example/dani/dani/core/KeyReversedFromPinLaw", "at", "([B[BII)Z"⟩ : MethodName) (head1 (Jvm.Cond.code (⟨"com/example/dani/dani/core/KeyReversedFromPinLaw", "at", "([B[BII)Z"⟩ : MethodName) method_3_code 5 (some .boolean) :: ws) ({ frames := 0, cells := 0, slots := 0, locals := 0 } : Room)) (fun a U => a = #[(.ref a0), (.ref a1), (.int 1), (.int p3)] ∧ Z.Warmed39 U.vm ∧ U.heap = h0) (fun _ _ _ _ _ => True) (fun _ U o U' => ∃ v L, o = .returned v ∧ Q9_0_1 Z a0 a1 p3 k k2 h0 n0 v U'.heap L ∧ FrameEnd U o U' L ({ frames := 0, cells := 0, slots := 0, locals := 0 } : Room).cells ({ frames := 0, cells := 0, slots := 0, locals := 0 } : Room).slots) := by
  refine MetFree.of_bodySF (plainFor_of_name pn_9) hisR ?_
  intro p e s m args below meth c s₁ Bd hml0 hP hK
  obtain ⟨rfl, hZ, hh⟩ := hP
  have hx := Bd.exec
  have hby := Bd.bytes
  have hml : c.maxLocals = 5 := hml0
  have hown : s.vm.findClass "com/example/dani/dani/core/KeyReversedFromPinLaw" = some m.cls := findClass_of_methodNamed Bd.named
  have hnm := (name_of_methodNamed Bd.named Bd.method).1
  have hlk : meth.locks = false := by first | exact BodyLoose.notSynchronized (by assumption) | exact Body.notSynchronized (by assumption)
  have X0 : Stand p l e ({ frames := 0, cells := 0, slots := 0, locals := 0 } : Room) s m #[(.ref a0), (.ref a1), (.int 1), (.int p3)] below meth c s₁ [] 0 0 := Stand.of_body Bd
  have e0 : s₁.heap = h0 := by rw [← hh, Bd.state]; rfl
  have N0 := Fr.nil n0
  have K0 : Keep h0 h0 [] := Keep.refl _ _
  refine own_start (CS := (0, 0)) (Q := (Q9_0_1 Z a0 a1 p3 k k2 h0 n0)) (ef_9_0_1 m a0 a1 (1 : Int32) p3) ?_
  show own_Go p e below s _ _ (s₁.setTop (mkF m 0 #[rv a0, rv a1, iv 1, iv p3, .unset] []))
  refine own_via (fun k => XS.iloadN X0.here hx rfl (hb hby d9_0) rfl  (XS.aloadN X0.here hx rfl (hb hby d9_1) rfl rfl  k)) ?_
  show own_Go p e below s _ _ (s₁.setTop (mkF m 2 #[rv a0, rv a1, iv 1, iv p3, .unset] [(.ref a1), (.int 1)]))
  obtain ⟨cl1, Ar1, -, S1, NN1, -, -⟩ := id P1
  refine own_via (fun k => X0.arraylength hx (by rw [e0]; exact Ar1.1) (State.isArrayOf_alike hZ.alike Ar1.2.1) (g := (mkF m 2 #[rv a0, rv a1, iv 1, iv p3, .unset] [(.ref a1), (.int 1)])) rfl rfl (hb hby d9_2) _ k) ?_
  rw [len_of S1 NN1]
  show own_Go p e below s _ _ (s₁.setTop (mkF m 3 #[rv a0, rv a1, iv 1, iv p3, .unset] [(.int 0), (.int 1)]))
  refine own_via (fun k => XS.icmpNo X0.here hx rfl (hb hby d9_3) rfl (by decide) k) ?_
  show own_Go p e below s _ _ (s₁.setTop (mkF m 6 #[rv a0, rv a1, iv 1, iv p3, .unset] []))
  refine own_via (fun k => XS.iconst X0.here hx rfl (hb hby d9_6) k) ?_
  show own_Go p e below s _ _ (s₁.setTop (mkF m 7 #[rv a0, rv a1, iv 1, iv p3, .unset] [(.int 1)]))
  exact own_retN X0 hx hlk (t := .boolean) Bd.returns (by simp) (hb hby d9_7) (Q := (Q9_0_1 Z a0 a1 p3 k k2 h0 n0)) ⟨(congrArg (fun z => some (Value.int z)) (show (1 : Int32) = own_f9_0_1 from rfl)), N0, e0⟩ (by decide) (by decide)
theorem ef_9_0_2 (m : MethodId) (x0 : Addr) (x1 : Addr) (x2 : Int32) (x3 : Int32) : entryFrame m #[(.ref x0), (.ref x1), (.int x2), (.int x3)] 5 = mkF m 0 #[rv x0, rv x1, iv x2, iv x3, .unset] [] := by first | (simp [entryFrame, mkF, argsToLocals, Value.category]; done) | rfl
def own_f9_0_2  : Int32 := (1 : Int32)
def Q9_0_2 (Z : State) (a0 : Addr) (a1 : Addr) (p3 : Int32) (k : ClassId) (k2 : ClassId) (h0 : Heap) (n0 : Nat) (v : Option Value) (h : Heap) (L : List Loc) : Prop := v = some (.int own_f9_0_2) ∧ Fr n0 L ∧ h = h0
set_option maxRecDepth 65536 in
set_option maxHeartbeats 40000000 in
theorem rm9_0_2 (l : Launch) (Z : State) (aw : Array Value) (hw : ∀ d ∈ tables_1, d.before aw Z = true) (ws : List Jvm.Cond) (a0 : Addr) (a1 : Addr) (p3 : Int32) (k : ClassId) (k2 : ClassId) (h0 : Heap) (n0 : Nat) (Z0 : n0 ≤ h0.size) (P0 : Arv Z h0 a0 k .byte (0 : Int32) [] (.int 0)) (P1 : Arv Z h0 a1 k2 .byte (0 : Int32) [] (.int 0)) :
    MetFree l (⟨"com/example/dani/dani/core/KeyReversedFromPinLaw", "at", "([B[BII)Z"⟩ : MethodName) (head1 (Jvm.Cond.code (⟨"com/example/dani/dani/core/KeyReversedFromPinLaw", "at", "([B[BII)Z"⟩ : MethodName) method_3_code 5 (some .boolean) :: ws) ({ frames := 0, cells := 0, slots := 0, locals := 0 } : Room)) (fun a U => a = #[(.ref a0), (.ref a1), (.int 2), (.int p3)] ∧ Z.Warmed39 U.vm ∧ U.heap = h0) (fun _ _ _ _ _ => True) (fun _ U o U' => ∃ v L, o = .returned v ∧ Q9_0_2 Z a0 a1 p3 k k2 h0 n0 v U'.heap L ∧ FrameEnd U o U' L ({ frames := 0, cells := 0, slots := 0, locals := 0 } : Room).cells ({ frames := 0, cells := 0, slots := 0, locals := 0 } : Room).slots) := by
  refine MetFree.of_bodySF (plainFor_of_name pn_9) hisR ?_
  intro p e s m args below meth c s₁ Bd hml0 hP hK
  obtain ⟨rfl, hZ, hh⟩ := hP
  have hx := Bd.exec
  have hby := Bd.bytes
  have hml : c.maxLocals = 5 := hml0
  have hown : s.vm.findClass "com/example/dani/dani/core/KeyReversedFromPinLaw" = some m.cls := findClass_of_methodNamed Bd.named
  have hnm := (name_of_methodNamed Bd.named Bd.method).1
  have hlk : meth.locks = false := by first | exact BodyLoose.notSynchronized (by assumption) | exact Body.notSynchronized (by assumption)
  have X0 : Stand p l e ({ frames := 0, cells := 0, slots := 0, locals := 0 } : Room) s m #[(.ref a0), (.ref a1), (.int 2), (.int p3)] below meth c s₁ [] 0 0 := Stand.of_body Bd
  have e0 : s₁.heap = h0 := by rw [← hh, Bd.state]; rfl
  have N0 := Fr.nil n0
  have K0 : Keep h0 h0 [] := Keep.refl _ _
  refine own_start (CS := (0, 0)) (Q := (Q9_0_2 Z a0 a1 p3 k k2 h0 n0)) (ef_9_0_2 m a0 a1 (2 : Int32) p3) ?_
  show own_Go p e below s _ _ (s₁.setTop (mkF m 0 #[rv a0, rv a1, iv 2, iv p3, .unset] []))
  refine own_via (fun k => XS.iloadN X0.here hx rfl (hb hby d9_0) rfl  (XS.aloadN X0.here hx rfl (hb hby d9_1) rfl rfl  k)) ?_
  show own_Go p e below s _ _ (s₁.setTop (mkF m 2 #[rv a0, rv a1, iv 2, iv p3, .unset] [(.ref a1), (.int 2)]))
  obtain ⟨cl1, Ar1, -, S1, NN1, -, -⟩ := id P1
  refine own_via (fun k => X0.arraylength hx (by rw [e0]; exact Ar1.1) (State.isArrayOf_alike hZ.alike Ar1.2.1) (g := (mkF m 2 #[rv a0, rv a1, iv 2, iv p3, .unset] [(.ref a1), (.int 2)])) rfl rfl (hb hby d9_2) _ k) ?_
  rw [len_of S1 NN1]
  show own_Go p e below s _ _ (s₁.setTop (mkF m 3 #[rv a0, rv a1, iv 2, iv p3, .unset] [(.int 0), (.int 2)]))
  refine own_via (fun k => XS.icmpNo X0.here hx rfl (hb hby d9_3) rfl (by decide) k) ?_
  show own_Go p e below s _ _ (s₁.setTop (mkF m 6 #[rv a0, rv a1, iv 2, iv p3, .unset] []))
  refine own_via (fun k => XS.iconst X0.here hx rfl (hb hby d9_6) k) ?_
  show own_Go p e below s _ _ (s₁.setTop (mkF m 7 #[rv a0, rv a1, iv 2, iv p3, .unset] [(.int 1)]))
  exact own_retN X0 hx hlk (t := .boolean) Bd.returns (by simp) (hb hby d9_7) (Q := (Q9_0_2 Z a0 a1 p3 k k2 h0 n0)) ⟨(congrArg (fun z => some (Value.int z)) (show (1 : Int32) = own_f9_0_2 from rfl)), N0, e0⟩ (by decide) (by decide)
theorem ef_9_0_3 (m : MethodId) (x0 : Addr) (x1 : Addr) (x2 : Int32) (x3 : Int32) : entryFrame m #[(.ref x0), (.ref x1), (.int x2), (.int x3)] 5 = mkF m 0 #[rv x0, rv x1, iv x2, iv x3, .unset] [] := by first | (simp [entryFrame, mkF, argsToLocals, Value.category]; done) | rfl
def own_f9_0_3  : Int32 := (1 : Int32)
def Q9_0_3 (Z : State) (a0 : Addr) (a1 : Addr) (p3 : Int32) (k : ClassId) (k2 : ClassId) (h0 : Heap) (n0 : Nat) (v : Option Value) (h : Heap) (L : List Loc) : Prop := v = some (.int own_f9_0_3) ∧ Fr n0 L ∧ h = h0
set_option maxRecDepth 65536 in
set_option maxHeartbeats 40000000 in
theorem rm9_0_3 (l : Launch) (Z : State) (aw : Array Value) (hw : ∀ d ∈ tables_1, d.before aw Z = true) (ws : List Jvm.Cond) (a0 : Addr) (a1 : Addr) (p3 : Int32) (k : ClassId) (k2 : ClassId) (h0 : Heap) (n0 : Nat) (Z0 : n0 ≤ h0.size) (P0 : Arv Z h0 a0 k .byte (0 : Int32) [] (.int 0)) (P1 : Arv Z h0 a1 k2 .byte (0 : Int32) [] (.int 0)) :
    MetFree l (⟨"com/example/dani/dani/core/KeyReversedFromPinLaw", "at", "([B[BII)Z"⟩ : MethodName) (head1 (Jvm.Cond.code (⟨"com/example/dani/dani/core/KeyReversedFromPinLaw", "at", "([B[BII)Z"⟩ : MethodName) method_3_code 5 (some .boolean) :: ws) ({ frames := 0, cells := 0, slots := 0, locals := 0 } : Room)) (fun a U => a = #[(.ref a0), (.ref a1), (.int 3), (.int p3)] ∧ Z.Warmed39 U.vm ∧ U.heap = h0) (fun _ _ _ _ _ => True) (fun _ U o U' => ∃ v L, o = .returned v ∧ Q9_0_3 Z a0 a1 p3 k k2 h0 n0 v U'.heap L ∧ FrameEnd U o U' L ({ frames := 0, cells := 0, slots := 0, locals := 0 } : Room).cells ({ frames := 0, cells := 0, slots := 0, locals := 0 } : Room).slots) := by
  refine MetFree.of_bodySF (plainFor_of_name pn_9) hisR ?_
  intro p e s m args below meth c s₁ Bd hml0 hP hK
  obtain ⟨rfl, hZ, hh⟩ := hP
  have hx := Bd.exec
  have hby := Bd.bytes
  have hml : c.maxLocals = 5 := hml0
  have hown : s.vm.findClass "com/example/dani/dani/core/KeyReversedFromPinLaw" = some m.cls := findClass_of_methodNamed Bd.named
  have hnm := (name_of_methodNamed Bd.named Bd.method).1
  have hlk : meth.locks = false := by first | exact BodyLoose.notSynchronized (by assumption) | exact Body.notSynchronized (by assumption)
  have X0 : Stand p l e ({ frames := 0, cells := 0, slots := 0, locals := 0 } : Room) s m #[(.ref a0), (.ref a1), (.int 3), (.int p3)] below meth c s₁ [] 0 0 := Stand.of_body Bd
  have e0 : s₁.heap = h0 := by rw [← hh, Bd.state]; rfl
  have N0 := Fr.nil n0
  have K0 : Keep h0 h0 [] := Keep.refl _ _
  refine own_start (CS := (0, 0)) (Q := (Q9_0_3 Z a0 a1 p3 k k2 h0 n0)) (ef_9_0_3 m a0 a1 (3 : Int32) p3) ?_
  show own_Go p e below s _ _ (s₁.setTop (mkF m 0 #[rv a0, rv a1, iv 3, iv p3, .unset] []))
  refine own_via (fun k => XS.iloadN X0.here hx rfl (hb hby d9_0) rfl  (XS.aloadN X0.here hx rfl (hb hby d9_1) rfl rfl  k)) ?_
  show own_Go p e below s _ _ (s₁.setTop (mkF m 2 #[rv a0, rv a1, iv 3, iv p3, .unset] [(.ref a1), (.int 3)]))
  obtain ⟨cl1, Ar1, -, S1, NN1, -, -⟩ := id P1
  refine own_via (fun k => X0.arraylength hx (by rw [e0]; exact Ar1.1) (State.isArrayOf_alike hZ.alike Ar1.2.1) (g := (mkF m 2 #[rv a0, rv a1, iv 3, iv p3, .unset] [(.ref a1), (.int 3)])) rfl rfl (hb hby d9_2) _ k) ?_
  rw [len_of S1 NN1]
  show own_Go p e below s _ _ (s₁.setTop (mkF m 3 #[rv a0, rv a1, iv 3, iv p3, .unset] [(.int 0), (.int 3)]))
  refine own_via (fun k => XS.icmpNo X0.here hx rfl (hb hby d9_3) rfl (by decide) k) ?_
  show own_Go p e below s _ _ (s₁.setTop (mkF m 6 #[rv a0, rv a1, iv 3, iv p3, .unset] []))
  refine own_via (fun k => XS.iconst X0.here hx rfl (hb hby d9_6) k) ?_
  show own_Go p e below s _ _ (s₁.setTop (mkF m 7 #[rv a0, rv a1, iv 3, iv p3, .unset] [(.int 1)]))
  exact own_retN X0 hx hlk (t := .boolean) Bd.returns (by simp) (hb hby d9_7) (Q := (Q9_0_3 Z a0 a1 p3 k k2 h0 n0)) ⟨(congrArg (fun z => some (Value.int z)) (show (1 : Int32) = own_f9_0_3 from rfl)), N0, e0⟩ (by decide) (by decide)
theorem d9_8 : decode method_3_code 8 = .ok (.iload_n 2, 1) := by decide +kernel
theorem d9_9 : decode method_3_code 9 = .ok (.iload_n 3, 1) := by decide +kernel
theorem d9_10 : decode method_3_code 10 = .ok (.if_icmp .ge 9, 3) := by decide +kernel
theorem d9_13 : decode method_3_code 13 = .ok (.aload_n 1, 1) := by decide +kernel
theorem d9_14 : decode method_3_code 14 = .ok (.iload_n 2, 1) := by decide +kernel
theorem d9_15 : decode method_3_code 15 = .ok (.baload, 1) := by decide +kernel
theorem d9_16 : decode method_3_code 16 = .ok (.goto 9, 3) := by decide +kernel
theorem d9_19 : decode method_3_code 19 = .ok (.aload_n 1, 1) := by decide +kernel
theorem d9_20 : decode method_3_code 20 = .ok (.iload_n 2, 1) := by decide +kernel
theorem d9_21 : decode method_3_code 21 = .ok (.baload, 1) := by decide +kernel
theorem d9_22 : decode method_3_code 22 = .ok (.iconst (-1), 1) := by decide +kernel
theorem d9_23 : decode method_3_code 23 = .ok (.ixor, 1) := by decide +kernel
theorem d9_24 : decode method_3_code 24 = .ok (.i2b, 1) := by decide +kernel
theorem d9_25 : decode method_3_code 25 = .ok (.istore 4, 2) := by decide +kernel
theorem d9_27 : decode method_3_code 27 = .ok (.aload_n 0, 1) := by decide +kernel
theorem d9_28 : decode method_3_code 28 = .ok (.iload_n 2, 1) := by decide +kernel
theorem d9_29 : decode method_3_code 29 = .ok (.baload, 1) := by decide +kernel
theorem d9_30 : decode method_3_code 30 = .ok (.iload 4, 2) := by decide +kernel
theorem d9_32 : decode method_3_code 32 = .ok (.if_icmp .ne 7, 3) := by decide +kernel
theorem d9_35 : decode method_3_code 35 = .ok (.iconst 1, 1) := by decide +kernel
theorem d9_36 : decode method_3_code 36 = .ok (.goto 4, 3) := by decide +kernel
theorem d9_39 : decode method_3_code 39 = .ok (.iconst 0, 1) := by decide +kernel
theorem d9_40 : decode method_3_code 40 = .ok (.ireturn, 1) := by decide +kernel
theorem ef_9_1_0 (m : MethodId) (x0 : Addr) (x1 : Addr) (x2 : Int32) (x3 : Int32) : entryFrame m #[(.ref x0), (.ref x1), (.int x2), (.int x3)] 5 = mkF m 0 #[rv x0, rv x1, iv x2, iv x3, .unset] [] := by first | (simp [entryFrame, mkF, argsToLocals, Value.category]; done) | rfl
def own_f9_1_0 (p3 : Int32) (w0 : Int32) (v0 : Int32) : Int32 := (let z4 : Int32 := (if (0 : Int32) < p3 then v0 else ((v0 ^^^ (-1 : Int32)).toInt8.toInt32)); (if w0 = z4 then (1 : Int32) else (0 : Int32)))
def Q9_1_0 (Z : State) (a0 : Addr) (a1 : Addr) (p3 : Int32) (k : ClassId) (k2 : ClassId) (w0 : Int32) (v0 : Int32) (h0 : Heap) (n0 : Nat) (v : Option Value) (h : Heap) (L : List Loc) : Prop := v = some (.int (own_f9_1_0 p3 w0 v0)) ∧ Fr n0 L ∧ h = h0
set_option maxRecDepth 65536 in
set_option maxHeartbeats 40000000 in
theorem rm9_1_0 (l : Launch) (Z : State) (aw : Array Value) (hw : ∀ d ∈ tables_1, d.before aw Z = true) (ws : List Jvm.Cond) (a0 : Addr) (a1 : Addr) (p3 : Int32) (k : ClassId) (k2 : ClassId) (w0 : Int32) (v0 : Int32) (h0 : Heap) (n0 : Nat) (Z0 : n0 ≤ h0.size) (P0 : Arv Z h0 a0 k .byte (1 : Int32) [(.int w0)] (.int 0)) (P1 : Arv Z h0 a1 k2 .byte (1 : Int32) [(.int v0)] (.int 0)) :
    MetFree l (⟨"com/example/dani/dani/core/KeyReversedFromPinLaw", "at", "([B[BII)Z"⟩ : MethodName) (head1 (Jvm.Cond.code (⟨"com/example/dani/dani/core/KeyReversedFromPinLaw", "at", "([B[BII)Z"⟩ : MethodName) method_3_code 5 (some .boolean) :: ws) ({ frames := 0, cells := 0, slots := 0, locals := 0 } : Room)) (fun a U => a = #[(.ref a0), (.ref a1), (.int 0), (.int p3)] ∧ Z.Warmed39 U.vm ∧ U.heap = h0) (fun _ _ _ _ _ => True) (fun _ U o U' => ∃ v L, o = .returned v ∧ Q9_1_0 Z a0 a1 p3 k k2 w0 v0 h0 n0 v U'.heap L ∧ FrameEnd U o U' L ({ frames := 0, cells := 0, slots := 0, locals := 0 } : Room).cells ({ frames := 0, cells := 0, slots := 0, locals := 0 } : Room).slots) := by
  refine MetFree.of_bodySF (plainFor_of_name pn_9) hisR ?_
  intro p e s m args below meth c s₁ Bd hml0 hP hK
  obtain ⟨rfl, hZ, hh⟩ := hP
  have hx := Bd.exec
  have hby := Bd.bytes
  have hml : c.maxLocals = 5 := hml0
  have hown : s.vm.findClass "com/example/dani/dani/core/KeyReversedFromPinLaw" = some m.cls := findClass_of_methodNamed Bd.named
  have hnm := (name_of_methodNamed Bd.named Bd.method).1
  have hlk : meth.locks = false := by first | exact BodyLoose.notSynchronized (by assumption) | exact Body.notSynchronized (by assumption)
  have X0 : Stand p l e ({ frames := 0, cells := 0, slots := 0, locals := 0 } : Room) s m #[(.ref a0), (.ref a1), (.int 0), (.int p3)] below meth c s₁ [] 0 0 := Stand.of_body Bd
  have e0 : s₁.heap = h0 := by rw [← hh, Bd.state]; rfl
  have N0 := Fr.nil n0
  have K0 : Keep h0 h0 [] := Keep.refl _ _
  refine own_start (CS := (0, 0)) (Q := (Q9_1_0 Z a0 a1 p3 k k2 w0 v0 h0 n0)) (ef_9_1_0 m a0 a1 (0 : Int32) p3) ?_
  show own_Go p e below s _ _ (s₁.setTop (mkF m 0 #[rv a0, rv a1, iv 0, iv p3, .unset] []))
  refine own_via (fun k => XS.iloadN X0.here hx rfl (hb hby d9_0) rfl  (XS.aloadN X0.here hx rfl (hb hby d9_1) rfl rfl  k)) ?_
  show own_Go p e below s _ _ (s₁.setTop (mkF m 2 #[rv a0, rv a1, iv 0, iv p3, .unset] [(.ref a1), (.int 0)]))
  obtain ⟨cl1, Ar1, -, S1, NN1, -, -⟩ := id P1
  refine own_via (fun k => X0.arraylength hx (by rw [e0]; exact Ar1.1) (State.isArrayOf_alike hZ.alike Ar1.2.1) (g := (mkF m 2 #[rv a0, rv a1, iv 0, iv p3, .unset] [(.ref a1), (.int 0)])) rfl rfl (hb hby d9_2) _ k) ?_
  rw [len_of S1 NN1]
  show own_Go p e below s _ _ (s₁.setTop (mkF m 3 #[rv a0, rv a1, iv 0, iv p3, .unset] [(.int 1), (.int 0)]))
  refine own_via (fun k => XS.icmpYes X0.here hx rfl (pc0 := 3) (pc' := 8) rfl (hb hby d9_3) rfl (by decide) (by decide) (by decide) k) ?_
  show own_Go p e below s _ _ (s₁.setTop (mkF m 8 #[rv a0, rv a1, iv 0, iv p3, .unset] []))
  refine own_via (fun k => XS.iloadN X0.here hx rfl (hb hby d9_8) rfl  (XS.iloadN X0.here hx rfl (hb hby d9_9) rfl  k)) ?_
  show own_Go p e below s _ _ (s₁.setTop (mkF m 10 #[rv a0, rv a1, iv 0, iv p3, .unset] [(.int p3), (.int 0)]))
  have J5 : ∀ (T5 : State) (lo5 : List Loc), Stand p l e ({ frames := 0, cells := 0, slots := 0, locals := 0 } : Room) s m #[(.ref a0), (.ref a1), (.int 0), (.int p3)] below meth c T5 lo5 0 0 → Fr n0 lo5 → T5.heap = h0 → ∀ (z4 : Int32), z4 = (if (0 : Int32) < p3 then v0 else ((v0 ^^^ (-1 : Int32)).toInt8.toInt32)) → own_Go p e below s (Q9_1_0 Z a0 a1 p3 k k2 w0 v0 h0 n0) (0, 0) (T5.setTop (mkF m 25 #[rv a0, rv a1, iv 0, iv p3, .unset] [(.int z4)])) := by
    intro T5 lo5 X5 N5 e5 z4 hz4
    refine own_via (fun k => XS.istore X5.here hx rfl (hb hby d9_25) rfl (l' := #[rv a0, rv a1, iv 0, iv p3, iv z4]) rfl (XS.aloadN X5.here hx rfl (hb hby d9_27) rfl rfl  (XS.iloadN X5.here hx rfl (hb hby d9_28) rfl  k))) ?_
    show own_Go p e below s _ _ (T5.setTop (mkF m 29 #[rv a0, rv a1, iv 0, iv p3, iv z4] [(.int 0), (.ref a0)]))
    obtain ⟨cl6, Ar6, q6, S6, NN6, H6, G6⟩ := id P0
    have hin6 : ¬ ((0 : Int32) < 0 ∨ cl6.slots.size ≤ ((0 : Int32)).toNatClampNeg) := inb_of S6 ⟨by decide, by decide⟩
    have hat6 : cl6.slots[((0 : Int32)).toNatClampNeg]? = some (.int w0) := H6.at hin6 rfl
    refine own_via (fun k => X5.baloadBytes hx (j := (0 : Int32)) (v := (.int w0)) (by rw [e5]; exact Ar6.1) (State.isArrayOf_alike hZ.alike Ar6.2.1) Ar6.2.2 hin6 hat6 (g := (mkF m 29 #[rv a0, rv a1, iv 0, iv p3, iv z4] [(.int 0), (.ref a0)])) rfl rfl (hb hby d9_29) _ k) ?_
    show own_Go p e below s _ _ (T5.setTop (mkF m 30 #[rv a0, rv a1, iv 0, iv p3, iv z4] [(.int w0)]))
    refine own_via (fun k => XS.iload X5.here hx rfl (hb hby d9_30) rfl  k) ?_
    show own_Go p e below s _ _ (T5.setTop (mkF m 32 #[rv a0, rv a1, iv 0, iv p3, iv z4] [(.int z4), (.int w0)]))
    by_cases hc7 : w0 = z4
    · refine own_via (fun k => XS.icmpNo X5.here hx rfl (hb hby d9_32) rfl (teq hc7).2 k) ?_
      show own_Go p e below s _ _ (T5.setTop (mkF m 35 #[rv a0, rv a1, iv 0, iv p3, iv z4] []))
      refine own_via (fun k => XS.iconst X5.here hx rfl (hb hby d9_35) (XS.goto X5.here hx rfl (pc0 := 36) (pc' := 40) rfl (hb hby d9_36) (by decide) (by decide) k)) ?_
      show own_Go p e below s _ _ (T5.setTop (mkF m 40 #[rv a0, rv a1, iv 0, iv p3, iv z4] [(.int 1)]))
      exact own_retN X5 hx hlk (t := .boolean) Bd.returns (by simp) (hb hby d9_40) (Q := (Q9_1_0 Z a0 a1 p3 k k2 w0 v0 h0 n0)) ⟨(congrArg (fun z => some (Value.int z)) (show (1 : Int32) = (own_f9_1_0 p3 w0 v0) from (by subst hz4; unfold own_f9_1_0; exact ((if_pos hc7).trans rfl).symm))), N5, e5⟩ (by decide) (by decide)
    · refine own_via (fun k => XS.icmpYes X5.here hx rfl (pc0 := 32) (pc' := 39) rfl (hb hby d9_32) rfl (feq hc7).2 (by decide) (by decide) k) ?_
      show own_Go p e below s _ _ (T5.setTop (mkF m 39 #[rv a0, rv a1, iv 0, iv p3, iv z4] []))
      refine own_via (fun k => XS.iconst X5.here hx rfl (hb hby d9_39) k) ?_
      show own_Go p e below s _ _ (T5.setTop (mkF m 40 #[rv a0, rv a1, iv 0, iv p3, iv z4] [(.int 0)]))
      exact own_retN X5 hx hlk (t := .boolean) Bd.returns (by simp) (hb hby d9_40) (Q := (Q9_1_0 Z a0 a1 p3 k k2 w0 v0 h0 n0)) ⟨(congrArg (fun z => some (Value.int z)) (show (0 : Int32) = (own_f9_1_0 p3 w0 v0) from (by subst hz4; unfold own_f9_1_0; exact ((if_neg hc7).trans rfl).symm))), N5, e5⟩ (by decide) (by decide)
  by_cases hc8 : (0 : Int32) < p3
  · refine own_via (fun k => XS.icmpNo X0.here hx rfl (hb hby d9_10) rfl (tlt hc8).2.1 k) ?_
    show own_Go p e below s _ _ (s₁.setTop (mkF m 13 #[rv a0, rv a1, iv 0, iv p3, .unset] []))
    refine own_via (fun k => XS.aloadN X0.here hx rfl (hb hby d9_13) rfl rfl  (XS.iloadN X0.here hx rfl (hb hby d9_14) rfl  k)) ?_
    show own_Go p e below s _ _ (s₁.setTop (mkF m 15 #[rv a0, rv a1, iv 0, iv p3, .unset] [(.int 0), (.ref a1)]))
    obtain ⟨cl9, Ar9, q9, S9, NN9, H9, G9⟩ := id P1
    have hin9 : ¬ ((0 : Int32) < 0 ∨ cl9.slots.size ≤ ((0 : Int32)).toNatClampNeg) := inb_of S9 ⟨by decide, by decide⟩
    have hat9 : cl9.slots[((0 : Int32)).toNatClampNeg]? = some (.int v0) := H9.at hin9 rfl
    refine own_via (fun k => X0.baloadBytes hx (j := (0 : Int32)) (v := (.int v0)) (by rw [e0]; exact Ar9.1) (State.isArrayOf_alike hZ.alike Ar9.2.1) Ar9.2.2 hin9 hat9 (g := (mkF m 15 #[rv a0, rv a1, iv 0, iv p3, .unset] [(.int 0), (.ref a1)])) rfl rfl (hb hby d9_15) _ k) ?_
    show own_Go p e below s _ _ (s₁.setTop (mkF m 16 #[rv a0, rv a1, iv 0, iv p3, .unset] [(.int v0)]))
    refine own_via (fun k => XS.goto X0.here hx rfl (pc0 := 16) (pc' := 25) rfl (hb hby d9_16) (by decide) (by decide) k) ?_
    show own_Go p e below s _ _ (s₁.setTop (mkF m 25 #[rv a0, rv a1, iv 0, iv p3, .unset] [(.int v0)]))
    exact J5 _ _ X0 N0 e0 v0 (((if_pos hc8).trans rfl)).symm
  · refine own_via (fun k => XS.icmpYes X0.here hx rfl (pc0 := 10) (pc' := 19) rfl (hb hby d9_10) rfl (flt hc8).2.1 (by decide) (by decide) k) ?_
    show own_Go p e below s _ _ (s₁.setTop (mkF m 19 #[rv a0, rv a1, iv 0, iv p3, .unset] []))
    refine own_via (fun k => XS.aloadN X0.here hx rfl (hb hby d9_19) rfl rfl  (XS.iloadN X0.here hx rfl (hb hby d9_20) rfl  k)) ?_
    show own_Go p e below s _ _ (s₁.setTop (mkF m 21 #[rv a0, rv a1, iv 0, iv p3, .unset] [(.int 0), (.ref a1)]))
    obtain ⟨cl10, Ar10, q10, S10, NN10, H10, G10⟩ := id P1
    have hin10 : ¬ ((0 : Int32) < 0 ∨ cl10.slots.size ≤ ((0 : Int32)).toNatClampNeg) := inb_of S10 ⟨by decide, by decide⟩
    have hat10 : cl10.slots[((0 : Int32)).toNatClampNeg]? = some (.int v0) := H10.at hin10 rfl
    refine own_via (fun k => X0.baloadBytes hx (j := (0 : Int32)) (v := (.int v0)) (by rw [e0]; exact Ar10.1) (State.isArrayOf_alike hZ.alike Ar10.2.1) Ar10.2.2 hin10 hat10 (g := (mkF m 21 #[rv a0, rv a1, iv 0, iv p3, .unset] [(.int 0), (.ref a1)])) rfl rfl (hb hby d9_21) _ k) ?_
    show own_Go p e below s _ _ (s₁.setTop (mkF m 22 #[rv a0, rv a1, iv 0, iv p3, .unset] [(.int v0)]))
    refine own_via (fun k => XS.iconst X0.here hx rfl (hb hby d9_22) (XS.ixor X0.here hx rfl (hb hby d9_23) rfl (XS.i2b X0.here hx rfl (hb hby d9_24) rfl k))) ?_
    show own_Go p e below s _ _ (s₁.setTop (mkF m 25 #[rv a0, rv a1, iv 0, iv p3, .unset] [(.int ((v0 ^^^ (-1 : Int32)).toInt8.toInt32))]))
    exact J5 _ _ X0 N0 e0 ((v0 ^^^ (-1 : Int32)).toInt8.toInt32) (((if_neg hc8).trans rfl)).symm
theorem ef_9_1_1 (m : MethodId) (x0 : Addr) (x1 : Addr) (x2 : Int32) (x3 : Int32) : entryFrame m #[(.ref x0), (.ref x1), (.int x2), (.int x3)] 5 = mkF m 0 #[rv x0, rv x1, iv x2, iv x3, .unset] [] := by first | (simp [entryFrame, mkF, argsToLocals, Value.category]; done) | rfl
def own_f9_1_1  : Int32 := (1 : Int32)
def Q9_1_1 (Z : State) (a0 : Addr) (a1 : Addr) (p3 : Int32) (k : ClassId) (k2 : ClassId) (w0 : Int32) (v0 : Int32) (h0 : Heap) (n0 : Nat) (v : Option Value) (h : Heap) (L : List Loc) : Prop := v = some (.int own_f9_1_1) ∧ Fr n0 L ∧ h = h0
set_option maxRecDepth 65536 in
set_option maxHeartbeats 40000000 in
theorem rm9_1_1 (l : Launch) (Z : State) (aw : Array Value) (hw : ∀ d ∈ tables_1, d.before aw Z = true) (ws : List Jvm.Cond) (a0 : Addr) (a1 : Addr) (p3 : Int32) (k : ClassId) (k2 : ClassId) (w0 : Int32) (v0 : Int32) (h0 : Heap) (n0 : Nat) (Z0 : n0 ≤ h0.size) (P0 : Arv Z h0 a0 k .byte (1 : Int32) [(.int w0)] (.int 0)) (P1 : Arv Z h0 a1 k2 .byte (1 : Int32) [(.int v0)] (.int 0)) :
    MetFree l (⟨"com/example/dani/dani/core/KeyReversedFromPinLaw", "at", "([B[BII)Z"⟩ : MethodName) (head1 (Jvm.Cond.code (⟨"com/example/dani/dani/core/KeyReversedFromPinLaw", "at", "([B[BII)Z"⟩ : MethodName) method_3_code 5 (some .boolean) :: ws) ({ frames := 0, cells := 0, slots := 0, locals := 0 } : Room)) (fun a U => a = #[(.ref a0), (.ref a1), (.int 1), (.int p3)] ∧ Z.Warmed39 U.vm ∧ U.heap = h0) (fun _ _ _ _ _ => True) (fun _ U o U' => ∃ v L, o = .returned v ∧ Q9_1_1 Z a0 a1 p3 k k2 w0 v0 h0 n0 v U'.heap L ∧ FrameEnd U o U' L ({ frames := 0, cells := 0, slots := 0, locals := 0 } : Room).cells ({ frames := 0, cells := 0, slots := 0, locals := 0 } : Room).slots) := by
  refine MetFree.of_bodySF (plainFor_of_name pn_9) hisR ?_
  intro p e s m args below meth c s₁ Bd hml0 hP hK
  obtain ⟨rfl, hZ, hh⟩ := hP
  have hx := Bd.exec
  have hby := Bd.bytes
  have hml : c.maxLocals = 5 := hml0
  have hown : s.vm.findClass "com/example/dani/dani/core/KeyReversedFromPinLaw" = some m.cls := findClass_of_methodNamed Bd.named
  have hnm := (name_of_methodNamed Bd.named Bd.method).1
  have hlk : meth.locks = false := by first | exact BodyLoose.notSynchronized (by assumption) | exact Body.notSynchronized (by assumption)
  have X0 : Stand p l e ({ frames := 0, cells := 0, slots := 0, locals := 0 } : Room) s m #[(.ref a0), (.ref a1), (.int 1), (.int p3)] below meth c s₁ [] 0 0 := Stand.of_body Bd
  have e0 : s₁.heap = h0 := by rw [← hh, Bd.state]; rfl
  have N0 := Fr.nil n0
  have K0 : Keep h0 h0 [] := Keep.refl _ _
  refine own_start (CS := (0, 0)) (Q := (Q9_1_1 Z a0 a1 p3 k k2 w0 v0 h0 n0)) (ef_9_1_1 m a0 a1 (1 : Int32) p3) ?_
  show own_Go p e below s _ _ (s₁.setTop (mkF m 0 #[rv a0, rv a1, iv 1, iv p3, .unset] []))
  refine own_via (fun k => XS.iloadN X0.here hx rfl (hb hby d9_0) rfl  (XS.aloadN X0.here hx rfl (hb hby d9_1) rfl rfl  k)) ?_
  show own_Go p e below s _ _ (s₁.setTop (mkF m 2 #[rv a0, rv a1, iv 1, iv p3, .unset] [(.ref a1), (.int 1)]))
  obtain ⟨cl1, Ar1, -, S1, NN1, -, -⟩ := id P1
  refine own_via (fun k => X0.arraylength hx (by rw [e0]; exact Ar1.1) (State.isArrayOf_alike hZ.alike Ar1.2.1) (g := (mkF m 2 #[rv a0, rv a1, iv 1, iv p3, .unset] [(.ref a1), (.int 1)])) rfl rfl (hb hby d9_2) _ k) ?_
  rw [len_of S1 NN1]
  show own_Go p e below s _ _ (s₁.setTop (mkF m 3 #[rv a0, rv a1, iv 1, iv p3, .unset] [(.int 1), (.int 1)]))
  refine own_via (fun k => XS.icmpNo X0.here hx rfl (hb hby d9_3) rfl (by decide) k) ?_
  show own_Go p e below s _ _ (s₁.setTop (mkF m 6 #[rv a0, rv a1, iv 1, iv p3, .unset] []))
  refine own_via (fun k => XS.iconst X0.here hx rfl (hb hby d9_6) k) ?_
  show own_Go p e below s _ _ (s₁.setTop (mkF m 7 #[rv a0, rv a1, iv 1, iv p3, .unset] [(.int 1)]))
  exact own_retN X0 hx hlk (t := .boolean) Bd.returns (by simp) (hb hby d9_7) (Q := (Q9_1_1 Z a0 a1 p3 k k2 w0 v0 h0 n0)) ⟨(congrArg (fun z => some (Value.int z)) (show (1 : Int32) = own_f9_1_1 from rfl)), N0, e0⟩ (by decide) (by decide)
theorem ef_9_1_2 (m : MethodId) (x0 : Addr) (x1 : Addr) (x2 : Int32) (x3 : Int32) : entryFrame m #[(.ref x0), (.ref x1), (.int x2), (.int x3)] 5 = mkF m 0 #[rv x0, rv x1, iv x2, iv x3, .unset] [] := by first | (simp [entryFrame, mkF, argsToLocals, Value.category]; done) | rfl
def own_f9_1_2  : Int32 := (1 : Int32)
def Q9_1_2 (Z : State) (a0 : Addr) (a1 : Addr) (p3 : Int32) (k : ClassId) (k2 : ClassId) (w0 : Int32) (v0 : Int32) (h0 : Heap) (n0 : Nat) (v : Option Value) (h : Heap) (L : List Loc) : Prop := v = some (.int own_f9_1_2) ∧ Fr n0 L ∧ h = h0
set_option maxRecDepth 65536 in
set_option maxHeartbeats 40000000 in
theorem rm9_1_2 (l : Launch) (Z : State) (aw : Array Value) (hw : ∀ d ∈ tables_1, d.before aw Z = true) (ws : List Jvm.Cond) (a0 : Addr) (a1 : Addr) (p3 : Int32) (k : ClassId) (k2 : ClassId) (w0 : Int32) (v0 : Int32) (h0 : Heap) (n0 : Nat) (Z0 : n0 ≤ h0.size) (P0 : Arv Z h0 a0 k .byte (1 : Int32) [(.int w0)] (.int 0)) (P1 : Arv Z h0 a1 k2 .byte (1 : Int32) [(.int v0)] (.int 0)) :
    MetFree l (⟨"com/example/dani/dani/core/KeyReversedFromPinLaw", "at", "([B[BII)Z"⟩ : MethodName) (head1 (Jvm.Cond.code (⟨"com/example/dani/dani/core/KeyReversedFromPinLaw", "at", "([B[BII)Z"⟩ : MethodName) method_3_code 5 (some .boolean) :: ws) ({ frames := 0, cells := 0, slots := 0, locals := 0 } : Room)) (fun a U => a = #[(.ref a0), (.ref a1), (.int 2), (.int p3)] ∧ Z.Warmed39 U.vm ∧ U.heap = h0) (fun _ _ _ _ _ => True) (fun _ U o U' => ∃ v L, o = .returned v ∧ Q9_1_2 Z a0 a1 p3 k k2 w0 v0 h0 n0 v U'.heap L ∧ FrameEnd U o U' L ({ frames := 0, cells := 0, slots := 0, locals := 0 } : Room).cells ({ frames := 0, cells := 0, slots := 0, locals := 0 } : Room).slots) := by
  refine MetFree.of_bodySF (plainFor_of_name pn_9) hisR ?_
  intro p e s m args below meth c s₁ Bd hml0 hP hK
  obtain ⟨rfl, hZ, hh⟩ := hP
  have hx := Bd.exec
  have hby := Bd.bytes
  have hml : c.maxLocals = 5 := hml0
  have hown : s.vm.findClass "com/example/dani/dani/core/KeyReversedFromPinLaw" = some m.cls := findClass_of_methodNamed Bd.named
  have hnm := (name_of_methodNamed Bd.named Bd.method).1
  have hlk : meth.locks = false := by first | exact BodyLoose.notSynchronized (by assumption) | exact Body.notSynchronized (by assumption)
  have X0 : Stand p l e ({ frames := 0, cells := 0, slots := 0, locals := 0 } : Room) s m #[(.ref a0), (.ref a1), (.int 2), (.int p3)] below meth c s₁ [] 0 0 := Stand.of_body Bd
  have e0 : s₁.heap = h0 := by rw [← hh, Bd.state]; rfl
  have N0 := Fr.nil n0
  have K0 : Keep h0 h0 [] := Keep.refl _ _
  refine own_start (CS := (0, 0)) (Q := (Q9_1_2 Z a0 a1 p3 k k2 w0 v0 h0 n0)) (ef_9_1_2 m a0 a1 (2 : Int32) p3) ?_
  show own_Go p e below s _ _ (s₁.setTop (mkF m 0 #[rv a0, rv a1, iv 2, iv p3, .unset] []))
  refine own_via (fun k => XS.iloadN X0.here hx rfl (hb hby d9_0) rfl  (XS.aloadN X0.here hx rfl (hb hby d9_1) rfl rfl  k)) ?_
  show own_Go p e below s _ _ (s₁.setTop (mkF m 2 #[rv a0, rv a1, iv 2, iv p3, .unset] [(.ref a1), (.int 2)]))
  obtain ⟨cl1, Ar1, -, S1, NN1, -, -⟩ := id P1
  refine own_via (fun k => X0.arraylength hx (by rw [e0]; exact Ar1.1) (State.isArrayOf_alike hZ.alike Ar1.2.1) (g := (mkF m 2 #[rv a0, rv a1, iv 2, iv p3, .unset] [(.ref a1), (.int 2)])) rfl rfl (hb hby d9_2) _ k) ?_
  rw [len_of S1 NN1]
  show own_Go p e below s _ _ (s₁.setTop (mkF m 3 #[rv a0, rv a1, iv 2, iv p3, .unset] [(.int 1), (.int 2)]))
  refine own_via (fun k => XS.icmpNo X0.here hx rfl (hb hby d9_3) rfl (by decide) k) ?_
  show own_Go p e below s _ _ (s₁.setTop (mkF m 6 #[rv a0, rv a1, iv 2, iv p3, .unset] []))
  refine own_via (fun k => XS.iconst X0.here hx rfl (hb hby d9_6) k) ?_
  show own_Go p e below s _ _ (s₁.setTop (mkF m 7 #[rv a0, rv a1, iv 2, iv p3, .unset] [(.int 1)]))
  exact own_retN X0 hx hlk (t := .boolean) Bd.returns (by simp) (hb hby d9_7) (Q := (Q9_1_2 Z a0 a1 p3 k k2 w0 v0 h0 n0)) ⟨(congrArg (fun z => some (Value.int z)) (show (1 : Int32) = own_f9_1_2 from rfl)), N0, e0⟩ (by decide) (by decide)
theorem ef_9_1_3 (m : MethodId) (x0 : Addr) (x1 : Addr) (x2 : Int32) (x3 : Int32) : entryFrame m #[(.ref x0), (.ref x1), (.int x2), (.int x3)] 5 = mkF m 0 #[rv x0, rv x1, iv x2, iv x3, .unset] [] := by first | (simp [entryFrame, mkF, argsToLocals, Value.category]; done) | rfl
def own_f9_1_3  : Int32 := (1 : Int32)
def Q9_1_3 (Z : State) (a0 : Addr) (a1 : Addr) (p3 : Int32) (k : ClassId) (k2 : ClassId) (w0 : Int32) (v0 : Int32) (h0 : Heap) (n0 : Nat) (v : Option Value) (h : Heap) (L : List Loc) : Prop := v = some (.int own_f9_1_3) ∧ Fr n0 L ∧ h = h0
set_option maxRecDepth 65536 in
set_option maxHeartbeats 40000000 in
theorem rm9_1_3 (l : Launch) (Z : State) (aw : Array Value) (hw : ∀ d ∈ tables_1, d.before aw Z = true) (ws : List Jvm.Cond) (a0 : Addr) (a1 : Addr) (p3 : Int32) (k : ClassId) (k2 : ClassId) (w0 : Int32) (v0 : Int32) (h0 : Heap) (n0 : Nat) (Z0 : n0 ≤ h0.size) (P0 : Arv Z h0 a0 k .byte (1 : Int32) [(.int w0)] (.int 0)) (P1 : Arv Z h0 a1 k2 .byte (1 : Int32) [(.int v0)] (.int 0)) :
    MetFree l (⟨"com/example/dani/dani/core/KeyReversedFromPinLaw", "at", "([B[BII)Z"⟩ : MethodName) (head1 (Jvm.Cond.code (⟨"com/example/dani/dani/core/KeyReversedFromPinLaw", "at", "([B[BII)Z"⟩ : MethodName) method_3_code 5 (some .boolean) :: ws) ({ frames := 0, cells := 0, slots := 0, locals := 0 } : Room)) (fun a U => a = #[(.ref a0), (.ref a1), (.int 3), (.int p3)] ∧ Z.Warmed39 U.vm ∧ U.heap = h0) (fun _ _ _ _ _ => True) (fun _ U o U' => ∃ v L, o = .returned v ∧ Q9_1_3 Z a0 a1 p3 k k2 w0 v0 h0 n0 v U'.heap L ∧ FrameEnd U o U' L ({ frames := 0, cells := 0, slots := 0, locals := 0 } : Room).cells ({ frames := 0, cells := 0, slots := 0, locals := 0 } : Room).slots) := by
  refine MetFree.of_bodySF (plainFor_of_name pn_9) hisR ?_
  intro p e s m args below meth c s₁ Bd hml0 hP hK
  obtain ⟨rfl, hZ, hh⟩ := hP
  have hx := Bd.exec
  have hby := Bd.bytes
  have hml : c.maxLocals = 5 := hml0
  have hown : s.vm.findClass "com/example/dani/dani/core/KeyReversedFromPinLaw" = some m.cls := findClass_of_methodNamed Bd.named
  have hnm := (name_of_methodNamed Bd.named Bd.method).1
  have hlk : meth.locks = false := by first | exact BodyLoose.notSynchronized (by assumption) | exact Body.notSynchronized (by assumption)
  have X0 : Stand p l e ({ frames := 0, cells := 0, slots := 0, locals := 0 } : Room) s m #[(.ref a0), (.ref a1), (.int 3), (.int p3)] below meth c s₁ [] 0 0 := Stand.of_body Bd
  have e0 : s₁.heap = h0 := by rw [← hh, Bd.state]; rfl
  have N0 := Fr.nil n0
  have K0 : Keep h0 h0 [] := Keep.refl _ _
  refine own_start (CS := (0, 0)) (Q := (Q9_1_3 Z a0 a1 p3 k k2 w0 v0 h0 n0)) (ef_9_1_3 m a0 a1 (3 : Int32) p3) ?_
  show own_Go p e below s _ _ (s₁.setTop (mkF m 0 #[rv a0, rv a1, iv 3, iv p3, .unset] []))
  refine own_via (fun k => XS.iloadN X0.here hx rfl (hb hby d9_0) rfl  (XS.aloadN X0.here hx rfl (hb hby d9_1) rfl rfl  k)) ?_
  show own_Go p e below s _ _ (s₁.setTop (mkF m 2 #[rv a0, rv a1, iv 3, iv p3, .unset] [(.ref a1), (.int 3)]))
  obtain ⟨cl1, Ar1, -, S1, NN1, -, -⟩ := id P1
  refine own_via (fun k => X0.arraylength hx (by rw [e0]; exact Ar1.1) (State.isArrayOf_alike hZ.alike Ar1.2.1) (g := (mkF m 2 #[rv a0, rv a1, iv 3, iv p3, .unset] [(.ref a1), (.int 3)])) rfl rfl (hb hby d9_2) _ k) ?_
  rw [len_of S1 NN1]
  show own_Go p e below s _ _ (s₁.setTop (mkF m 3 #[rv a0, rv a1, iv 3, iv p3, .unset] [(.int 1), (.int 3)]))
  refine own_via (fun k => XS.icmpNo X0.here hx rfl (hb hby d9_3) rfl (by decide) k) ?_
  show own_Go p e below s _ _ (s₁.setTop (mkF m 6 #[rv a0, rv a1, iv 3, iv p3, .unset] []))
  refine own_via (fun k => XS.iconst X0.here hx rfl (hb hby d9_6) k) ?_
  show own_Go p e below s _ _ (s₁.setTop (mkF m 7 #[rv a0, rv a1, iv 3, iv p3, .unset] [(.int 1)]))
  exact own_retN X0 hx hlk (t := .boolean) Bd.returns (by simp) (hb hby d9_7) (Q := (Q9_1_3 Z a0 a1 p3 k k2 w0 v0 h0 n0)) ⟨(congrArg (fun z => some (Value.int z)) (show (1 : Int32) = own_f9_1_3 from rfl)), N0, e0⟩ (by decide) (by decide)
theorem ef_9_2_0 (m : MethodId) (x0 : Addr) (x1 : Addr) (x2 : Int32) (x3 : Int32) : entryFrame m #[(.ref x0), (.ref x1), (.int x2), (.int x3)] 5 = mkF m 0 #[rv x0, rv x1, iv x2, iv x3, .unset] [] := by first | (simp [entryFrame, mkF, argsToLocals, Value.category]; done) | rfl
def own_f9_2_0 (p3 : Int32) (w0 : Int32) (v0 : Int32) : Int32 := (let z4 : Int32 := (if (0 : Int32) < p3 then v0 else ((v0 ^^^ (-1 : Int32)).toInt8.toInt32)); (if w0 = z4 then (1 : Int32) else (0 : Int32)))
def Q9_2_0 (Z : State) (a0 : Addr) (a1 : Addr) (p3 : Int32) (k : ClassId) (k2 : ClassId) (w0 : Int32) (w1 : Int32) (v0 : Int32) (v1 : Int32) (h0 : Heap) (n0 : Nat) (v : Option Value) (h : Heap) (L : List Loc) : Prop := v = some (.int (own_f9_2_0 p3 w0 v0)) ∧ Fr n0 L ∧ h = h0
set_option maxRecDepth 65536 in
set_option maxHeartbeats 40000000 in
theorem rm9_2_0 (l : Launch) (Z : State) (aw : Array Value) (hw : ∀ d ∈ tables_1, d.before aw Z = true) (ws : List Jvm.Cond) (a0 : Addr) (a1 : Addr) (p3 : Int32) (k : ClassId) (k2 : ClassId) (w0 : Int32) (w1 : Int32) (v0 : Int32) (v1 : Int32) (h0 : Heap) (n0 : Nat) (Z0 : n0 ≤ h0.size) (P0 : Arv Z h0 a0 k .byte (2 : Int32) [(.int w0), (.int w1)] (.int 0)) (P1 : Arv Z h0 a1 k2 .byte (2 : Int32) [(.int v0), (.int v1)] (.int 0)) :
    MetFree l (⟨"com/example/dani/dani/core/KeyReversedFromPinLaw", "at", "([B[BII)Z"⟩ : MethodName) (head1 (Jvm.Cond.code (⟨"com/example/dani/dani/core/KeyReversedFromPinLaw", "at", "([B[BII)Z"⟩ : MethodName) method_3_code 5 (some .boolean) :: ws) ({ frames := 0, cells := 0, slots := 0, locals := 0 } : Room)) (fun a U => a = #[(.ref a0), (.ref a1), (.int 0), (.int p3)] ∧ Z.Warmed39 U.vm ∧ U.heap = h0) (fun _ _ _ _ _ => True) (fun _ U o U' => ∃ v L, o = .returned v ∧ Q9_2_0 Z a0 a1 p3 k k2 w0 w1 v0 v1 h0 n0 v U'.heap L ∧ FrameEnd U o U' L ({ frames := 0, cells := 0, slots := 0, locals := 0 } : Room).cells ({ frames := 0, cells := 0, slots := 0, locals := 0 } : Room).slots) := by
  refine MetFree.of_bodySF (plainFor_of_name pn_9) hisR ?_
  intro p e s m args below meth c s₁ Bd hml0 hP hK
  obtain ⟨rfl, hZ, hh⟩ := hP
  have hx := Bd.exec
  have hby := Bd.bytes
  have hml : c.maxLocals = 5 := hml0
  have hown : s.vm.findClass "com/example/dani/dani/core/KeyReversedFromPinLaw" = some m.cls := findClass_of_methodNamed Bd.named
  have hnm := (name_of_methodNamed Bd.named Bd.method).1
  have hlk : meth.locks = false := by first | exact BodyLoose.notSynchronized (by assumption) | exact Body.notSynchronized (by assumption)
  have X0 : Stand p l e ({ frames := 0, cells := 0, slots := 0, locals := 0 } : Room) s m #[(.ref a0), (.ref a1), (.int 0), (.int p3)] below meth c s₁ [] 0 0 := Stand.of_body Bd
  have e0 : s₁.heap = h0 := by rw [← hh, Bd.state]; rfl
  have N0 := Fr.nil n0
  have K0 : Keep h0 h0 [] := Keep.refl _ _
  refine own_start (CS := (0, 0)) (Q := (Q9_2_0 Z a0 a1 p3 k k2 w0 w1 v0 v1 h0 n0)) (ef_9_2_0 m a0 a1 (0 : Int32) p3) ?_
  show own_Go p e below s _ _ (s₁.setTop (mkF m 0 #[rv a0, rv a1, iv 0, iv p3, .unset] []))
  refine own_via (fun k => XS.iloadN X0.here hx rfl (hb hby d9_0) rfl  (XS.aloadN X0.here hx rfl (hb hby d9_1) rfl rfl  k)) ?_
  show own_Go p e below s _ _ (s₁.setTop (mkF m 2 #[rv a0, rv a1, iv 0, iv p3, .unset] [(.ref a1), (.int 0)]))
  obtain ⟨cl1, Ar1, -, S1, NN1, -, -⟩ := id P1
  refine own_via (fun k => X0.arraylength hx (by rw [e0]; exact Ar1.1) (State.isArrayOf_alike hZ.alike Ar1.2.1) (g := (mkF m 2 #[rv a0, rv a1, iv 0, iv p3, .unset] [(.ref a1), (.int 0)])) rfl rfl (hb hby d9_2) _ k) ?_
  rw [len_of S1 NN1]
  show own_Go p e below s _ _ (s₁.setTop (mkF m 3 #[rv a0, rv a1, iv 0, iv p3, .unset] [(.int 2), (.int 0)]))
  refine own_via (fun k => XS.icmpYes X0.here hx rfl (pc0 := 3) (pc' := 8) rfl (hb hby d9_3) rfl (by decide) (by decide) (by decide) k) ?_
  show own_Go p e below s _ _ (s₁.setTop (mkF m 8 #[rv a0, rv a1, iv 0, iv p3, .unset] []))
  refine own_via (fun k => XS.iloadN X0.here hx rfl (hb hby d9_8) rfl  (XS.iloadN X0.here hx rfl (hb hby d9_9) rfl  k)) ?_
  show own_Go p e below s _ _ (s₁.setTop (mkF m 10 #[rv a0, rv a1, iv 0, iv p3, .unset] [(.int p3), (.int 0)]))
  have J5 : ∀ (T5 : State) (lo5 : List Loc), Stand p l e ({ frames := 0, cells := 0, slots := 0, locals := 0 } : Room) s m #[(.ref a0), (.ref a1), (.int 0), (.int p3)] below meth c T5 lo5 0 0 → Fr n0 lo5 → T5.heap = h0 → ∀ (z4 : Int32), z4 = (if (0 : Int32) < p3 then v0 else ((v0 ^^^ (-1 : Int32)).toInt8.toInt32)) → own_Go p e below s (Q9_2_0 Z a0 a1 p3 k k2 w0 w1 v0 v1 h0 n0) (0, 0) (T5.setTop (mkF m 25 #[rv a0, rv a1, iv 0, iv p3, .unset] [(.int z4)])) := by
    intro T5 lo5 X5 N5 e5 z4 hz4
    refine own_via (fun k => XS.istore X5.here hx rfl (hb hby d9_25) rfl (l' := #[rv a0, rv a1, iv 0, iv p3, iv z4]) rfl (XS.aloadN X5.here hx rfl (hb hby d9_27) rfl rfl  (XS.iloadN X5.here hx rfl (hb hby d9_28) rfl  k))) ?_
    show own_Go p e below s _ _ (T5.setTop (mkF m 29 #[rv a0, rv a1, iv 0, iv p3, iv z4] [(.int 0), (.ref a0)]))
    obtain ⟨cl6, Ar6, q6, S6, NN6, H6, G6⟩ := id P0
    have hin6 : ¬ ((0 : Int32) < 0 ∨ cl6.slots.size ≤ ((0 : Int32)).toNatClampNeg) := inb_of S6 ⟨by decide, by decide⟩
    have hat6 : cl6.slots[((0 : Int32)).toNatClampNeg]? = some (.int w0) := H6.at hin6 rfl
    refine own_via (fun k => X5.baloadBytes hx (j := (0 : Int32)) (v := (.int w0)) (by rw [e5]; exact Ar6.1) (State.isArrayOf_alike hZ.alike Ar6.2.1) Ar6.2.2 hin6 hat6 (g := (mkF m 29 #[rv a0, rv a1, iv 0, iv p3, iv z4] [(.int 0), (.ref a0)])) rfl rfl (hb hby d9_29) _ k) ?_
    show own_Go p e below s _ _ (T5.setTop (mkF m 30 #[rv a0, rv a1, iv 0, iv p3, iv z4] [(.int w0)]))
    refine own_via (fun k => XS.iload X5.here hx rfl (hb hby d9_30) rfl  k) ?_
    show own_Go p e below s _ _ (T5.setTop (mkF m 32 #[rv a0, rv a1, iv 0, iv p3, iv z4] [(.int z4), (.int w0)]))
    by_cases hc7 : w0 = z4
    · refine own_via (fun k => XS.icmpNo X5.here hx rfl (hb hby d9_32) rfl (teq hc7).2 k) ?_
      show own_Go p e below s _ _ (T5.setTop (mkF m 35 #[rv a0, rv a1, iv 0, iv p3, iv z4] []))
      refine own_via (fun k => XS.iconst X5.here hx rfl (hb hby d9_35) (XS.goto X5.here hx rfl (pc0 := 36) (pc' := 40) rfl (hb hby d9_36) (by decide) (by decide) k)) ?_
      show own_Go p e below s _ _ (T5.setTop (mkF m 40 #[rv a0, rv a1, iv 0, iv p3, iv z4] [(.int 1)]))
      exact own_retN X5 hx hlk (t := .boolean) Bd.returns (by simp) (hb hby d9_40) (Q := (Q9_2_0 Z a0 a1 p3 k k2 w0 w1 v0 v1 h0 n0)) ⟨(congrArg (fun z => some (Value.int z)) (show (1 : Int32) = (own_f9_2_0 p3 w0 v0) from (by subst hz4; unfold own_f9_2_0; exact ((if_pos hc7).trans rfl).symm))), N5, e5⟩ (by decide) (by decide)
    · refine own_via (fun k => XS.icmpYes X5.here hx rfl (pc0 := 32) (pc' := 39) rfl (hb hby d9_32) rfl (feq hc7).2 (by decide) (by decide) k) ?_
      show own_Go p e below s _ _ (T5.setTop (mkF m 39 #[rv a0, rv a1, iv 0, iv p3, iv z4] []))
      refine own_via (fun k => XS.iconst X5.here hx rfl (hb hby d9_39) k) ?_
      show own_Go p e below s _ _ (T5.setTop (mkF m 40 #[rv a0, rv a1, iv 0, iv p3, iv z4] [(.int 0)]))
      exact own_retN X5 hx hlk (t := .boolean) Bd.returns (by simp) (hb hby d9_40) (Q := (Q9_2_0 Z a0 a1 p3 k k2 w0 w1 v0 v1 h0 n0)) ⟨(congrArg (fun z => some (Value.int z)) (show (0 : Int32) = (own_f9_2_0 p3 w0 v0) from (by subst hz4; unfold own_f9_2_0; exact ((if_neg hc7).trans rfl).symm))), N5, e5⟩ (by decide) (by decide)
  by_cases hc8 : (0 : Int32) < p3
  · refine own_via (fun k => XS.icmpNo X0.here hx rfl (hb hby d9_10) rfl (tlt hc8).2.1 k) ?_
    show own_Go p e below s _ _ (s₁.setTop (mkF m 13 #[rv a0, rv a1, iv 0, iv p3, .unset] []))
    refine own_via (fun k => XS.aloadN X0.here hx rfl (hb hby d9_13) rfl rfl  (XS.iloadN X0.here hx rfl (hb hby d9_14) rfl  k)) ?_
    show own_Go p e below s _ _ (s₁.setTop (mkF m 15 #[rv a0, rv a1, iv 0, iv p3, .unset] [(.int 0), (.ref a1)]))
    obtain ⟨cl9, Ar9, q9, S9, NN9, H9, G9⟩ := id P1
    have hin9 : ¬ ((0 : Int32) < 0 ∨ cl9.slots.size ≤ ((0 : Int32)).toNatClampNeg) := inb_of S9 ⟨by decide, by decide⟩
    have hat9 : cl9.slots[((0 : Int32)).toNatClampNeg]? = some (.int v0) := H9.at hin9 rfl
    refine own_via (fun k => X0.baloadBytes hx (j := (0 : Int32)) (v := (.int v0)) (by rw [e0]; exact Ar9.1) (State.isArrayOf_alike hZ.alike Ar9.2.1) Ar9.2.2 hin9 hat9 (g := (mkF m 15 #[rv a0, rv a1, iv 0, iv p3, .unset] [(.int 0), (.ref a1)])) rfl rfl (hb hby d9_15) _ k) ?_
    show own_Go p e below s _ _ (s₁.setTop (mkF m 16 #[rv a0, rv a1, iv 0, iv p3, .unset] [(.int v0)]))
    refine own_via (fun k => XS.goto X0.here hx rfl (pc0 := 16) (pc' := 25) rfl (hb hby d9_16) (by decide) (by decide) k) ?_
    show own_Go p e below s _ _ (s₁.setTop (mkF m 25 #[rv a0, rv a1, iv 0, iv p3, .unset] [(.int v0)]))
    exact J5 _ _ X0 N0 e0 v0 (((if_pos hc8).trans rfl)).symm
  · refine own_via (fun k => XS.icmpYes X0.here hx rfl (pc0 := 10) (pc' := 19) rfl (hb hby d9_10) rfl (flt hc8).2.1 (by decide) (by decide) k) ?_
    show own_Go p e below s _ _ (s₁.setTop (mkF m 19 #[rv a0, rv a1, iv 0, iv p3, .unset] []))
    refine own_via (fun k => XS.aloadN X0.here hx rfl (hb hby d9_19) rfl rfl  (XS.iloadN X0.here hx rfl (hb hby d9_20) rfl  k)) ?_
    show own_Go p e below s _ _ (s₁.setTop (mkF m 21 #[rv a0, rv a1, iv 0, iv p3, .unset] [(.int 0), (.ref a1)]))
    obtain ⟨cl10, Ar10, q10, S10, NN10, H10, G10⟩ := id P1
    have hin10 : ¬ ((0 : Int32) < 0 ∨ cl10.slots.size ≤ ((0 : Int32)).toNatClampNeg) := inb_of S10 ⟨by decide, by decide⟩
    have hat10 : cl10.slots[((0 : Int32)).toNatClampNeg]? = some (.int v0) := H10.at hin10 rfl
    refine own_via (fun k => X0.baloadBytes hx (j := (0 : Int32)) (v := (.int v0)) (by rw [e0]; exact Ar10.1) (State.isArrayOf_alike hZ.alike Ar10.2.1) Ar10.2.2 hin10 hat10 (g := (mkF m 21 #[rv a0, rv a1, iv 0, iv p3, .unset] [(.int 0), (.ref a1)])) rfl rfl (hb hby d9_21) _ k) ?_
    show own_Go p e below s _ _ (s₁.setTop (mkF m 22 #[rv a0, rv a1, iv 0, iv p3, .unset] [(.int v0)]))
    refine own_via (fun k => XS.iconst X0.here hx rfl (hb hby d9_22) (XS.ixor X0.here hx rfl (hb hby d9_23) rfl (XS.i2b X0.here hx rfl (hb hby d9_24) rfl k))) ?_
    show own_Go p e below s _ _ (s₁.setTop (mkF m 25 #[rv a0, rv a1, iv 0, iv p3, .unset] [(.int ((v0 ^^^ (-1 : Int32)).toInt8.toInt32))]))
    exact J5 _ _ X0 N0 e0 ((v0 ^^^ (-1 : Int32)).toInt8.toInt32) (((if_neg hc8).trans rfl)).symm
theorem ef_9_2_1 (m : MethodId) (x0 : Addr) (x1 : Addr) (x2 : Int32) (x3 : Int32) : entryFrame m #[(.ref x0), (.ref x1), (.int x2), (.int x3)] 5 = mkF m 0 #[rv x0, rv x1, iv x2, iv x3, .unset] [] := by first | (simp [entryFrame, mkF, argsToLocals, Value.category]; done) | rfl
def own_f9_2_1 (p3 : Int32) (w1 : Int32) (v1 : Int32) : Int32 := (let z4 : Int32 := (if (1 : Int32) < p3 then v1 else ((v1 ^^^ (-1 : Int32)).toInt8.toInt32)); (if w1 = z4 then (1 : Int32) else (0 : Int32)))
def Q9_2_1 (Z : State) (a0 : Addr) (a1 : Addr) (p3 : Int32) (k : ClassId) (k2 : ClassId) (w0 : Int32) (w1 : Int32) (v0 : Int32) (v1 : Int32) (h0 : Heap) (n0 : Nat) (v : Option Value) (h : Heap) (L : List Loc) : Prop := v = some (.int (own_f9_2_1 p3 w1 v1)) ∧ Fr n0 L ∧ h = h0
set_option maxRecDepth 65536 in
set_option maxHeartbeats 40000000 in
theorem rm9_2_1 (l : Launch) (Z : State) (aw : Array Value) (hw : ∀ d ∈ tables_1, d.before aw Z = true) (ws : List Jvm.Cond) (a0 : Addr) (a1 : Addr) (p3 : Int32) (k : ClassId) (k2 : ClassId) (w0 : Int32) (w1 : Int32) (v0 : Int32) (v1 : Int32) (h0 : Heap) (n0 : Nat) (Z0 : n0 ≤ h0.size) (P0 : Arv Z h0 a0 k .byte (2 : Int32) [(.int w0), (.int w1)] (.int 0)) (P1 : Arv Z h0 a1 k2 .byte (2 : Int32) [(.int v0), (.int v1)] (.int 0)) :
    MetFree l (⟨"com/example/dani/dani/core/KeyReversedFromPinLaw", "at", "([B[BII)Z"⟩ : MethodName) (head1 (Jvm.Cond.code (⟨"com/example/dani/dani/core/KeyReversedFromPinLaw", "at", "([B[BII)Z"⟩ : MethodName) method_3_code 5 (some .boolean) :: ws) ({ frames := 0, cells := 0, slots := 0, locals := 0 } : Room)) (fun a U => a = #[(.ref a0), (.ref a1), (.int 1), (.int p3)] ∧ Z.Warmed39 U.vm ∧ U.heap = h0) (fun _ _ _ _ _ => True) (fun _ U o U' => ∃ v L, o = .returned v ∧ Q9_2_1 Z a0 a1 p3 k k2 w0 w1 v0 v1 h0 n0 v U'.heap L ∧ FrameEnd U o U' L ({ frames := 0, cells := 0, slots := 0, locals := 0 } : Room).cells ({ frames := 0, cells := 0, slots := 0, locals := 0 } : Room).slots) := by
  refine MetFree.of_bodySF (plainFor_of_name pn_9) hisR ?_
  intro p e s m args below meth c s₁ Bd hml0 hP hK
  obtain ⟨rfl, hZ, hh⟩ := hP
  have hx := Bd.exec
  have hby := Bd.bytes
  have hml : c.maxLocals = 5 := hml0
  have hown : s.vm.findClass "com/example/dani/dani/core/KeyReversedFromPinLaw" = some m.cls := findClass_of_methodNamed Bd.named
  have hnm := (name_of_methodNamed Bd.named Bd.method).1
  have hlk : meth.locks = false := by first | exact BodyLoose.notSynchronized (by assumption) | exact Body.notSynchronized (by assumption)
  have X0 : Stand p l e ({ frames := 0, cells := 0, slots := 0, locals := 0 } : Room) s m #[(.ref a0), (.ref a1), (.int 1), (.int p3)] below meth c s₁ [] 0 0 := Stand.of_body Bd
  have e0 : s₁.heap = h0 := by rw [← hh, Bd.state]; rfl
  have N0 := Fr.nil n0
  have K0 : Keep h0 h0 [] := Keep.refl _ _
  refine own_start (CS := (0, 0)) (Q := (Q9_2_1 Z a0 a1 p3 k k2 w0 w1 v0 v1 h0 n0)) (ef_9_2_1 m a0 a1 (1 : Int32) p3) ?_
  show own_Go p e below s _ _ (s₁.setTop (mkF m 0 #[rv a0, rv a1, iv 1, iv p3, .unset] []))
  refine own_via (fun k => XS.iloadN X0.here hx rfl (hb hby d9_0) rfl  (XS.aloadN X0.here hx rfl (hb hby d9_1) rfl rfl  k)) ?_
  show own_Go p e below s _ _ (s₁.setTop (mkF m 2 #[rv a0, rv a1, iv 1, iv p3, .unset] [(.ref a1), (.int 1)]))
  obtain ⟨cl1, Ar1, -, S1, NN1, -, -⟩ := id P1
  refine own_via (fun k => X0.arraylength hx (by rw [e0]; exact Ar1.1) (State.isArrayOf_alike hZ.alike Ar1.2.1) (g := (mkF m 2 #[rv a0, rv a1, iv 1, iv p3, .unset] [(.ref a1), (.int 1)])) rfl rfl (hb hby d9_2) _ k) ?_
  rw [len_of S1 NN1]
  show own_Go p e below s _ _ (s₁.setTop (mkF m 3 #[rv a0, rv a1, iv 1, iv p3, .unset] [(.int 2), (.int 1)]))
  refine own_via (fun k => XS.icmpYes X0.here hx rfl (pc0 := 3) (pc' := 8) rfl (hb hby d9_3) rfl (by decide) (by decide) (by decide) k) ?_
  show own_Go p e below s _ _ (s₁.setTop (mkF m 8 #[rv a0, rv a1, iv 1, iv p3, .unset] []))
  refine own_via (fun k => XS.iloadN X0.here hx rfl (hb hby d9_8) rfl  (XS.iloadN X0.here hx rfl (hb hby d9_9) rfl  k)) ?_
  show own_Go p e below s _ _ (s₁.setTop (mkF m 10 #[rv a0, rv a1, iv 1, iv p3, .unset] [(.int p3), (.int 1)]))
  have J5 : ∀ (T5 : State) (lo5 : List Loc), Stand p l e ({ frames := 0, cells := 0, slots := 0, locals := 0 } : Room) s m #[(.ref a0), (.ref a1), (.int 1), (.int p3)] below meth c T5 lo5 0 0 → Fr n0 lo5 → T5.heap = h0 → ∀ (z4 : Int32), z4 = (if (1 : Int32) < p3 then v1 else ((v1 ^^^ (-1 : Int32)).toInt8.toInt32)) → own_Go p e below s (Q9_2_1 Z a0 a1 p3 k k2 w0 w1 v0 v1 h0 n0) (0, 0) (T5.setTop (mkF m 25 #[rv a0, rv a1, iv 1, iv p3, .unset] [(.int z4)])) := by
    intro T5 lo5 X5 N5 e5 z4 hz4
    refine own_via (fun k => XS.istore X5.here hx rfl (hb hby d9_25) rfl (l' := #[rv a0, rv a1, iv 1, iv p3, iv z4]) rfl (XS.aloadN X5.here hx rfl (hb hby d9_27) rfl rfl  (XS.iloadN X5.here hx rfl (hb hby d9_28) rfl  k))) ?_
    show own_Go p e below s _ _ (T5.setTop (mkF m 29 #[rv a0, rv a1, iv 1, iv p3, iv z4] [(.int 1), (.ref a0)]))
    obtain ⟨cl6, Ar6, q6, S6, NN6, H6, G6⟩ := id P0
    have hin6 : ¬ ((1 : Int32) < 0 ∨ cl6.slots.size ≤ ((1 : Int32)).toNatClampNeg) := inb_of S6 ⟨by decide, by decide⟩
    have hat6 : cl6.slots[((1 : Int32)).toNatClampNeg]? = some (.int w1) := H6.at hin6 rfl
    refine own_via (fun k => X5.baloadBytes hx (j := (1 : Int32)) (v := (.int w1)) (by rw [e5]; exact Ar6.1) (State.isArrayOf_alike hZ.alike Ar6.2.1) Ar6.2.2 hin6 hat6 (g := (mkF m 29 #[rv a0, rv a1, iv 1, iv p3, iv z4] [(.int 1), (.ref a0)])) rfl rfl (hb hby d9_29) _ k) ?_
    show own_Go p e below s _ _ (T5.setTop (mkF m 30 #[rv a0, rv a1, iv 1, iv p3, iv z4] [(.int w1)]))
    refine own_via (fun k => XS.iload X5.here hx rfl (hb hby d9_30) rfl  k) ?_
    show own_Go p e below s _ _ (T5.setTop (mkF m 32 #[rv a0, rv a1, iv 1, iv p3, iv z4] [(.int z4), (.int w1)]))
    by_cases hc7 : w1 = z4
    · refine own_via (fun k => XS.icmpNo X5.here hx rfl (hb hby d9_32) rfl (teq hc7).2 k) ?_
      show own_Go p e below s _ _ (T5.setTop (mkF m 35 #[rv a0, rv a1, iv 1, iv p3, iv z4] []))
      refine own_via (fun k => XS.iconst X5.here hx rfl (hb hby d9_35) (XS.goto X5.here hx rfl (pc0 := 36) (pc' := 40) rfl (hb hby d9_36) (by decide) (by decide) k)) ?_
      show own_Go p e below s _ _ (T5.setTop (mkF m 40 #[rv a0, rv a1, iv 1, iv p3, iv z4] [(.int 1)]))
      exact own_retN X5 hx hlk (t := .boolean) Bd.returns (by simp) (hb hby d9_40) (Q := (Q9_2_1 Z a0 a1 p3 k k2 w0 w1 v0 v1 h0 n0)) ⟨(congrArg (fun z => some (Value.int z)) (show (1 : Int32) = (own_f9_2_1 p3 w1 v1) from (by subst hz4; unfold own_f9_2_1; exact ((if_pos hc7).trans rfl).symm))), N5, e5⟩ (by decide) (by decide)
    · refine own_via (fun k => XS.icmpYes X5.here hx rfl (pc0 := 32) (pc' := 39) rfl (hb hby d9_32) rfl (feq hc7).2 (by decide) (by decide) k) ?_
      show own_Go p e below s _ _ (T5.setTop (mkF m 39 #[rv a0, rv a1, iv 1, iv p3, iv z4] []))
      refine own_via (fun k => XS.iconst X5.here hx rfl (hb hby d9_39) k) ?_
      show own_Go p e below s _ _ (T5.setTop (mkF m 40 #[rv a0, rv a1, iv 1, iv p3, iv z4] [(.int 0)]))
      exact own_retN X5 hx hlk (t := .boolean) Bd.returns (by simp) (hb hby d9_40) (Q := (Q9_2_1 Z a0 a1 p3 k k2 w0 w1 v0 v1 h0 n0)) ⟨(congrArg (fun z => some (Value.int z)) (show (0 : Int32) = (own_f9_2_1 p3 w1 v1) from (by subst hz4; unfold own_f9_2_1; exact ((if_neg hc7).trans rfl).symm))), N5, e5⟩ (by decide) (by decide)
  by_cases hc8 : (1 : Int32) < p3
  · refine own_via (fun k => XS.icmpNo X0.here hx rfl (hb hby d9_10) rfl (tlt hc8).2.1 k) ?_
    show own_Go p e below s _ _ (s₁.setTop (mkF m 13 #[rv a0, rv a1, iv 1, iv p3, .unset] []))
    refine own_via (fun k => XS.aloadN X0.here hx rfl (hb hby d9_13) rfl rfl  (XS.iloadN X0.here hx rfl (hb hby d9_14) rfl  k)) ?_
    show own_Go p e below s _ _ (s₁.setTop (mkF m 15 #[rv a0, rv a1, iv 1, iv p3, .unset] [(.int 1), (.ref a1)]))
    obtain ⟨cl9, Ar9, q9, S9, NN9, H9, G9⟩ := id P1
    have hin9 : ¬ ((1 : Int32) < 0 ∨ cl9.slots.size ≤ ((1 : Int32)).toNatClampNeg) := inb_of S9 ⟨by decide, by decide⟩
    have hat9 : cl9.slots[((1 : Int32)).toNatClampNeg]? = some (.int v1) := H9.at hin9 rfl
    refine own_via (fun k => X0.baloadBytes hx (j := (1 : Int32)) (v := (.int v1)) (by rw [e0]; exact Ar9.1) (State.isArrayOf_alike hZ.alike Ar9.2.1) Ar9.2.2 hin9 hat9 (g := (mkF m 15 #[rv a0, rv a1, iv 1, iv p3, .unset] [(.int 1), (.ref a1)])) rfl rfl (hb hby d9_15) _ k) ?_
    show own_Go p e below s _ _ (s₁.setTop (mkF m 16 #[rv a0, rv a1, iv 1, iv p3, .unset] [(.int v1)]))
    refine own_via (fun k => XS.goto X0.here hx rfl (pc0 := 16) (pc' := 25) rfl (hb hby d9_16) (by decide) (by decide) k) ?_
    show own_Go p e below s _ _ (s₁.setTop (mkF m 25 #[rv a0, rv a1, iv 1, iv p3, .unset] [(.int v1)]))
    exact J5 _ _ X0 N0 e0 v1 (((if_pos hc8).trans rfl)).symm
  · refine own_via (fun k => XS.icmpYes X0.here hx rfl (pc0 := 10) (pc' := 19) rfl (hb hby d9_10) rfl (flt hc8).2.1 (by decide) (by decide) k) ?_
    show own_Go p e below s _ _ (s₁.setTop (mkF m 19 #[rv a0, rv a1, iv 1, iv p3, .unset] []))
    refine own_via (fun k => XS.aloadN X0.here hx rfl (hb hby d9_19) rfl rfl  (XS.iloadN X0.here hx rfl (hb hby d9_20) rfl  k)) ?_
    show own_Go p e below s _ _ (s₁.setTop (mkF m 21 #[rv a0, rv a1, iv 1, iv p3, .unset] [(.int 1), (.ref a1)]))
    obtain ⟨cl10, Ar10, q10, S10, NN10, H10, G10⟩ := id P1
    have hin10 : ¬ ((1 : Int32) < 0 ∨ cl10.slots.size ≤ ((1 : Int32)).toNatClampNeg) := inb_of S10 ⟨by decide, by decide⟩
    have hat10 : cl10.slots[((1 : Int32)).toNatClampNeg]? = some (.int v1) := H10.at hin10 rfl
    refine own_via (fun k => X0.baloadBytes hx (j := (1 : Int32)) (v := (.int v1)) (by rw [e0]; exact Ar10.1) (State.isArrayOf_alike hZ.alike Ar10.2.1) Ar10.2.2 hin10 hat10 (g := (mkF m 21 #[rv a0, rv a1, iv 1, iv p3, .unset] [(.int 1), (.ref a1)])) rfl rfl (hb hby d9_21) _ k) ?_
    show own_Go p e below s _ _ (s₁.setTop (mkF m 22 #[rv a0, rv a1, iv 1, iv p3, .unset] [(.int v1)]))
    refine own_via (fun k => XS.iconst X0.here hx rfl (hb hby d9_22) (XS.ixor X0.here hx rfl (hb hby d9_23) rfl (XS.i2b X0.here hx rfl (hb hby d9_24) rfl k))) ?_
    show own_Go p e below s _ _ (s₁.setTop (mkF m 25 #[rv a0, rv a1, iv 1, iv p3, .unset] [(.int ((v1 ^^^ (-1 : Int32)).toInt8.toInt32))]))
    exact J5 _ _ X0 N0 e0 ((v1 ^^^ (-1 : Int32)).toInt8.toInt32) (((if_neg hc8).trans rfl)).symm
theorem ef_9_2_2 (m : MethodId) (x0 : Addr) (x1 : Addr) (x2 : Int32) (x3 : Int32) : entryFrame m #[(.ref x0), (.ref x1), (.int x2), (.int x3)] 5 = mkF m 0 #[rv x0, rv x1, iv x2, iv x3, .unset] [] := by first | (simp [entryFrame, mkF, argsToLocals, Value.category]; done) | rfl
def own_f9_2_2  : Int32 := (1 : Int32)
def Q9_2_2 (Z : State) (a0 : Addr) (a1 : Addr) (p3 : Int32) (k : ClassId) (k2 : ClassId) (w0 : Int32) (w1 : Int32) (v0 : Int32) (v1 : Int32) (h0 : Heap) (n0 : Nat) (v : Option Value) (h : Heap) (L : List Loc) : Prop := v = some (.int own_f9_2_2) ∧ Fr n0 L ∧ h = h0
set_option maxRecDepth 65536 in
set_option maxHeartbeats 40000000 in
theorem rm9_2_2 (l : Launch) (Z : State) (aw : Array Value) (hw : ∀ d ∈ tables_1, d.before aw Z = true) (ws : List Jvm.Cond) (a0 : Addr) (a1 : Addr) (p3 : Int32) (k : ClassId) (k2 : ClassId) (w0 : Int32) (w1 : Int32) (v0 : Int32) (v1 : Int32) (h0 : Heap) (n0 : Nat) (Z0 : n0 ≤ h0.size) (P0 : Arv Z h0 a0 k .byte (2 : Int32) [(.int w0), (.int w1)] (.int 0)) (P1 : Arv Z h0 a1 k2 .byte (2 : Int32) [(.int v0), (.int v1)] (.int 0)) :
    MetFree l (⟨"com/example/dani/dani/core/KeyReversedFromPinLaw", "at", "([B[BII)Z"⟩ : MethodName) (head1 (Jvm.Cond.code (⟨"com/example/dani/dani/core/KeyReversedFromPinLaw", "at", "([B[BII)Z"⟩ : MethodName) method_3_code 5 (some .boolean) :: ws) ({ frames := 0, cells := 0, slots := 0, locals := 0 } : Room)) (fun a U => a = #[(.ref a0), (.ref a1), (.int 2), (.int p3)] ∧ Z.Warmed39 U.vm ∧ U.heap = h0) (fun _ _ _ _ _ => True) (fun _ U o U' => ∃ v L, o = .returned v ∧ Q9_2_2 Z a0 a1 p3 k k2 w0 w1 v0 v1 h0 n0 v U'.heap L ∧ FrameEnd U o U' L ({ frames := 0, cells := 0, slots := 0, locals := 0 } : Room).cells ({ frames := 0, cells := 0, slots := 0, locals := 0 } : Room).slots) := by
  refine MetFree.of_bodySF (plainFor_of_name pn_9) hisR ?_
  intro p e s m args below meth c s₁ Bd hml0 hP hK
  obtain ⟨rfl, hZ, hh⟩ := hP
  have hx := Bd.exec
  have hby := Bd.bytes
  have hml : c.maxLocals = 5 := hml0
  have hown : s.vm.findClass "com/example/dani/dani/core/KeyReversedFromPinLaw" = some m.cls := findClass_of_methodNamed Bd.named
  have hnm := (name_of_methodNamed Bd.named Bd.method).1
  have hlk : meth.locks = false := by first | exact BodyLoose.notSynchronized (by assumption) | exact Body.notSynchronized (by assumption)
  have X0 : Stand p l e ({ frames := 0, cells := 0, slots := 0, locals := 0 } : Room) s m #[(.ref a0), (.ref a1), (.int 2), (.int p3)] below meth c s₁ [] 0 0 := Stand.of_body Bd
  have e0 : s₁.heap = h0 := by rw [← hh, Bd.state]; rfl
  have N0 := Fr.nil n0
  have K0 : Keep h0 h0 [] := Keep.refl _ _
  refine own_start (CS := (0, 0)) (Q := (Q9_2_2 Z a0 a1 p3 k k2 w0 w1 v0 v1 h0 n0)) (ef_9_2_2 m a0 a1 (2 : Int32) p3) ?_
  show own_Go p e below s _ _ (s₁.setTop (mkF m 0 #[rv a0, rv a1, iv 2, iv p3, .unset] []))
  refine own_via (fun k => XS.iloadN X0.here hx rfl (hb hby d9_0) rfl  (XS.aloadN X0.here hx rfl (hb hby d9_1) rfl rfl  k)) ?_
  show own_Go p e below s _ _ (s₁.setTop (mkF m 2 #[rv a0, rv a1, iv 2, iv p3, .unset] [(.ref a1), (.int 2)]))
  obtain ⟨cl1, Ar1, -, S1, NN1, -, -⟩ := id P1
  refine own_via (fun k => X0.arraylength hx (by rw [e0]; exact Ar1.1) (State.isArrayOf_alike hZ.alike Ar1.2.1) (g := (mkF m 2 #[rv a0, rv a1, iv 2, iv p3, .unset] [(.ref a1), (.int 2)])) rfl rfl (hb hby d9_2) _ k) ?_
  rw [len_of S1 NN1]
  show own_Go p e below s _ _ (s₁.setTop (mkF m 3 #[rv a0, rv a1, iv 2, iv p3, .unset] [(.int 2), (.int 2)]))
  refine own_via (fun k => XS.icmpNo X0.here hx rfl (hb hby d9_3) rfl (by decide) k) ?_
  show own_Go p e below s _ _ (s₁.setTop (mkF m 6 #[rv a0, rv a1, iv 2, iv p3, .unset] []))
  refine own_via (fun k => XS.iconst X0.here hx rfl (hb hby d9_6) k) ?_
  show own_Go p e below s _ _ (s₁.setTop (mkF m 7 #[rv a0, rv a1, iv 2, iv p3, .unset] [(.int 1)]))
  exact own_retN X0 hx hlk (t := .boolean) Bd.returns (by simp) (hb hby d9_7) (Q := (Q9_2_2 Z a0 a1 p3 k k2 w0 w1 v0 v1 h0 n0)) ⟨(congrArg (fun z => some (Value.int z)) (show (1 : Int32) = own_f9_2_2 from rfl)), N0, e0⟩ (by decide) (by decide)
theorem ef_9_2_3 (m : MethodId) (x0 : Addr) (x1 : Addr) (x2 : Int32) (x3 : Int32) : entryFrame m #[(.ref x0), (.ref x1), (.int x2), (.int x3)] 5 = mkF m 0 #[rv x0, rv x1, iv x2, iv x3, .unset] [] := by first | (simp [entryFrame, mkF, argsToLocals, Value.category]; done) | rfl
def own_f9_2_3  : Int32 := (1 : Int32)
def Q9_2_3 (Z : State) (a0 : Addr) (a1 : Addr) (p3 : Int32) (k : ClassId) (k2 : ClassId) (w0 : Int32) (w1 : Int32) (v0 : Int32) (v1 : Int32) (h0 : Heap) (n0 : Nat) (v : Option Value) (h : Heap) (L : List Loc) : Prop := v = some (.int own_f9_2_3) ∧ Fr n0 L ∧ h = h0
set_option maxRecDepth 65536 in
set_option maxHeartbeats 40000000 in
theorem rm9_2_3 (l : Launch) (Z : State) (aw : Array Value) (hw : ∀ d ∈ tables_1, d.before aw Z = true) (ws : List Jvm.Cond) (a0 : Addr) (a1 : Addr) (p3 : Int32) (k : ClassId) (k2 : ClassId) (w0 : Int32) (w1 : Int32) (v0 : Int32) (v1 : Int32) (h0 : Heap) (n0 : Nat) (Z0 : n0 ≤ h0.size) (P0 : Arv Z h0 a0 k .byte (2 : Int32) [(.int w0), (.int w1)] (.int 0)) (P1 : Arv Z h0 a1 k2 .byte (2 : Int32) [(.int v0), (.int v1)] (.int 0)) :
    MetFree l (⟨"com/example/dani/dani/core/KeyReversedFromPinLaw", "at", "([B[BII)Z"⟩ : MethodName) (head1 (Jvm.Cond.code (⟨"com/example/dani/dani/core/KeyReversedFromPinLaw", "at", "([B[BII)Z"⟩ : MethodName) method_3_code 5 (some .boolean) :: ws) ({ frames := 0, cells := 0, slots := 0, locals := 0 } : Room)) (fun a U => a = #[(.ref a0), (.ref a1), (.int 3), (.int p3)] ∧ Z.Warmed39 U.vm ∧ U.heap = h0) (fun _ _ _ _ _ => True) (fun _ U o U' => ∃ v L, o = .returned v ∧ Q9_2_3 Z a0 a1 p3 k k2 w0 w1 v0 v1 h0 n0 v U'.heap L ∧ FrameEnd U o U' L ({ frames := 0, cells := 0, slots := 0, locals := 0 } : Room).cells ({ frames := 0, cells := 0, slots := 0, locals := 0 } : Room).slots) := by
  refine MetFree.of_bodySF (plainFor_of_name pn_9) hisR ?_
  intro p e s m args below meth c s₁ Bd hml0 hP hK
  obtain ⟨rfl, hZ, hh⟩ := hP
  have hx := Bd.exec
  have hby := Bd.bytes
  have hml : c.maxLocals = 5 := hml0
  have hown : s.vm.findClass "com/example/dani/dani/core/KeyReversedFromPinLaw" = some m.cls := findClass_of_methodNamed Bd.named
  have hnm := (name_of_methodNamed Bd.named Bd.method).1
  have hlk : meth.locks = false := by first | exact BodyLoose.notSynchronized (by assumption) | exact Body.notSynchronized (by assumption)
  have X0 : Stand p l e ({ frames := 0, cells := 0, slots := 0, locals := 0 } : Room) s m #[(.ref a0), (.ref a1), (.int 3), (.int p3)] below meth c s₁ [] 0 0 := Stand.of_body Bd
  have e0 : s₁.heap = h0 := by rw [← hh, Bd.state]; rfl
  have N0 := Fr.nil n0
  have K0 : Keep h0 h0 [] := Keep.refl _ _
  refine own_start (CS := (0, 0)) (Q := (Q9_2_3 Z a0 a1 p3 k k2 w0 w1 v0 v1 h0 n0)) (ef_9_2_3 m a0 a1 (3 : Int32) p3) ?_
  show own_Go p e below s _ _ (s₁.setTop (mkF m 0 #[rv a0, rv a1, iv 3, iv p3, .unset] []))
  refine own_via (fun k => XS.iloadN X0.here hx rfl (hb hby d9_0) rfl  (XS.aloadN X0.here hx rfl (hb hby d9_1) rfl rfl  k)) ?_
  show own_Go p e below s _ _ (s₁.setTop (mkF m 2 #[rv a0, rv a1, iv 3, iv p3, .unset] [(.ref a1), (.int 3)]))
  obtain ⟨cl1, Ar1, -, S1, NN1, -, -⟩ := id P1
  refine own_via (fun k => X0.arraylength hx (by rw [e0]; exact Ar1.1) (State.isArrayOf_alike hZ.alike Ar1.2.1) (g := (mkF m 2 #[rv a0, rv a1, iv 3, iv p3, .unset] [(.ref a1), (.int 3)])) rfl rfl (hb hby d9_2) _ k) ?_
  rw [len_of S1 NN1]
  show own_Go p e below s _ _ (s₁.setTop (mkF m 3 #[rv a0, rv a1, iv 3, iv p3, .unset] [(.int 2), (.int 3)]))
  refine own_via (fun k => XS.icmpNo X0.here hx rfl (hb hby d9_3) rfl (by decide) k) ?_
  show own_Go p e below s _ _ (s₁.setTop (mkF m 6 #[rv a0, rv a1, iv 3, iv p3, .unset] []))
  refine own_via (fun k => XS.iconst X0.here hx rfl (hb hby d9_6) k) ?_
  show own_Go p e below s _ _ (s₁.setTop (mkF m 7 #[rv a0, rv a1, iv 3, iv p3, .unset] [(.int 1)]))
  exact own_retN X0 hx hlk (t := .boolean) Bd.returns (by simp) (hb hby d9_7) (Q := (Q9_2_3 Z a0 a1 p3 k k2 w0 w1 v0 v1 h0 n0)) ⟨(congrArg (fun z => some (Value.int z)) (show (1 : Int32) = own_f9_2_3 from rfl)), N0, e0⟩ (by decide) (by decide)
theorem ef_9_3_0 (m : MethodId) (x0 : Addr) (x1 : Addr) (x2 : Int32) (x3 : Int32) : entryFrame m #[(.ref x0), (.ref x1), (.int x2), (.int x3)] 5 = mkF m 0 #[rv x0, rv x1, iv x2, iv x3, .unset] [] := by first | (simp [entryFrame, mkF, argsToLocals, Value.category]; done) | rfl
def own_f9_3_0 (p3 : Int32) (w0 : Int32) (v0 : Int32) : Int32 := (let z4 : Int32 := (if (0 : Int32) < p3 then v0 else ((v0 ^^^ (-1 : Int32)).toInt8.toInt32)); (if w0 = z4 then (1 : Int32) else (0 : Int32)))
def Q9_3_0 (Z : State) (a0 : Addr) (a1 : Addr) (p3 : Int32) (k : ClassId) (k2 : ClassId) (w0 : Int32) (w1 : Int32) (w2 : Int32) (v0 : Int32) (v1 : Int32) (v2 : Int32) (h0 : Heap) (n0 : Nat) (v : Option Value) (h : Heap) (L : List Loc) : Prop := v = some (.int (own_f9_3_0 p3 w0 v0)) ∧ Fr n0 L ∧ h = h0
set_option maxRecDepth 65536 in
set_option maxHeartbeats 40000000 in
theorem rm9_3_0 (l : Launch) (Z : State) (aw : Array Value) (hw : ∀ d ∈ tables_1, d.before aw Z = true) (ws : List Jvm.Cond) (a0 : Addr) (a1 : Addr) (p3 : Int32) (k : ClassId) (k2 : ClassId) (w0 : Int32) (w1 : Int32) (w2 : Int32) (v0 : Int32) (v1 : Int32) (v2 : Int32) (h0 : Heap) (n0 : Nat) (Z0 : n0 ≤ h0.size) (P0 : Arv Z h0 a0 k .byte (3 : Int32) [(.int w0), (.int w1), (.int w2)] (.int 0)) (P1 : Arv Z h0 a1 k2 .byte (3 : Int32) [(.int v0), (.int v1), (.int v2)] (.int 0)) :
    MetFree l (⟨"com/example/dani/dani/core/KeyReversedFromPinLaw", "at", "([B[BII)Z"⟩ : MethodName) (head1 (Jvm.Cond.code (⟨"com/example/dani/dani/core/KeyReversedFromPinLaw", "at", "([B[BII)Z"⟩ : MethodName) method_3_code 5 (some .boolean) :: ws) ({ frames := 0, cells := 0, slots := 0, locals := 0 } : Room)) (fun a U => a = #[(.ref a0), (.ref a1), (.int 0), (.int p3)] ∧ Z.Warmed39 U.vm ∧ U.heap = h0) (fun _ _ _ _ _ => True) (fun _ U o U' => ∃ v L, o = .returned v ∧ Q9_3_0 Z a0 a1 p3 k k2 w0 w1 w2 v0 v1 v2 h0 n0 v U'.heap L ∧ FrameEnd U o U' L ({ frames := 0, cells := 0, slots := 0, locals := 0 } : Room).cells ({ frames := 0, cells := 0, slots := 0, locals := 0 } : Room).slots) := by
  refine MetFree.of_bodySF (plainFor_of_name pn_9) hisR ?_
  intro p e s m args below meth c s₁ Bd hml0 hP hK
  obtain ⟨rfl, hZ, hh⟩ := hP
  have hx := Bd.exec
  have hby := Bd.bytes
  have hml : c.maxLocals = 5 := hml0
  have hown : s.vm.findClass "com/example/dani/dani/core/KeyReversedFromPinLaw" = some m.cls := findClass_of_methodNamed Bd.named
  have hnm := (name_of_methodNamed Bd.named Bd.method).1
  have hlk : meth.locks = false := by first | exact BodyLoose.notSynchronized (by assumption) | exact Body.notSynchronized (by assumption)
  have X0 : Stand p l e ({ frames := 0, cells := 0, slots := 0, locals := 0 } : Room) s m #[(.ref a0), (.ref a1), (.int 0), (.int p3)] below meth c s₁ [] 0 0 := Stand.of_body Bd
  have e0 : s₁.heap = h0 := by rw [← hh, Bd.state]; rfl
  have N0 := Fr.nil n0
  have K0 : Keep h0 h0 [] := Keep.refl _ _
  refine own_start (CS := (0, 0)) (Q := (Q9_3_0 Z a0 a1 p3 k k2 w0 w1 w2 v0 v1 v2 h0 n0)) (ef_9_3_0 m a0 a1 (0 : Int32) p3) ?_
  show own_Go p e below s _ _ (s₁.setTop (mkF m 0 #[rv a0, rv a1, iv 0, iv p3, .unset] []))
  refine own_via (fun k => XS.iloadN X0.here hx rfl (hb hby d9_0) rfl  (XS.aloadN X0.here hx rfl (hb hby d9_1) rfl rfl  k)) ?_
  show own_Go p e below s _ _ (s₁.setTop (mkF m 2 #[rv a0, rv a1, iv 0, iv p3, .unset] [(.ref a1), (.int 0)]))
  obtain ⟨cl1, Ar1, -, S1, NN1, -, -⟩ := id P1
  refine own_via (fun k => X0.arraylength hx (by rw [e0]; exact Ar1.1) (State.isArrayOf_alike hZ.alike Ar1.2.1) (g := (mkF m 2 #[rv a0, rv a1, iv 0, iv p3, .unset] [(.ref a1), (.int 0)])) rfl rfl (hb hby d9_2) _ k) ?_
  rw [len_of S1 NN1]
  show own_Go p e below s _ _ (s₁.setTop (mkF m 3 #[rv a0, rv a1, iv 0, iv p3, .unset] [(.int 3), (.int 0)]))
  refine own_via (fun k => XS.icmpYes X0.here hx rfl (pc0 := 3) (pc' := 8) rfl (hb hby d9_3) rfl (by decide) (by decide) (by decide) k) ?_
  show own_Go p e below s _ _ (s₁.setTop (mkF m 8 #[rv a0, rv a1, iv 0, iv p3, .unset] []))
  refine own_via (fun k => XS.iloadN X0.here hx rfl (hb hby d9_8) rfl  (XS.iloadN X0.here hx rfl (hb hby d9_9) rfl  k)) ?_
  show own_Go p e below s _ _ (s₁.setTop (mkF m 10 #[rv a0, rv a1, iv 0, iv p3, .unset] [(.int p3), (.int 0)]))
  have J5 : ∀ (T5 : State) (lo5 : List Loc), Stand p l e ({ frames := 0, cells := 0, slots := 0, locals := 0 } : Room) s m #[(.ref a0), (.ref a1), (.int 0), (.int p3)] below meth c T5 lo5 0 0 → Fr n0 lo5 → T5.heap = h0 → ∀ (z4 : Int32), z4 = (if (0 : Int32) < p3 then v0 else ((v0 ^^^ (-1 : Int32)).toInt8.toInt32)) → own_Go p e below s (Q9_3_0 Z a0 a1 p3 k k2 w0 w1 w2 v0 v1 v2 h0 n0) (0, 0) (T5.setTop (mkF m 25 #[rv a0, rv a1, iv 0, iv p3, .unset] [(.int z4)])) := by
    intro T5 lo5 X5 N5 e5 z4 hz4
    refine own_via (fun k => XS.istore X5.here hx rfl (hb hby d9_25) rfl (l' := #[rv a0, rv a1, iv 0, iv p3, iv z4]) rfl (XS.aloadN X5.here hx rfl (hb hby d9_27) rfl rfl  (XS.iloadN X5.here hx rfl (hb hby d9_28) rfl  k))) ?_
    show own_Go p e below s _ _ (T5.setTop (mkF m 29 #[rv a0, rv a1, iv 0, iv p3, iv z4] [(.int 0), (.ref a0)]))
    obtain ⟨cl6, Ar6, q6, S6, NN6, H6, G6⟩ := id P0
    have hin6 : ¬ ((0 : Int32) < 0 ∨ cl6.slots.size ≤ ((0 : Int32)).toNatClampNeg) := inb_of S6 ⟨by decide, by decide⟩
    have hat6 : cl6.slots[((0 : Int32)).toNatClampNeg]? = some (.int w0) := H6.at hin6 rfl
    refine own_via (fun k => X5.baloadBytes hx (j := (0 : Int32)) (v := (.int w0)) (by rw [e5]; exact Ar6.1) (State.isArrayOf_alike hZ.alike Ar6.2.1) Ar6.2.2 hin6 hat6 (g := (mkF m 29 #[rv a0, rv a1, iv 0, iv p3, iv z4] [(.int 0), (.ref a0)])) rfl rfl (hb hby d9_29) _ k) ?_
    show own_Go p e below s _ _ (T5.setTop (mkF m 30 #[rv a0, rv a1, iv 0, iv p3, iv z4] [(.int w0)]))
    refine own_via (fun k => XS.iload X5.here hx rfl (hb hby d9_30) rfl  k) ?_
    show own_Go p e below s _ _ (T5.setTop (mkF m 32 #[rv a0, rv a1, iv 0, iv p3, iv z4] [(.int z4), (.int w0)]))
    by_cases hc7 : w0 = z4
    · refine own_via (fun k => XS.icmpNo X5.here hx rfl (hb hby d9_32) rfl (teq hc7).2 k) ?_
      show own_Go p e below s _ _ (T5.setTop (mkF m 35 #[rv a0, rv a1, iv 0, iv p3, iv z4] []))
      refine own_via (fun k => XS.iconst X5.here hx rfl (hb hby d9_35) (XS.goto X5.here hx rfl (pc0 := 36) (pc' := 40) rfl (hb hby d9_36) (by decide) (by decide) k)) ?_
      show own_Go p e below s _ _ (T5.setTop (mkF m 40 #[rv a0, rv a1, iv 0, iv p3, iv z4] [(.int 1)]))
      exact own_retN X5 hx hlk (t := .boolean) Bd.returns (by simp) (hb hby d9_40) (Q := (Q9_3_0 Z a0 a1 p3 k k2 w0 w1 w2 v0 v1 v2 h0 n0)) ⟨(congrArg (fun z => some (Value.int z)) (show (1 : Int32) = (own_f9_3_0 p3 w0 v0) from (by subst hz4; unfold own_f9_3_0; exact ((if_pos hc7).trans rfl).symm))), N5, e5⟩ (by decide) (by decide)
    · refine own_via (fun k => XS.icmpYes X5.here hx rfl (pc0 := 32) (pc' := 39) rfl (hb hby d9_32) rfl (feq hc7).2 (by decide) (by decide) k) ?_
      show own_Go p e below s _ _ (T5.setTop (mkF m 39 #[rv a0, rv a1, iv 0, iv p3, iv z4] []))
      refine own_via (fun k => XS.iconst X5.here hx rfl (hb hby d9_39) k) ?_
      show own_Go p e below s _ _ (T5.setTop (mkF m 40 #[rv a0, rv a1, iv 0, iv p3, iv z4] [(.int 0)]))
      exact own_retN X5 hx hlk (t := .boolean) Bd.returns (by simp) (hb hby d9_40) (Q := (Q9_3_0 Z a0 a1 p3 k k2 w0 w1 w2 v0 v1 v2 h0 n0)) ⟨(congrArg (fun z => some (Value.int z)) (show (0 : Int32) = (own_f9_3_0 p3 w0 v0) from (by subst hz4; unfold own_f9_3_0; exact ((if_neg hc7).trans rfl).symm))), N5, e5⟩ (by decide) (by decide)
  by_cases hc8 : (0 : Int32) < p3
  · refine own_via (fun k => XS.icmpNo X0.here hx rfl (hb hby d9_10) rfl (tlt hc8).2.1 k) ?_
    show own_Go p e below s _ _ (s₁.setTop (mkF m 13 #[rv a0, rv a1, iv 0, iv p3, .unset] []))
    refine own_via (fun k => XS.aloadN X0.here hx rfl (hb hby d9_13) rfl rfl  (XS.iloadN X0.here hx rfl (hb hby d9_14) rfl  k)) ?_
    show own_Go p e below s _ _ (s₁.setTop (mkF m 15 #[rv a0, rv a1, iv 0, iv p3, .unset] [(.int 0), (.ref a1)]))
    obtain ⟨cl9, Ar9, q9, S9, NN9, H9, G9⟩ := id P1
    have hin9 : ¬ ((0 : Int32) < 0 ∨ cl9.slots.size ≤ ((0 : Int32)).toNatClampNeg) := inb_of S9 ⟨by decide, by decide⟩
    have hat9 : cl9.slots[((0 : Int32)).toNatClampNeg]? = some (.int v0) := H9.at hin9 rfl
    refine own_via (fun k => X0.baloadBytes hx (j := (0 : Int32)) (v := (.int v0)) (by rw [e0]; exact Ar9.1) (State.isArrayOf_alike hZ.alike Ar9.2.1) Ar9.2.2 hin9 hat9 (g := (mkF m 15 #[rv a0, rv a1, iv 0, iv p3, .unset] [(.int 0), (.ref a1)])) rfl rfl (hb hby d9_15) _ k) ?_
    show own_Go p e below s _ _ (s₁.setTop (mkF m 16 #[rv a0, rv a1, iv 0, iv p3, .unset] [(.int v0)]))
    refine own_via (fun k => XS.goto X0.here hx rfl (pc0 := 16) (pc' := 25) rfl (hb hby d9_16) (by decide) (by decide) k) ?_
    show own_Go p e below s _ _ (s₁.setTop (mkF m 25 #[rv a0, rv a1, iv 0, iv p3, .unset] [(.int v0)]))
    exact J5 _ _ X0 N0 e0 v0 (((if_pos hc8).trans rfl)).symm
  · refine own_via (fun k => XS.icmpYes X0.here hx rfl (pc0 := 10) (pc' := 19) rfl (hb hby d9_10) rfl (flt hc8).2.1 (by decide) (by decide) k) ?_
    show own_Go p e below s _ _ (s₁.setTop (mkF m 19 #[rv a0, rv a1, iv 0, iv p3, .unset] []))
    refine own_via (fun k => XS.aloadN X0.here hx rfl (hb hby d9_19) rfl rfl  (XS.iloadN X0.here hx rfl (hb hby d9_20) rfl  k)) ?_
    show own_Go p e below s _ _ (s₁.setTop (mkF m 21 #[rv a0, rv a1, iv 0, iv p3, .unset] [(.int 0), (.ref a1)]))
    obtain ⟨cl10, Ar10, q10, S10, NN10, H10, G10⟩ := id P1
    have hin10 : ¬ ((0 : Int32) < 0 ∨ cl10.slots.size ≤ ((0 : Int32)).toNatClampNeg) := inb_of S10 ⟨by decide, by decide⟩
    have hat10 : cl10.slots[((0 : Int32)).toNatClampNeg]? = some (.int v0) := H10.at hin10 rfl
    refine own_via (fun k => X0.baloadBytes hx (j := (0 : Int32)) (v := (.int v0)) (by rw [e0]; exact Ar10.1) (State.isArrayOf_alike hZ.alike Ar10.2.1) Ar10.2.2 hin10 hat10 (g := (mkF m 21 #[rv a0, rv a1, iv 0, iv p3, .unset] [(.int 0), (.ref a1)])) rfl rfl (hb hby d9_21) _ k) ?_
    show own_Go p e below s _ _ (s₁.setTop (mkF m 22 #[rv a0, rv a1, iv 0, iv p3, .unset] [(.int v0)]))
    refine own_via (fun k => XS.iconst X0.here hx rfl (hb hby d9_22) (XS.ixor X0.here hx rfl (hb hby d9_23) rfl (XS.i2b X0.here hx rfl (hb hby d9_24) rfl k))) ?_
    show own_Go p e below s _ _ (s₁.setTop (mkF m 25 #[rv a0, rv a1, iv 0, iv p3, .unset] [(.int ((v0 ^^^ (-1 : Int32)).toInt8.toInt32))]))
    exact J5 _ _ X0 N0 e0 ((v0 ^^^ (-1 : Int32)).toInt8.toInt32) (((if_neg hc8).trans rfl)).symm
theorem ef_9_3_1 (m : MethodId) (x0 : Addr) (x1 : Addr) (x2 : Int32) (x3 : Int32) : entryFrame m #[(.ref x0), (.ref x1), (.int x2), (.int x3)] 5 = mkF m 0 #[rv x0, rv x1, iv x2, iv x3, .unset] [] := by first | (simp [entryFrame, mkF, argsToLocals, Value.category]; done) | rfl
def own_f9_3_1 (p3 : Int32) (w1 : Int32) (v1 : Int32) : Int32 := (let z4 : Int32 := (if (1 : Int32) < p3 then v1 else ((v1 ^^^ (-1 : Int32)).toInt8.toInt32)); (if w1 = z4 then (1 : Int32) else (0 : Int32)))
def Q9_3_1 (Z : State) (a0 : Addr) (a1 : Addr) (p3 : Int32) (k : ClassId) (k2 : ClassId) (w0 : Int32) (w1 : Int32) (w2 : Int32) (v0 : Int32) (v1 : Int32) (v2 : Int32) (h0 : Heap) (n0 : Nat) (v : Option Value) (h : Heap) (L : List Loc) : Prop := v = some (.int (own_f9_3_1 p3 w1 v1)) ∧ Fr n0 L ∧ h = h0
set_option maxRecDepth 65536 in
set_option maxHeartbeats 40000000 in
theorem rm9_3_1 (l : Launch) (Z : State) (aw : Array Value) (hw : ∀ d ∈ tables_1, d.before aw Z = true) (ws : List Jvm.Cond) (a0 : Addr) (a1 : Addr) (p3 : Int32) (k : ClassId) (k2 : ClassId) (w0 : Int32) (w1 : Int32) (w2 : Int32) (v0 : Int32) (v1 : Int32) (v2 : Int32) (h0 : Heap) (n0 : Nat) (Z0 : n0 ≤ h0.size) (P0 : Arv Z h0 a0 k .byte (3 : Int32) [(.int w0), (.int w1), (.int w2)] (.int 0)) (P1 : Arv Z h0 a1 k2 .byte (3 : Int32) [(.int v0), (.int v1), (.int v2)] (.int 0)) :
    MetFree l (⟨"com/example/dani/dani/core/KeyReversedFromPinLaw", "at", "([B[BII)Z"⟩ : MethodName) (head1 (Jvm.Cond.code (⟨"com/example/dani/dani/core/KeyReversedFromPinLaw", "at", "([B[BII)Z"⟩ : MethodName) method_3_code 5 (some .boolean) :: ws) ({ frames := 0, cells := 0, slots := 0, locals := 0 } : Room)) (fun a U => a = #[(.ref a0), (.ref a1), (.int 1), (.int p3)] ∧ Z.Warmed39 U.vm ∧ U.heap = h0) (fun _ _ _ _ _ => True) (fun _ U o U' => ∃ v L, o = .returned v ∧ Q9_3_1 Z a0 a1 p3 k k2 w0 w1 w2 v0 v1 v2 h0 n0 v U'.heap L ∧ FrameEnd U o U' L ({ frames := 0, cells := 0, slots := 0, locals := 0 } : Room).cells ({ frames := 0, cells := 0, slots := 0, locals := 0 } : Room).slots) := by
  refine MetFree.of_bodySF (plainFor_of_name pn_9) hisR ?_
  intro p e s m args below meth c s₁ Bd hml0 hP hK
  obtain ⟨rfl, hZ, hh⟩ := hP
  have hx := Bd.exec
  have hby := Bd.bytes
  have hml : c.maxLocals = 5 := hml0
  have hown : s.vm.findClass "com/example/dani/dani/core/KeyReversedFromPinLaw" = some m.cls := findClass_of_methodNamed Bd.named
  have hnm := (name_of_methodNamed Bd.named Bd.method).1
  have hlk : meth.locks = false := by first | exact BodyLoose.notSynchronized (by assumption) | exact Body.notSynchronized (by assumption)
  have X0 : Stand p l e ({ frames := 0, cells := 0, slots := 0, locals := 0 } : Room) s m #[(.ref a0), (.ref a1), (.int 1), (.int p3)] below meth c s₁ [] 0 0 := Stand.of_body Bd
  have e0 : s₁.heap = h0 := by rw [← hh, Bd.state]; rfl
  have N0 := Fr.nil n0
  have K0 : Keep h0 h0 [] := Keep.refl _ _
  refine own_start (CS := (0, 0)) (Q := (Q9_3_1 Z a0 a1 p3 k k2 w0 w1 w2 v0 v1 v2 h0 n0)) (ef_9_3_1 m a0 a1 (1 : Int32) p3) ?_
  show own_Go p e below s _ _ (s₁.setTop (mkF m 0 #[rv a0, rv a1, iv 1, iv p3, .unset] []))
  refine own_via (fun k => XS.iloadN X0.here hx rfl (hb hby d9_0) rfl  (XS.aloadN X0.here hx rfl (hb hby d9_1) rfl rfl  k)) ?_
  show own_Go p e below s _ _ (s₁.setTop (mkF m 2 #[rv a0, rv a1, iv 1, iv p3, .unset] [(.ref a1), (.int 1)]))
  obtain ⟨cl1, Ar1, -, S1, NN1, -, -⟩ := id P1
  refine own_via (fun k => X0.arraylength hx (by rw [e0]; exact Ar1.1) (State.isArrayOf_alike hZ.alike Ar1.2.1) (g := (mkF m 2 #[rv a0, rv a1, iv 1, iv p3, .unset] [(.ref a1), (.int 1)])) rfl rfl (hb hby d9_2) _ k) ?_
  rw [len_of S1 NN1]
  show own_Go p e below s _ _ (s₁.setTop (mkF m 3 #[rv a0, rv a1, iv 1, iv p3, .unset] [(.int 3), (.int 1)]))
  refine own_via (fun k => XS.icmpYes X0.here hx rfl (pc0 := 3) (pc' := 8) rfl (hb hby d9_3) rfl (by decide) (by decide) (by decide) k) ?_
  show own_Go p e below s _ _ (s₁.setTop (mkF m 8 #[rv a0, rv a1, iv 1, iv p3, .unset] []))
  refine own_via (fun k => XS.iloadN X0.here hx rfl (hb hby d9_8) rfl  (XS.iloadN X0.here hx rfl (hb hby d9_9) rfl  k)) ?_
  show own_Go p e below s _ _ (s₁.setTop (mkF m 10 #[rv a0, rv a1, iv 1, iv p3, .unset] [(.int p3), (.int 1)]))
  have J5 : ∀ (T5 : State) (lo5 : List Loc), Stand p l e ({ frames := 0, cells := 0, slots := 0, locals := 0 } : Room) s m #[(.ref a0), (.ref a1), (.int 1), (.int p3)] below meth c T5 lo5 0 0 → Fr n0 lo5 → T5.heap = h0 → ∀ (z4 : Int32), z4 = (if (1 : Int32) < p3 then v1 else ((v1 ^^^ (-1 : Int32)).toInt8.toInt32)) → own_Go p e below s (Q9_3_1 Z a0 a1 p3 k k2 w0 w1 w2 v0 v1 v2 h0 n0) (0, 0) (T5.setTop (mkF m 25 #[rv a0, rv a1, iv 1, iv p3, .unset] [(.int z4)])) := by
    intro T5 lo5 X5 N5 e5 z4 hz4
    refine own_via (fun k => XS.istore X5.here hx rfl (hb hby d9_25) rfl (l' := #[rv a0, rv a1, iv 1, iv p3, iv z4]) rfl (XS.aloadN X5.here hx rfl (hb hby d9_27) rfl rfl  (XS.iloadN X5.here hx rfl (hb hby d9_28) rfl  k))) ?_
    show own_Go p e below s _ _ (T5.setTop (mkF m 29 #[rv a0, rv a1, iv 1, iv p3, iv z4] [(.int 1), (.ref a0)]))
    obtain ⟨cl6, Ar6, q6, S6, NN6, H6, G6⟩ := id P0
    have hin6 : ¬ ((1 : Int32) < 0 ∨ cl6.slots.size ≤ ((1 : Int32)).toNatClampNeg) := inb_of S6 ⟨by decide, by decide⟩
    have hat6 : cl6.slots[((1 : Int32)).toNatClampNeg]? = some (.int w1) := H6.at hin6 rfl
    refine own_via (fun k => X5.baloadBytes hx (j := (1 : Int32)) (v := (.int w1)) (by rw [e5]; exact Ar6.1) (State.isArrayOf_alike hZ.alike Ar6.2.1) Ar6.2.2 hin6 hat6 (g := (mkF m 29 #[rv a0, rv a1, iv 1, iv p3, iv z4] [(.int 1), (.ref a0)])) rfl rfl (hb hby d9_29) _ k) ?_
    show own_Go p e below s _ _ (T5.setTop (mkF m 30 #[rv a0, rv a1, iv 1, iv p3, iv z4] [(.int w1)]))
    refine own_via (fun k => XS.iload X5.here hx rfl (hb hby d9_30) rfl  k) ?_
    show own_Go p e below s _ _ (T5.setTop (mkF m 32 #[rv a0, rv a1, iv 1, iv p3, iv z4] [(.int z4), (.int w1)]))
    by_cases hc7 : w1 = z4
    · refine own_via (fun k => XS.icmpNo X5.here hx rfl (hb hby d9_32) rfl (teq hc7).2 k) ?_
      show own_Go p e below s _ _ (T5.setTop (mkF m 35 #[rv a0, rv a1, iv 1, iv p3, iv z4] []))
      refine own_via (fun k => XS.iconst X5.here hx rfl (hb hby d9_35) (XS.goto X5.here hx rfl (pc0 := 36) (pc' := 40) rfl (hb hby d9_36) (by decide) (by decide) k)) ?_
      show own_Go p e below s _ _ (T5.setTop (mkF m 40 #[rv a0, rv a1, iv 1, iv p3, iv z4] [(.int 1)]))
      exact own_retN X5 hx hlk (t := .boolean) Bd.returns (by simp) (hb hby d9_40) (Q := (Q9_3_1 Z a0 a1 p3 k k2 w0 w1 w2 v0 v1 v2 h0 n0)) ⟨(congrArg (fun z => some (Value.int z)) (show (1 : Int32) = (own_f9_3_1 p3 w1 v1) from (by subst hz4; unfold own_f9_3_1; exact ((if_pos hc7).trans rfl).symm))), N5, e5⟩ (by decide) (by decide)
    · refine own_via (fun k => XS.icmpYes X5.here hx rfl (pc0 := 32) (pc' := 39) rfl (hb hby d9_32) rfl (feq hc7).2 (by decide) (by decide) k) ?_
      show own_Go p e below s _ _ (T5.setTop (mkF m 39 #[rv a0, rv a1, iv 1, iv p3, iv z4] []))
      refine own_via (fun k => XS.iconst X5.here hx rfl (hb hby d9_39) k) ?_
      show own_Go p e below s _ _ (T5.setTop (mkF m 40 #[rv a0, rv a1, iv 1, iv p3, iv z4] [(.int 0)]))
      exact own_retN X5 hx hlk (t := .boolean) Bd.returns (by simp) (hb hby d9_40) (Q := (Q9_3_1 Z a0 a1 p3 k k2 w0 w1 w2 v0 v1 v2 h0 n0)) ⟨(congrArg (fun z => some (Value.int z)) (show (0 : Int32) = (own_f9_3_1 p3 w1 v1) from (by subst hz4; unfold own_f9_3_1; exact ((if_neg hc7).trans rfl).symm))), N5, e5⟩ (by decide) (by decide)
  by_cases hc8 : (1 : Int32) < p3
  · refine own_via (fun k => XS.icmpNo X0.here hx rfl (hb hby d9_10) rfl (tlt hc8).2.1 k) ?_
    show own_Go p e below s _ _ (s₁.setTop (mkF m 13 #[rv a0, rv a1, iv 1, iv p3, .unset] []))
    refine own_via (fun k => XS.aloadN X0.here hx rfl (hb hby d9_13) rfl rfl  (XS.iloadN X0.here hx rfl (hb hby d9_14) rfl  k)) ?_
    show own_Go p e below s _ _ (s₁.setTop (mkF m 15 #[rv a0, rv a1, iv 1, iv p3, .unset] [(.int 1), (.ref a1)]))
    obtain ⟨cl9, Ar9, q9, S9, NN9, H9, G9⟩ := id P1
    have hin9 : ¬ ((1 : Int32) < 0 ∨ cl9.slots.size ≤ ((1 : Int32)).toNatClampNeg) := inb_of S9 ⟨by decide, by decide⟩
    have hat9 : cl9.slots[((1 : Int32)).toNatClampNeg]? = some (.int v1) := H9.at hin9 rfl
    refine own_via (fun k => X0.baloadBytes hx (j := (1 : Int32)) (v := (.int v1)) (by rw [e0]; exact Ar9.1) (State.isArrayOf_alike hZ.alike Ar9.2.1) Ar9.2.2 hin9 hat9 (g := (mkF m 15 #[rv a0, rv a1, iv 1, iv p3, .unset] [(.int 1), (.ref a1)])) rfl rfl (hb hby d9_15) _ k) ?_
    show own_Go p e below s _ _ (s₁.setTop (mkF m 16 #[rv a0, rv a1, iv 1, iv p3, .unset] [(.int v1)]))
    refine own_via (fun k => XS.goto X0.here hx rfl (pc0 := 16) (pc' := 25) rfl (hb hby d9_16) (by decide) (by decide) k) ?_
    show own_Go p e below s _ _ (s₁.setTop (mkF m 25 #[rv a0, rv a1, iv 1, iv p3, .unset] [(.int v1)]))
    exact J5 _ _ X0 N0 e0 v1 (((if_pos hc8).trans rfl)).symm
  · refine own_via (fun k => XS.icmpYes X0.here hx rfl (pc0 := 10) (pc' := 19) rfl (hb hby d9_10) rfl (flt hc8).2.1 (by decide) (by decide) k) ?_
    show own_Go p e below s _ _ (s₁.setTop (mkF m 19 #[rv a0, rv a1, iv 1, iv p3, .unset] []))
    refine own_via (fun k => XS.aloadN X0.here hx rfl (hb hby d9_19) rfl rfl  (XS.iloadN X0.here hx rfl (hb hby d9_20) rfl  k)) ?_
    show own_Go p e below s _ _ (s₁.setTop (mkF m 21 #[rv a0, rv a1, iv 1, iv p3, .unset] [(.int 1), (.ref a1)]))
    obtain ⟨cl10, Ar10, q10, S10, NN10, H10, G10⟩ := id P1
    have hin10 : ¬ ((1 : Int32) < 0 ∨ cl10.slots.size ≤ ((1 : Int32)).toNatClampNeg) := inb_of S10 ⟨by decide, by decide⟩
    have hat10 : cl10.slots[((1 : Int32)).toNatClampNeg]? = some (.int v1) := H10.at hin10 rfl
    refine own_via (fun k => X0.baloadBytes hx (j := (1 : Int32)) (v := (.int v1)) (by rw [e0]; exact Ar10.1) (State.isArrayOf_alike hZ.alike Ar10.2.1) Ar10.2.2 hin10 hat10 (g := (mkF m 21 #[rv a0, rv a1, iv 1, iv p3, .unset] [(.int 1), (.ref a1)])) rfl rfl (hb hby d9_21) _ k) ?_
    show own_Go p e below s _ _ (s₁.setTop (mkF m 22 #[rv a0, rv a1, iv 1, iv p3, .unset] [(.int v1)]))
    refine own_via (fun k => XS.iconst X0.here hx rfl (hb hby d9_22) (XS.ixor X0.here hx rfl (hb hby d9_23) rfl (XS.i2b X0.here hx rfl (hb hby d9_24) rfl k))) ?_
    show own_Go p e below s _ _ (s₁.setTop (mkF m 25 #[rv a0, rv a1, iv 1, iv p3, .unset] [(.int ((v1 ^^^ (-1 : Int32)).toInt8.toInt32))]))
    exact J5 _ _ X0 N0 e0 ((v1 ^^^ (-1 : Int32)).toInt8.toInt32) (((if_neg hc8).trans rfl)).symm
theorem ef_9_3_2 (m : MethodId) (x0 : Addr) (x1 : Addr) (x2 : Int32) (x3 : Int32) : entryFrame m #[(.ref x0), (.ref x1), (.int x2), (.int x3)] 5 = mkF m 0 #[rv x0, rv x1, iv x2, iv x3, .unset] [] := by first | (simp [entryFrame, mkF, argsToLocals, Value.category]; done) | rfl
def own_f9_3_2 (p3 : Int32) (w2 : Int32) (v2 : Int32) : Int32 := (let z4 : Int32 := (if (2 : Int32) < p3 then v2 else ((v2 ^^^ (-1 : Int32)).toInt8.toInt32)); (if w2 = z4 then (1 : Int32) else (0 : Int32)))
def Q9_3_2 (Z : State) (a0 : Addr) (a1 : Addr) (p3 : Int32) (k : ClassId) (k2 : ClassId) (w0 : Int32) (w1 : Int32) (w2 : Int32) (v0 : Int32) (v1 : Int32) (v2 : Int32) (h0 : Heap) (n0 : Nat) (v : Option Value) (h : Heap) (L : List Loc) : Prop := v = some (.int (own_f9_3_2 p3 w2 v2)) ∧ Fr n0 L ∧ h = h0
set_option maxRecDepth 65536 in
set_option maxHeartbeats 40000000 in
theorem rm9_3_2 (l : Launch) (Z : State) (aw : Array Value) (hw : ∀ d ∈ tables_1, d.before aw Z = true) (ws : List Jvm.Cond) (a0 : Addr) (a1 : Addr) (p3 : Int32) (k : ClassId) (k2 : ClassId) (w0 : Int32) (w1 : Int32) (w2 : Int32) (v0 : Int32) (v1 : Int32) (v2 : Int32) (h0 : Heap) (n0 : Nat) (Z0 : n0 ≤ h0.size) (P0 : Arv Z h0 a0 k .byte (3 : Int32) [(.int w0), (.int w1), (.int w2)] (.int 0)) (P1 : Arv Z h0 a1 k2 .byte (3 : Int32) [(.int v0), (.int v1), (.int v2)] (.int 0)) :
    MetFree l (⟨"com/example/dani/dani/core/KeyReversedFromPinLaw", "at", "([B[BII)Z"⟩ : MethodName) (head1 (Jvm.Cond.code (⟨"com/example/dani/dani/core/KeyReversedFromPinLaw", "at", "([B[BII)Z"⟩ : MethodName) method_3_code 5 (some .boolean) :: ws) ({ frames := 0, cells := 0, slots := 0, locals := 0 } : Room)) (fun a U => a = #[(.ref a0), (.ref a1), (.int 2), (.int p3)] ∧ Z.Warmed39 U.vm ∧ U.heap = h0) (fun _ _ _ _ _ => True) (fun _ U o U' => ∃ v L, o = .returned v ∧ Q9_3_2 Z a0 a1 p3 k k2 w0 w1 w2 v0 v1 v2 h0 n0 v U'.heap L ∧ FrameEnd U o U' L ({ frames := 0, cells := 0, slots := 0, locals := 0 } : Room).cells ({ frames := 0, cells := 0, slots := 0, locals := 0 } : Room).slots) := by
  refine MetFree.of_bodySF (plainFor_of_name pn_9) hisR ?_
  intro p e s m args below meth c s₁ Bd hml0 hP hK
  obtain ⟨rfl, hZ, hh⟩ := hP
  have hx := Bd.exec
  have hby := Bd.bytes
  have hml : c.maxLocals = 5 := hml0
  have hown : s.vm.findClass "com/example/dani/dani/core/KeyReversedFromPinLaw" = some m.cls := findClass_of_methodNamed Bd.named
  have hnm := (name_of_methodNamed Bd.named Bd.method).1
  have hlk : meth.locks = false := by first | exact BodyLoose.notSynchronized (by assumption) | exact Body.notSynchronized (by assumption)
  have X0 : Stand p l e ({ frames := 0, cells := 0, slots := 0, locals := 0 } : Room) s m #[(.ref a0), (.ref a1), (.int 2), (.int p3)] below meth c s₁ [] 0 0 := Stand.of_body Bd
  have e0 : s₁.heap = h0 := by rw [← hh, Bd.state]; rfl
  have N0 := Fr.nil n0
  have K0 : Keep h0 h0 [] := Keep.refl _ _
  refine own_start (CS := (0, 0)) (Q := (Q9_3_2 Z a0 a1 p3 k k2 w0 w1 w2 v0 v1 v2 h0 n0)) (ef_9_3_2 m a0 a1 (2 : Int32) p3) ?_
  show own_Go p e below s _ _ (s₁.setTop (mkF m 0 #[rv a0, rv a1, iv 2, iv p3, .unset] []))
  refine own_via (fun k => XS.iloadN X0.here hx rfl (hb hby d9_0) rfl  (XS.aloadN X0.here hx rfl (hb hby d9_1) rfl rfl  k)) ?_
  show own_Go p e below s _ _ (s₁.setTop (mkF m 2 #[rv a0, rv a1, iv 2, iv p3, .unset] [(.ref a1), (.int 2)]))
  obtain ⟨cl1, Ar1, -, S1, NN1, -, -⟩ := id P1
  refine own_via (fun k => X0.arraylength hx (by rw [e0]; exact Ar1.1) (State.isArrayOf_alike hZ.alike Ar1.2.1) (g := (mkF m 2 #[rv a0, rv a1, iv 2, iv p3, .unset] [(.ref a1), (.int 2)])) rfl rfl (hb hby d9_2) _ k) ?_
  rw [len_of S1 NN1]
  show own_Go p e below s _ _ (s₁.setTop (mkF m 3 #[rv a0, rv a1, iv 2, iv p3, .unset] [(.int 3), (.int 2)]))
  refine own_via (fun k => XS.icmpYes X0.here hx rfl (pc0 := 3) (pc' := 8) rfl (hb hby d9_3) rfl (by decide) (by decide) (by decide) k) ?_
  show own_Go p e below s _ _ (s₁.setTop (mkF m 8 #[rv a0, rv a1, iv 2, iv p3, .unset] []))
  refine own_via (fun k => XS.iloadN X0.here hx rfl (hb hby d9_8) rfl  (XS.iloadN X0.here hx rfl (hb hby d9_9) rfl  k)) ?_
  show own_Go p e below s _ _ (s₁.setTop (mkF m 10 #[rv a0, rv a1, iv 2, iv p3, .unset] [(.int p3), (.int 2)]))
  have J5 : ∀ (T5 : State) (lo5 : List Loc), Stand p l e ({ frames := 0, cells := 0, slots := 0, locals := 0 } : Room) s m #[(.ref a0), (.ref a1), (.int 2), (.int p3)] below meth c T5 lo5 0 0 → Fr n0 lo5 → T5.heap = h0 → ∀ (z4 : Int32), z4 = (if (2 : Int32) < p3 then v2 else ((v2 ^^^ (-1 : Int32)).toInt8.toInt32)) → own_Go p e below s (Q9_3_2 Z a0 a1 p3 k k2 w0 w1 w2 v0 v1 v2 h0 n0) (0, 0) (T5.setTop (mkF m 25 #[rv a0, rv a1, iv 2, iv p3, .unset] [(.int z4)])) := by
    intro T5 lo5 X5 N5 e5 z4 hz4
    refine own_via (fun k => XS.istore X5.here hx rfl (hb hby d9_25) rfl (l' := #[rv a0, rv a1, iv 2, iv p3, iv z4]) rfl (XS.aloadN X5.here hx rfl (hb hby d9_27) rfl rfl  (XS.iloadN X5.here hx rfl (hb hby d9_28) rfl  k))) ?_
    show own_Go p e below s _ _ (T5.setTop (mkF m 29 #[rv a0, rv a1, iv 2, iv p3, iv z4] [(.int 2), (.ref a0)]))
    obtain ⟨cl6, Ar6, q6, S6, NN6, H6, G6⟩ := id P0
    have hin6 : ¬ ((2 : Int32) < 0 ∨ cl6.slots.size ≤ ((2 : Int32)).toNatClampNeg) := inb_of S6 ⟨by decide, by decide⟩
    have hat6 : cl6.slots[((2 : Int32)).toNatClampNeg]? = some (.int w2) := H6.at hin6 rfl
    refine own_via (fun k => X5.baloadBytes hx (j := (2 : Int32)) (v := (.int w2)) (by rw [e5]; exact Ar6.1) (State.isArrayOf_alike hZ.alike Ar6.2.1) Ar6.2.2 hin6 hat6 (g := (mkF m 29 #[rv a0, rv a1, iv 2, iv p3, iv z4] [(.int 2), (.ref a0)])) rfl rfl (hb hby d9_29) _ k) ?_
    show own_Go p e below s _ _ (T5.setTop (mkF m 30 #[rv a0, rv a1, iv 2, iv p3, iv z4] [(.int w2)]))
    refine own_via (fun k => XS.iload X5.here hx rfl (hb hby d9_30) rfl  k) ?_
    show own_Go p e below s _ _ (T5.setTop (mkF m 32 #[rv a0, rv a1, iv 2, iv p3, iv z4] [(.int z4), (.int w2)]))
    by_cases hc7 : w2 = z4
    · refine own_via (fun k => XS.icmpNo X5.here hx rfl (hb hby d9_32) rfl (teq hc7).2 k) ?_
      show own_Go p e below s _ _ (T5.setTop (mkF m 35 #[rv a0, rv a1, iv 2, iv p3, iv z4] []))
      refine own_via (fun k => XS.iconst X5.here hx rfl (hb hby d9_35) (XS.goto X5.here hx rfl (pc0 := 36) (pc' := 40) rfl (hb hby d9_36) (by decide) (by decide) k)) ?_
      show own_Go p e below s _ _ (T5.setTop (mkF m 40 #[rv a0, rv a1, iv 2, iv p3, iv z4] [(.int 1)]))
      exact own_retN X5 hx hlk (t := .boolean) Bd.returns (by simp) (hb hby d9_40) (Q := (Q9_3_2 Z a0 a1 p3 k k2 w0 w1 w2 v0 v1 v2 h0 n0)) ⟨(congrArg (fun z => some (Value.int z)) (show (1 : Int32) = (own_f9_3_2 p3 w2 v2) from (by subst hz4; unfold own_f9_3_2; exact ((if_pos hc7).trans rfl).symm))), N5, e5⟩ (by decide) (by decide)
    · refine own_via (fun k => XS.icmpYes X5.here hx rfl (pc0 := 32) (pc' := 39) rfl (hb hby d9_32) rfl (feq hc7).2 (by decide) (by decide) k) ?_
      show own_Go p e below s _ _ (T5.setTop (mkF m 39 #[rv a0, rv a1, iv 2, iv p3, iv z4] []))
      refine own_via (fun k => XS.iconst X5.here hx rfl (hb hby d9_39) k) ?_
      show own_Go p e below s _ _ (T5.setTop (mkF m 40 #[rv a0, rv a1, iv 2, iv p3, iv z4] [(.int 0)]))
      exact own_retN X5 hx hlk (t := .boolean) Bd.returns (by simp) (hb hby d9_40) (Q := (Q9_3_2 Z a0 a1 p3 k k2 w0 w1 w2 v0 v1 v2 h0 n0)) ⟨(congrArg (fun z => some (Value.int z)) (show (0 : Int32) = (own_f9_3_2 p3 w2 v2) from (by subst hz4; unfold own_f9_3_2; exact ((if_neg hc7).trans rfl).symm))), N5, e5⟩ (by decide) (by decide)
  by_cases hc8 : (2 : Int32) < p3
  · refine own_via (fun k => XS.icmpNo X0.here hx rfl (hb hby d9_10) rfl (tlt hc8).2.1 k) ?_
    show own_Go p e below s _ _ (s₁.setTop (mkF m 13 #[rv a0, rv a1, iv 2, iv p3, .unset] []))
    refine own_via (fun k => XS.aloadN X0.here hx rfl (hb hby d9_13) rfl rfl  (XS.iloadN X0.here hx rfl (hb hby d9_14) rfl  k)) ?_
    show own_Go p e below s _ _ (s₁.setTop (mkF m 15 #[rv a0, rv a1, iv 2, iv p3, .unset] [(.int 2), (.ref a1)]))
    obtain ⟨cl9, Ar9, q9, S9, NN9, H9, G9⟩ := id P1
    have hin9 : ¬ ((2 : Int32) < 0 ∨ cl9.slots.size ≤ ((2 : Int32)).toNatClampNeg) := inb_of S9 ⟨by decide, by decide⟩
    have hat9 : cl9.slots[((2 : Int32)).toNatClampNeg]? = some (.int v2) := H9.at hin9 rfl
    refine own_via (fun k => X0.baloadBytes hx (j := (2 : Int32)) (v := (.int v2)) (by rw [e0]; exact Ar9.1) (State.isArrayOf_alike hZ.alike Ar9.2.1) Ar9.2.2 hin9 hat9 (g := (mkF m 15 #[rv a0, rv a1, iv 2, iv p3, .unset] [(.int 2), (.ref a1)])) rfl rfl (hb hby d9_15) _ k) ?_
    show own_Go p e below s _ _ (s₁.setTop (mkF m 16 #[rv a0, rv a1, iv 2, iv p3, .unset] [(.int v2)]))
    refine own_via (fun k => XS.goto X0.here hx rfl (pc0 := 16) (pc' := 25) rfl (hb hby d9_16) (by decide) (by decide) k) ?_
    show own_Go p e below s _ _ (s₁.setTop (mkF m 25 #[rv a0, rv a1, iv 2, iv p3, .unset] [(.int v2)]))
    exact J5 _ _ X0 N0 e0 v2 (((if_pos hc8).trans rfl)).symm
  · refine own_via (fun k => XS.icmpYes X0.here hx rfl (pc0 := 10) (pc' := 19) rfl (hb hby d9_10) rfl (flt hc8).2.1 (by decide) (by decide) k) ?_
    show own_Go p e below s _ _ (s₁.setTop (mkF m 19 #[rv a0, rv a1, iv 2, iv p3, .unset] []))
    refine own_via (fun k => XS.aloadN X0.here hx rfl (hb hby d9_19) rfl rfl  (XS.iloadN X0.here hx rfl (hb hby d9_20) rfl  k)) ?_
    show own_Go p e below s _ _ (s₁.setTop (mkF m 21 #[rv a0, rv a1, iv 2, iv p3, .unset] [(.int 2), (.ref a1)]))
    obtain ⟨cl10, Ar10, q10, S10, NN10, H10, G10⟩ := id P1
    have hin10 : ¬ ((2 : Int32) < 0 ∨ cl10.slots.size ≤ ((2 : Int32)).toNatClampNeg) := inb_of S10 ⟨by decide, by decide⟩
    have hat10 : cl10.slots[((2 : Int32)).toNatClampNeg]? = some (.int v2) := H10.at hin10 rfl
    refine own_via (fun k => X0.baloadBytes hx (j := (2 : Int32)) (v := (.int v2)) (by rw [e0]; exact Ar10.1) (State.isArrayOf_alike hZ.alike Ar10.2.1) Ar10.2.2 hin10 hat10 (g := (mkF m 21 #[rv a0, rv a1, iv 2, iv p3, .unset] [(.int 2), (.ref a1)])) rfl rfl (hb hby d9_21) _ k) ?_
    show own_Go p e below s _ _ (s₁.setTop (mkF m 22 #[rv a0, rv a1, iv 2, iv p3, .unset] [(.int v2)]))
    refine own_via (fun k => XS.iconst X0.here hx rfl (hb hby d9_22) (XS.ixor X0.here hx rfl (hb hby d9_23) rfl (XS.i2b X0.here hx rfl (hb hby d9_24) rfl k))) ?_
    show own_Go p e below s _ _ (s₁.setTop (mkF m 25 #[rv a0, rv a1, iv 2, iv p3, .unset] [(.int ((v2 ^^^ (-1 : Int32)).toInt8.toInt32))]))
    exact J5 _ _ X0 N0 e0 ((v2 ^^^ (-1 : Int32)).toInt8.toInt32) (((if_neg hc8).trans rfl)).symm
theorem ef_9_3_3 (m : MethodId) (x0 : Addr) (x1 : Addr) (x2 : Int32) (x3 : Int32) : entryFrame m #[(.ref x0), (.ref x1), (.int x2), (.int x3)] 5 = mkF m 0 #[rv x0, rv x1, iv x2, iv x3, .unset] [] := by first | (simp [entryFrame, mkF, argsToLocals, Value.category]; done) | rfl
def own_f9_3_3  : Int32 := (1 : Int32)
def Q9_3_3 (Z : State) (a0 : Addr) (a1 : Addr) (p3 : Int32) (k : ClassId) (k2 : ClassId) (w0 : Int32) (w1 : Int32) (w2 : Int32) (v0 : Int32) (v1 : Int32) (v2 : Int32) (h0 : Heap) (n0 : Nat) (v : Option Value) (h : Heap) (L : List Loc) : Prop := v = some (.int own_f9_3_3) ∧ Fr n0 L ∧ h = h0
set_option maxRecDepth 65536 in
set_option maxHeartbeats 40000000 in
theorem rm9_3_3 (l : Launch) (Z : State) (aw : Array Value) (hw : ∀ d ∈ tables_1, d.before aw Z = true) (ws : List Jvm.Cond) (a0 : Addr) (a1 : Addr) (p3 : Int32) (k : ClassId) (k2 : ClassId) (w0 : Int32) (w1 : Int32) (w2 : Int32) (v0 : Int32) (v1 : Int32) (v2 : Int32) (h0 : Heap) (n0 : Nat) (Z0 : n0 ≤ h0.size) (P0 : Arv Z h0 a0 k .byte (3 : Int32) [(.int w0), (.int w1), (.int w2)] (.int 0)) (P1 : Arv Z h0 a1 k2 .byte (3 : Int32) [(.int v0), (.int v1), (.int v2)] (.int 0)) :
    MetFree l (⟨"com/example/dani/dani/core/KeyReversedFromPinLaw", "at", "([B[BII)Z"⟩ : MethodName) (head1 (Jvm.Cond.code (⟨"com/example/dani/dani/core/KeyReversedFromPinLaw", "at", "([B[BII)Z"⟩ : MethodName) method_3_code 5 (some .boolean) :: ws) ({ frames := 0, cells := 0, slots := 0, locals := 0 } : Room)) (fun a U => a = #[(.ref a0), (.ref a1), (.int 3), (.int p3)] ∧ Z.Warmed39 U.vm ∧ U.heap = h0) (fun _ _ _ _ _ => True) (fun _ U o U' => ∃ v L, o = .returned v ∧ Q9_3_3 Z a0 a1 p3 k k2 w0 w1 w2 v0 v1 v2 h0 n0 v U'.heap L ∧ FrameEnd U o U' L ({ frames := 0, cells := 0, slots := 0, locals := 0 } : Room).cells ({ frames := 0, cells := 0, slots := 0, locals := 0 } : Room).slots) := by
  refine MetFree.of_bodySF (plainFor_of_name pn_9) hisR ?_
  intro p e s m args below meth c s₁ Bd hml0 hP hK
  obtain ⟨rfl, hZ, hh⟩ := hP
  have hx := Bd.exec
  have hby := Bd.bytes
  have hml : c.maxLocals = 5 := hml0
  have hown : s.vm.findClass "com/example/dani/dani/core/KeyReversedFromPinLaw" = some m.cls := findClass_of_methodNamed Bd.named
  have hnm := (name_of_methodNamed Bd.named Bd.method).1
  have hlk : meth.locks = false := by first | exact BodyLoose.notSynchronized (by assumption) | exact Body.notSynchronized (by assumption)
  have X0 : Stand p l e ({ frames := 0, cells := 0, slots := 0, locals := 0 } : Room) s m #[(.ref a0), (.ref a1), (.int 3), (.int p3)] below meth c s₁ [] 0 0 := Stand.of_body Bd
  have e0 : s₁.heap = h0 := by rw [← hh, Bd.state]; rfl
  have N0 := Fr.nil n0
  have K0 : Keep h0 h0 [] := Keep.refl _ _
  refine own_start (CS := (0, 0)) (Q := (Q9_3_3 Z a0 a1 p3 k k2 w0 w1 w2 v0 v1 v2 h0 n0)) (ef_9_3_3 m a0 a1 (3 : Int32) p3) ?_
  show own_Go p e below s _ _ (s₁.setTop (mkF m 0 #[rv a0, rv a1, iv 3, iv p3, .unset] []))
  refine own_via (fun k => XS.iloadN X0.here hx rfl (hb hby d9_0) rfl  (XS.aloadN X0.here hx rfl (hb hby d9_1) rfl rfl  k)) ?_
  show own_Go p e below s _ _ (s₁.setTop (mkF m 2 #[rv a0, rv a1, iv 3, iv p3, .unset] [(.ref a1), (.int 3)]))
  obtain ⟨cl1, Ar1, -, S1, NN1, -, -⟩ := id P1
  refine own_via (fun k => X0.arraylength hx (by rw [e0]; exact Ar1.1) (State.isArrayOf_alike hZ.alike Ar1.2.1) (g := (mkF m 2 #[rv a0, rv a1, iv 3, iv p3, .unset] [(.ref a1), (.int 3)])) rfl rfl (hb hby d9_2) _ k) ?_
  rw [len_of S1 NN1]
  show own_Go p e below s _ _ (s₁.setTop (mkF m 3 #[rv a0, rv a1, iv 3, iv p3, .unset] [(.int 3), (.int 3)]))
  refine own_via (fun k => XS.icmpNo X0.here hx rfl (hb hby d9_3) rfl (by decide) k) ?_
  show own_Go p e below s _ _ (s₁.setTop (mkF m 6 #[rv a0, rv a1, iv 3, iv p3, .unset] []))
  refine own_via (fun k => XS.iconst X0.here hx rfl (hb hby d9_6) k) ?_
  show own_Go p e below s _ _ (s₁.setTop (mkF m 7 #[rv a0, rv a1, iv 3, iv p3, .unset] [(.int 1)]))
  exact own_retN X0 hx hlk (t := .boolean) Bd.returns (by simp) (hb hby d9_7) (Q := (Q9_3_3 Z a0 a1 p3 k k2 w0 w1 w2 v0 v1 v2 h0 n0)) ⟨(congrArg (fun z => some (Value.int z)) (show (1 : Int32) = own_f9_3_3 from rfl)), N0, e0⟩ (by decide) (by decide)
theorem ef_9_4_0 (m : MethodId) (x0 : Addr) (x1 : Addr) (x2 : Int32) (x3 : Int32) : entryFrame m #[(.ref x0), (.ref x1), (.int x2), (.int x3)] 5 = mkF m 0 #[rv x0, rv x1, iv x2, iv x3, .unset] [] := by first | (simp [entryFrame, mkF, argsToLocals, Value.category]; done) | rfl
def own_f9_4_0 (p3 : Int32) (w0 : Int32) (v0 : Int32) : Int32 := (let z4 : Int32 := (if (0 : Int32) < p3 then v0 else ((v0 ^^^ (-1 : Int32)).toInt8.toInt32)); (if w0 = z4 then (1 : Int32) else (0 : Int32)))
def Q9_4_0 (Z : State) (a0 : Addr) (a1 : Addr) (p3 : Int32) (k : ClassId) (k2 : ClassId) (w0 : Int32) (w1 : Int32) (w2 : Int32) (w3 : Int32) (v0 : Int32) (v1 : Int32) (v2 : Int32) (v3 : Int32) (h0 : Heap) (n0 : Nat) (v : Option Value) (h : Heap) (L : List Loc) : Prop := v = some (.int (own_f9_4_0 p3 w0 v0)) ∧ Fr n0 L ∧ h = h0
set_option maxRecDepth 65536 in
set_option maxHeartbeats 40000000 in
theorem rm9_4_0 (l : Launch) (Z : State) (aw : Array Value) (hw : ∀ d ∈ tables_1, d.before aw Z = true) (ws : List Jvm.Cond) (a0 : Addr) (a1 : Addr) (p3 : Int32) (k : ClassId) (k2 : ClassId) (w0 : Int32) (w1 : Int32) (w2 : Int32) (w3 : Int32) (v0 : Int32) (v1 : Int32) (v2 : Int32) (v3 : Int32) (h0 : Heap) (n0 : Nat) (Z0 : n0 ≤ h0.size) (P0 : Arv Z h0 a0 k .byte (4 : Int32) [(.int w0), (.int w1), (.int w2), (.int w3)] (.int 0)) (P1 : Arv Z h0 a1 k2 .byte (4 : Int32) [(.int v0), (.int v1), (.int v2), (.int v3)] (.int 0)) :
    MetFree l (⟨"com/example/dani/dani/core/KeyReversedFromPinLaw", "at", "([B[BII)Z"⟩ : MethodName) (head1 (Jvm.Cond.code (⟨"com/example/dani/dani/core/KeyReversedFromPinLaw", "at", "([B[BII)Z"⟩ : MethodName) method_3_code 5 (some .boolean) :: ws) ({ frames := 0, cells := 0, slots := 0, locals := 0 } : Room)) (fun a U => a = #[(.ref a0), (.ref a1), (.int 0), (.int p3)] ∧ Z.Warmed39 U.vm ∧ U.heap = h0) (fun _ _ _ _ _ => True) (fun _ U o U' => ∃ v L, o = .returned v ∧ Q9_4_0 Z a0 a1 p3 k k2 w0 w1 w2 w3 v0 v1 v2 v3 h0 n0 v U'.heap L ∧ FrameEnd U o U' L ({ frames := 0, cells := 0, slots := 0, locals := 0 } : Room).cells ({ frames := 0, cells := 0, slots := 0, locals := 0 } : Room).slots) := by
  refine MetFree.of_bodySF (plainFor_of_name pn_9) hisR ?_
  intro p e s m args below meth c s₁ Bd hml0 hP hK
  obtain ⟨rfl, hZ, hh⟩ := hP
  have hx := Bd.exec
  have hby := Bd.bytes
  have hml : c.maxLocals = 5 := hml0
  have hown : s.vm.findClass "com/example/dani/dani/core/KeyReversedFromPinLaw" = some m.cls := findClass_of_methodNamed Bd.named
  have hnm := (name_of_methodNamed Bd.named Bd.method).1
  have hlk : meth.locks = false := by first | exact BodyLoose.notSynchronized (by assumption) | exact Body.notSynchronized (by assumption)
  have X0 : Stand p l e ({ frames := 0, cells := 0, slots := 0, locals := 0 } : Room) s m #[(.ref a0), (.ref a1), (.int 0), (.int p3)] below meth c s₁ [] 0 0 := Stand.of_body Bd
  have e0 : s₁.heap = h0 := by rw [← hh, Bd.state]; rfl
  have N0 := Fr.nil n0
  have K0 : Keep h0 h0 [] := Keep.refl _ _
  refine own_start (CS := (0, 0)) (Q := (Q9_4_0 Z a0 a1 p3 k k2 w0 w1 w2 w3 v0 v1 v2 v3 h0 n0)) (ef_9_4_0 m a0 a1 (0 : Int32) p3) ?_
  show own_Go p e below s _ _ (s₁.setTop (mkF m 0 #[rv a0, rv a1, iv 0, iv p3, .unset] []))
  refine own_via (fun k => XS.iloadN X0.here hx rfl (hb hby d9_0) rfl  (XS.aloadN X0.here hx rfl (hb hby d9_1) rfl rfl  k)) ?_
  show own_Go p e below s _ _ (s₁.setTop (mkF m 2 #[rv a0, rv a1, iv 0, iv p3, .unset] [(.ref a1), (.int 0)]))
  obtain ⟨cl1, Ar1, -, S1, NN1, -, -⟩ := id P1
  refine own_via (fun k => X0.arraylength hx (by rw [e0]; exact Ar1.1) (State.isArrayOf_alike hZ.alike Ar1.2.1) (g := (mkF m 2 #[rv a0, rv a1, iv 0, iv p3, .unset] [(.ref a1), (.int 0)])) rfl rfl (hb hby d9_2) _ k) ?_
  rw [len_of S1 NN1]
  show own_Go p e below s _ _ (s₁.setTop (mkF m 3 #[rv a0, rv a1, iv 0, iv p3, .unset] [(.int 4), (.int 0)]))
  refine own_via (fun k => XS.icmpYes X0.here hx rfl (pc0 := 3) (pc' := 8) rfl (hb hby d9_3) rfl (by decide) (by decide) (by decide) k) ?_
  show own_Go p e below s _ _ (s₁.setTop (mkF m 8 #[rv a0, rv a1, iv 0, iv p3, .unset] []))
  refine own_via (fun k => XS.iloadN X0.here hx rfl (hb hby d9_8) rfl  (XS.iloadN X0.here hx rfl (hb hby d9_9) rfl  k)) ?_
  show own_Go p e below s _ _ (s₁.setTop (mkF m 10 #[rv a0, rv a1, iv 0, iv p3, .unset] [(.int p3), (.int 0)]))
  have J5 : ∀ (T5 : State) (lo5 : List Loc), Stand p l e ({ frames := 0, cells := 0, slots := 0, locals := 0 } : Room) s m #[(.ref a0), (.ref a1), (.int 0), (.int p3)] below meth c T5 lo5 0 0 → Fr n0 lo5 → T5.heap = h0 → ∀ (z4 : Int32), z4 = (if (0 : Int32) < p3 then v0 else ((v0 ^^^ (-1 : Int32)).toInt8.toInt32)) → own_Go p e below s (Q9_4_0 Z a0 a1 p3 k k2 w0 w1 w2 w3 v0 v1 v2 v3 h0 n0) (0, 0) (T5.setTop (mkF m 25 #[rv a0, rv a1, iv 0, iv p3, .unset] [(.int z4)])) := by
    intro T5 lo5 X5 N5 e5 z4 hz4
    refine own_via (fun k => XS.istore X5.here hx rfl (hb hby d9_25) rfl (l' := #[rv a0, rv a1, iv 0, iv p3, iv z4]) rfl (XS.aloadN X5.here hx rfl (hb hby d9_27) rfl rfl  (XS.iloadN X5.here hx rfl (hb hby d9_28) rfl  k))) ?_
    show own_Go p e below s _ _ (T5.setTop (mkF m 29 #[rv a0, rv a1, iv 0, iv p3, iv z4] [(.int 0), (.ref a0)]))
    obtain ⟨cl6, Ar6, q6, S6, NN6, H6, G6⟩ := id P0
    have hin6 : ¬ ((0 : Int32) < 0 ∨ cl6.slots.size ≤ ((0 : Int32)).toNatClampNeg) := inb_of S6 ⟨by decide, by decide⟩
    have hat6 : cl6.slots[((0 : Int32)).toNatClampNeg]? = some (.int w0) := H6.at hin6 rfl
    refine own_via (fun k => X5.baloadBytes hx (j := (0 : Int32)) (v := (.int w0)) (by rw [e5]; exact Ar6.1) (State.isArrayOf_alike hZ.alike Ar6.2.1) Ar6.2.2 hin6 hat6 (g := (mkF m 29 #[rv a0, rv a1, iv 0, iv p3, iv z4] [(.int 0), (.ref a0)])) rfl rfl (hb hby d9_29) _ k) ?_
    show own_Go p e below s _ _ (T5.setTop (mkF m 30 #[rv a0, rv a1, iv 0, iv p3, iv z4] [(.int w0)]))
    refine own_via (fun k => XS.iload X5.here hx rfl (hb hby d9_30) rfl  k) ?_
    show own_Go p e below s _ _ (T5.setTop (mkF m 32 #[rv a0, rv a1, iv 0, iv p3, iv z4] [(.int z4), (.int w0)]))
    by_cases hc7 : w0 = z4
    · refine own_via (fun k => XS.icmpNo X5.here hx rfl (hb hby d9_32) rfl (teq hc7).2 k) ?_
      show own_Go p e below s _ _ (T5.setTop (mkF m 35 #[rv a0, rv a1, iv 0, iv p3, iv z4] []))
      refine own_via (fun k => XS.iconst X5.here hx rfl (hb hby d9_35) (XS.goto X5.here hx rfl (pc0 := 36) (pc' := 40) rfl (hb hby d9_36) (by decide) (by decide) k)) ?_
      show own_Go p e below s _ _ (T5.setTop (mkF m 40 #[rv a0, rv a1, iv 0, iv p3, iv z4] [(.int 1)]))
      exact own_retN X5 hx hlk (t := .boolean) Bd.returns (by simp) (hb hby d9_40) (Q := (Q9_4_0 Z a0 a1 p3 k k2 w0 w1 w2 w3 v0 v1 v2 v3 h0 n0)) ⟨(congrArg (fun z => some (Value.int z)) (show (1 : Int32) = (own_f9_4_0 p3 w0 v0) from (by subst hz4; unfold own_f9_4_0; exact ((if_pos hc7).trans rfl).symm))), N5, e5⟩ (by decide) (by decide)
    · refine own_via (fun k => XS.icmpYes X5.here hx rfl (pc0 := 32) (pc' := 39) rfl (hb hby d9_32) rfl (feq hc7).2 (by decide) (by decide) k) ?_
      show own_Go p e below s _ _ (T5.setTop (mkF m 39 #[rv a0, rv a1, iv 0, iv p3, iv z4] []))
      refine own_via (fun k => XS.iconst X5.here hx rfl (hb hby d9_39) k) ?_
      show own_Go p e below s _ _ (T5.setTop (mkF m 40 #[rv a0, rv a1, iv 0, iv p3, iv z4] [(.int 0)]))
      exact own_retN X5 hx hlk (t := .boolean) Bd.returns (by simp) (hb hby d9_40) (Q := (Q9_4_0 Z a0 a1 p3 k k2 w0 w1 w2 w3 v0 v1 v2 v3 h0 n0)) ⟨(congrArg (fun z => some (Value.int z)) (show (0 : Int32) = (own_f9_4_0 p3 w0 v0) from (by subst hz4; unfold own_f9_4_0; exact ((if_neg hc7).trans rfl).symm))), N5, e5⟩ (by decide) (by decide)
  by_cases hc8 : (0 : Int32) < p3
  · refine own_via (fun k => XS.icmpNo X0.here hx rfl (hb hby d9_10) rfl (tlt hc8).2.1 k) ?_
    show own_Go p e below s _ _ (s₁.setTop (mkF m 13 #[rv a0, rv a1, iv 0, iv p3, .unset] []))
    refine own_via (fun k => XS.aloadN X0.here hx rfl (hb hby d9_13) rfl rfl  (XS.iloadN X0.here hx rfl (hb hby d9_14) rfl  k)) ?_
    show own_Go p e below s _ _ (s₁.setTop (mkF m 15 #[rv a0, rv a1, iv 0, iv p3, .unset] [(.int 0), (.ref a1)]))
    obtain ⟨cl9, Ar9, q9, S9, NN9, H9, G9⟩ := id P1
    have hin9 : ¬ ((0 : Int32) < 0 ∨ cl9.slots.size ≤ ((0 : Int32)).toNatClampNeg) := inb_of S9 ⟨by decide, by decide⟩
    have hat9 : cl9.slots[((0 : Int32)).toNatClampNeg]? = some (.int v0) := H9.at hin9 rfl
    refine own_via (fun k => X0.baloadBytes hx (j := (0 : Int32)) (v := (.int v0)) (by rw [e0]; exact Ar9.1) (State.isArrayOf_alike hZ.alike Ar9.2.1) Ar9.2.2 hin9 hat9 (g := (mkF m 15 #[rv a0, rv a1, iv 0, iv p3, .unset] [(.int 0), (.ref a1)])) rfl rfl (hb hby d9_15) _ k) ?_
    show own_Go p e below s _ _ (s₁.setTop (mkF m 16 #[rv a0, rv a1, iv 0, iv p3, .unset] [(.int v0)]))
    refine own_via (fun k => XS.goto X0.here hx rfl (pc0 := 16) (pc' := 25) rfl (hb hby d9_16) (by decide) (by decide) k) ?_
    show own_Go p e below s _ _ (s₁.setTop (mkF m 25 #[rv a0, rv a1, iv 0, iv p3, .unset] [(.int v0)]))
    exact J5 _ _ X0 N0 e0 v0 (((if_pos hc8).trans rfl)).symm
  · refine own_via (fun k => XS.icmpYes X0.here hx rfl (pc0 := 10) (pc' := 19) rfl (hb hby d9_10) rfl (flt hc8).2.1 (by decide) (by decide) k) ?_
    show own_Go p e below s _ _ (s₁.setTop (mkF m 19 #[rv a0, rv a1, iv 0, iv p3, .unset] []))
    refine own_via (fun k => XS.aloadN X0.here hx rfl (hb hby d9_19) rfl rfl  (XS.iloadN X0.here hx rfl (hb hby d9_20) rfl  k)) ?_
    show own_Go p e below s _ _ (s₁.setTop (mkF m 21 #[rv a0, rv a1, iv 0, iv p3, .unset] [(.int 0), (.ref a1)]))
    obtain ⟨cl10, Ar10, q10, S10, NN10, H10, G10⟩ := id P1
    have hin10 : ¬ ((0 : Int32) < 0 ∨ cl10.slots.size ≤ ((0 : Int32)).toNatClampNeg) := inb_of S10 ⟨by decide, by decide⟩
    have hat10 : cl10.slots[((0 : Int32)).toNatClampNeg]? = some (.int v0) := H10.at hin10 rfl
    refine own_via (fun k => X0.baloadBytes hx (j := (0 : Int32)) (v := (.int v0)) (by rw [e0]; exact Ar10.1) (State.isArrayOf_alike hZ.alike Ar10.2.1) Ar10.2.2 hin10 hat10 (g := (mkF m 21 #[rv a0, rv a1, iv 0, iv p3, .unset] [(.int 0), (.ref a1)])) rfl rfl (hb hby d9_21) _ k) ?_
    show own_Go p e below s _ _ (s₁.setTop (mkF m 22 #[rv a0, rv a1, iv 0, iv p3, .unset] [(.int v0)]))
    refine own_via (fun k => XS.iconst X0.here hx rfl (hb hby d9_22) (XS.ixor X0.here hx rfl (hb hby d9_23) rfl (XS.i2b X0.here hx rfl (hb hby d9_24) rfl k))) ?_
    show own_Go p e below s _ _ (s₁.setTop (mkF m 25 #[rv a0, rv a1, iv 0, iv p3, .unset] [(.int ((v0 ^^^ (-1 : Int32)).toInt8.toInt32))]))
    exact J5 _ _ X0 N0 e0 ((v0 ^^^ (-1 : Int32)).toInt8.toInt32) (((if_neg hc8).trans rfl)).symm
theorem ef_9_4_1 (m : MethodId) (x0 : Addr) (x1 : Addr) (x2 : Int32) (x3 : Int32) : entryFrame m #[(.ref x0), (.ref x1), (.int x2), (.int x3)] 5 = mkF m 0 #[rv x0, rv x1, iv x2, iv x3, .unset] [] := by first | (simp [entryFrame, mkF, argsToLocals, Value.category]; done) | rfl
def own_f9_4_1 (p3 : Int32) (w1 : Int32) (v1 : Int32) : Int32 := (let z4 : Int32 := (if (1 : Int32) < p3 then v1 else ((v1 ^^^ (-1 : Int32)).toInt8.toInt32)); (if w1 = z4 then (1 : Int32) else (0 : Int32)))
def Q9_4_1 (Z : State) (a0 : Addr) (a1 : Addr) (p3 : Int32) (k : ClassId) (k2 : ClassId) (w0 : Int32) (w1 : Int32) (w2 : Int32) (w3 : Int32) (v0 : Int32) (v1 : Int32) (v2 : Int32) (v3 : Int32) (h0 : Heap) (n0 : Nat) (v : Option Value) (h : Heap) (L : List Loc) : Prop := v = some (.int (own_f9_4_1 p3 w1 v1)) ∧ Fr n0 L ∧ h = h0
set_option maxRecDepth 65536 in
set_option maxHeartbeats 40000000 in
theorem rm9_4_1 (l : Launch) (Z : State) (aw : Array Value) (hw : ∀ d ∈ tables_1, d.before aw Z = true) (ws : List Jvm.Cond) (a0 : Addr) (a1 : Addr) (p3 : Int32) (k : ClassId) (k2 : ClassId) (w0 : Int32) (w1 : Int32) (w2 : Int32) (w3 : Int32) (v0 : Int32) (v1 : Int32) (v2 : Int32) (v3 : Int32) (h0 : Heap) (n0 : Nat) (Z0 : n0 ≤ h0.size) (P0 : Arv Z h0 a0 k .byte (4 : Int32) [(.int w0), (.int w1), (.int w2), (.int w3)] (.int 0)) (P1 : Arv Z h0 a1 k2 .byte (4 : Int32) [(.int v0), (.int v1), (.int v2), (.int v3)] (.int 0)) :
    MetFree l (⟨"com/example/dani/dani/core/KeyReversedFromPinLaw", "at", "([B[BII)Z"⟩ : MethodName) (head1 (Jvm.Cond.code (⟨"com/example/dani/dani/core/KeyReversedFromPinLaw", "at", "([B[BII)Z"⟩ : MethodName) method_3_code 5 (some .boolean) :: ws) ({ frames := 0, cells := 0, slots := 0, locals := 0 } : Room)) (fun a U => a = #[(.ref a0), (.ref a1), (.int 1), (.int p3)] ∧ Z.Warmed39 U.vm ∧ U.heap = h0) (fun _ _ _ _ _ => True) (fun _ U o U' => ∃ v L, o = .returned v ∧ Q9_4_1 Z a0 a1 p3 k k2 w0 w1 w2 w3 v0 v1 v2 v3 h0 n0 v U'.heap L ∧ FrameEnd U o U' L ({ frames := 0, cells := 0, slots := 0, locals := 0 } : Room).cells ({ frames := 0, cells := 0, slots := 0, locals := 0 } : Room).slots) := by
  refine MetFree.of_bodySF (plainFor_of_name pn_9) hisR ?_
  intro p e s m args below meth c s₁ Bd hml0 hP hK
  obtain ⟨rfl, hZ, hh⟩ := hP
  have hx := Bd.exec
  have hby := Bd.bytes
  have hml : c.maxLocals = 5 := hml0
  have hown : s.vm.findClass "com/example/dani/dani/core/KeyReversedFromPinLaw" = some m.cls := findClass_of_methodNamed Bd.named
  have hnm := (name_of_methodNamed Bd.named Bd.method).1
  have hlk : meth.locks = false := by first | exact BodyLoose.notSynchronized (by assumption) | exact Body.notSynchronized (by assumption)
  have X0 : Stand p l e ({ frames := 0, cells := 0, slots := 0, locals := 0 } : Room) s m #[(.ref a0), (.ref a1), (.int 1), (.int p3)] below meth c s₁ [] 0 0 := Stand.of_body Bd
  have e0 : s₁.heap = h0 := by rw [← hh, Bd.state]; rfl
  have N0 := Fr.nil n0
  have K0 : Keep h0 h0 [] := Keep.refl _ _
  refine own_start (CS := (0, 0)) (Q := (Q9_4_1 Z a0 a1 p3 k k2 w0 w1 w2 w3 v0 v1 v2 v3 h0 n0)) (ef_9_4_1 m a0 a1 (1 : Int32) p3) ?_
  show own_Go p e below s _ _ (s₁.setTop (mkF m 0 #[rv a0, rv a1, iv 1, iv p3, .unset] []))
  refine own_via (fun k => XS.iloadN X0.here hx rfl (hb hby d9_0) rfl  (XS.aloadN X0.here hx rfl (hb hby d9_1) rfl rfl  k)) ?_
  show own_Go p e below s _ _ (s₁.setTop (mkF m 2 #[rv a0, rv a1, iv 1, iv p3, .unset] [(.ref a1), (.int 1)]))
  obtain ⟨cl1, Ar1, -, S1, NN1, -, -⟩ := id P1
  refine own_via (fun k => X0.arraylength hx (by rw [e0]; exact Ar1.1) (State.isArrayOf_alike hZ.alike Ar1.2.1) (g := (mkF m 2 #[rv a0, rv a1, iv 1, iv p3, .unset] [(.ref a1), (.int 1)])) rfl rfl (hb hby d9_2) _ k) ?_
  rw [len_of S1 NN1]
  show own_Go p e below s _ _ (s₁.setTop (mkF m 3 #[rv a0, rv a1, iv 1, iv p3, .unset] [(.int 4), (.int 1)]))
  refine own_via (fun k => XS.icmpYes X0.here hx rfl (pc0 := 3) (pc' := 8) rfl (hb hby d9_3) rfl (by decide) (by decide) (by decide) k) ?_
  show own_Go p e below s _ _ (s₁.setTop (mkF m 8 #[rv a0, rv a1, iv 1, iv p3, .unset] []))
  refine own_via (fun k => XS.iloadN X0.here hx rfl (hb hby d9_8) rfl  (XS.iloadN X0.here hx rfl (hb hby d9_9) rfl  k)) ?_
  show own_Go p e below s _ _ (s₁.setTop (mkF m 10 #[rv a0, rv a1, iv 1, iv p3, .unset] [(.int p3), (.int 1)]))
  have J5 : ∀ (T5 : State) (lo5 : List Loc), Stand p l e ({ frames := 0, cells := 0, slots := 0, locals := 0 } : Room) s m #[(.ref a0), (.ref a1), (.int 1), (.int p3)] below meth c T5 lo5 0 0 → Fr n0 lo5 → T5.heap = h0 → ∀ (z4 : Int32), z4 = (if (1 : Int32) < p3 then v1 else ((v1 ^^^ (-1 : Int32)).toInt8.toInt32)) → own_Go p e below s (Q9_4_1 Z a0 a1 p3 k k2 w0 w1 w2 w3 v0 v1 v2 v3 h0 n0) (0, 0) (T5.setTop (mkF m 25 #[rv a0, rv a1, iv 1, iv p3, .unset] [(.int z4)])) := by
    intro T5 lo5 X5 N5 e5 z4 hz4
    refine own_via (fun k => XS.istore X5.here hx rfl (hb hby d9_25) rfl (l' := #[rv a0, rv a1, iv 1, iv p3, iv z4]) rfl (XS.aloadN X5.here hx rfl (hb hby d9_27) rfl rfl  (XS.iloadN X5.here hx rfl (hb hby d9_28) rfl  k))) ?_
    show own_Go p e below s _ _ (T5.setTop (mkF m 29 #[rv a0, rv a1, iv 1, iv p3, iv z4] [(.int 1), (.ref a0)]))
    obtain ⟨cl6, Ar6, q6, S6, NN6, H6, G6⟩ := id P0
    have hin6 : ¬ ((1 : Int32) < 0 ∨ cl6.slots.size ≤ ((1 : Int32)).toNatClampNeg) := inb_of S6 ⟨by decide, by decide⟩
    have hat6 : cl6.slots[((1 : Int32)).toNatClampNeg]? = some (.int w1) := H6.at hin6 rfl
    refine own_via (fun k => X5.baloadBytes hx (j := (1 : Int32)) (v := (.int w1)) (by rw [e5]; exact Ar6.1) (State.isArrayOf_alike hZ.alike Ar6.2.1) Ar6.2.2 hin6 hat6 (g := (mkF m 29 #[rv a0, rv a1, iv 1, iv p3, iv z4] [(.int 1), (.ref a0)])) rfl rfl (hb hby d9_29) _ k) ?_
    show own_Go p e below s _ _ (T5.setTop (mkF m 30 #[rv a0, rv a1, iv 1, iv p3, iv z4] [(.int w1)]))
    refine own_via (fun k => XS.iload X5.here hx rfl (hb hby d9_30) rfl  k) ?_
    show own_Go p e below s _ _ (T5.setTop (mkF m 32 #[rv a0, rv a1, iv 1, iv p3, iv z4] [(.int z4), (.int w1)]))
    by_cases hc7 : w1 = z4
    · refine own_via (fun k => XS.icmpNo X5.here hx rfl (hb hby d9_32) rfl (teq hc7).2 k) ?_
      show own_Go p e below s _ _ (T5.setTop (mkF m 35 #[rv a0, rv a1, iv 1, iv p3, iv z4] []))
      refine own_via (fun k => XS.iconst X5.here hx rfl (hb hby d9_35) (XS.goto X5.here hx rfl (pc0 := 36) (pc' := 40) rfl (hb hby d9_36) (by decide) (by decide) k)) ?_
      show own_Go p e below s _ _ (T5.setTop (mkF m 40 #[rv a0, rv a1, iv 1, iv p3, iv z4] [(.int 1)]))
      exact own_retN X5 hx hlk (t := .boolean) Bd.returns (by simp) (hb hby d9_40) (Q := (Q9_4_1 Z a0 a1 p3 k k2 w0 w1 w2 w3 v0 v1 v2 v3 h0 n0)) ⟨(congrArg (fun z => some (Value.int z)) (show (1 : Int32) = (own_f9_4_1 p3 w1 v1) from (by subst hz4; unfold own_f9_4_1; exact ((if_pos hc7).trans rfl).symm))), N5, e5⟩ (by decide) (by decide)
    · refine own_via (fun k => XS.icmpYes X5.here hx rfl (pc0 := 32) (pc' := 39) rfl (hb hby d9_32) rfl (feq hc7).2 (by decide) (by decide) k) ?_
      show own_Go p e below s _ _ (T5.setTop (mkF m 39 #[rv a0, rv a1, iv 1, iv p3, iv z4] []))
      refine own_via (fun k => XS.iconst X5.here hx rfl (hb hby d9_39) k) ?_
      show own_Go p e below s _ _ (T5.setTop (mkF m 40 #[rv a0, rv a1, iv 1, iv p3, iv z4] [(.int 0)]))
      exact own_retN X5 hx hlk (t := .boolean) Bd.returns (by simp) (hb hby d9_40) (Q := (Q9_4_1 Z a0 a1 p3 k k2 w0 w1 w2 w3 v0 v1 v2 v3 h0 n0)) ⟨(congrArg (fun z => some (Value.int z)) (show (0 : Int32) = (own_f9_4_1 p3 w1 v1) from (by subst hz4; unfold own_f9_4_1; exact ((if_neg hc7).trans rfl).symm))), N5, e5⟩ (by decide) (by decide)
  by_cases hc8 : (1 : Int32) < p3
  · refine own_via (fun k => XS.icmpNo X0.here hx rfl (hb hby d9_10) rfl (tlt hc8).2.1 k) ?_
    show own_Go p e below s _ _ (s₁.setTop (mkF m 13 #[rv a0, rv a1, iv 1, iv p3, .unset] []))
    refine own_via (fun k => XS.aloadN X0.here hx rfl (hb hby d9_13) rfl rfl  (XS.iloadN X0.here hx rfl (hb hby d9_14) rfl  k)) ?_
    show own_Go p e below s _ _ (s₁.setTop (mkF m 15 #[rv a0, rv a1, iv 1, iv p3, .unset] [(.int 1), (.ref a1)]))
    obtain ⟨cl9, Ar9, q9, S9, NN9, H9, G9⟩ := id P1
    have hin9 : ¬ ((1 : Int32) < 0 ∨ cl9.slots.size ≤ ((1 : Int32)).toNatClampNeg) := inb_of S9 ⟨by decide, by decide⟩
    have hat9 : cl9.slots[((1 : Int32)).toNatClampNeg]? = some (.int v1) := H9.at hin9 rfl
    refine own_via (fun k => X0.baloadBytes hx (j := (1 : Int32)) (v := (.int v1)) (by rw [e0]; exact Ar9.1) (State.isArrayOf_alike hZ.alike Ar9.2.1) Ar9.2.2 hin9 hat9 (g := (mkF m 15 #[rv a0, rv a1, iv 1, iv p3, .unset] [(.int 1), (.ref a1)])) rfl rfl (hb hby d9_15) _ k) ?_
    show own_Go p e below s _ _ (s₁.setTop (mkF m 16 #[rv a0, rv a1, iv 1, iv p3, .unset] [(.int v1)]))
    refine own_via (fun k => XS.goto X0.here hx rfl (pc0 := 16) (pc' := 25) rfl (hb hby d9_16) (by decide) (by decide) k) ?_
    show own_Go p e below s _ _ (s₁.setTop (mkF m 25 #[rv a0, rv a1, iv 1, iv p3, .unset] [(.int v1)]))
    exact J5 _ _ X0 N0 e0 v1 (((if_pos hc8).trans rfl)).symm
  · refine own_via (fun k => XS.icmpYes X0.here hx rfl (pc0 := 10) (pc' := 19) rfl (hb hby d9_10) rfl (flt hc8).2.1 (by decide) (by decide) k) ?_
    show own_Go p e below s _ _ (s₁.setTop (mkF m 19 #[rv a0, rv a1, iv 1, iv p3, .unset] []))
    refine own_via (fun k => XS.aloadN X0.here hx rfl (hb hby d9_19) rfl rfl  (XS.iloadN X0.here hx rfl (hb hby d9_20) rfl  k)) ?_
    show own_Go p e below s _ _ (s₁.setTop (mkF m 21 #[rv a0, rv a1, iv 1, iv p3, .unset] [(.int 1), (.ref a1)]))
    obtain ⟨cl10, Ar10, q10, S10, NN10, H10, G10⟩ := id P1
    have hin10 : ¬ ((1 : Int32) < 0 ∨ cl10.slots.size ≤ ((1 : Int32)).toNatClampNeg) := inb_of S10 ⟨by decide, by decide⟩
    have hat10 : cl10.slots[((1 : Int32)).toNatClampNeg]? = some (.int v1) := H10.at hin10 rfl
    refine own_via (fun k => X0.baloadBytes hx (j := (1 : Int32)) (v := (.int v1)) (by rw [e0]; exact Ar10.1) (State.isArrayOf_alike hZ.alike Ar10.2.1) Ar10.2.2 hin10 hat10 (g := (mkF m 21 #[rv a0, rv a1, iv 1, iv p3, .unset] [(.int 1), (.ref a1)])) rfl rfl (hb hby d9_21) _ k) ?_
    show own_Go p e below s _ _ (s₁.setTop (mkF m 22 #[rv a0, rv a1, iv 1, iv p3, .unset] [(.int v1)]))
    refine own_via (fun k => XS.iconst X0.here hx rfl (hb hby d9_22) (XS.ixor X0.here hx rfl (hb hby d9_23) rfl (XS.i2b X0.here hx rfl (hb hby d9_24) rfl k))) ?_
    show own_Go p e below s _ _ (s₁.setTop (mkF m 25 #[rv a0, rv a1, iv 1, iv p3, .unset] [(.int ((v1 ^^^ (-1 : Int32)).toInt8.toInt32))]))
    exact J5 _ _ X0 N0 e0 ((v1 ^^^ (-1 : Int32)).toInt8.toInt32) (((if_neg hc8).trans rfl)).symm
theorem ef_9_4_2 (m : MethodId) (x0 : Addr) (x1 : Addr) (x2 : Int32) (x3 : Int32) : entryFrame m #[(.ref x0), (.ref x1), (.int x2), (.int x3)] 5 = mkF m 0 #[rv x0, rv x1, iv x2, iv x3, .unset] [] := by first | (simp [entryFrame, mkF, argsToLocals, Value.category]; done) | rfl
def own_f9_4_2 (p3 : Int32) (w2 : Int32) (v2 : Int32) : Int32 := (let z4 : Int32 := (if (2 : Int32) < p3 then v2 else ((v2 ^^^ (-1 : Int32)).toInt8.toInt32)); (if w2 = z4 then (1 : Int32) else (0 : Int32)))
def Q9_4_2 (Z : State) (a0 : Addr) (a1 : Addr) (p3 : Int32) (k : ClassId) (k2 : ClassId) (w0 : Int32) (w1 : Int32) (w2 : Int32) (w3 : Int32) (v0 : Int32) (v1 : Int32) (v2 : Int32) (v3 : Int32) (h0 : Heap) (n0 : Nat) (v : Option Value) (h : Heap) (L : List Loc) : Prop := v = some (.int (own_f9_4_2 p3 w2 v2)) ∧ Fr n0 L ∧ h = h0
set_option maxRecDepth 65536 in
set_option maxHeartbeats 40000000 in
theorem rm9_4_2 (l : Launch) (Z : State) (aw : Array Value) (hw : ∀ d ∈ tables_1, d.before aw Z = true) (ws : List Jvm.Cond) (a0 : Addr) (a1 : Addr) (p3 : Int32) (k : ClassId) (k2 : ClassId) (w0 : Int32) (w1 : Int32) (w2 : Int32) (w3 : Int32) (v0 : Int32) (v1 : Int32) (v2 : Int32) (v3 : Int32) (h0 : Heap) (n0 : Nat) (Z0 : n0 ≤ h0.size) (P0 : Arv Z h0 a0 k .byte (4 : Int32) [(.int w0), (.int w1), (.int w2), (.int w3)] (.int 0)) (P1 : Arv Z h0 a1 k2 .byte (4 : Int32) [(.int v0), (.int v1), (.int v2), (.int v3)] (.int 0)) :
    MetFree l (⟨"com/example/dani/dani/core/KeyReversedFromPinLaw", "at", "([B[BII)Z"⟩ : MethodName) (head1 (Jvm.Cond.code (⟨"com/example/dani/dani/core/KeyReversedFromPinLaw", "at", "([B[BII)Z"⟩ : MethodName) method_3_code 5 (some .boolean) :: ws) ({ frames := 0, cells := 0, slots := 0, locals := 0 } : Room)) (fun a U => a = #[(.ref a0), (.ref a1), (.int 2), (.int p3)] ∧ Z.Warmed39 U.vm ∧ U.heap = h0) (fun _ _ _ _ _ => True) (fun _ U o U' => ∃ v L, o = .returned v ∧ Q9_4_2 Z a0 a1 p3 k k2 w0 w1 w2 w3 v0 v1 v2 v3 h0 n0 v U'.heap L ∧ FrameEnd U o U' L ({ frames := 0, cells := 0, slots := 0, locals := 0 } : Room).cells ({ frames := 0, cells := 0, slots := 0, locals := 0 } : Room).slots) := by
  refine MetFree.of_bodySF (plainFor_of_name pn_9) hisR ?_
  intro p e s m args below meth c s₁ Bd hml0 hP hK
  obtain ⟨rfl, hZ, hh⟩ := hP
  have hx := Bd.exec
  have hby := Bd.bytes
  have hml : c.maxLocals = 5 := hml0
  have hown : s.vm.findClass "com/example/dani/dani/core/KeyReversedFromPinLaw" = some m.cls := findClass_of_methodNamed Bd.named
  have hnm := (name_of_methodNamed Bd.named Bd.method).1
  have hlk : meth.locks = false := by first | exact BodyLoose.notSynchronized (by assumption) | exact Body.notSynchronized (by assumption)
  have X0 : Stand p l e ({ frames := 0, cells := 0, slots := 0, locals := 0 } : Room) s m #[(.ref a0), (.ref a1), (.int 2), (.int p3)] below meth c s₁ [] 0 0 := Stand.of_body Bd
  have e0 : s₁.heap = h0 := by rw [← hh, Bd.state]; rfl
  have N0 := Fr.nil n0
  have K0 : Keep h0 h0 [] := Keep.refl _ _
  refine own_start (CS := (0, 0)) (Q := (Q9_4_2 Z a0 a1 p3 k k2 w0 w1 w2 w3 v0 v1 v2 v3 h0 n0)) (ef_9_4_2 m a0 a1 (2 : Int32) p3) ?_
  show own_Go p e below s _ _ (s₁.setTop (mkF m 0 #[rv a0, rv a1, iv 2, iv p3, .unset] []))
  refine own_via (fun k => XS.iloadN X0.here hx rfl (hb hby d9_0) rfl  (XS.aloadN X0.here hx rfl (hb hby d9_1) rfl rfl  k)) ?_
  show own_Go p e below s _ _ (s₁.setTop (mkF m 2 #[rv a0, rv a1, iv 2, iv p3, .unset] [(.ref a1), (.int 2)]))
  obtain ⟨cl1, Ar1, -, S1, NN1, -, -⟩ := id P1
  refine own_via (fun k => X0.arraylength hx (by rw [e0]; exact Ar1.1) (State.isArrayOf_alike hZ.alike Ar1.2.1) (g := (mkF m 2 #[rv a0, rv a1, iv 2, iv p3, .unset] [(.ref a1), (.int 2)])) rfl rfl (hb hby d9_2) _ k) ?_
  rw [len_of S1 NN1]
  show own_Go p e below s _ _ (s₁.setTop (mkF m 3 #[rv a0, rv a1, iv 2, iv p3, .unset] [(.int 4), (.int 2)]))
  refine own_via (fun k => XS.icmpYes X0.here hx rfl (pc0 := 3) (pc' := 8) rfl (hb hby d9_3) rfl (by decide) (by decide) (by decide) k) ?_
  show own_Go p e below s _ _ (s₁.setTop (mkF m 8 #[rv a0, rv a1, iv 2, iv p3, .unset] []))
  refine own_via (fun k => XS.iloadN X0.here hx rfl (hb hby d9_8) rfl  (XS.iloadN X0.here hx rfl (hb hby d9_9) rfl  k)) ?_
  show own_Go p e below s _ _ (s₁.setTop (mkF m 10 #[rv a0, rv a1, iv 2, iv p3, .unset] [(.int p3), (.int 2)]))
  have J5 : ∀ (T5 : State) (lo5 : List Loc), Stand p l e ({ frames := 0, cells := 0, slots := 0, locals := 0 } : Room) s m #[(.ref a0), (.ref a1), (.int 2), (.int p3)] below meth c T5 lo5 0 0 → Fr n0 lo5 → T5.heap = h0 → ∀ (z4 : Int32), z4 = (if (2 : Int32) < p3 then v2 else ((v2 ^^^ (-1 : Int32)).toInt8.toInt32)) → own_Go p e below s (Q9_4_2 Z a0 a1 p3 k k2 w0 w1 w2 w3 v0 v1 v2 v3 h0 n0) (0, 0) (T5.setTop (mkF m 25 #[rv a0, rv a1, iv 2, iv p3, .unset] [(.int z4)])) := by
    intro T5 lo5 X5 N5 e5 z4 hz4
    refine own_via (fun k => XS.istore X5.here hx rfl (hb hby d9_25) rfl (l' := #[rv a0, rv a1, iv 2, iv p3, iv z4]) rfl (XS.aloadN X5.here hx rfl (hb hby d9_27) rfl rfl  (XS.iloadN X5.here hx rfl (hb hby d9_28) rfl  k))) ?_
    show own_Go p e below s _ _ (T5.setTop (mkF m 29 #[rv a0, rv a1, iv 2, iv p3, iv z4] [(.int 2), (.ref a0)]))
    obtain ⟨cl6, Ar6, q6, S6, NN6, H6, G6⟩ := id P0
    have hin6 : ¬ ((2 : Int32) < 0 ∨ cl6.slots.size ≤ ((2 : Int32)).toNatClampNeg) := inb_of S6 ⟨by decide, by decide⟩
    have hat6 : cl6.slots[((2 : Int32)).toNatClampNeg]? = some (.int w2) := H6.at hin6 rfl
    refine own_via (fun k => X5.baloadBytes hx (j := (2 : Int32)) (v := (.int w2)) (by rw [e5]; exact Ar6.1) (State.isArrayOf_alike hZ.alike Ar6.2.1) Ar6.2.2 hin6 hat6 (g := (mkF m 29 #[rv a0, rv a1, iv 2, iv p3, iv z4] [(.int 2), (.ref a0)])) rfl rfl (hb hby d9_29) _ k) ?_
    show own_Go p e below s _ _ (T5.setTop (mkF m 30 #[rv a0, rv a1, iv 2, iv p3, iv z4] [(.int w2)]))
    refine own_via (fun k => XS.iload X5.here hx rfl (hb hby d9_30) rfl  k) ?_
    show own_Go p e below s _ _ (T5.setTop (mkF m 32 #[rv a0, rv a1, iv 2, iv p3, iv z4] [(.int z4), (.int w2)]))
    by_cases hc7 : w2 = z4
    · refine own_via (fun k => XS.icmpNo X5.here hx rfl (hb hby d9_32) rfl (teq hc7).2 k) ?_
      show own_Go p e below s _ _ (T5.setTop (mkF m 35 #[rv a0, rv a1, iv 2, iv p3, iv z4] []))
      refine own_via (fun k => XS.iconst X5.here hx rfl (hb hby d9_35) (XS.goto X5.here hx rfl (pc0 := 36) (pc' := 40) rfl (hb hby d9_36) (by decide) (by decide) k)) ?_
      show own_Go p e below s _ _ (T5.setTop (mkF m 40 #[rv a0, rv a1, iv 2, iv p3, iv z4] [(.int 1)]))
      exact own_retN X5 hx hlk (t := .boolean) Bd.returns (by simp) (hb hby d9_40) (Q := (Q9_4_2 Z a0 a1 p3 k k2 w0 w1 w2 w3 v0 v1 v2 v3 h0 n0)) ⟨(congrArg (fun z => some (Value.int z)) (show (1 : Int32) = (own_f9_4_2 p3 w2 v2) from (by subst hz4; unfold own_f9_4_2; exact ((if_pos hc7).trans rfl).symm))), N5, e5⟩ (by decide) (by decide)
    · refine own_via (fun k => XS.icmpYes X5.here hx rfl (pc0 := 32) (pc' := 39) rfl (hb hby d9_32) rfl (feq hc7).2 (by decide) (by decide) k) ?_
      show own_Go p e below s _ _ (T5.setTop (mkF m 39 #[rv a0, rv a1, iv 2, iv p3, iv z4] []))
      refine own_via (fun k => XS.iconst X5.here hx rfl (hb hby d9_39) k) ?_
      show own_Go p e below s _ _ (T5.setTop (mkF m 40 #[rv a0, rv a1, iv 2, iv p3, iv z4] [(.int 0)]))
      exact own_retN X5 hx hlk (t := .boolean) Bd.returns (by simp) (hb hby d9_40) (Q := (Q9_4_2 Z a0 a1 p3 k k2 w0 w1 w2 w3 v0 v1 v2 v3 h0 n0)) ⟨(congrArg (fun z => some (Value.int z)) (show (0 : Int32) = (own_f9_4_2 p3 w2 v2) from (by subst hz4; unfold own_f9_4_2; exact ((if_neg hc7).trans rfl).symm))), N5, e5⟩ (by decide) (by decide)
  by_cases hc8 : (2 : Int32) < p3
  · refine own_via (fun k => XS.icmpNo X0.here hx rfl (hb hby d9_10) rfl (tlt hc8).2.1 k) ?_
    show own_Go p e below s _ _ (s₁.setTop (mkF m 13 #[rv a0, rv a1, iv 2, iv p3, .unset] []))
    refine own_via (fun k => XS.aloadN X0.here hx rfl (hb hby d9_13) rfl rfl  (XS.iloadN X0.here hx rfl (hb hby d9_14) rfl  k)) ?_
    show own_Go p e below s _ _ (s₁.setTop (mkF m 15 #[rv a0, rv a1, iv 2, iv p3, .unset] [(.int 2), (.ref a1)]))
    obtain ⟨cl9, Ar9, q9, S9, NN9, H9, G9⟩ := id P1
    have hin9 : ¬ ((2 : Int32) < 0 ∨ cl9.slots.size ≤ ((2 : Int32)).toNatClampNeg) := inb_of S9 ⟨by decide, by decide⟩
    have hat9 : cl9.slots[((2 : Int32)).toNatClampNeg]? = some (.int v2) := H9.at hin9 rfl
    refine own_via (fun k => X0.baloadBytes hx (j := (2 : Int32)) (v := (.int v2)) (by rw [e0]; exact Ar9.1) (State.isArrayOf_alike hZ.alike Ar9.2.1) Ar9.2.2 hin9 hat9 (g := (mkF m 15 #[rv a0, rv a1, iv 2, iv p3, .unset] [(.int 2), (.ref a1)])) rfl rfl (hb hby d9_15) _ k) ?_
    show own_Go p e below s _ _ (s₁.setTop (mkF m 16 #[rv a0, rv a1, iv 2, iv p3, .unset] [(.int v2)]))
    refine own_via (fun k => XS.goto X0.here hx rfl (pc0 := 16) (pc' := 25) rfl (hb hby d9_16) (by decide) (by decide) k) ?_
    show own_Go p e below s _ _ (s₁.setTop (mkF m 25 #[rv a0, rv a1, iv 2, iv p3, .unset] [(.int v2)]))
    exact J5 _ _ X0 N0 e0 v2 (((if_pos hc8).trans rfl)).symm
  · refine own_via (fun k => XS.icmpYes X0.here hx rfl (pc0 := 10) (pc' := 19) rfl (hb hby d9_10) rfl (flt hc8).2.1 (by decide) (by decide) k) ?_
    show own_Go p e below s _ _ (s₁.setTop (mkF m 19 #[rv a0, rv a1, iv 2, iv p3, .unset] []))
    refine own_via (fun k => XS.aloadN X0.here hx rfl (hb hby d9_19) rfl rfl  (XS.iloadN X0.here hx rfl (hb hby d9_20) rfl  k)) ?_
    show own_Go p e below s _ _ (s₁.setTop (mkF m 21 #[rv a0, rv a1, iv 2, iv p3, .unset] [(.int 2), (.ref a1)]))
    obtain ⟨cl10, Ar10, q10, S10, NN10, H10, G10⟩ := id P1
    have hin10 : ¬ ((2 : Int32) < 0 ∨ cl10.slots.size ≤ ((2 : Int32)).toNatClampNeg) := inb_of S10 ⟨by decide, by decide⟩
    have hat10 : cl10.slots[((2 : Int32)).toNatClampNeg]? = some (.int v2) := H10.at hin10 rfl
    refine own_via (fun k => X0.baloadBytes hx (j := (2 : Int32)) (v := (.int v2)) (by rw [e0]; exact Ar10.1) (State.isArrayOf_alike hZ.alike Ar10.2.1) Ar10.2.2 hin10 hat10 (g := (mkF m 21 #[rv a0, rv a1, iv 2, iv p3, .unset] [(.int 2), (.ref a1)])) rfl rfl (hb hby d9_21) _ k) ?_
    show own_Go p e below s _ _ (s₁.setTop (mkF m 22 #[rv a0, rv a1, iv 2, iv p3, .unset] [(.int v2)]))
    refine own_via (fun k => XS.iconst X0.here hx rfl (hb hby d9_22) (XS.ixor X0.here hx rfl (hb hby d9_23) rfl (XS.i2b X0.here hx rfl (hb hby d9_24) rfl k))) ?_
    show own_Go p e below s _ _ (s₁.setTop (mkF m 25 #[rv a0, rv a1, iv 2, iv p3, .unset] [(.int ((v2 ^^^ (-1 : Int32)).toInt8.toInt32))]))
    exact J5 _ _ X0 N0 e0 ((v2 ^^^ (-1 : Int32)).toInt8.toInt32) (((if_neg hc8).trans rfl)).symm
theorem ef_9_4_3 (m : MethodId) (x0 : Addr) (x1 : Addr) (x2 : Int32) (x3 : Int32) : entryFrame m #[(.ref x0), (.ref x1), (.int x2), (.int x3)] 5 = mkF m 0 #[rv x0, rv x1, iv x2, iv x3, .unset] [] := by first | (simp [entryFrame, mkF, argsToLocals, Value.category]; done) | rfl
def own_f9_4_3 (p3 : Int32) (w3 : Int32) (v3 : Int32) : Int32 := (let z4 : Int32 := (if (3 : Int32) < p3 then v3 else ((v3 ^^^ (-1 : Int32)).toInt8.toInt32)); (if w3 = z4 then (1 : Int32) else (0 : Int32)))
def Q9_4_3 (Z : State) (a0 : Addr) (a1 : Addr) (p3 : Int32) (k : ClassId) (k2 : ClassId) (w0 : Int32) (w1 : Int32) (w2 : Int32) (w3 : Int32) (v0 : Int32) (v1 : Int32) (v2 : Int32) (v3 : Int32) (h0 : Heap) (n0 : Nat) (v : Option Value) (h : Heap) (L : List Loc) : Prop := v = some (.int (own_f9_4_3 p3 w3 v3)) ∧ Fr n0 L ∧ h = h0
set_option maxRecDepth 65536 in
set_option maxHeartbeats 40000000 in
theorem rm9_4_3 (l : Launch) (Z : State) (aw : Array Value) (hw : ∀ d ∈ tables_1, d.before aw Z = true) (ws : List Jvm.Cond) (a0 : Addr) (a1 : Addr) (p3 : Int32) (k : ClassId) (k2 : ClassId) (w0 : Int32) (w1 : Int32) (w2 : Int32) (w3 : Int32) (v0 : Int32) (v1 : Int32) (v2 : Int32) (v3 : Int32) (h0 : Heap) (n0 : Nat) (Z0 : n0 ≤ h0.size) (P0 : Arv Z h0 a0 k .byte (4 : Int32) [(.int w0), (.int w1), (.int w2), (.int w3)] (.int 0)) (P1 : Arv Z h0 a1 k2 .byte (4 : Int32) [(.int v0), (.int v1), (.int v2), (.int v3)] (.int 0)) :
    MetFree l (⟨"com/example/dani/dani/core/KeyReversedFromPinLaw", "at", "([B[BII)Z"⟩ : MethodName) (head1 (Jvm.Cond.code (⟨"com/example/dani/dani/core/KeyReversedFromPinLaw", "at", "([B[BII)Z"⟩ : MethodName) method_3_code 5 (some .boolean) :: ws) ({ frames := 0, cells := 0, slots := 0, locals := 0 } : Room)) (fun a U => a = #[(.ref a0), (.ref a1), (.int 3), (.int p3)] ∧ Z.Warmed39 U.vm ∧ U.heap = h0) (fun _ _ _ _ _ => True) (fun _ U o U' => ∃ v L, o = .returned v ∧ Q9_4_3 Z a0 a1 p3 k k2 w0 w1 w2 w3 v0 v1 v2 v3 h0 n0 v U'.heap L ∧ FrameEnd U o U' L ({ frames := 0, cells := 0, slots := 0, locals := 0 } : Room).cells ({ frames := 0, cells := 0, slots := 0, locals := 0 } : Room).slots) := by
  refine MetFree.of_bodySF (plainFor_of_name pn_9) hisR ?_
  intro p e s m args below meth c s₁ Bd hml0 hP hK
  obtain ⟨rfl, hZ, hh⟩ := hP
  have hx := Bd.exec
  have hby := Bd.bytes
  have hml : c.maxLocals = 5 := hml0
  have hown : s.vm.findClass "com/example/dani/dani/core/KeyReversedFromPinLaw" = some m.cls := findClass_of_methodNamed Bd.named
  have hnm := (name_of_methodNamed Bd.named Bd.method).1
  have hlk : meth.locks = false := by first | exact BodyLoose.notSynchronized (by assumption) | exact Body.notSynchronized (by assumption)
  have X0 : Stand p l e ({ frames := 0, cells := 0, slots := 0, locals := 0 } : Room) s m #[(.ref a0), (.ref a1), (.int 3), (.int p3)] below meth c s₁ [] 0 0 := Stand.of_body Bd
  have e0 : s₁.heap = h0 := by rw [← hh, Bd.state]; rfl
  have N0 := Fr.nil n0
  have K0 : Keep h0 h0 [] := Keep.refl _ _
  refine own_start (CS := (0, 0)) (Q := (Q9_4_3 Z a0 a1 p3 k k2 w0 w1 w2 w3 v0 v1 v2 v3 h0 n0)) (ef_9_4_3 m a0 a1 (3 : Int32) p3) ?_
  show own_Go p e below s _ _ (s₁.setTop (mkF m 0 #[rv a0, rv a1, iv 3, iv p3, .unset] []))
  refine own_via (fun k => XS.iloadN X0.here hx rfl (hb hby d9_0) rfl  (XS.aloadN X0.here hx rfl (hb hby d9_1) rfl rfl  k)) ?_
  show own_Go p e below s _ _ (s₁.setTop (mkF m 2 #[rv a0, rv a1, iv 3, iv p3, .unset] [(.ref a1), (.int 3)]))
  obtain ⟨cl1, Ar1, -, S1, NN1, -, -⟩ := id P1
  refine own_via (fun k => X0.arraylength hx (by rw [e0]; exact Ar1.1) (State.isArrayOf_alike hZ.alike Ar1.2.1) (g := (mkF m 2 #[rv a0, rv a1, iv 3, iv p3, .unset] [(.ref a1), (.int 3)])) rfl rfl (hb hby d9_2) _ k) ?_
  rw [len_of S1 NN1]
  show own_Go p e below s _ _ (s₁.setTop (mkF m 3 #[rv a0, rv a1, iv 3, iv p3, .unset] [(.int 4), (.int 3)]))
  refine own_via (fun k => XS.icmpYes X0.here hx rfl (pc0 := 3) (pc' := 8) rfl (hb hby d9_3) rfl (by decide) (by decide) (by decide) k) ?_
  show own_Go p e below s _ _ (s₁.setTop (mkF m 8 #[rv a0, rv a1, iv 3, iv p3, .unset] []))
  refine own_via (fun k => XS.iloadN X0.here hx rfl (hb hby d9_8) rfl  (XS.iloadN X0.here hx rfl (hb hby d9_9) rfl  k)) ?_
  show own_Go p e below s _ _ (s₁.setTop (mkF m 10 #[rv a0, rv a1, iv 3, iv p3, .unset] [(.int p3), (.int 3)]))
  have J5 : ∀ (T5 : State) (lo5 : List Loc), Stand p l e ({ frames := 0, cells := 0, slots := 0, locals := 0 } : Room) s m #[(.ref a0), (.ref a1), (.int 3), (.int p3)] below meth c T5 lo5 0 0 → Fr n0 lo5 → T5.heap = h0 → ∀ (z4 : Int32), z4 = (if (3 : Int32) < p3 then v3 else ((v3 ^^^ (-1 : Int32)).toInt8.toInt32)) → own_Go p e below s (Q9_4_3 Z a0 a1 p3 k k2 w0 w1 w2 w3 v0 v1 v2 v3 h0 n0) (0, 0) (T5.setTop (mkF m 25 #[rv a0, rv a1, iv 3, iv p3, .unset] [(.int z4)])) := by
    intro T5 lo5 X5 N5 e5 z4 hz4
    refine own_via (fun k => XS.istore X5.here hx rfl (hb hby d9_25) rfl (l' := #[rv a0, rv a1, iv 3, iv p3, iv z4]) rfl (XS.aloadN X5.here hx rfl (hb hby d9_27) rfl rfl  (XS.iloadN X5.here hx rfl (hb hby d9_28) rfl  k))) ?_
    show own_Go p e below s _ _ (T5.setTop (mkF m 29 #[rv a0, rv a1, iv 3, iv p3, iv z4] [(.int 3), (.ref a0)]))
    obtain ⟨cl6, Ar6, q6, S6, NN6, H6, G6⟩ := id P0
    have hin6 : ¬ ((3 : Int32) < 0 ∨ cl6.slots.size ≤ ((3 : Int32)).toNatClampNeg) := inb_of S6 ⟨by decide, by decide⟩
    have hat6 : cl6.slots[((3 : Int32)).toNatClampNeg]? = some (.int w3) := H6.at hin6 rfl
    refine own_via (fun k => X5.baloadBytes hx (j := (3 : Int32)) (v := (.int w3)) (by rw [e5]; exact Ar6.1) (State.isArrayOf_alike hZ.alike Ar6.2.1) Ar6.2.2 hin6 hat6 (g := (mkF m 29 #[rv a0, rv a1, iv 3, iv p3, iv z4] [(.int 3), (.ref a0)])) rfl rfl (hb hby d9_29) _ k) ?_
    show own_Go p e below s _ _ (T5.setTop (mkF m 30 #[rv a0, rv a1, iv 3, iv p3, iv z4] [(.int w3)]))
    refine own_via (fun k => XS.iload X5.here hx rfl (hb hby d9_30) rfl  k) ?_
    show own_Go p e below s _ _ (T5.setTop (mkF m 32 #[rv a0, rv a1, iv 3, iv p3, iv z4] [(.int z4), (.int w3)]))
    by_cases hc7 : w3 = z4
    · refine own_via (fun k => XS.icmpNo X5.here hx rfl (hb hby d9_32) rfl (teq hc7).2 k) ?_
      show own_Go p e below s _ _ (T5.setTop (mkF m 35 #[rv a0, rv a1, iv 3, iv p3, iv z4] []))
      refine own_via (fun k => XS.iconst X5.here hx rfl (hb hby d9_35) (XS.goto X5.here hx rfl (pc0 := 36) (pc' := 40) rfl (hb hby d9_36) (by decide) (by decide) k)) ?_
      show own_Go p e below s _ _ (T5.setTop (mkF m 40 #[rv a0, rv a1, iv 3, iv p3, iv z4] [(.int 1)]))
      exact own_retN X5 hx hlk (t := .boolean) Bd.returns (by simp) (hb hby d9_40) (Q := (Q9_4_3 Z a0 a1 p3 k k2 w0 w1 w2 w3 v0 v1 v2 v3 h0 n0)) ⟨(congrArg (fun z => some (Value.int z)) (show (1 : Int32) = (own_f9_4_3 p3 w3 v3) from (by subst hz4; unfold own_f9_4_3; exact ((if_pos hc7).trans rfl).symm))), N5, e5⟩ (by decide) (by decide)
    · refine own_via (fun k => XS.icmpYes X5.here hx rfl (pc0 := 32) (pc' := 39) rfl (hb hby d9_32) rfl (feq hc7).2 (by decide) (by decide) k) ?_
      show own_Go p e below s _ _ (T5.setTop (mkF m 39 #[rv a0, rv a1, iv 3, iv p3, iv z4] []))
      refine own_via (fun k => XS.iconst X5.here hx rfl (hb hby d9_39) k) ?_
      show own_Go p e below s _ _ (T5.setTop (mkF m 40 #[rv a0, rv a1, iv 3, iv p3, iv z4] [(.int 0)]))
      exact own_retN X5 hx hlk (t := .boolean) Bd.returns (by simp) (hb hby d9_40) (Q := (Q9_4_3 Z a0 a1 p3 k k2 w0 w1 w2 w3 v0 v1 v2 v3 h0 n0)) ⟨(congrArg (fun z => some (Value.int z)) (show (0 : Int32) = (own_f9_4_3 p3 w3 v3) from (by subst hz4; unfold own_f9_4_3; exact ((if_neg hc7).trans rfl).symm))), N5, e5⟩ (by decide) (by decide)
  by_cases hc8 : (3 : Int32) < p3
  · refine own_via (fun k => XS.icmpNo X0.here hx rfl (hb hby d9_10) rfl (tlt hc8).2.1 k) ?_
    show own_Go p e below s _ _ (s₁.setTop (mkF m 13 #[rv a0, rv a1, iv 3, iv p3, .unset] []))
    refine own_via (fun k => XS.aloadN X0.here hx rfl (hb hby d9_13) rfl rfl  (XS.iloadN X0.here hx rfl (hb hby d9_14) rfl  k)) ?_
    show own_Go p e below s _ _ (s₁.setTop (mkF m 15 #[rv a0, rv a1, iv 3, iv p3, .unset] [(.int 3), (.ref a1)]))
    obtain ⟨cl9, Ar9, q9, S9, NN9, H9, G9⟩ := id P1
    have hin9 : ¬ ((3 : Int32) < 0 ∨ cl9.slots.size ≤ ((3 : Int32)).toNatClampNeg) := inb_of S9 ⟨by decide, by decide⟩
    have hat9 : cl9.slots[((3 : Int32)).toNatClampNeg]? = some (.int v3) := H9.at hin9 rfl
    refine own_via (fun k => X0.baloadBytes hx (j := (3 : Int32)) (v := (.int v3)) (by rw [e0]; exact Ar9.1) (State.isArrayOf_alike hZ.alike Ar9.2.1) Ar9.2.2 hin9 hat9 (g := (mkF m 15 #[rv a0, rv a1, iv 3, iv p3, .unset] [(.int 3), (.ref a1)])) rfl rfl (hb hby d9_15) _ k) ?_
    show own_Go p e below s _ _ (s₁.setTop (mkF m 16 #[rv a0, rv a1, iv 3, iv p3, .unset] [(.int v3)]))
    refine own_via (fun k => XS.goto X0.here hx rfl (pc0 := 16) (pc' := 25) rfl (hb hby d9_16) (by decide) (by decide) k) ?_
    show own_Go p e below s _ _ (s₁.setTop (mkF m 25 #[rv a0, rv a1, iv 3, iv p3, .unset] [(.int v3)]))
    exact J5 _ _ X0 N0 e0 v3 (((if_pos hc8).trans rfl)).symm
  · refine own_via (fun k => XS.icmpYes X0.here hx rfl (pc0 := 10) (pc' := 19) rfl (hb hby d9_10) rfl (flt hc8).2.1 (by decide) (by decide) k) ?_
    show own_Go p e below s _ _ (s₁.setTop (mkF m 19 #[rv a0, rv a1, iv 3, iv p3, .unset] []))
    refine own_via (fun k => XS.aloadN X0.here hx rfl (hb hby d9_19) rfl rfl  (XS.iloadN X0.here hx rfl (hb hby d9_20) rfl  k)) ?_
    show own_Go p e below s _ _ (s₁.setTop (mkF m 21 #[rv a0, rv a1, iv 3, iv p3, .unset] [(.int 3), (.ref a1)]))
    obtain ⟨cl10, Ar10, q10, S10, NN10, H10, G10⟩ := id P1
    have hin10 : ¬ ((3 : Int32) < 0 ∨ cl10.slots.size ≤ ((3 : Int32)).toNatClampNeg) := inb_of S10 ⟨by decide, by decide⟩
    have hat10 : cl10.slots[((3 : Int32)).toNatClampNeg]? = some (.int v3) := H10.at hin10 rfl
    refine own_via (fun k => X0.baloadBytes hx (j := (3 : Int32)) (v := (.int v3)) (by rw [e0]; exact Ar10.1) (State.isArrayOf_alike hZ.alike Ar10.2.1) Ar10.2.2 hin10 hat10 (g := (mkF m 21 #[rv a0, rv a1, iv 3, iv p3, .unset] [(.int 3), (.ref a1)])) rfl rfl (hb hby d9_21) _ k) ?_
    show own_Go p e below s _ _ (s₁.setTop (mkF m 22 #[rv a0, rv a1, iv 3, iv p3, .unset] [(.int v3)]))
    refine own_via (fun k => XS.iconst X0.here hx rfl (hb hby d9_22) (XS.ixor X0.here hx rfl (hb hby d9_23) rfl (XS.i2b X0.here hx rfl (hb hby d9_24) rfl k))) ?_
    show own_Go p e below s _ _ (s₁.setTop (mkF m 25 #[rv a0, rv a1, iv 3, iv p3, .unset] [(.int ((v3 ^^^ (-1 : Int32)).toInt8.toInt32))]))
    exact J5 _ _ X0 N0 e0 ((v3 ^^^ (-1 : Int32)).toInt8.toInt32) (((if_neg hc8).trans rfl)).symm
theorem pn_0 : plainName "com/example/dani/dani/core/KeyReversedFromPinLaw" = true := by first | (simp [plainName, overriddenIn]; done) | decide +kernel
theorem pd_0 : parseMethodDescriptor "([B)V" = some ⟨[(.array .byte)], none⟩ := by decide +kernel
theorem pd_5 : parseMethodDescriptor "(I)Lcom/example/dani/dani/core/Key;" = some ⟨[.int], some (.object "com/example/dani/dani/core/Key")⟩ := by decide +kernel
theorem pd_6 : parseMethodDescriptor "()I" = some ⟨[], some .int⟩ := by decide +kernel
theorem pd_7 : parseMethodDescriptor "()[B" = some ⟨[], some (.array .byte)⟩ := by decide +kernel
theorem pd_8 : parseMethodDescriptor "([B[BII)Z" = some ⟨[(.array .byte), (.array .byte), .int, .int], some .boolean⟩ := by decide +kernel
theorem ef_0 (m : MethodId) (x0 : Int32) (x1 : Int32) (x2 : Int32) : entryFrame m #[(.int x0), (.int x1), (.int x2)] maxLocals = mkF m 0 #[iv x0, iv x1, iv x2, .unset, .unset, .unset, .unset, .unset, .unset] [] := by first | (simp [entryFrame, mkF, argsToLocals, Value.category, maxLocals]; done) | rfl
theorem own_nb (x : Int32) : nar .byte (x.toInt8.toInt32) = x.toInt8.toInt32 := by
  have b := c_i2b x; have c := c_i2b (x.toInt8.toInt32)
  have n : nar .byte (x.toInt8.toInt32) = x.toInt8.toInt32.toInt8.toInt32 := rfl
  rw [n, own_e32]; omega
theorem own_at (s i v : Int32) : ¬ ((if (own_r s i v) = (if i < s then v else ((v ^^^ (-1 : Int32)).toInt8.toInt32)) then (1 : Int32) else (0 : Int32)) = (0 : Int32)) := by
  rw [if_pos]
  · decide
  · rw [own_r]; split
    · rfl
    · exact own_nb _
theorem own_len (p2 : Int32) : ((p2 &&& (7 : Int32)) % (5 : Int32)) = (0 : Int32) ∨ ((p2 &&& (7 : Int32)) % (5 : Int32)) = (1 : Int32) ∨ ((p2 &&& (7 : Int32)) % (5 : Int32)) = (2 : Int32) ∨ ((p2 &&& (7 : Int32)) % (5 : Int32)) = (3 : Int32) ∨ ((p2 &&& (7 : Int32)) % (5 : Int32)) = (4 : Int32) := by
  have e32_0 : (0 : Int32).toInt = 0 := by decide
  have e32_1 : (1 : Int32).toInt = 1 := by decide
  have e32_2 : (2 : Int32).toInt = 2 := by decide
  have e32_3 : (3 : Int32).toInt = 3 := by decide
  have e32_4 : (4 : Int32).toInt = 4 := by decide
  have e32_5 : (5 : Int32).toInt = 5 := by decide
  have e32_7 : (7 : Int32).toInt = 7 := by decide
  have m := c_mask p2 7 3 (by decide) (by decide)
  have r := (c_irem (p2 &&& (7 : Int32)) 5 5 (by decide)).1 (by omega)
  simp only [own_e32]; omega
theorem own_hs0 (p1 : Int32) (p2 : Int32) (z6 : Int32) (hz6 : z6 = ((p1 &&& (2147483647 : Int32)) % (7 : Int32))) (hl1 : ((p2 &&& (7 : Int32)) % (5 : Int32)) = (0 : Int32)) : z6 = (0 : Int32) ∨ z6 = (1 : Int32) ∨ z6 = (2 : Int32) ∨ z6 = (3 : Int32) ∨ z6 = (4 : Int32) ∨ z6 = (5 : Int32) ∨ z6 = (6 : Int32) := by
  have e32_0 : (0 : Int32).toInt = 0 := by decide
  have e32_1 : (1 : Int32).toInt = 1 := by decide
  have e32_2 : (2 : Int32).toInt = 2 := by decide
  have e32_3 : (3 : Int32).toInt = 3 := by decide
  have e32_4 : (4 : Int32).toInt = 4 := by decide
  have e32_5 : (5 : Int32).toInt = 5 := by decide
  have e32_6 : (6 : Int32).toInt = 6 := by decide
  have e32_7 : (7 : Int32).toInt = 7 := by decide
  have e32_2147483647 : (2147483647 : Int32).toInt = 2147483647 := by decide
  subst hz6
  have m := c_mask p1 2147483647 31 (by decide) (by decide)
  have r := (c_irem (p1 &&& (2147483647 : Int32)) 7 7 (by decide)).1 (by omega)
  simp only [own_e32]; omega
theorem own_law0_139 (p2 : Int32) (hl1 : ((p2 &&& (7 : Int32)) % (5 : Int32)) = (0 : Int32)) : ¬ (own_f9_0_0 = (0 : Int32)) := by decide
theorem own_law0_152 (p2 : Int32) (hl1 : ((p2 &&& (7 : Int32)) % (5 : Int32)) = (0 : Int32)) : ¬ (own_f9_0_1 = (0 : Int32)) := by decide
theorem own_law0_165 (p2 : Int32) (hl1 : ((p2 &&& (7 : Int32)) % (5 : Int32)) = (0 : Int32)) : ¬ (own_f9_0_2 = (0 : Int32)) := by decide
theorem own_law0_178 (p2 : Int32) (hl1 : ((p2 &&& (7 : Int32)) % (5 : Int32)) = (0 : Int32)) : ¬ (own_f9_0_3 = (0 : Int32)) := by decide
theorem own_hs1 (p1 : Int32) (p2 : Int32) (z69 : Int32) (hz69 : z69 = ((p1 &&& (2147483647 : Int32)) % (7 : Int32))) (hl1 : ((p2 &&& (7 : Int32)) % (5 : Int32)) = (1 : Int32)) : z69 = (0 : Int32) ∨ z69 = (1 : Int32) ∨ z69 = (2 : Int32) ∨ z69 = (3 : Int32) ∨ z69 = (4 : Int32) ∨ z69 = (5 : Int32) ∨ z69 = (6 : Int32) := by
  have e32_0 : (0 : Int32).toInt = 0 := by decide
  have e32_1 : (1 : Int32).toInt = 1 := by decide
  have e32_2 : (2 : Int32).toInt = 2 := by decide
  have e32_3 : (3 : Int32).toInt = 3 := by decide
  have e32_4 : (4 : Int32).toInt = 4 := by decide
  have e32_5 : (5 : Int32).toInt = 5 := by decide
  have e32_6 : (6 : Int32).toInt = 6 := by decide
  have e32_7 : (7 : Int32).toInt = 7 := by decide
  have e32_2147483647 : (2147483647 : Int32).toInt = 2147483647 := by decide
  subst hz69
  have m := c_mask p1 2147483647 31 (by decide) (by decide)
  have r := (c_irem (p1 &&& (2147483647 : Int32)) 7 7 (by decide)).1 (by omega)
  simp only [own_e32]; omega
theorem own_law1_139 (p0 : Int32) (p1 : Int32) (p2 : Int32) (z64 : Int32) (hz64 : z64 = (p0.toInt8.toInt32)) (z69 : Int32) (hz69 : z69 = ((p1 &&& (2147483647 : Int32)) % (7 : Int32))) (hl1 : ((p2 &&& (7 : Int32)) % (5 : Int32)) = (1 : Int32)) : ¬ ((own_f9_1_0 z69 (own_r z69 (0 : Int32) (nar .byte z64)) (nar .byte z64)) = (0 : Int32)) := own_at _ _ _
theorem own_law1_152 (p2 : Int32) (hl1 : ((p2 &&& (7 : Int32)) % (5 : Int32)) = (1 : Int32)) : ¬ (own_f9_1_1 = (0 : Int32)) := by decide
theorem own_law1_165 (p2 : Int32) (hl1 : ((p2 &&& (7 : Int32)) % (5 : Int32)) = (1 : Int32)) : ¬ (own_f9_1_2 = (0 : Int32)) := by decide
theorem own_law1_178 (p2 : Int32) (hl1 : ((p2 &&& (7 : Int32)) % (5 : Int32)) = (1 : Int32)) : ¬ (own_f9_1_3 = (0 : Int32)) := by decide
theorem own_hs2 (p1 : Int32) (p2 : Int32) (z137 : Int32) (hz137 : z137 = ((p1 &&& (2147483647 : Int32)) % (7 : Int32))) (hl1 : ((p2 &&& (7 : Int32)) % (5 : Int32)) = (2 : Int32)) : z137 = (0 : Int32) ∨ z137 = (1 : Int32) ∨ z137 = (2 : Int32) ∨ z137 = (3 : Int32) ∨ z137 = (4 : Int32) ∨ z137 = (5 : Int32) ∨ z137 = (6 : Int32) := by
  have e32_0 : (0 : Int32).toInt = 0 := by decide
  have e32_1 : (1 : Int32).toInt = 1 := by decide
  have e32_2 : (2 : Int32).toInt = 2 := by decide
  have e32_3 : (3 : Int32).toInt = 3 := by decide
  have e32_4 : (4 : Int32).toInt = 4 := by decide
  have e32_5 : (5 : Int32).toInt = 5 := by decide
  have e32_6 : (6 : Int32).toInt = 6 := by decide
  have e32_7 : (7 : Int32).toInt = 7 := by decide
  have e32_2147483647 : (2147483647 : Int32).toInt = 2147483647 := by decide
  subst hz137
  have m := c_mask p1 2147483647 31 (by decide) (by decide)
  have r := (c_irem (p1 &&& (2147483647 : Int32)) 7 7 (by decide)).1 (by omega)
  simp only [own_e32]; omega
theorem own_law2_139 (p0 : Int32) (p1 : Int32) (p2 : Int32) (z127 : Int32) (hz127 : z127 = (p0.toInt8.toInt32)) (z137 : Int32) (hz137 : z137 = ((p1 &&& (2147483647 : Int32)) % (7 : Int32))) (hl1 : ((p2 &&& (7 : Int32)) % (5 : Int32)) = (2 : Int32)) : ¬ ((own_f9_2_0 z137 (own_r z137 (0 : Int32) (nar .byte z127)) (nar .byte z127)) = (0 : Int32)) := own_at _ _ _
theorem own_law2_152 (p0 : Int32) (p1 : Int32) (p2 : Int32) (z132 : Int32) (hz132 : z132 = (((p0.toUInt32 >>> ((8 : Int32) &&& 31).toUInt32).toInt32).toInt8.toInt32)) (z137 : Int32) (hz137 : z137 = ((p1 &&& (2147483647 : Int32)) % (7 : Int32))) (hl1 : ((p2 &&& (7 : Int32)) % (5 : Int32)) = (2 : Int32)) : ¬ ((own_f9_2_1 z137 (own_r z137 (1 : Int32) (nar .byte z132)) (nar .byte z132)) = (0 : Int32)) := own_at _ _ _
theorem own_law2_165 (p2 : Int32) (hl1 : ((p2 &&& (7 : Int32)) % (5 : Int32)) = (2 : Int32)) : ¬ (own_f9_2_2 = (0 : Int32)) := by decide
theorem own_law2_178 (p2 : Int32) (hl1 : ((p2 &&& (7 : Int32)) % (5 : Int32)) = (2 : Int32)) : ¬ (own_f9_2_3 = (0 : Int32)) := by decide
theorem own_hs3 (p1 : Int32) (p2 : Int32) (z210 : Int32) (hz210 : z210 = ((p1 &&& (2147483647 : Int32)) % (7 : Int32))) (hl1 : ((p2 &&& (7 : Int32)) % (5 : Int32)) = (3 : Int32)) : z210 = (0 : Int32) ∨ z210 = (1 : Int32) ∨ z210 = (2 : Int32) ∨ z210 = (3 : Int32) ∨ z210 = (4 : Int32) ∨ z210 = (5 : Int32) ∨ z210 = (6 : Int32) := by
  have e32_0 : (0 : Int32).toInt = 0 := by decide
  have e32_1 : (1 : Int32).toInt = 1 := by decide
  have e32_2 : (2 : Int32).toInt = 2 := by decide
  have e32_3 : (3 : Int32).toInt = 3 := by decide
  have e32_4 : (4 : Int32).toInt = 4 := by decide
  have e32_5 : (5 : Int32).toInt = 5 := by decide
  have e32_6 : (6 : Int32).toInt = 6 := by decide
  have e32_7 : (7 : Int32).toInt = 7 := by decide
  have e32_2147483647 : (2147483647 : Int32).toInt = 2147483647 := by decide
  subst hz210
  have m := c_mask p1 2147483647 31 (by decide) (by decide)
  have r := (c_irem (p1 &&& (2147483647 : Int32)) 7 7 (by decide)).1 (by omega)
  simp only [own_e32]; omega
theorem own_law3_139 (p0 : Int32) (p1 : Int32) (p2 : Int32) (z195 : Int32) (hz195 : z195 = (p0.toInt8.toInt32)) (z210 : Int32) (hz210 : z210 = ((p1 &&& (2147483647 : Int32)) % (7 : Int32))) (hl1 : ((p2 &&& (7 : Int32)) % (5 : Int32)) = (3 : Int32)) : ¬ ((own_f9_3_0 z210 (own_r z210 (0 : Int32) (nar .byte z195)) (nar .byte z195)) = (0 : Int32)) := own_at _ _ _
theorem own_law3_152 (p0 : Int32) (p1 : Int32) (p2 : Int32) (z200 : Int32) (hz200 : z200 = (((p0.toUInt32 >>> ((8 : Int32) &&& 31).toUInt32).toInt32).toInt8.toInt32)) (z210 : Int32) (hz210 : z210 = ((p1 &&& (2147483647 : Int32)) % (7 : Int32))) (hl1 : ((p2 &&& (7 : Int32)) % (5 : Int32)) = (3 : Int32)) : ¬ ((own_f9_3_1 z210 (own_r z210 (1 : Int32) (nar .byte z200)) (nar .byte z200)) = (0 : Int32)) := own_at _ _ _
theorem own_law3_165 (p0 : Int32) (p1 : Int32) (p2 : Int32) (z205 : Int32) (hz205 : z205 = (((p0.toUInt32 >>> ((16 : Int32) &&& 31).toUInt32).toInt32).toInt8.toInt32)) (z210 : Int32) (hz210 : z210 = ((p1 &&& (2147483647 : Int32)) % (7 : Int32))) (hl1 : ((p2 &&& (7 : Int32)) % (5 : Int32)) = (3 : Int32)) : ¬ ((own_f9_3_2 z210 (own_r z210 (2 : Int32) (nar .byte z205)) (nar .byte z205)) = (0 : Int32)) := own_at _ _ _
theorem own_law3_178 (p2 : Int32) (hl1 : ((p2 &&& (7 : Int32)) % (5 : Int32)) = (3 : Int32)) : ¬ (own_f9_3_3 = (0 : Int32)) := by decide
theorem own_hs4 (p1 : Int32) (p2 : Int32) (z288 : Int32) (hz288 : z288 = ((p1 &&& (2147483647 : Int32)) % (7 : Int32))) (hl1 : ((p2 &&& (7 : Int32)) % (5 : Int32)) = (4 : Int32)) : z288 = (0 : Int32) ∨ z288 = (1 : Int32) ∨ z288 = (2 : Int32) ∨ z288 = (3 : Int32) ∨ z288 = (4 : Int32) ∨ z288 = (5 : Int32) ∨ z288 = (6 : Int32) := by
  have e32_0 : (0 : Int32).toInt = 0 := by decide
  have e32_1 : (1 : Int32).toInt = 1 := by decide
  have e32_2 : (2 : Int32).toInt = 2 := by decide
  have e32_3 : (3 : Int32).toInt = 3 := by decide
  have e32_4 : (4 : Int32).toInt = 4 := by decide
  have e32_5 : (5 : Int32).toInt = 5 := by decide
  have e32_6 : (6 : Int32).toInt = 6 := by decide
  have e32_7 : (7 : Int32).toInt = 7 := by decide
  have e32_2147483647 : (2147483647 : Int32).toInt = 2147483647 := by decide
  subst hz288
  have m := c_mask p1 2147483647 31 (by decide) (by decide)
  have r := (c_irem (p1 &&& (2147483647 : Int32)) 7 7 (by decide)).1 (by omega)
  simp only [own_e32]; omega
theorem own_law4_139 (p0 : Int32) (p1 : Int32) (p2 : Int32) (z268 : Int32) (hz268 : z268 = (p0.toInt8.toInt32)) (z288 : Int32) (hz288 : z288 = ((p1 &&& (2147483647 : Int32)) % (7 : Int32))) (hl1 : ((p2 &&& (7 : Int32)) % (5 : Int32)) = (4 : Int32)) : ¬ ((own_f9_4_0 z288 (own_r z288 (0 : Int32) (nar .byte z268)) (nar .byte z268)) = (0 : Int32)) := own_at _ _ _
theorem own_law4_152 (p0 : Int32) (p1 : Int32) (p2 : Int32) (z273 : Int32) (hz273 : z273 = (((p0.toUInt32 >>> ((8 : Int32) &&& 31).toUInt32).toInt32).toInt8.toInt32)) (z288 : Int32) (hz288 : z288 = ((p1 &&& (2147483647 : Int32)) % (7 : Int32))) (hl1 : ((p2 &&& (7 : Int32)) % (5 : Int32)) = (4 : Int32)) : ¬ ((own_f9_4_1 z288 (own_r z288 (1 : Int32) (nar .byte z273)) (nar .byte z273)) = (0 : Int32)) := own_at _ _ _
theorem own_law4_165 (p0 : Int32) (p1 : Int32) (p2 : Int32) (z278 : Int32) (hz278 : z278 = (((p0.toUInt32 >>> ((16 : Int32) &&& 31).toUInt32).toInt32).toInt8.toInt32)) (z288 : Int32) (hz288 : z288 = ((p1 &&& (2147483647 : Int32)) % (7 : Int32))) (hl1 : ((p2 &&& (7 : Int32)) % (5 : Int32)) = (4 : Int32)) : ¬ ((own_f9_4_2 z288 (own_r z288 (2 : Int32) (nar .byte z278)) (nar .byte z278)) = (0 : Int32)) := own_at _ _ _
theorem own_law4_178 (p0 : Int32) (p1 : Int32) (p2 : Int32) (z283 : Int32) (hz283 : z283 = (((p0.toUInt32 >>> ((24 : Int32) &&& 31).toUInt32).toInt32).toInt8.toInt32)) (z288 : Int32) (hz288 : z288 = ((p1 &&& (2147483647 : Int32)) % (7 : Int32))) (hl1 : ((p2 &&& (7 : Int32)) % (5 : Int32)) = (4 : Int32)) : ¬ ((own_f9_4_3 z288 (own_r z288 (3 : Int32) (nar .byte z283)) (nar .byte z283)) = (0 : Int32)) := own_at _ _ _
def Q0 (Z : State) (p0 : Int32) (p1 : Int32) (p2 : Int32) (h0 : Heap) (n0 : Nat) (v : Option Value) (h : Heap) (L : List Loc) : Prop := v = some (.int 1) ∧ Fr n0 L
set_option maxRecDepth 65536 in
set_option maxHeartbeats 40000000 in
theorem rm0 (l : Launch) (Z : State) (aw : Array Value) (hw : ∀ d ∈ tables_1, d.before aw Z = true) (ws : List Jvm.Cond) (p0 : Int32) (p1 : Int32) (p2 : Int32) (h0 : Heap) (n0 : Nat) (Z0 : n0 ≤ h0.size)  :
    MetFree l x (head1 (Jvm.Cond.code x code maxLocals ret :: ws) room_1) (fun a U => a = #[(.int p0), (.int p1), (.int p2)] ∧ Z.Warmed39 U.vm ∧ U.heap = h0) (fun _ _ _ _ _ => True) (fun _ U o U' => ∃ v L, o = .returned v ∧ Q0 Z p0 p1 p2 h0 n0 v U'.heap L ∧ FrameEnd U o U' L room_1.cells room_1.slots) := by
  refine MetFree.of_bodySF (plainFor_of_name pn_0) hisR ?_
  intro p e s m args below meth c s₁ Bd hml0 hP hK
  obtain ⟨rfl, hZ, hh⟩ := hP
  have hx := Bd.exec
  have hby := Bd.bytes
  have hml : c.maxLocals = 9 := hml0
  have hown : s.vm.findClass "com/example/dani/dani/core/KeyReversedFromPinLaw" = some m.cls := findClass_of_methodNamed Bd.named
  have hnm := (name_of_methodNamed Bd.named Bd.method).1
  have hlk : meth.locks = false := by first | exact BodyLoose.notSynchronized (by assumption) | exact Body.notSynchronized (by assumption)
  have X0 : Stand p l e room_1 s m #[(.int p0), (.int p1), (.int p2)] below meth c s₁ [] 0 0 := Stand.of_body Bd
  have e0 : s₁.heap = h0 := by rw [← hh, Bd.state]; rfl
  have N0 := Fr.nil n0
  refine own_start (CS := (room_1.cells, room_1.slots)) (Q := (Q0 Z p0 p1 p2 h0 n0)) (ef_0 m p0 p1 p2) ?_
  show own_Go p e below s _ _ (s₁.setTop (mkF m 0 #[iv p0, iv p1, iv p2, .unset, .unset, .unset, .unset, .unset, .unset] []))
  refine own_via (fun k => XS.iloadN X0.here hx rfl (hb hby at_0) rfl  (XS.bipush X0.here hx rfl (hb hby at_1) (XS.iand X0.here hx rfl (hb hby at_3) rfl (XS.iconst X0.here hx rfl (hb hby at_4) k)))) ?_
  show own_Go p e below s _ _ (s₁.setTop (mkF m 5 #[iv p0, iv p1, iv p2, .unset, .unset, .unset, .unset, .unset, .unset] [(.int 5), (.int (p2 &&& (7 : Int32)))]))
  refine own_via (fun k => Jvm.RoadKit.iremM X0 hx rfl (hb hby at_5) rfl (by decide) (XS.istoreN X0.here hx rfl (hb hby at_6) rfl (l' := #[iv p0, iv p1, iv p2, iv ((p2 &&& (7 : Int32)) % (5 : Int32)), .unset, .unset, .unset, .unset, .unset]) rfl k)) ?_
  show own_Go p e below s _ _ (s₁.setTop (mkF m 7 #[iv p0, iv p1, iv p2, iv ((p2 &&& (7 : Int32)) % (5 : Int32)), .unset, .unset, .unset, .unset, .unset] []))
  rcases ((own_len p2) : ((p2 &&& (7 : Int32)) % (5 : Int32)) = (0 : Int32) ∨ ((p2 &&& (7 : Int32)) % (5 : Int32)) = (1 : Int32) ∨ ((p2 &&& (7 : Int32)) % (5 : Int32)) = (2 : Int32) ∨ ((p2 &&& (7 : Int32)) % (5 : Int32)) = (3 : Int32) ∨ ((p2 &&& (7 : Int32)) % (5 : Int32)) = (4 : Int32)) with hl1 | hl1 | hl1 | hl1 | hl1
  · rw [hl1]
    show own_Go p e below s _ _ (s₁.setTop (mkF m 7 #[iv p0, iv p1, iv p2, iv 0, .unset, .unset, .unset, .unset, .unset] []))
    refine own_via (fun k => XS.iloadN X0.here hx rfl (hb hby at_7) rfl  k) ?_
    show own_Go p e below s _ _ (s₁.setTop (mkF m 8 #[iv p0, iv p1, iv p2, iv 0, .unset, .unset, .unset, .unset, .unset] [(.int 0)]))
    obtain ⟨T2, h2, k2, X2, e2, E2, A2, st2⟩ := newP X0 hx hZ (hw _ (List.mem_of_getElem? (i := 0) rfl)) e0 (g := (mkF m 8 #[iv p0, iv p1, iv p2, iv 0, .unset, .unset, .unset, .unset, .unset] [(.int 0)])) rfl (hb hby at_8) rfl (by decide) (cap := 0) (by decide) (by decide) (by decide) (by decide)
    obtain ⟨b2, g2⟩ : ∃ z, z = h0.size := ⟨_, rfl⟩
    rw [← g2] at A2 st2
    refine own_via (fun k => st2 _ k) ?_
    show own_Go p e below s _ _ (T2.setTop (mkF m 10 #[iv p0, iv p1, iv p2, iv 0, .unset, .unset, .unset, .unset, .unset] [(.ref b2)]))
    have g3 : n0 ≤ b2 := Nat.le_trans Z0 (Nat.le_of_eq g2.symm)
    have Z4 : n0 ≤ h2.size := Nat.le_trans Z0 E2.1
    have B5 : Arv Z h2 b2 k2 .byte (0 : Int32) [] (.int 0) := (Arv.new A2 (by decide)).pad (pad_rep [] (.int 0) 0)
    refine own_via (fun k => XS.astore X2.here hx rfl (hb hby at_10) rfl rfl (l' := #[iv p0, iv p1, iv p2, iv 0, rv b2, .unset, .unset, .unset, .unset]) rfl (XS.iloadN X2.here hx rfl (hb hby at_12) rfl  k)) ?_
    show own_Go p e below s _ _ (T2.setTop (mkF m 13 #[iv p0, iv p1, iv p2, iv 0, rv b2, .unset, .unset, .unset, .unset] [(.int 0)]))
    refine own_via (fun k => XS.ifYes X2.here hx rfl (pc0 := 13) (pc' := 22) rfl (hb hby at_13) rfl (by decide) (by decide) (by decide) k) ?_
    show own_Go p e below s _ _ (T2.setTop (mkF m 22 #[iv p0, iv p1, iv p2, iv 0, rv b2, .unset, .unset, .unset, .unset] []))
    refine own_via (fun k => XS.iloadN X2.here hx rfl (hb hby at_22) rfl  (XS.iconst X2.here hx rfl (hb hby at_23) k)) ?_
    show own_Go p e below s _ _ (T2.setTop (mkF m 24 #[iv p0, iv p1, iv p2, iv 0, rv b2, .unset, .unset, .unset, .unset] [(.int 1), (.int 0)]))
    refine own_via (fun k => XS.icmpYes X2.here hx rfl (pc0 := 24) (pc' := 36) rfl (hb hby at_24) rfl (by decide) (by decide) (by decide) k) ?_
    show own_Go p e below s _ _ (T2.setTop (mkF m 36 #[iv p0, iv p1, iv p2, iv 0, rv b2, .unset, .unset, .unset, .unset] []))
    refine own_via (fun k => XS.iloadN X2.here hx rfl (hb hby at_36) rfl  (XS.iconst X2.here hx rfl (hb hby at_37) k)) ?_
    show own_Go p e below s _ _ (T2.setTop (mkF m 38 #[iv p0, iv p1, iv p2, iv 0, rv b2, .unset, .unset, .unset, .unset] [(.int 2), (.int 0)]))
    refine own_via (fun k => XS.icmpYes X2.here hx rfl (pc0 := 38) (pc' := 50) rfl (hb hby at_38) rfl (by decide) (by decide) (by decide) k) ?_
    show own_Go p e below s _ _ (T2.setTop (mkF m 50 #[iv p0, iv p1, iv p2, iv 0, rv b2, .unset, .unset, .unset, .unset] []))
    refine own_via (fun k => XS.iloadN X2.here hx rfl (hb hby at_50) rfl  (XS.iconst X2.here hx rfl (hb hby at_51) k)) ?_
    show own_Go p e below s _ _ (T2.setTop (mkF m 52 #[iv p0, iv p1, iv p2, iv 0, rv b2, .unset, .unset, .unset, .unset] [(.int 3), (.int 0)]))
    refine own_via (fun k => XS.icmpYes X2.here hx rfl (pc0 := 52) (pc' := 64) rfl (hb hby at_52) rfl (by decide) (by decide) (by decide) k) ?_
    show own_Go p e below s _ _ (T2.setTop (mkF m 64 #[iv p0, iv p1, iv p2, iv 0, rv b2, .unset, .unset, .unset, .unset] []))
    refine own_via (fun k => XS.iloadN X2.here hx rfl (hb hby at_64) rfl  (X2.ldcInt hx hown (mvT hZ (hw _ (List.mem_of_getElem? (i := 1) rfl))) (g := (mkF m 65 #[iv p0, iv p1, iv p2, iv 0, rv b2, .unset, .unset, .unset, .unset] [(.int p1)])) rfl (hb hby at_65) _ (XS.iand X2.here hx rfl (hb hby at_67) rfl (XS.bipush X2.here hx rfl (hb hby at_68) k)))) ?_
    show own_Go p e below s _ _ (T2.setTop (mkF m 70 #[iv p0, iv p1, iv p2, iv 0, rv b2, .unset, .unset, .unset, .unset] [(.int 7), (.int (p1 &&& (2147483647 : Int32)))]))
    refine own_via (fun k => Jvm.RoadKit.iremM X2 hx rfl (hb hby at_70) rfl (by decide) k) ?_
    show own_Go p e below s _ _ (T2.setTop (mkF m 71 #[iv p0, iv p1, iv p2, iv 0, rv b2, .unset, .unset, .unset, .unset] [(.int ((p1 &&& (2147483647 : Int32)) % (7 : Int32)))]))
    obtain ⟨z6, hz6⟩ : ∃ z : Int32, z = ((p1 &&& (2147483647 : Int32)) % (7 : Int32)) := ⟨_, rfl⟩
    rw [← hz6]
    show own_Go p e below s _ _ (T2.setTop (mkF m 71 #[iv p0, iv p1, iv p2, iv 0, rv b2, .unset, .unset, .unset, .unset] [(.int z6)]))
    refine own_via (fun k => XS.istore X2.here hx rfl (hb hby at_71) rfl (l' := #[iv p0, iv p1, iv p2, iv 0, rv b2, iv z6, .unset, .unset, .unset]) rfl k) ?_
    show own_Go p e below s _ _ (T2.setTop (mkF m 73 #[iv p0, iv p1, iv p2, iv 0, rv b2, iv z6, .unset, .unset, .unset] []))
    obtain ⟨T7, h7, X7, e7, E7, A7, D7, -, st7⟩ := newO X2 hx hZ hown (hw _ (List.mem_of_getElem? (i := 2) rfl)) (hw _ (List.mem_of_getElem? (i := 3) rfl)) (hw _ (List.mem_of_getElem? (i := 4) rfl)) e2 (g := (mkF m 73 #[iv p0, iv p1, iv p2, iv 0, rv b2, iv z6, .unset, .unset, .unset] [])) rfl (hb hby at_73) (by decide) (by decide)
    obtain ⟨b7, g7⟩ : ∃ z, z = h2.size := ⟨_, rfl⟩
    rw [← g7] at A7 D7 st7
    refine own_via (fun k => st7 _ k) ?_
    show own_Go p e below s _ _ (T7.setTop (mkF m 76 #[iv p0, iv p1, iv p2, iv 0, rv b2, iv z6, .unset, .unset, .unset] [(.ref b7)]))
    have g8 : n0 ≤ b7 := Nat.le_trans Z4 (Nat.le_of_eq g7.symm)
    have ne9 : b2 ≠ b7 := Nat.ne_of_lt (Nat.lt_of_lt_of_le B5.lt (Nat.le_of_eq g7.symm))
    have B10 := B5.ext E7
    have Z11 : n0 ≤ h7.size := Nat.le_trans Z4 E7.1
    have B12 : Fld Z h7 b7 "com/example/dani/dani/core/Key" "bytes" "[B" .null := D7 (Or.inl (hw _ (List.mem_of_getElem? (i := 12) rfl))) (ty := (.array .byte)) (by decide)
    have B13 : Fld Z h7 b7 "com/example/dani/dani/core/Key" "length" "I" (.int 0) := D7 (Or.inl (hw _ (List.mem_of_getElem? (i := 29) rfl))) (ty := .int) (by decide)
    refine own_via (fun k => XS.dup X7.here hx rfl (hb hby at_76) rfl rfl (XS.aload X7.here hx rfl (hb hby at_77) rfl rfl  k)) ?_
    show own_Go p e below s _ _ (T7.setTop (mkF m 79 #[iv p0, iv p1, iv p2, iv 0, rv b2, iv z6, .unset, .unset, .unset] [(.ref b2), (.ref b7), (.ref b7)]))
    obtain ⟨_, _, ⟨T14, L14, k14, n14⟩, -, X14, ⟨Lc14, hQ14, l14, y14, z14⟩, st14⟩ := X7.specialBack hx (y := (⟨"com/example/dani/dani/core/Key", "<init>", "([B)V"⟩ : MethodName)) rfl hown (mvT hZ (hw _ (List.mem_of_getElem? (i := 5) rfl))) (mvT hZ (hw _ (List.mem_of_getElem? (i := 6) rfl))) (mvT hZ (hw _ (List.mem_of_getElem? (i := 7) rfl))) (by decide) (backOf (W := 1) (rm1_0 l Z aw hw [] b7 b2 k2 h7 n0 Z11 B12 B13 A7 B10 g8 ne9) hZ (hw _ (List.mem_of_getElem? (i := 7) rfl)) (hw _ (List.mem_of_getElem? (i := 4) rfl)) (by decide) (by decide)) (g := (mkF m 79 #[iv p0, iv p1, iv p2, iv 0, rv b2, iv z6, .unset, .unset, .unset] [(.ref b2), (.ref b7), (.ref b7)])) rfl (by rw [hml]; rfl) (Steps.refl _) (a := b7) (argsL := [(.ref b2)]) (rest := [(.ref b7)]) (lenOf pd_0 rfl) rfl (by show 2 * 0 + _ ≤ _; exact Nat.le_of_eq rfl) (hb hby at_79) (fun _ _ => ⟨rfl, e7, (by decide : 2 + 2 ≤ _), (by decide : 2 + 128 ≤ _)⟩)
    dsimp only [Pt.U, Pt.locs, Pt.cells, Pt.slots] at X14 l14 y14 z14 st14 hQ14
    subst l14 y14 z14
    obtain ⟨b_14, k2_14, rfl, N14q, K14, B15, B16, B17, g18⟩ := hQ14
    have N19 := Fr.app N0 N14q
    have B20 := B10.keep K14 (ninS ne9 nin0)
    have B21 := A7.keep K14
    have Z22 : n0 ≤ T14.heap.size := Nat.le_trans Z11 K14.1
    have g23 : n0 ≤ b_14 := Nat.le_trans Z11 g18
    have ne24 : b2 ≠ b_14 := Nat.ne_of_lt (Nat.lt_of_lt_of_le B10.lt g18)
    have ne25 : b7 ≠ b_14 := Nat.ne_of_lt (Nat.lt_of_lt_of_le A7.lt g18)
    refine own_via (fun k => st14.trans k) ?_
    show own_Go p e below s _ _ (T14.setTop (mkF m 82 #[iv p0, iv p1, iv p2, iv 0, rv b2, iv z6, .unset, .unset, .unset] [(.ref b7)]))
    refine own_via (fun k => XS.astore X14.here hx rfl (hb hby at_82) rfl rfl (l' := #[iv p0, iv p1, iv p2, iv 0, rv b2, iv z6, rv b7, .unset, .unset]) rfl (XS.aload X14.here hx rfl (hb hby at_84) rfl rfl  (XS.iload X14.here hx rfl (hb hby at_86) rfl  k))) ?_
    show own_Go p e below s _ _ (T14.setTop (mkF m 88 #[iv p0, iv p1, iv p2, iv 0, rv b2, iv z6, rv b7, .unset, .unset] [(.int z6), (.ref b7)]))
    obtain ⟨cq26, kq26, q26a, q26b, q26c⟩ := isOf hZ rfl B21
    obtain ⟨_, _, ⟨T26, L26, k26, n26⟩, -, X26, ⟨Lc26, hQ26, l26, y26, z26⟩, st26⟩ := X14.virtualBack hx (y := (⟨"com/example/dani/dani/core/Key", "reversedFrom", "(I)Lcom/example/dani/dani/core/Key;"⟩ : MethodName)) (z := (⟨"com/example/dani/dani/core/Key", "reversedFrom", "(I)Lcom/example/dani/dani/core/Key;"⟩ : MethodName)) hown (mvT hZ (hw _ (List.mem_of_getElem? (i := 30) rfl))) (mvT hZ (hw _ (List.mem_of_getElem? (i := 31) rfl))) (notFace_of_selects (args := #[]) (mvT hZ (hw _ (List.mem_of_getElem? (i := 33) rfl)))) (mvT hZ (hw _ (List.mem_of_getElem? (i := 33) rfl))) (mvT hZ (hw _ (List.mem_of_getElem? (i := 32) rfl))) (by decide) (backOf (W := 0) (rm6_0 l Z aw hw [] b7 z6 b_14 k2_14 T14.heap n0 Z22 B15 B16 B21 B17 g23 ne25 (own_hs0 p1 p2 z6 hz6 hl1)) hZ (hw _ (List.mem_of_getElem? (i := 34) rfl)) (hw _ (List.mem_of_getElem? (i := 4) rfl)) (by decide) (by decide)) q26a q26c (g := (mkF m 88 #[iv p0, iv p1, iv p2, iv 0, rv b2, iv z6, rv b7, .unset, .unset] [(.int z6), (.ref b7)])) rfl (by rw [hml]; rfl) (Steps.refl _) (argsL := [(.int z6)]) (rest := []) (lenOf pd_5 rfl) rfl (by show 2 * 0 + _ ≤ _; exact Nat.le_of_eq rfl) (hb hby at_88) (fun _ _ => ⟨rfl, rfl, (by decide : 4 + 0 ≤ _), (by decide : 130 + 0 ≤ _)⟩)
    dsimp only [Pt.U, Pt.locs, Pt.cells, Pt.slots] at X26 l26 y26 z26 st26 hQ26
    subst l26 y26 z26
    obtain ⟨rfl, N26q, K26, B27, B28, B29⟩ := hQ26
    have N30 := Fr.app N19 N26q
    have B31 := B20.keep K26 (ninS ne24 nin0)
    have B32 := B21.keep K26
    have Z33 : n0 ≤ T26.heap.size := Nat.le_trans Z22 K26.1
    refine own_via (fun k => st26.trans k) ?_
    show own_Go p e below s _ _ (T26.setTop (mkF m 91 #[iv p0, iv p1, iv p2, iv 0, rv b2, iv z6, rv b7, .unset, .unset] [(.ref b7)]))
    refine own_via (fun k => XS.astore X26.here hx rfl (hb hby at_91) rfl rfl (l' := #[iv p0, iv p1, iv p2, iv 0, rv b2, iv z6, rv b7, rv b7, .unset]) rfl (XS.aload X26.here hx rfl (hb hby at_93) rfl rfl  (XS.aload X26.here hx rfl (hb hby at_95) rfl rfl  k))) ?_
    show own_Go p e below s _ _ (T26.setTop (mkF m 97 #[iv p0, iv p1, iv p2, iv 0, rv b2, iv z6, rv b7, rv b7, .unset] [(.ref b7), (.ref b7)]))
    refine own_via (fun k => Jvm.RoadKit.acmp (g := (mkF m 97 #[iv p0, iv p1, iv p2, iv 0, rv b2, iv z6, rv b7, rv b7, .unset] [(.ref b7), (.ref b7)])) X26 hx rfl rfl rfl (pc0 := 97) (pc' := 102) (same := true) rfl (hb hby at_97) rfl (decide_eq_true rfl) (by decide) (by decide) k) ?_
    show own_Go p e below s _ _ (T26.setTop (mkF m 102 #[iv p0, iv p1, iv p2, iv 0, rv b2, iv z6, rv b7, rv b7, .unset] []))
    refine own_via (fun k => XS.aload X26.here hx rfl (hb hby at_102) rfl rfl  k) ?_
    show own_Go p e below s _ _ (T26.setTop (mkF m 104 #[iv p0, iv p1, iv p2, iv 0, rv b2, iv z6, rv b7, rv b7, .unset] [(.ref b7)]))
    obtain ⟨cq35, kq35, q35a, q35b, q35c⟩ := isOf hZ rfl B32
    obtain ⟨_, _, ⟨T35, L35, k35, n35⟩, -, X35, ⟨Lc35, hQ35, l35, y35, z35⟩, st35⟩ := X26.virtualBack hx (y := (⟨"com/example/dani/dani/core/Key", "length", "()I"⟩ : MethodName)) (z := (⟨"com/example/dani/dani/core/Key", "length", "()I"⟩ : MethodName)) hown (mvT hZ (hw _ (List.mem_of_getElem? (i := 35) rfl))) (mvT hZ (hw _ (List.mem_of_getElem? (i := 36) rfl))) (notFace_of_selects (args := #[]) (mvT hZ (hw _ (List.mem_of_getElem? (i := 38) rfl)))) (mvT hZ (hw _ (List.mem_of_getElem? (i := 38) rfl))) (mvT hZ (hw _ (List.mem_of_getElem? (i := 37) rfl))) (by decide) (backOf (W := 0) (rm7_0 l Z aw hw [] b7 T26.heap n0 Z33 B28) hZ (hw _ (List.mem_of_getElem? (i := 39) rfl)) (hw _ (List.mem_of_getElem? (i := 4) rfl)) (by decide) (by decide)) q35a q35c (g := (mkF m 104 #[iv p0, iv p1, iv p2, iv 0, rv b2, iv z6, rv b7, rv b7, .unset] [(.ref b7)])) rfl (by rw [hml]; rfl) (Steps.refl _) (argsL := []) (rest := []) (lenOf pd_6 rfl) rfl (by show 2 * 0 + _ ≤ _; exact Nat.le_of_eq rfl) (hb hby at_104) (fun _ _ => ⟨rfl, rfl, (by decide : 4 + 0 ≤ _), (by decide : 130 + 0 ≤ _)⟩)
    dsimp only [Pt.U, Pt.locs, Pt.cells, Pt.slots] at X35 l35 y35 z35 st35 hQ35
    subst l35 y35 z35
    obtain ⟨rfl, N35q, eh35⟩ := hQ35
    have N36 := Fr.app N30 N35q
    refine own_via (fun k => st35.trans k) ?_
    show own_Go p e below s _ _ (T35.setTop (mkF m 107 #[iv p0, iv p1, iv p2, iv 0, rv b2, iv z6, rv b7, rv b7, .unset] [(.int 0)]))
    refine own_via (fun k => XS.iloadN X35.here hx rfl (hb hby at_107) rfl  k) ?_
    show own_Go p e below s _ _ (T35.setTop (mkF m 108 #[iv p0, iv p1, iv p2, iv 0, rv b2, iv z6, rv b7, rv b7, .unset] [(.int 0), (.int 0)]))
    refine own_via (fun k => XS.icmpYes X35.here hx rfl (pc0 := 108) (pc' := 113) rfl (hb hby at_108) rfl (by decide) (by decide) (by decide) k) ?_
    show own_Go p e below s _ _ (T35.setTop (mkF m 113 #[iv p0, iv p1, iv p2, iv 0, rv b2, iv z6, rv b7, rv b7, .unset] []))
    refine own_via (fun k => XS.aload X35.here hx rfl (hb hby at_113) rfl rfl  k) ?_
    show own_Go p e below s _ _ (T35.setTop (mkF m 115 #[iv p0, iv p1, iv p2, iv 0, rv b2, iv z6, rv b7, rv b7, .unset] [(.ref b7)]))
    obtain ⟨cq37, kq37, q37a, q37b, q37c⟩ := isOf hZ eh35 B32
    obtain ⟨_, _, ⟨T37, L37, k37, n37⟩, -, X37, ⟨Lc37, hQ37, l37, y37, z37⟩, st37⟩ := X35.virtualBack hx (y := (⟨"com/example/dani/dani/core/Key", "toBytes", "()[B"⟩ : MethodName)) (z := (⟨"com/example/dani/dani/core/Key", "toBytes", "()[B"⟩ : MethodName)) hown (mvT hZ (hw _ (List.mem_of_getElem? (i := 40) rfl))) (mvT hZ (hw _ (List.mem_of_getElem? (i := 41) rfl))) (notFace_of_selects (args := #[]) (mvT hZ (hw _ (List.mem_of_getElem? (i := 43) rfl)))) (mvT hZ (hw _ (List.mem_of_getElem? (i := 43) rfl))) (mvT hZ (hw _ (List.mem_of_getElem? (i := 42) rfl))) (by decide) (backOf (W := 0) (rm8_0 l Z aw hw [] b7 b_14 k2_14 T26.heap n0 Z33 B27 B28 B29) hZ (hw _ (List.mem_of_getElem? (i := 44) rfl)) (hw _ (List.mem_of_getElem? (i := 4) rfl)) (by decide) (by decide)) q37a q37c (g := (mkF m 115 #[iv p0, iv p1, iv p2, iv 0, rv b2, iv z6, rv b7, rv b7, .unset] [(.ref b7)])) rfl (by rw [hml]; rfl) (Steps.refl _) (argsL := []) (rest := []) (lenOf pd_7 rfl) rfl (by show 2 * 0 + _ ≤ _; exact Nat.le_of_eq rfl) (hb hby at_115) (fun _ _ => ⟨rfl, eh35, (by decide : 4 + 1 ≤ _), (by decide : 130 + 0 ≤ _)⟩)
    dsimp only [Pt.U, Pt.locs, Pt.cells, Pt.slots] at X37 l37 y37 z37 st37 hQ37
    subst l37 y37 z37
    obtain ⟨b_37, k2_37, rfl, N37q, K37, B38, g39⟩ := hQ37
    have N40 := Fr.app N36 N37q
    have B41 := B31.keep K37 nin0
    have B42 := B32.keep K37
    have B43 := B27.keep K37 nin0
    have B44 := B28.keep K37 nin0
    have B45 := B29.keep K37 nin0
    have Z46 : n0 ≤ T37.heap.size := Nat.le_trans Z33 K37.1
    have g47 : n0 ≤ b_37 := Nat.le_trans Z33 g39
    have ne48 : b2 ≠ b_37 := Nat.ne_of_lt (Nat.lt_of_lt_of_le B31.lt g39)
    have ne49 : b7 ≠ b_37 := Nat.ne_of_lt (Nat.lt_of_lt_of_le B32.lt g39)
    have ne50 : b_14 ≠ b_37 := Nat.ne_of_lt (Nat.lt_of_lt_of_le B29.lt g39)
    refine own_via (fun k => st37.trans k) ?_
    show own_Go p e below s _ _ (T37.setTop (mkF m 118 #[iv p0, iv p1, iv p2, iv 0, rv b2, iv z6, rv b7, rv b7, .unset] [(.ref b_37)]))
    refine own_via (fun k => XS.astore X37.here hx rfl (hb hby at_118) rfl rfl (l' := #[iv p0, iv p1, iv p2, iv 0, rv b2, iv z6, rv b7, rv b7, rv b_37]) rfl (XS.aload X37.here hx rfl (hb hby at_120) rfl rfl  k)) ?_
    show own_Go p e below s _ _ (T37.setTop (mkF m 122 #[iv p0, iv p1, iv p2, iv 0, rv b2, iv z6, rv b7, rv b7, rv b_37] [(.ref b_37)]))
    obtain ⟨cl51, Ar51, -, S51, NN51, -, -⟩ := id B38
    refine own_via (fun k => X37.arraylength hx Ar51.1 (State.isArrayOf_alike hZ.alike Ar51.2.1) (g := (mkF m 122 #[iv p0, iv p1, iv p2, iv 0, rv b2, iv z6, rv b7, rv b7, rv b_37] [(.ref b_37)])) rfl rfl (hb hby at_122) _ k) ?_
    rw [len_of S51 NN51]
    show own_Go p e below s _ _ (T37.setTop (mkF m 123 #[iv p0, iv p1, iv p2, iv 0, rv b2, iv z6, rv b7, rv b7, rv b_37] [(.int 0)]))
    refine own_via (fun k => XS.iloadN X37.here hx rfl (hb hby at_123) rfl  k) ?_
    show own_Go p e below s _ _ (T37.setTop (mkF m 124 #[iv p0, iv p1, iv p2, iv 0, rv b2, iv z6, rv b7, rv b7, rv b_37] [(.int 0), (.int 0)]))
    refine own_via (fun k => XS.icmpYes X37.here hx rfl (pc0 := 124) (pc' := 129) rfl (hb hby at_124) rfl (by decide) (by decide) (by decide) k) ?_
    show own_Go p e below s _ _ (T37.setTop (mkF m 129 #[iv p0, iv p1, iv p2, iv 0, rv b2, iv z6, rv b7, rv b7, rv b_37] []))
    refine own_via (fun k => XS.aload X37.here hx rfl (hb hby at_129) rfl rfl  (XS.aload X37.here hx rfl (hb hby at_131) rfl rfl  (XS.iconst X37.here hx rfl (hb hby at_133) (XS.iload X37.here hx rfl (hb hby at_134) rfl  k)))) ?_
    show own_Go p e below s _ _ (T37.setTop (mkF m 136 #[iv p0, iv p1, iv p2, iv 0, rv b2, iv z6, rv b7, rv b7, rv b_37] [(.int z6), (.int 0), (.ref b2), (.ref b_37)]))
    obtain ⟨_, _, ⟨T52, L52, k52, n52⟩, -, X52, ⟨Lc52, hQ52, l52, y52, z52⟩, st52⟩ := Jvm.LawKit.callS X37 hx (y := (⟨"com/example/dani/dani/core/KeyReversedFromPinLaw", "at", "([B[BII)Z"⟩ : MethodName)) hown (mvT hZ (hw _ (List.mem_of_getElem? (i := 45) rfl))) (mvT hZ (hw _ (List.mem_of_getElem? (i := 46) rfl))) (mvT hZ (hw _ (List.mem_of_getElem? (i := 47) rfl))) (mvT hZ (hw _ (List.mem_of_getElem? (i := 48) rfl))) (by decide) (backOf (W := 0) (rm9_0_0 l Z aw hw [] b_37 b2 z6 k2_37 k2 T37.heap n0 Z46 B38 B41) hZ (hw _ (List.mem_of_getElem? (i := 48) rfl)) (hw _ (List.mem_of_getElem? (i := 47) rfl)) (by decide) (by decide)) (g := (mkF m 136 #[iv p0, iv p1, iv p2, iv 0, rv b2, iv z6, rv b7, rv b7, rv b_37] [(.int z6), (.int 0), (.ref b2), (.ref b_37)])) rfl (by rw [hml]; rfl) (argsL := [(.ref b_37), (.ref b2), (.int 0), (.int z6)]) (rest := []) (lenOf pd_8 rfl) rfl (by show 2 * 0 + _ ≤ _; exact Nat.le_of_eq rfl) (hb hby at_136) (fun _ _ => ⟨rfl, rfl, (by decide : 5 + 0 ≤ _), (by decide : 130 + 0 ≤ _)⟩)
    dsimp only [Pt.U, Pt.locs, Pt.cells, Pt.slots] at X52 l52 y52 z52 st52 hQ52
    subst l52 y52 z52
    obtain ⟨rfl, N52q, eh52⟩ := hQ52
    have N53 := Fr.app N40 N52q
    refine own_via (fun k => st52 _ k) ?_
    show own_Go p e below s _ _ (T52.setTop (mkF m 139 #[iv p0, iv p1, iv p2, iv 0, rv b2, iv z6, rv b7, rv b7, rv b_37] [(.int own_f9_0_0)]))
    refine own_via (fun k => XS.ifNo X52.here hx rfl (hb hby at_139) rfl ((if0 _ _).trans (feq (own_law0_139 p2 hl1)).1) k) ?_
    show own_Go p e below s _ _ (T52.setTop (mkF m 142 #[iv p0, iv p1, iv p2, iv 0, rv b2, iv z6, rv b7, rv b7, rv b_37] []))
    refine own_via (fun k => XS.aload X52.here hx rfl (hb hby at_142) rfl rfl  (XS.aload X52.here hx rfl (hb hby at_144) rfl rfl  (XS.iconst X52.here hx rfl (hb hby at_146) (XS.iload X52.here hx rfl (hb hby at_147) rfl  k)))) ?_
    show own_Go p e below s _ _ (T52.setTop (mkF m 149 #[iv p0, iv p1, iv p2, iv 0, rv b2, iv z6, rv b7, rv b7, rv b_37] [(.int z6), (.int 1), (.ref b2), (.ref b_37)]))
    obtain ⟨_, _, ⟨T54, L54, k54, n54⟩, -, X54, ⟨Lc54, hQ54, l54, y54, z54⟩, st54⟩ := Jvm.LawKit.callS X52 hx (y := (⟨"com/example/dani/dani/core/KeyReversedFromPinLaw", "at", "([B[BII)Z"⟩ : MethodName)) hown (mvT hZ (hw _ (List.mem_of_getElem? (i := 45) rfl))) (mvT hZ (hw _ (List.mem_of_getElem? (i := 46) rfl))) (mvT hZ (hw _ (List.mem_of_getElem? (i := 47) rfl))) (mvT hZ (hw _ (List.mem_of_getElem? (i := 48) rfl))) (by decide) (backOf (W := 0) (rm9_0_1 l Z aw hw [] b_37 b2 z6 k2_37 k2 T37.heap n0 Z46 B38 B41) hZ (hw _ (List.mem_of_getElem? (i := 48) rfl)) (hw _ (List.mem_of_getElem? (i := 47) rfl)) (by decide) (by decide)) (g := (mkF m 149 #[iv p0, iv p1, iv p2, iv 0, rv b2, iv z6, rv b7, rv b7, rv b_37] [(.int z6), (.int 1), (.ref b2), (.ref b_37)])) rfl (by rw [hml]; rfl) (argsL := [(.ref b_37), (.ref b2), (.int 1), (.int z6)]) (rest := []) (lenOf pd_8 rfl) rfl (by show 2 * 0 + _ ≤ _; exact Nat.le_of_eq rfl) (hb hby at_149) (fun _ _ => ⟨rfl, eh52, (by decide : 5 + 0 ≤ _), (by decide : 130 + 0 ≤ _)⟩)
    dsimp only [Pt.U, Pt.locs, Pt.cells, Pt.slots] at X54 l54 y54 z54 st54 hQ54
    subst l54 y54 z54
    obtain ⟨rfl, N54q, eh54⟩ := hQ54
    have N55 := Fr.app N53 N54q
    refine own_via (fun k => st54 _ k) ?_
    show own_Go p e below s _ _ (T54.setTop (mkF m 152 #[iv p0, iv p1, iv p2, iv 0, rv b2, iv z6, rv b7, rv b7, rv b_37] [(.int own_f9_0_1)]))
    refine own_via (fun k => XS.ifNo X54.here hx rfl (hb hby at_152) rfl ((if0 _ _).trans (feq (own_law0_152 p2 hl1)).1) k) ?_
    show own_Go p e below s _ _ (T54.setTop (mkF m 155 #[iv p0, iv p1, iv p2, iv 0, rv b2, iv z6, rv b7, rv b7, rv b_37] []))
    refine own_via (fun k => XS.aload X54.here hx rfl (hb hby at_155) rfl rfl  (XS.aload X54.here hx rfl (hb hby at_157) rfl rfl  (XS.iconst X54.here hx rfl (hb hby at_159) (XS.iload X54.here hx rfl (hb hby at_160) rfl  k)))) ?_
    show own_Go p e below s _ _ (T54.setTop (mkF m 162 #[iv p0, iv p1, iv p2, iv 0, rv b2, iv z6, rv b7, rv b7, rv b_37] [(.int z6), (.int 2), (.ref b2), (.ref b_37)]))
    obtain ⟨_, _, ⟨T56, L56, k56, n56⟩, -, X56, ⟨Lc56, hQ56, l56, y56, z56⟩, st56⟩ := Jvm.LawKit.callS X54 hx (y := (⟨"com/example/dani/dani/core/KeyReversedFromPinLaw", "at", "([B[BII)Z"⟩ : MethodName)) hown (mvT hZ (hw _ (List.mem_of_getElem? (i := 45) rfl))) (mvT hZ (hw _ (List.mem_of_getElem? (i := 46) rfl))) (mvT hZ (hw _ (List.mem_of_getElem? (i := 47) rfl))) (mvT hZ (hw _ (List.mem_of_getElem? (i := 48) rfl))) (by decide) (backOf (W := 0) (rm9_0_2 l Z aw hw [] b_37 b2 z6 k2_37 k2 T37.heap n0 Z46 B38 B41) hZ (hw _ (List.mem_of_getElem? (i := 48) rfl)) (hw _ (List.mem_of_getElem? (i := 47) rfl)) (by decide) (by decide)) (g := (mkF m 162 #[iv p0, iv p1, iv p2, iv 0, rv b2, iv z6, rv b7, rv b7, rv b_37] [(.int z6), (.int 2), (.ref b2), (.ref b_37)])) rfl (by rw [hml]; rfl) (argsL := [(.ref b_37), (.ref b2), (.int 2), (.int z6)]) (rest := []) (lenOf pd_8 rfl) rfl (by show 2 * 0 + _ ≤ _; exact Nat.le_of_eq rfl) (hb hby at_162) (fun _ _ => ⟨rfl, eh54, (by decide : 5 + 0 ≤ _), (by decide : 130 + 0 ≤ _)⟩)
    dsimp only [Pt.U, Pt.locs, Pt.cells, Pt.slots] at X56 l56 y56 z56 st56 hQ56
    subst l56 y56 z56
    obtain ⟨rfl, N56q, eh56⟩ := hQ56
    have N57 := Fr.app N55 N56q
    refine own_via (fun k => st56 _ k) ?_
    show own_Go p e below s _ _ (T56.setTop (mkF m 165 #[iv p0, iv p1, iv p2, iv 0, rv b2, iv z6, rv b7, rv b7, rv b_37] [(.int own_f9_0_2)]))
    refine own_via (fun k => XS.ifNo X56.here hx rfl (hb hby at_165) rfl ((if0 _ _).trans (feq (own_law0_165 p2 hl1)).1) k) ?_
    show own_Go p e below s _ _ (T56.setTop (mkF m 168 #[iv p0, iv p1, iv p2, iv 0, rv b2, iv z6, rv b7, rv b7, rv b_37] []))
    refine own_via (fun k => XS.aload X56.here hx rfl (hb hby at_168) rfl rfl  (XS.aload X56.here hx rfl (hb hby at_170) rfl rfl  (XS.iconst X56.here hx rfl (hb hby at_172) (XS.iload X56.here hx rfl (hb hby at_173) rfl  k)))) ?_
    show own_Go p e below s _ _ (T56.setTop (mkF m 175 #[iv p0, iv p1, iv p2, iv 0, rv b2, iv z6, rv b7, rv b7, rv b_37] [(.int z6), (.int 3), (.ref b2), (.ref b_37)]))
    obtain ⟨_, _, ⟨T58, L58, k58, n58⟩, -, X58, ⟨Lc58, hQ58, l58, y58, z58⟩, st58⟩ := Jvm.LawKit.callS X56 hx (y := (⟨"com/example/dani/dani/core/KeyReversedFromPinLaw", "at", "([B[BII)Z"⟩ : MethodName)) hown (mvT hZ (hw _ (List.mem_of_getElem? (i := 45) rfl))) (mvT hZ (hw _ (List.mem_of_getElem? (i := 46) rfl))) (mvT hZ (hw _ (List.mem_of_getElem? (i := 47) rfl))) (mvT hZ (hw _ (List.mem_of_getElem? (i := 48) rfl))) (by decide) (backOf (W := 0) (rm9_0_3 l Z aw hw [] b_37 b2 z6 k2_37 k2 T37.heap n0 Z46 B38 B41) hZ (hw _ (List.mem_of_getElem? (i := 48) rfl)) (hw _ (List.mem_of_getElem? (i := 47) rfl)) (by decide) (by decide)) (g := (mkF m 175 #[iv p0, iv p1, iv p2, iv 0, rv b2, iv z6, rv b7, rv b7, rv b_37] [(.int z6), (.int 3), (.ref b2), (.ref b_37)])) rfl (by rw [hml]; rfl) (argsL := [(.ref b_37), (.ref b2), (.int 3), (.int z6)]) (rest := []) (lenOf pd_8 rfl) rfl (by show 2 * 0 + _ ≤ _; exact Nat.le_of_eq rfl) (hb hby at_175) (fun _ _ => ⟨rfl, eh56, (by decide : 5 + 0 ≤ _), (by decide : 130 + 0 ≤ _)⟩)
    dsimp only [Pt.U, Pt.locs, Pt.cells, Pt.slots] at X58 l58 y58 z58 st58 hQ58
    subst l58 y58 z58
    obtain ⟨rfl, N58q, eh58⟩ := hQ58
    have N59 := Fr.app N57 N58q
    refine own_via (fun k => st58 _ k) ?_
    show own_Go p e below s _ _ (T58.setTop (mkF m 178 #[iv p0, iv p1, iv p2, iv 0, rv b2, iv z6, rv b7, rv b7, rv b_37] [(.int own_f9_0_3)]))
    refine own_via (fun k => XS.ifNo X58.here hx rfl (hb hby at_178) rfl ((if0 _ _).trans (feq (own_law0_178 p2 hl1)).1) k) ?_
    show own_Go p e below s _ _ (T58.setTop (mkF m 181 #[iv p0, iv p1, iv p2, iv 0, rv b2, iv z6, rv b7, rv b7, rv b_37] []))
    refine own_via (fun k => XS.iconst X58.here hx rfl (hb hby at_181) (XS.goto X58.here hx rfl (pc0 := 182) (pc' := 186) rfl (hb hby at_182) (by decide) (by decide) k)) ?_
    show own_Go p e below s _ _ (T58.setTop (mkF m 186 #[iv p0, iv p1, iv p2, iv 0, rv b2, iv z6, rv b7, rv b7, rv b_37] [(.int 1)]))
    exact own_retN X58 hx hlk (t := .boolean) Bd.returns (by simp) (hb hby at_186) (Q := (Q0 Z p0 p1 p2 h0 n0)) ⟨rfl, N59⟩ (by decide) (by decide)
  · rw [hl1]
    show own_Go p e below s _ _ (s₁.setTop (mkF m 7 #[iv p0, iv p1, iv p2, iv 1, .unset, .unset, .unset, .unset, .unset] []))
    refine own_via (fun k => XS.iloadN X0.here hx rfl (hb hby at_7) rfl  k) ?_
    show own_Go p e below s _ _ (s₁.setTop (mkF m 8 #[iv p0, iv p1, iv p2, iv 1, .unset, .unset, .unset, .unset, .unset] [(.int 1)]))
    obtain ⟨T60, h60, k60, X60, e60, E60, A60, st60⟩ := newP X0 hx hZ (hw _ (List.mem_of_getElem? (i := 0) rfl)) e0 (g := (mkF m 8 #[iv p0, iv p1, iv p2, iv 1, .unset, .unset, .unset, .unset, .unset] [(.int 1)])) rfl (hb hby at_8) rfl (by decide) (cap := 1) (by decide) (by decide) (by decide) (by decide)
    obtain ⟨b60, g60⟩ : ∃ z, z = h0.size := ⟨_, rfl⟩
    rw [← g60] at A60 st60
    refine own_via (fun k => st60 _ k) ?_
    show own_Go p e below s _ _ (T60.setTop (mkF m 10 #[iv p0, iv p1, iv p2, iv 1, .unset, .unset, .unset, .unset, .unset] [(.ref b60)]))
    have g61 : n0 ≤ b60 := Nat.le_trans Z0 (Nat.le_of_eq g60.symm)
    have Z62 : n0 ≤ h60.size := Nat.le_trans Z0 E60.1
    have B63 : Arv Z h60 b60 k60 .byte (1 : Int32) [(.int 0)] (.int 0) := (Arv.new A60 (by decide)).pad (pad_rep [] (.int 0) 1)
    refine own_via (fun k => XS.astore X60.here hx rfl (hb hby at_10) rfl rfl (l' := #[iv p0, iv p1, iv p2, iv 1, rv b60, .unset, .unset, .unset, .unset]) rfl (XS.iloadN X60.here hx rfl (hb hby at_12) rfl  k)) ?_
    show own_Go p e below s _ _ (T60.setTop (mkF m 13 #[iv p0, iv p1, iv p2, iv 1, rv b60, .unset, .unset, .unset, .unset] [(.int 1)]))
    refine own_via (fun k => XS.ifNo X60.here hx rfl (hb hby at_13) rfl (by decide) k) ?_
    show own_Go p e below s _ _ (T60.setTop (mkF m 16 #[iv p0, iv p1, iv p2, iv 1, rv b60, .unset, .unset, .unset, .unset] []))
    refine own_via (fun k => XS.aload X60.here hx rfl (hb hby at_16) rfl rfl  (XS.iconst X60.here hx rfl (hb hby at_18) (XS.iloadN X60.here hx rfl (hb hby at_19) rfl  (XS.i2b X60.here hx rfl (hb hby at_20) rfl k)))) ?_
    show own_Go p e below s _ _ (T60.setTop (mkF m 21 #[iv p0, iv p1, iv p2, iv 1, rv b60, .unset, .unset, .unset, .unset] [(.int (p0.toInt8.toInt32)), (.int 0), (.ref b60)]))
    obtain ⟨z64, hz64⟩ : ∃ z : Int32, z = (p0.toInt8.toInt32) := ⟨_, rfl⟩
    rw [← hz64]
    show own_Go p e below s _ _ (T60.setTop (mkF m 21 #[iv p0, iv p1, iv p2, iv 1, rv b60, .unset, .unset, .unset, .unset] [(.int z64), (.int 0), (.ref b60)]))
    obtain ⟨cl65, Ar65, q65, S65, NN65, H65, G65⟩ := id B63
    have hin65 : ¬ ((0 : Int32) < 0 ∨ cl65.slots.size ≤ ((0 : Int32)).toNatClampNeg) := inb_of S65 ⟨by decide, by decide⟩
    obtain ⟨T65, h65, X65, e65, W65, st65⟩ := stB X60 hx hZ e60 Ar65 (j := (0 : Int32)) hin65 (g := (mkF m 21 #[iv p0, iv p1, iv p2, iv 1, rv b60, .unset, .unset, .unset, .unset] [(.int z64), (.int 0), (.ref b60)])) rfl rfl (hb hby at_21)
    refine own_via (fun k => st65 _ k) ?_
    show own_Go p e below s _ _ (T65.setTop (mkF m 22 #[iv p0, iv p1, iv p2, iv 1, rv b60, .unset, .unset, .unset, .unset] []))
    have B66 : Arv Z h65 b60 k60 .byte (1 : Int32) [(.int (nar .byte z64))] (.int 0) := Arv.set Ar65 q65 S65 NN65 H65 G65 (fits_nar_byte _) W65 0 rfl (Nat.le_of_ble_eq_true rfl)
    have N67 := Fr.snoc X65 N0 g61
    have Z68 : n0 ≤ h65.size := Nat.le_trans Z62 (Keep.of_wr W65).1
    refine own_via (fun k => XS.iloadN X65.here hx rfl (hb hby at_22) rfl  (XS.iconst X65.here hx rfl (hb hby at_23) k)) ?_
    show own_Go p e below s _ _ (T65.setTop (mkF m 24 #[iv p0, iv p1, iv p2, iv 1, rv b60, .unset, .unset, .unset, .unset] [(.int 1), (.int 1)]))
    refine own_via (fun k => XS.icmpYes X65.here hx rfl (pc0 := 24) (pc' := 36) rfl (hb hby at_24) rfl (by decide) (by decide) (by decide) k) ?_
    show own_Go p e below s _ _ (T65.setTop (mkF m 36 #[iv p0, iv p1, iv p2, iv 1, rv b60, .unset, .unset, .unset, .unset] []))
    refine own_via (fun k => XS.iloadN X65.here hx rfl (hb hby at_36) rfl  (XS.iconst X65.here hx rfl (hb hby at_37) k)) ?_
    show own_Go p e below s _ _ (T65.setTop (mkF m 38 #[iv p0, iv p1, iv p2, iv 1, rv b60, .unset, .unset, .unset, .unset] [(.int 2), (.int 1)]))
    refine own_via (fun k => XS.icmpYes X65.here hx rfl (pc0 := 38) (pc' := 50) rfl (hb hby at_38) rfl (by decide) (by decide) (by decide) k) ?_
    show own_Go p e below s _ _ (T65.setTop (mkF m 50 #[iv p0, iv p1, iv p2, iv 1, rv b60, .unset, .unset, .unset, .unset] []))
    refine own_via (fun k => XS.iloadN X65.here hx rfl (hb hby at_50) rfl  (XS.iconst X65.here hx rfl (hb hby at_51) k)) ?_
    show own_Go p e below s _ _ (T65.setTop (mkF m 52 #[iv p0, iv p1, iv p2, iv 1, rv b60, .unset, .unset, .unset, .unset] [(.int 3), (.int 1)]))
    refine own_via (fun k => XS.icmpYes X65.here hx rfl (pc0 := 52) (pc' := 64) rfl (hb hby at_52) rfl (by decide) (by decide) (by decide) k) ?_
    show own_Go p e below s _ _ (T65.setTop (mkF m 64 #[iv p0, iv p1, iv p2, iv 1, rv b60, .unset, .unset, .unset, .unset] []))
    refine own_via (fun k => XS.iloadN X65.here hx rfl (hb hby at_64) rfl  (X65.ldcInt hx hown (mvT hZ (hw _ (List.mem_of_getElem? (i := 1) rfl))) (g := (mkF m 65 #[iv p0, iv p1, iv p2, iv 1, rv b60, .unset, .unset, .unset, .unset] [(.int p1)])) rfl (hb hby at_65) _ (XS.iand X65.here hx rfl (hb hby at_67) rfl (XS.bipush X65.here hx rfl (hb hby at_68) k)))) ?_
    show own_Go p e below s _ _ (T65.setTop (mkF m 70 #[iv p0, iv p1, iv p2, iv 1, rv b60, .unset, .unset, .unset, .unset] [(.int 7), (.int (p1 &&& (2147483647 : Int32)))]))
    refine own_via (fun k => Jvm.RoadKit.iremM X65 hx rfl (hb hby at_70) rfl (by decide) k) ?_
    show own_Go p e below s _ _ (T65.setTop (mkF m 71 #[iv p0, iv p1, iv p2, iv 1, rv b60, .unset, .unset, .unset, .unset] [(.int ((p1 &&& (2147483647 : Int32)) % (7 : Int32)))]))
    obtain ⟨z69, hz69⟩ : ∃ z : Int32, z = ((p1 &&& (2147483647 : Int32)) % (7 : Int32)) := ⟨_, rfl⟩
    rw [← hz69]
    show own_Go p e below s _ _ (T65.setTop (mkF m 71 #[iv p0, iv p1, iv p2, iv 1, rv b60, .unset, .unset, .unset, .unset] [(.int z69)]))
    refine own_via (fun k => XS.istore X65.here hx rfl (hb hby at_71) rfl (l' := #[iv p0, iv p1, iv p2, iv 1, rv b60, iv z69, .unset, .unset, .unset]) rfl k) ?_
    show own_Go p e below s _ _ (T65.setTop (mkF m 73 #[iv p0, iv p1, iv p2, iv 1, rv b60, iv z69, .unset, .unset, .unset] []))
    obtain ⟨T70, h70, X70, e70, E70, A70, D70, -, st70⟩ := newO X65 hx hZ hown (hw _ (List.mem_of_getElem? (i := 2) rfl)) (hw _ (List.mem_of_getElem? (i := 3) rfl)) (hw _ (List.mem_of_getElem? (i := 4) rfl)) e65 (g := (mkF m 73 #[iv p0, iv p1, iv p2, iv 1, rv b60, iv z69, .unset, .unset, .unset] [])) rfl (hb hby at_73) (by decide) (by decide)
    obtain ⟨b70, g70⟩ : ∃ z, z = h65.size := ⟨_, rfl⟩
    rw [← g70] at A70 D70 st70
    refine own_via (fun k => st70 _ k) ?_
    show own_Go p e below s _ _ (T70.setTop (mkF m 76 #[iv p0, iv p1, iv p2, iv 1, rv b60, iv z69, .unset, .unset, .unset] [(.ref b70)]))
    have g71 : n0 ≤ b70 := Nat.le_trans Z68 (Nat.le_of_eq g70.symm)
    have ne72 : b60 ≠ b70 := Nat.ne_of_lt (Nat.lt_of_lt_of_le B66.lt (Nat.le_of_eq g70.symm))
    have B73 := B66.ext E70
    have Z74 : n0 ≤ h70.size := Nat.le_trans Z68 E70.1
    have B75 : Fld Z h70 b70 "com/example/dani/dani/core/Key" "bytes" "[B" .null := D70 (Or.inl (hw _ (List.mem_of_getElem? (i := 12) rfl))) (ty := (.array .byte)) (by decide)
    have B76 : Fld Z h70 b70 "com/example/dani/dani/core/Key" "length" "I" (.int 0) := D70 (Or.inl (hw _ (List.mem_of_getElem? (i := 29) rfl))) (ty := .int) (by decide)
    refine own_via (fun k => XS.dup X70.here hx rfl (hb hby at_76) rfl rfl (XS.aload X70.here hx rfl (hb hby at_77) rfl rfl  k)) ?_
    show own_Go p e below s _ _ (T70.setTop (mkF m 79 #[iv p0, iv p1, iv p2, iv 1, rv b60, iv z69, .unset, .unset, .unset] [(.ref b60), (.ref b70), (.ref b70)]))
    obtain ⟨_, _, ⟨T77, L77, k77, n77⟩, -, X77, ⟨Lc77, hQ77, l77, y77, z77⟩, st77⟩ := X70.specialBack hx (y := (⟨"com/example/dani/dani/core/Key", "<init>", "([B)V"⟩ : MethodName)) rfl hown (mvT hZ (hw _ (List.mem_of_getElem? (i := 5) rfl))) (mvT hZ (hw _ (List.mem_of_getElem? (i := 6) rfl))) (mvT hZ (hw _ (List.mem_of_getElem? (i := 7) rfl))) (by decide) (backOf (W := 1) (rm1_1 l Z aw hw [] b70 b60 k60 (nar .byte z64) h70 n0 Z74 B75 B76 A70 B73 g71 ne72) hZ (hw _ (List.mem_of_getElem? (i := 7) rfl)) (hw _ (List.mem_of_getElem? (i := 4) rfl)) (by decide) (by decide)) (g := (mkF m 79 #[iv p0, iv p1, iv p2, iv 1, rv b60, iv z69, .unset, .unset, .unset] [(.ref b60), (.ref b70), (.ref b70)])) rfl (by rw [hml]; rfl) (Steps.refl _) (a := b70) (argsL := [(.ref b60)]) (rest := [(.ref b70)]) (lenOf pd_0 rfl) rfl (by show 2 * 0 + _ ≤ _; exact Nat.le_of_eq rfl) (hb hby at_79) (fun _ _ => ⟨rfl, e70, (by decide : 2 + 2 ≤ _), (by decide : 3 + 128 ≤ _)⟩)
    dsimp only [Pt.U, Pt.locs, Pt.cells, Pt.slots] at X77 l77 y77 z77 st77 hQ77
    subst l77 y77 z77
    obtain ⟨b_77, k2_77, rfl, N77q, K77, B78, B79, B80, g81⟩ := hQ77
    have N82 := Fr.app N67 N77q
    have B83 := B73.keep K77 (ninS ne72 nin0)
    have B84 := A70.keep K77
    have Z85 : n0 ≤ T77.heap.size := Nat.le_trans Z74 K77.1
    have g86 : n0 ≤ b_77 := Nat.le_trans Z74 g81
    have ne87 : b60 ≠ b_77 := Nat.ne_of_lt (Nat.lt_of_lt_of_le B73.lt g81)
    have ne88 : b70 ≠ b_77 := Nat.ne_of_lt (Nat.lt_of_lt_of_le A70.lt g81)
    refine own_via (fun k => st77.trans k) ?_
    show own_Go p e below s _ _ (T77.setTop (mkF m 82 #[iv p0, iv p1, iv p2, iv 1, rv b60, iv z69, .unset, .unset, .unset] [(.ref b70)]))
    refine own_via (fun k => XS.astore X77.here hx rfl (hb hby at_82) rfl rfl (l' := #[iv p0, iv p1, iv p2, iv 1, rv b60, iv z69, rv b70, .unset, .unset]) rfl (XS.aload X77.here hx rfl (hb hby at_84) rfl rfl  (XS.iload X77.here hx rfl (hb hby at_86) rfl  k))) ?_
    show own_Go p e below s _ _ (T77.setTop (mkF m 88 #[iv p0, iv p1, iv p2, iv 1, rv b60, iv z69, rv b70, .unset, .unset] [(.int z69), (.ref b70)]))
    obtain ⟨cq89, kq89, q89a, q89b, q89c⟩ := isOf hZ rfl B84
    obtain ⟨_, _, ⟨T89, L89, k89, n89⟩, -, X89, ⟨Lc89, hQ89, l89, y89, z89⟩, st89⟩ := X77.virtualBack hx (y := (⟨"com/example/dani/dani/core/Key", "reversedFrom", "(I)Lcom/example/dani/dani/core/Key;"⟩ : MethodName)) (z := (⟨"com/example/dani/dani/core/Key", "reversedFrom", "(I)Lcom/example/dani/dani/core/Key;"⟩ : MethodName)) hown (mvT hZ (hw _ (List.mem_of_getElem? (i := 30) rfl))) (mvT hZ (hw _ (List.mem_of_getElem? (i := 31) rfl))) (notFace_of_selects (args := #[]) (mvT hZ (hw _ (List.mem_of_getElem? (i := 33) rfl)))) (mvT hZ (hw _ (List.mem_of_getElem? (i := 33) rfl))) (mvT hZ (hw _ (List.mem_of_getElem? (i := 32) rfl))) (by decide) (backOf (W := 0) (rm6_1 l Z aw hw [] b70 z69 b_77 k2_77 (nar .byte z64) T77.heap n0 Z85 B78 B79 B84 B80 g86 ne88 (own_hs1 p1 p2 z69 hz69 hl1)) hZ (hw _ (List.mem_of_getElem? (i := 34) rfl)) (hw _ (List.mem_of_getElem? (i := 4) rfl)) (by decide) (by decide)) q89a q89c (g := (mkF m 88 #[iv p0, iv p1, iv p2, iv 1, rv b60, iv z69, rv b70, .unset, .unset] [(.int z69), (.ref b70)])) rfl (by rw [hml]; rfl) (Steps.refl _) (argsL := [(.int z69)]) (rest := []) (lenOf pd_5 rfl) rfl (by show 2 * 0 + _ ≤ _; exact Nat.le_of_eq rfl) (hb hby at_88) (fun _ _ => ⟨rfl, rfl, (by decide : 4 + 0 ≤ _), (by decide : 131 + 0 ≤ _)⟩)
    dsimp only [Pt.U, Pt.locs, Pt.cells, Pt.slots] at X89 l89 y89 z89 st89 hQ89
    subst l89 y89 z89
    obtain ⟨rfl, N89q, K89, B90, B91, B92⟩ := hQ89
    have N93 := Fr.app N82 N89q
    have B94 := B83.keep K89 (ninS ne87 nin0)
    have B95 := B84.keep K89
    have Z96 : n0 ≤ T89.heap.size := Nat.le_trans Z85 K89.1
    refine own_via (fun k => st89.trans k) ?_
    show own_Go p e below s _ _ (T89.setTop (mkF m 91 #[iv p0, iv p1, iv p2, iv 1, rv b60, iv z69, rv b70, .unset, .unset] [(.ref b70)]))
    refine own_via (fun k => XS.astore X89.here hx rfl (hb hby at_91) rfl rfl (l' := #[iv p0, iv p1, iv p2, iv 1, rv b60, iv z69, rv b70, rv b70, .unset]) rfl (XS.aload X89.here hx rfl (hb hby at_93) rfl rfl  (XS.aload X89.here hx rfl (hb hby at_95) rfl rfl  k))) ?_
    show own_Go p e below s _ _ (T89.setTop (mkF m 97 #[iv p0, iv p1, iv p2, iv 1, rv b60, iv z69, rv b70, rv b70, .unset] [(.ref b70), (.ref b70)]))
    refine own_via (fun k => Jvm.RoadKit.acmp (g := (mkF m 97 #[iv p0, iv p1, iv p2, iv 1, rv b60, iv z69, rv b70, rv b70, .unset] [(.ref b70), (.ref b70)])) X89 hx rfl rfl rfl (pc0 := 97) (pc' := 102) (same := true) rfl (hb hby at_97) rfl (decide_eq_true rfl) (by decide) (by decide) k) ?_
    show own_Go p e below s _ _ (T89.setTop (mkF m 102 #[iv p0, iv p1, iv p2, iv 1, rv b60, iv z69, rv b70, rv b70, .unset] []))
    refine own_via (fun k => XS.aload X89.here hx rfl (hb hby at_102) rfl rfl  k) ?_
    show own_Go p e below s _ _ (T89.setTop (mkF m 104 #[iv p0, iv p1, iv p2, iv 1, rv b60, iv z69, rv b70, rv b70, .unset] [(.ref b70)]))
    obtain ⟨cq98, kq98, q98a, q98b, q98c⟩ := isOf hZ rfl B95
    obtain ⟨_, _, ⟨T98, L98, k98, n98⟩, -, X98, ⟨Lc98, hQ98, l98, y98, z98⟩, st98⟩ := X89.virtualBack hx (y := (⟨"com/example/dani/dani/core/Key", "length", "()I"⟩ : MethodName)) (z := (⟨"com/example/dani/dani/core/Key", "length", "()I"⟩ : MethodName)) hown (mvT hZ (hw _ (List.mem_of_getElem? (i := 35) rfl))) (mvT hZ (hw _ (List.mem_of_getElem? (i := 36) rfl))) (notFace_of_selects (args := #[]) (mvT hZ (hw _ (List.mem_of_getElem? (i := 38) rfl)))) (mvT hZ (hw _ (List.mem_of_getElem? (i := 38) rfl))) (mvT hZ (hw _ (List.mem_of_getElem? (i := 37) rfl))) (by decide) (backOf (W := 0) (rm7_1 l Z aw hw [] b70 T89.heap n0 Z96 B91) hZ (hw _ (List.mem_of_getElem? (i := 39) rfl)) (hw _ (List.mem_of_getElem? (i := 4) rfl)) (by decide) (by decide)) q98a q98c (g := (mkF m 104 #[iv p0, iv p1, iv p2, iv 1, rv b60, iv z69, rv b70, rv b70, .unset] [(.ref b70)])) rfl (by rw [hml]; rfl) (Steps.refl _) (argsL := []) (rest := []) (lenOf pd_6 rfl) rfl (by show 2 * 0 + _ ≤ _; exact Nat.le_of_eq rfl) (hb hby at_104) (fun _ _ => ⟨rfl, rfl, (by decide : 4 + 0 ≤ _), (by decide : 131 + 0 ≤ _)⟩)
    dsimp only [Pt.U, Pt.locs, Pt.cells, Pt.slots] at X98 l98 y98 z98 st98 hQ98
    subst l98 y98 z98
    obtain ⟨rfl, N98q, eh98⟩ := hQ98
    have N99 := Fr.app N93 N98q
    refine own_via (fun k => st98.trans k) ?_
    show own_Go p e below s _ _ (T98.setTop (mkF m 107 #[iv p0, iv p1, iv p2, iv 1, rv b60, iv z69, rv b70, rv b70, .unset] [(.int 1)]))
    refine own_via (fun k => XS.iloadN X98.here hx rfl (hb hby at_107) rfl  k) ?_
    show own_Go p e below s _ _ (T98.setTop (mkF m 108 #[iv p0, iv p1, iv p2, iv 1, rv b60, iv z69, rv b70, rv b70, .unset] [(.int 1), (.int 1)]))
    refine own_via (fun k => XS.icmpYes X98.here hx rfl (pc0 := 108) (pc' := 113) rfl (hb hby at_108) rfl (by decide) (by decide) (by decide) k) ?_
    show own_Go p e below s _ _ (T98.setTop (mkF m 113 #[iv p0, iv p1, iv p2, iv 1, rv b60, iv z69, rv b70, rv b70, .unset] []))
    refine own_via (fun k => XS.aload X98.here hx rfl (hb hby at_113) rfl rfl  k) ?_
    show own_Go p e below s _ _ (T98.setTop (mkF m 115 #[iv p0, iv p1, iv p2, iv 1, rv b60, iv z69, rv b70, rv b70, .unset] [(.ref b70)]))
    obtain ⟨cq100, kq100, q100a, q100b, q100c⟩ := isOf hZ eh98 B95
    obtain ⟨_, _, ⟨T100, L100, k100, n100⟩, -, X100, ⟨Lc100, hQ100, l100, y100, z100⟩, st100⟩ := X98.virtualBack hx (y := (⟨"com/example/dani/dani/core/Key", "toBytes", "()[B"⟩ : MethodName)) (z := (⟨"com/example/dani/dani/core/Key", "toBytes", "()[B"⟩ : MethodName)) hown (mvT hZ (hw _ (List.mem_of_getElem? (i := 40) rfl))) (mvT hZ (hw _ (List.mem_of_getElem? (i := 41) rfl))) (notFace_of_selects (args := #[]) (mvT hZ (hw _ (List.mem_of_getElem? (i := 43) rfl)))) (mvT hZ (hw _ (List.mem_of_getElem? (i := 43) rfl))) (mvT hZ (hw _ (List.mem_of_getElem? (i := 42) rfl))) (by decide) (backOf (W := 0) (rm8_1 l Z aw hw [] b70 b_77 k2_77 (own_r z69 (0 : Int32) (nar .byte z64)) T89.heap n0 Z96 B90 B91 B92) hZ (hw _ (List.mem_of_getElem? (i := 44) rfl)) (hw _ (List.mem_of_getElem? (i := 4) rfl)) (by decide) (by decide)) q100a q100c (g := (mkF m 115 #[iv p0, iv p1, iv p2, iv 1, rv b60, iv z69, rv b70, rv b70, .unset] [(.ref b70)])) rfl (by rw [hml]; rfl) (Steps.refl _) (argsL := []) (rest := []) (lenOf pd_7 rfl) rfl (by show 2 * 0 + _ ≤ _; exact Nat.le_of_eq rfl) (hb hby at_115) (fun _ _ => ⟨rfl, eh98, (by decide : 4 + 1 ≤ _), (by decide : 131 + 1 ≤ _)⟩)
    dsimp only [Pt.U, Pt.locs, Pt.cells, Pt.slots] at X100 l100 y100 z100 st100 hQ100
    subst l100 y100 z100
    obtain ⟨b_100, k2_100, rfl, N100q, K100, B101, g102⟩ := hQ100
    have N103 := Fr.app N99 N100q
    have B104 := B94.keep K100 nin0
    have B105 := B95.keep K100
    have B106 := B90.keep K100 nin0
    have B107 := B91.keep K100 nin0
    have B108 := B92.keep K100 nin0
    have Z109 : n0 ≤ T100.heap.size := Nat.le_trans Z96 K100.1
    have g110 : n0 ≤ b_100 := Nat.le_trans Z96 g102
    have ne111 : b60 ≠ b_100 := Nat.ne_of_lt (Nat.lt_of_lt_of_le B94.lt g102)
    have ne112 : b70 ≠ b_100 := Nat.ne_of_lt (Nat.lt_of_lt_of_le B95.lt g102)
    have ne113 : b_77 ≠ b_100 := Nat.ne_of_lt (Nat.lt_of_lt_of_le B92.lt g102)
    refine own_via (fun k => st100.trans k) ?_
    show own_Go p e below s _ _ (T100.setTop (mkF m 118 #[iv p0, iv p1, iv p2, iv 1, rv b60, iv z69, rv b70, rv b70, .unset] [(.ref b_100)]))
    refine own_via (fun k => XS.astore X100.here hx rfl (hb hby at_118) rfl rfl (l' := #[iv p0, iv p1, iv p2, iv 1, rv b60, iv z69, rv b70, rv b70, rv b_100]) rfl (XS.aload X100.here hx rfl (hb hby at_120) rfl rfl  k)) ?_
    show own_Go p e below s _ _ (T100.setTop (mkF m 122 #[iv p0, iv p1, iv p2, iv 1, rv b60, iv z69, rv b70, rv b70, rv b_100] [(.ref b_100)]))
    obtain ⟨cl114, Ar114, -, S114, NN114, -, -⟩ := id B101
    refine own_via (fun k => X100.arraylength hx Ar114.1 (State.isArrayOf_alike hZ.alike Ar114.2.1) (g := (mkF m 122 #[iv p0, iv p1, iv p2, iv 1, rv b60, iv z69, rv b70, rv b70, rv b_100] [(.ref b_100)])) rfl rfl (hb hby at_122) _ k) ?_
    rw [len_of S114 NN114]
    show own_Go p e below s _ _ (T100.setTop (mkF m 123 #[iv p0, iv p1, iv p2, iv 1, rv b60, iv z69, rv b70, rv b70, rv b_100] [(.int 1)]))
    refine own_via (fun k => XS.iloadN X100.here hx rfl (hb hby at_123) rfl  k) ?_
    show own_Go p e below s _ _ (T100.setTop (mkF m 124 #[iv p0, iv p1, iv p2, iv 1, rv b60, iv z69, rv b70, rv b70, rv b_100] [(.int 1), (.int 1)]))
    refine own_via (fun k => XS.icmpYes X100.here hx rfl (pc0 := 124) (pc' := 129) rfl (hb hby at_124) rfl (by decide) (by decide) (by decide) k) ?_
    show own_Go p e below s _ _ (T100.setTop (mkF m 129 #[iv p0, iv p1, iv p2, iv 1, rv b60, iv z69, rv b70, rv b70, rv b_100] []))
    refine own_via (fun k => XS.aload X100.here hx rfl (hb hby at_129) rfl rfl  (XS.aload X100.here hx rfl (hb hby at_131) rfl rfl  (XS.iconst X100.here hx rfl (hb hby at_133) (XS.iload X100.here hx rfl (hb hby at_134) rfl  k)))) ?_
    show own_Go p e below s _ _ (T100.setTop (mkF m 136 #[iv p0, iv p1, iv p2, iv 1, rv b60, iv z69, rv b70, rv b70, rv b_100] [(.int z69), (.int 0), (.ref b60), (.ref b_100)]))
    obtain ⟨_, _, ⟨T115, L115, k115, n115⟩, -, X115, ⟨Lc115, hQ115, l115, y115, z115⟩, st115⟩ := Jvm.LawKit.callS X100 hx (y := (⟨"com/example/dani/dani/core/KeyReversedFromPinLaw", "at", "([B[BII)Z"⟩ : MethodName)) hown (mvT hZ (hw _ (List.mem_of_getElem? (i := 45) rfl))) (mvT hZ (hw _ (List.mem_of_getElem? (i := 46) rfl))) (mvT hZ (hw _ (List.mem_of_getElem? (i := 47) rfl))) (mvT hZ (hw _ (List.mem_of_getElem? (i := 48) rfl))) (by decide) (backOf (W := 0) (rm9_1_0 l Z aw hw [] b_100 b60 z69 k2_100 k60 (own_r z69 (0 : Int32) (nar .byte z64)) (nar .byte z64) T100.heap n0 Z109 B101 B104) hZ (hw _ (List.mem_of_getElem? (i := 48) rfl)) (hw _ (List.mem_of_getElem? (i := 47) rfl)) (by decide) (by decide)) (g := (mkF m 136 #[iv p0, iv p1, iv p2, iv 1, rv b60, iv z69, rv b70, rv b70, rv b_100] [(.int z69), (.int 0), (.ref b60), (.ref b_100)])) rfl (by rw [hml]; rfl) (argsL := [(.ref b_100), (.ref b60), (.int 0), (.int z69)]) (rest := []) (lenOf pd_8 rfl) rfl (by show 2 * 0 + _ ≤ _; exact Nat.le_of_eq rfl) (hb hby at_136) (fun _ _ => ⟨rfl, rfl, (by decide : 5 + 0 ≤ _), (by decide : 132 + 0 ≤ _)⟩)
    dsimp only [Pt.U, Pt.locs, Pt.cells, Pt.slots] at X115 l115 y115 z115 st115 hQ115
    subst l115 y115 z115
    obtain ⟨rfl, N115q, eh115⟩ := hQ115
    have N116 := Fr.app N103 N115q
    refine own_via (fun k => st115 _ k) ?_
    show own_Go p e below s _ _ (T115.setTop (mkF m 139 #[iv p0, iv p1, iv p2, iv 1, rv b60, iv z69, rv b70, rv b70, rv b_100] [(.int (own_f9_1_0 z69 (own_r z69 (0 : Int32) (nar .byte z64)) (nar .byte z64)))]))
    refine own_via (fun k => XS.ifNo X115.here hx rfl (hb hby at_139) rfl ((if0 _ _).trans (feq (own_law1_139 p0 p1 p2 z64 hz64 z69 hz69 hl1)).1) k) ?_
    show own_Go p e below s _ _ (T115.setTop (mkF m 142 #[iv p0, iv p1, iv p2, iv 1, rv b60, iv z69, rv b70, rv b70, rv b_100] []))
    refine own_via (fun k => XS.aload X115.here hx rfl (hb hby at_142) rfl rfl  (XS.aload X115.here hx rfl (hb hby at_144) rfl rfl  (XS.iconst X115.here hx rfl (hb hby at_146) (XS.iload X115.here hx rfl (hb hby at_147) rfl  k)))) ?_
    show own_Go p e below s _ _ (T115.setTop (mkF m 149 #[iv p0, iv p1, iv p2, iv 1, rv b60, iv z69, rv b70, rv b70, rv b_100] [(.int z69), (.int 1), (.ref b60), (.ref b_100)]))
    obtain ⟨_, _, ⟨T117, L117, k117, n117⟩, -, X117, ⟨Lc117, hQ117, l117, y117, z117⟩, st117⟩ := Jvm.LawKit.callS X115 hx (y := (⟨"com/example/dani/dani/core/KeyReversedFromPinLaw", "at", "([B[BII)Z"⟩ : MethodName)) hown (mvT hZ (hw _ (List.mem_of_getElem? (i := 45) rfl))) (mvT hZ (hw _ (List.mem_of_getElem? (i := 46) rfl))) (mvT hZ (hw _ (List.mem_of_getElem? (i := 47) rfl))) (mvT hZ (hw _ (List.mem_of_getElem? (i := 48) rfl))) (by decide) (backOf (W := 0) (rm9_1_1 l Z aw hw [] b_100 b60 z69 k2_100 k60 (own_r z69 (0 : Int32) (nar .byte z64)) (nar .byte z64) T100.heap n0 Z109 B101 B104) hZ (hw _ (List.mem_of_getElem? (i := 48) rfl)) (hw _ (List.mem_of_getElem? (i := 47) rfl)) (by decide) (by decide)) (g := (mkF m 149 #[iv p0, iv p1, iv p2, iv 1, rv b60, iv z69, rv b70, rv b70, rv b_100] [(.int z69), (.int 1), (.ref b60), (.ref b_100)])) rfl (by rw [hml]; rfl) (argsL := [(.ref b_100), (.ref b60), (.int 1), (.int z69)]) (rest := []) (lenOf pd_8 rfl) rfl (by show 2 * 0 + _ ≤ _; exact Nat.le_of_eq rfl) (hb hby at_149) (fun _ _ => ⟨rfl, eh115, (by decide : 5 + 0 ≤ _), (by decide : 132 + 0 ≤ _)⟩)
    dsimp only [Pt.U, Pt.locs, Pt.cells, Pt.slots] at X117 l117 y117 z117 st117 hQ117
    subst l117 y117 z117
    obtain ⟨rfl, N117q, eh117⟩ := hQ117
    have N118 := Fr.app N116 N117q
    refine own_via (fun k => st117 _ k) ?_
    show own_Go p e below s _ _ (T117.setTop (mkF m 152 #[iv p0, iv p1, iv p2, iv 1, rv b60, iv z69, rv b70, rv b70, rv b_100] [(.int own_f9_1_1)]))
    refine own_via (fun k => XS.ifNo X117.here hx rfl (hb hby at_152) rfl ((if0 _ _).trans (feq (own_law1_152 p2 hl1)).1) k) ?_
    show own_Go p e below s _ _ (T117.setTop (mkF m 155 #[iv p0, iv p1, iv p2, iv 1, rv b60, iv z69, rv b70, rv b70, rv b_100] []))
    refine own_via (fun k => XS.aload X117.here hx rfl (hb hby at_155) rfl rfl  (XS.aload X117.here hx rfl (hb hby at_157) rfl rfl  (XS.iconst X117.here hx rfl (hb hby at_159) (XS.iload X117.here hx rfl (hb hby at_160) rfl  k)))) ?_
    show own_Go p e below s _ _ (T117.setTop (mkF m 162 #[iv p0, iv p1, iv p2, iv 1, rv b60, iv z69, rv b70, rv b70, rv b_100] [(.int z69), (.int 2), (.ref b60), (.ref b_100)]))
    obtain ⟨_, _, ⟨T119, L119, k119, n119⟩, -, X119, ⟨Lc119, hQ119, l119, y119, z119⟩, st119⟩ := Jvm.LawKit.callS X117 hx (y := (⟨"com/example/dani/dani/core/KeyReversedFromPinLaw", "at", "([B[BII)Z"⟩ : MethodName)) hown (mvT hZ (hw _ (List.mem_of_getElem? (i := 45) rfl))) (mvT hZ (hw _ (List.mem_of_getElem? (i := 46) rfl))) (mvT hZ (hw _ (List.mem_of_getElem? (i := 47) rfl))) (mvT hZ (hw _ (List.mem_of_getElem? (i := 48) rfl))) (by decide) (backOf (W := 0) (rm9_1_2 l Z aw hw [] b_100 b60 z69 k2_100 k60 (own_r z69 (0 : Int32) (nar .byte z64)) (nar .byte z64) T100.heap n0 Z109 B101 B104) hZ (hw _ (List.mem_of_getElem? (i := 48) rfl)) (hw _ (List.mem_of_getElem? (i := 47) rfl)) (by decide) (by decide)) (g := (mkF m 162 #[iv p0, iv p1, iv p2, iv 1, rv b60, iv z69, rv b70, rv b70, rv b_100] [(.int z69), (.int 2), (.ref b60), (.ref b_100)])) rfl (by rw [hml]; rfl) (argsL := [(.ref b_100), (.ref b60), (.int 2), (.int z69)]) (rest := []) (lenOf pd_8 rfl) rfl (by show 2 * 0 + _ ≤ _; exact Nat.le_of_eq rfl) (hb hby at_162) (fun _ _ => ⟨rfl, eh117, (by decide : 5 + 0 ≤ _), (by decide : 132 + 0 ≤ _)⟩)
    dsimp only [Pt.U, Pt.locs, Pt.cells, Pt.slots] at X119 l119 y119 z119 st119 hQ119
    subst l119 y119 z119
    obtain ⟨rfl, N119q, eh119⟩ := hQ119
    have N120 := Fr.app N118 N119q
    refine own_via (fun k => st119 _ k) ?_
    show own_Go p e below s _ _ (T119.setTop (mkF m 165 #[iv p0, iv p1, iv p2, iv 1, rv b60, iv z69, rv b70, rv b70, rv b_100] [(.int own_f9_1_2)]))
    refine own_via (fun k => XS.ifNo X119.here hx rfl (hb hby at_165) rfl ((if0 _ _).trans (feq (own_law1_165 p2 hl1)).1) k) ?_
    show own_Go p e below s _ _ (T119.setTop (mkF m 168 #[iv p0, iv p1, iv p2, iv 1, rv b60, iv z69, rv b70, rv b70, rv b_100] []))
    refine own_via (fun k => XS.aload X119.here hx rfl (hb hby at_168) rfl rfl  (XS.aload X119.here hx rfl (hb hby at_170) rfl rfl  (XS.iconst X119.here hx rfl (hb hby at_172) (XS.iload X119.here hx rfl (hb hby at_173) rfl  k)))) ?_
    show own_Go p e below s _ _ (T119.setTop (mkF m 175 #[iv p0, iv p1, iv p2, iv 1, rv b60, iv z69, rv b70, rv b70, rv b_100] [(.int z69), (.int 3), (.ref b60), (.ref b_100)]))
    obtain ⟨_, _, ⟨T121, L121, k121, n121⟩, -, X121, ⟨Lc121, hQ121, l121, y121, z121⟩, st121⟩ := Jvm.LawKit.callS X119 hx (y := (⟨"com/example/dani/dani/core/KeyReversedFromPinLaw", "at", "([B[BII)Z"⟩ : MethodName)) hown (mvT hZ (hw _ (List.mem_of_getElem? (i := 45) rfl))) (mvT hZ (hw _ (List.mem_of_getElem? (i := 46) rfl))) (mvT hZ (hw _ (List.mem_of_getElem? (i := 47) rfl))) (mvT hZ (hw _ (List.mem_of_getElem? (i := 48) rfl))) (by decide) (backOf (W := 0) (rm9_1_3 l Z aw hw [] b_100 b60 z69 k2_100 k60 (own_r z69 (0 : Int32) (nar .byte z64)) (nar .byte z64) T100.heap n0 Z109 B101 B104) hZ (hw _ (List.mem_of_getElem? (i := 48) rfl)) (hw _ (List.mem_of_getElem? (i := 47) rfl)) (by decide) (by decide)) (g := (mkF m 175 #[iv p0, iv p1, iv p2, iv 1, rv b60, iv z69, rv b70, rv b70, rv b_100] [(.int z69), (.int 3), (.ref b60), (.ref b_100)])) rfl (by rw [hml]; rfl) (argsL := [(.ref b_100), (.ref b60), (.int 3), (.int z69)]) (rest := []) (lenOf pd_8 rfl) rfl (by show 2 * 0 + _ ≤ _; exact Nat.le_of_eq rfl) (hb hby at_175) (fun _ _ => ⟨rfl, eh119, (by decide : 5 + 0 ≤ _), (by decide : 132 + 0 ≤ _)⟩)
    dsimp only [Pt.U, Pt.locs, Pt.cells, Pt.slots] at X121 l121 y121 z121 st121 hQ121
    subst l121 y121 z121
    obtain ⟨rfl, N121q, eh121⟩ := hQ121
    have N122 := Fr.app N120 N121q
    refine own_via (fun k => st121 _ k) ?_
    show own_Go p e below s _ _ (T121.setTop (mkF m 178 #[iv p0, iv p1, iv p2, iv 1, rv b60, iv z69, rv b70, rv b70, rv b_100] [(.int own_f9_1_3)]))
    refine own_via (fun k => XS.ifNo X121.here hx rfl (hb hby at_178) rfl ((if0 _ _).trans (feq (own_law1_178 p2 hl1)).1) k) ?_
    show own_Go p e below s _ _ (T121.setTop (mkF m 181 #[iv p0, iv p1, iv p2, iv 1, rv b60, iv z69, rv b70, rv b70, rv b_100] []))
    refine own_via (fun k => XS.iconst X121.here hx rfl (hb hby at_181) (XS.goto X121.here hx rfl (pc0 := 182) (pc' := 186) rfl (hb hby at_182) (by decide) (by decide) k)) ?_
    show own_Go p e below s _ _ (T121.setTop (mkF m 186 #[iv p0, iv p1, iv p2, iv 1, rv b60, iv z69, rv b70, rv b70, rv b_100] [(.int 1)]))
    exact own_retN X121 hx hlk (t := .boolean) Bd.returns (by simp) (hb hby at_186) (Q := (Q0 Z p0 p1 p2 h0 n0)) ⟨rfl, N122⟩ (by decide) (by decide)
  · rw [hl1]
    show own_Go p e below s _ _ (s₁.setTop (mkF m 7 #[iv p0, iv p1, iv p2, iv 2, .unset, .unset, .unset, .unset, .unset] []))
    refine own_via (fun k => XS.iloadN X0.here hx rfl (hb hby at_7) rfl  k) ?_
    show own_Go p e below s _ _ (s₁.setTop (mkF m 8 #[iv p0, iv p1, iv p2, iv 2, .unset, .unset, .unset, .unset, .unset] [(.int 2)]))
    obtain ⟨T123, h123, k123, X123, e123, E123, A123, st123⟩ := newP X0 hx hZ (hw _ (List.mem_of_getElem? (i := 0) rfl)) e0 (g := (mkF m 8 #[iv p0, iv p1, iv p2, iv 2, .unset, .unset, .unset, .unset, .unset] [(.int 2)])) rfl (hb hby at_8) rfl (by decide) (cap := 2) (by decide) (by decide) (by decide) (by decide)
    obtain ⟨b123, g123⟩ : ∃ z, z = h0.size := ⟨_, rfl⟩
    rw [← g123] at A123 st123
    refine own_via (fun k => st123 _ k) ?_
    show own_Go p e below s _ _ (T123.setTop (mkF m 10 #[iv p0, iv p1, iv p2, iv 2, .unset, .unset, .unset, .unset, .unset] [(.ref b123)]))
    have g124 : n0 ≤ b123 := Nat.le_trans Z0 (Nat.le_of_eq g123.symm)
    have Z125 : n0 ≤ h123.size := Nat.le_trans Z0 E123.1
    have B126 : Arv Z h123 b123 k123 .byte (2 : Int32) [(.int 0), (.int 0)] (.int 0) := (Arv.new A123 (by decide)).pad (pad_rep [] (.int 0) 2)
    refine own_via (fun k => XS.astore X123.here hx rfl (hb hby at_10) rfl rfl (l' := #[iv p0, iv p1, iv p2, iv 2, rv b123, .unset, .unset, .unset, .unset]) rfl (XS.iloadN X123.here hx rfl (hb hby at_12) rfl  k)) ?_
    show own_Go p e below s _ _ (T123.setTop (mkF m 13 #[iv p0, iv p1, iv p2, iv 2, rv b123, .unset, .unset, .unset, .unset] [(.int 2)]))
    refine own_via (fun k => XS.ifNo X123.here hx rfl (hb hby at_13) rfl (by decide) k) ?_
    show own_Go p e below s _ _ (T123.setTop (mkF m 16 #[iv p0, iv p1, iv p2, iv 2, rv b123, .unset, .unset, .unset, .unset] []))
    refine own_via (fun k => XS.aload X123.here hx rfl (hb hby at_16) rfl rfl  (XS.iconst X123.here hx rfl (hb hby at_18) (XS.iloadN X123.here hx rfl (hb hby at_19) rfl  (XS.i2b X123.here hx rfl (hb hby at_20) rfl k)))) ?_
    show own_Go p e below s _ _ (T123.setTop (mkF m 21 #[iv p0, iv p1, iv p2, iv 2, rv b123, .unset, .unset, .unset, .unset] [(.int (p0.toInt8.toInt32)), (.int 0), (.ref b123)]))
    obtain ⟨z127, hz127⟩ : ∃ z : Int32, z = (p0.toInt8.toInt32) := ⟨_, rfl⟩
    rw [← hz127]
    show own_Go p e below s _ _ (T123.setTop (mkF m 21 #[iv p0, iv p1, iv p2, iv 2, rv b123, .unset, .unset, .unset, .unset] [(.int z127), (.int 0), (.ref b123)]))
    obtain ⟨cl128, Ar128, q128, S128, NN128, H128, G128⟩ := id B126
    have hin128 : ¬ ((0 : Int32) < 0 ∨ cl128.slots.size ≤ ((0 : Int32)).toNatClampNeg) := inb_of S128 ⟨by decide, by decide⟩
    obtain ⟨T128, h128, X128, e128, W128, st128⟩ := stB X123 hx hZ e123 Ar128 (j := (0 : Int32)) hin128 (g := (mkF m 21 #[iv p0, iv p1, iv p2, iv 2, rv b123, .unset, .unset, .unset, .unset] [(.int z127), (.int 0), (.ref b123)])) rfl rfl (hb hby at_21)
    refine own_via (fun k => st128 _ k) ?_
    show own_Go p e below s _ _ (T128.setTop (mkF m 22 #[iv p0, iv p1, iv p2, iv 2, rv b123, .unset, .unset, .unset, .unset] []))
    have B129 : Arv Z h128 b123 k123 .byte (2 : Int32) [(.int (nar .byte z127)), (.int 0)] (.int 0) := Arv.set Ar128 q128 S128 NN128 H128 G128 (fits_nar_byte _) W128 0 rfl (Nat.le_of_ble_eq_true rfl)
    have N130 := Fr.snoc X128 N0 g124
    have Z131 : n0 ≤ h128.size := Nat.le_trans Z125 (Keep.of_wr W128).1
    refine own_via (fun k => XS.iloadN X128.here hx rfl (hb hby at_22) rfl  (XS.iconst X128.here hx rfl (hb hby at_23) k)) ?_
    show own_Go p e below s _ _ (T128.setTop (mkF m 24 #[iv p0, iv p1, iv p2, iv 2, rv b123, .unset, .unset, .unset, .unset] [(.int 1), (.int 2)]))
    refine own_via (fun k => XS.icmpNo X128.here hx rfl (hb hby at_24) rfl (by decide) k) ?_
    show own_Go p e below s _ _ (T128.setTop (mkF m 27 #[iv p0, iv p1, iv p2, iv 2, rv b123, .unset, .unset, .unset, .unset] []))
    refine own_via (fun k => XS.aload X128.here hx rfl (hb hby at_27) rfl rfl  (XS.iconst X128.here hx rfl (hb hby at_29) (XS.iloadN X128.here hx rfl (hb hby at_30) rfl  (XS.bipush X128.here hx rfl (hb hby at_31) k)))) ?_
    show own_Go p e below s _ _ (T128.setTop (mkF m 33 #[iv p0, iv p1, iv p2, iv 2, rv b123, .unset, .unset, .unset, .unset] [(.int 8), (.int p0), (.int 1), (.ref b123)]))
    refine own_via (fun k => XS.iushr X128.here hx rfl (hb hby at_33) rfl (XS.i2b X128.here hx rfl (hb hby at_34) rfl k)) ?_
    show own_Go p e below s _ _ (T128.setTop (mkF m 35 #[iv p0, iv p1, iv p2, iv 2, rv b123, .unset, .unset, .unset, .unset] [(.int (((p0.toUInt32 >>> ((8 : Int32) &&& 31).toUInt32).toInt32).toInt8.toInt32)), (.int 1), (.ref b123)]))
    obtain ⟨z132, hz132⟩ : ∃ z : Int32, z = (((p0.toUInt32 >>> ((8 : Int32) &&& 31).toUInt32).toInt32).toInt8.toInt32) := ⟨_, rfl⟩
    rw [← hz132]
    show own_Go p e below s _ _ (T128.setTop (mkF m 35 #[iv p0, iv p1, iv p2, iv 2, rv b123, .unset, .unset, .unset, .unset] [(.int z132), (.int 1), (.ref b123)]))
    obtain ⟨cl133, Ar133, q133, S133, NN133, H133, G133⟩ := id B129
    have hin133 : ¬ ((1 : Int32) < 0 ∨ cl133.slots.size ≤ ((1 : Int32)).toNatClampNeg) := inb_of S133 ⟨by decide, by decide⟩
    obtain ⟨T133, h133, X133, e133, W133, st133⟩ := stB X128 hx hZ e128 Ar133 (j := (1 : Int32)) hin133 (g := (mkF m 35 #[iv p0, iv p1, iv p2, iv 2, rv b123, .unset, .unset, .unset, .unset] [(.int z132), (.int 1), (.ref b123)])) rfl rfl (hb hby at_35)
    refine own_via (fun k => st133 _ k) ?_
    show own_Go p e below s _ _ (T133.setTop (mkF m 36 #[iv p0, iv p1, iv p2, iv 2, rv b123, .unset, .unset, .unset, .unset] []))
    have B134 : Arv Z h133 b123 k123 .byte (2 : Int32) [(.int (nar .byte z127)), (.int (nar .byte z132))] (.int 0) := Arv.set Ar133 q133 S133 NN133 H133 G133 (fits_nar_byte _) W133 1 rfl (Nat.le_of_ble_eq_true rfl)
    have N135 := Fr.snoc X133 N130 g124
    have Z136 : n0 ≤ h133.size := Nat.le_trans Z131 (Keep.of_wr W133).1
    refine own_via (fun k => XS.iloadN X133.here hx rfl (hb hby at_36) rfl  (XS.iconst X133.here hx rfl (hb hby at_37) k)) ?_
    show own_Go p e below s _ _ (T133.setTop (mkF m 38 #[iv p0, iv p1, iv p2, iv 2, rv b123, .unset, .unset, .unset, .unset] [(.int 2), (.int 2)]))
    refine own_via (fun k => XS.icmpYes X133.here hx rfl (pc0 := 38) (pc' := 50) rfl (hb hby at_38) rfl (by decide) (by decide) (by decide) k) ?_
    show own_Go p e below s _ _ (T133.setTop (mkF m 50 #[iv p0, iv p1, iv p2, iv 2, rv b123, .unset, .unset, .unset, .unset] []))
    refine own_via (fun k => XS.iloadN X133.here hx rfl (hb hby at_50) rfl  (XS.iconst X133.here hx rfl (hb hby at_51) k)) ?_
    show own_Go p e below s _ _ (T133.setTop (mkF m 52 #[iv p0, iv p1, iv p2, iv 2, rv b123, .unset, .unset, .unset, .unset] [(.int 3), (.int 2)]))
    refine own_via (fun k => XS.icmpYes X133.here hx rfl (pc0 := 52) (pc' := 64) rfl (hb hby at_52) rfl (by decide) (by decide) (by decide) k) ?_
    show own_Go p e below s _ _ (T133.setTop (mkF m 64 #[iv p0, iv p1, iv p2, iv 2, rv b123, .unset, .unset, .unset, .unset] []))
    refine own_via (fun k => XS.iloadN X133.here hx rfl (hb hby at_64) rfl  (X133.ldcInt hx hown (mvT hZ (hw _ (List.mem_of_getElem? (i := 1) rfl))) (g := (mkF m 65 #[iv p0, iv p1, iv p2, iv 2, rv b123, .unset, .unset, .unset, .unset] [(.int p1)])) rfl (hb hby at_65) _ (XS.iand X133.here hx rfl (hb hby at_67) rfl (XS.bipush X133.here hx rfl (hb hby at_68) k)))) ?_
    show own_Go p e below s _ _ (T133.setTop (mkF m 70 #[iv p0, iv p1, iv p2, iv 2, rv b123, .unset, .unset, .unset, .unset] [(.int 7), (.int (p1 &&& (2147483647 : Int32)))]))
    refine own_via (fun k => Jvm.RoadKit.iremM X133 hx rfl (hb hby at_70) rfl (by decide) k) ?_
    show own_Go p e below s _ _ (T133.setTop (mkF m 71 #[iv p0, iv p1, iv p2, iv 2, rv b123, .unset, .unset, .unset, .unset] [(.int ((p1 &&& (2147483647 : Int32)) % (7 : Int32)))]))
    obtain ⟨z137, hz137⟩ : ∃ z : Int32, z = ((p1 &&& (2147483647 : Int32)) % (7 : Int32)) := ⟨_, rfl⟩
    rw [← hz137]
    show own_Go p e below s _ _ (T133.setTop (mkF m 71 #[iv p0, iv p1, iv p2, iv 2, rv b123, .unset, .unset, .unset, .unset] [(.int z137)]))
    refine own_via (fun k => XS.istore X133.here hx rfl (hb hby at_71) rfl (l' := #[iv p0, iv p1, iv p2, iv 2, rv b123, iv z137, .unset, .unset, .unset]) rfl k) ?_
    show own_Go p e below s _ _ (T133.setTop (mkF m 73 #[iv p0, iv p1, iv p2, iv 2, rv b123, iv z137, .unset, .unset, .unset] []))
    obtain ⟨T138, h138, X138, e138, E138, A138, D138, -, st138⟩ := newO X133 hx hZ hown (hw _ (List.mem_of_getElem? (i := 2) rfl)) (hw _ (List.mem_of_getElem? (i := 3) rfl)) (hw _ (List.mem_of_getElem? (i := 4) rfl)) e133 (g := (mkF m 73 #[iv p0, iv p1, iv p2, iv 2, rv b123, iv z137, .unset, .unset, .unset] [])) rfl (hb hby at_73) (by decide) (by decide)
    obtain ⟨b138, g138⟩ : ∃ z, z = h133.size := ⟨_, rfl⟩
    rw [← g138] at A138 D138 st138
    refine own_via (fun k => st138 _ k) ?_
    show own_Go p e below s _ _ (T138.setTop (mkF m 76 #[iv p0, iv p1, iv p2, iv 2, rv b123, iv z137, .unset, .unset, .unset] [(.ref b138)]))
    have g139 : n0 ≤ b138 := Nat.le_trans Z136 (Nat.le_of_eq g138.symm)
    have ne140 : b123 ≠ b138 := Nat.ne_of_lt (Nat.lt_of_lt_of_le B134.lt (Nat.le_of_eq g138.symm))
    have B141 := B134.ext E138
    have Z142 : n0 ≤ h138.size := Nat.le_trans Z136 E138.1
    have B143 : Fld Z h138 b138 "com/example/dani/dani/core/Key" "bytes" "[B" .null := D138 (Or.inl (hw _ (List.mem_of_getElem? (i := 12) rfl))) (ty := (.array .byte)) (by decide)
    have B144 : Fld Z h138 b138 "com/example/dani/dani/core/Key" "length" "I" (.int 0) := D138 (Or.inl (hw _ (List.mem_of_getElem? (i := 29) rfl))) (ty := .int) (by decide)
    refine own_via (fun k => XS.dup X138.here hx rfl (hb hby at_76) rfl rfl (XS.aload X138.here hx rfl (hb hby at_77) rfl rfl  k)) ?_
    show own_Go p e below s _ _ (T138.setTop (mkF m 79 #[iv p0, iv p1, iv p2, iv 2, rv b123, iv z137, .unset, .unset, .unset] [(.ref b123), (.ref b138), (.ref b138)]))
    obtain ⟨_, _, ⟨T145, L145, k145, n145⟩, -, X145, ⟨Lc145, hQ145, l145, y145, z145⟩, st145⟩ := X138.specialBack hx (y := (⟨"com/example/dani/dani/core/Key", "<init>", "([B)V"⟩ : MethodName)) rfl hown (mvT hZ (hw _ (List.mem_of_getElem? (i := 5) rfl))) (mvT hZ (hw _ (List.mem_of_getElem? (i := 6) rfl))) (mvT hZ (hw _ (List.mem_of_getElem? (i := 7) rfl))) (by decide) (backOf (W := 1) (rm1_2 l Z aw hw [] b138 b123 k123 (nar .byte z127) (nar .byte z132) h138 n0 Z142 B143 B144 A138 B141 g139 ne140) hZ (hw _ (List.mem_of_getElem? (i := 7) rfl)) (hw _ (List.mem_of_getElem? (i := 4) rfl)) (by decide) (by decide)) (g := (mkF m 79 #[iv p0, iv p1, iv p2, iv 2, rv b123, iv z137, .unset, .unset, .unset] [(.ref b123), (.ref b138), (.ref b138)])) rfl (by rw [hml]; rfl) (Steps.refl _) (a := b138) (argsL := [(.ref b123)]) (rest := [(.ref b138)]) (lenOf pd_0 rfl) rfl (by show 2 * 0 + _ ≤ _; exact Nat.le_of_eq rfl) (hb hby at_79) (fun _ _ => ⟨rfl, e138, (by decide : 2 + 2 ≤ _), (by decide : 4 + 128 ≤ _)⟩)
    dsimp only [Pt.U, Pt.locs, Pt.cells, Pt.slots] at X145 l145 y145 z145 st145 hQ145
    subst l145 y145 z145
    obtain ⟨b_145, k2_145, rfl, N145q, K145, B146, B147, B148, g149⟩ := hQ145
    have N150 := Fr.app N135 N145q
    have B151 := B141.keep K145 (ninS ne140 nin0)
    have B152 := A138.keep K145
    have Z153 : n0 ≤ T145.heap.size := Nat.le_trans Z142 K145.1
    have g154 : n0 ≤ b_145 := Nat.le_trans Z142 g149
    have ne155 : b123 ≠ b_145 := Nat.ne_of_lt (Nat.lt_of_lt_of_le B141.lt g149)
    have ne156 : b138 ≠ b_145 := Nat.ne_of_lt (Nat.lt_of_lt_of_le A138.lt g149)
    refine own_via (fun k => st145.trans k) ?_
    show own_Go p e below s _ _ (T145.setTop (mkF m 82 #[iv p0, iv p1, iv p2, iv 2, rv b123, iv z137, .unset, .unset, .unset] [(.ref b138)]))
    refine own_via (fun k => XS.astore X145.here hx rfl (hb hby at_82) rfl rfl (l' := #[iv p0, iv p1, iv p2, iv 2, rv b123, iv z137, rv b138, .unset, .unset]) rfl (XS.aload X145.here hx rfl (hb hby at_84) rfl rfl  (XS.iload X145.here hx rfl (hb hby at_86) rfl  k))) ?_
    show own_Go p e below s _ _ (T145.setTop (mkF m 88 #[iv p0, iv p1, iv p2, iv 2, rv b123, iv z137, rv b138, .unset, .unset] [(.int z137), (.ref b138)]))
    obtain ⟨cq157, kq157, q157a, q157b, q157c⟩ := isOf hZ rfl B152
    obtain ⟨_, _, ⟨T157, L157, k157, n157⟩, -, X157, ⟨Lc157, hQ157, l157, y157, z157⟩, st157⟩ := X145.virtualBack hx (y := (⟨"com/example/dani/dani/core/Key", "reversedFrom", "(I)Lcom/example/dani/dani/core/Key;"⟩ : MethodName)) (z := (⟨"com/example/dani/dani/core/Key", "reversedFrom", "(I)Lcom/example/dani/dani/core/Key;"⟩ : MethodName)) hown (mvT hZ (hw _ (List.mem_of_getElem? (i := 30) rfl))) (mvT hZ (hw _ (List.mem_of_getElem? (i := 31) rfl))) (notFace_of_selects (args := #[]) (mvT hZ (hw _ (List.mem_of_getElem? (i := 33) rfl)))) (mvT hZ (hw _ (List.mem_of_getElem? (i := 33) rfl))) (mvT hZ (hw _ (List.mem_of_getElem? (i := 32) rfl))) (by decide) (backOf (W := 0) (rm6_2 l Z aw hw [] b138 z137 b_145 k2_145 (nar .byte z127) (nar .byte z132) T145.heap n0 Z153 B146 B147 B152 B148 g154 ne156 (own_hs2 p1 p2 z137 hz137 hl1)) hZ (hw _ (List.mem_of_getElem? (i := 34) rfl)) (hw _ (List.mem_of_getElem? (i := 4) rfl)) (by decide) (by decide)) q157a q157c (g := (mkF m 88 #[iv p0, iv p1, iv p2, iv 2, rv b123, iv z137, rv b138, .unset, .unset] [(.int z137), (.ref b138)])) rfl (by rw [hml]; rfl) (Steps.refl _) (argsL := [(.int z137)]) (rest := []) (lenOf pd_5 rfl) rfl (by show 2 * 0 + _ ≤ _; exact Nat.le_of_eq rfl) (hb hby at_88) (fun _ _ => ⟨rfl, rfl, (by decide : 4 + 0 ≤ _), (by decide : 132 + 0 ≤ _)⟩)
    dsimp only [Pt.U, Pt.locs, Pt.cells, Pt.slots] at X157 l157 y157 z157 st157 hQ157
    subst l157 y157 z157
    obtain ⟨rfl, N157q, K157, B158, B159, B160⟩ := hQ157
    have N161 := Fr.app N150 N157q
    have B162 := B151.keep K157 (ninS ne155 nin0)
    have B163 := B152.keep K157
    have Z164 : n0 ≤ T157.heap.size := Nat.le_trans Z153 K157.1
    refine own_via (fun k => st157.trans k) ?_
    show own_Go p e below s _ _ (T157.setTop (mkF m 91 #[iv p0, iv p1, iv p2, iv 2, rv b123, iv z137, rv b138, .unset, .unset] [(.ref b138)]))
    refine own_via (fun k => XS.astore X157.here hx rfl (hb hby at_91) rfl rfl (l' := #[iv p0, iv p1, iv p2, iv 2, rv b123, iv z137, rv b138, rv b138, .unset]) rfl (XS.aload X157.here hx rfl (hb hby at_93) rfl rfl  (XS.aload X157.here hx rfl (hb hby at_95) rfl rfl  k))) ?_
    show own_Go p e below s _ _ (T157.setTop (mkF m 97 #[iv p0, iv p1, iv p2, iv 2, rv b123, iv z137, rv b138, rv b138, .unset] [(.ref b138), (.ref b138)]))
    refine own_via (fun k => Jvm.RoadKit.acmp (g := (mkF m 97 #[iv p0, iv p1, iv p2, iv 2, rv b123, iv z137, rv b138, rv b138, .unset] [(.ref b138), (.ref b138)])) X157 hx rfl rfl rfl (pc0 := 97) (pc' := 102) (same := true) rfl (hb hby at_97) rfl (decide_eq_true rfl) (by decide) (by decide) k) ?_
    show own_Go p e below s _ _ (T157.setTop (mkF m 102 #[iv p0, iv p1, iv p2, iv 2, rv b123, iv z137, rv b138, rv b138, .unset] []))
    refine own_via (fun k => XS.aload X157.here hx rfl (hb hby at_102) rfl rfl  k) ?_
    show own_Go p e below s _ _ (T157.setTop (mkF m 104 #[iv p0, iv p1, iv p2, iv 2, rv b123, iv z137, rv b138, rv b138, .unset] [(.ref b138)]))
    obtain ⟨cq166, kq166, q166a, q166b, q166c⟩ := isOf hZ rfl B163
    obtain ⟨_, _, ⟨T166, L166, k166, n166⟩, -, X166, ⟨Lc166, hQ166, l166, y166, z166⟩, st166⟩ := X157.virtualBack hx (y := (⟨"com/example/dani/dani/core/Key", "length", "()I"⟩ : MethodName)) (z := (⟨"com/example/dani/dani/core/Key", "length", "()I"⟩ : MethodName)) hown (mvT hZ (hw _ (List.mem_of_getElem? (i := 35) rfl))) (mvT hZ (hw _ (List.mem_of_getElem? (i := 36) rfl))) (notFace_of_selects (args := #[]) (mvT hZ (hw _ (List.mem_of_getElem? (i := 38) rfl)))) (mvT hZ (hw _ (List.mem_of_getElem? (i := 38) rfl))) (mvT hZ (hw _ (List.mem_of_getElem? (i := 37) rfl))) (by decide) (backOf (W := 0) (rm7_2 l Z aw hw [] b138 T157.heap n0 Z164 B159) hZ (hw _ (List.mem_of_getElem? (i := 39) rfl)) (hw _ (List.mem_of_getElem? (i := 4) rfl)) (by decide) (by decide)) q166a q166c (g := (mkF m 104 #[iv p0, iv p1, iv p2, iv 2, rv b123, iv z137, rv b138, rv b138, .unset] [(.ref b138)])) rfl (by rw [hml]; rfl) (Steps.refl _) (argsL := []) (rest := []) (lenOf pd_6 rfl) rfl (by show 2 * 0 + _ ≤ _; exact Nat.le_of_eq rfl) (hb hby at_104) (fun _ _ => ⟨rfl, rfl, (by decide : 4 + 0 ≤ _), (by decide : 132 + 0 ≤ _)⟩)
    dsimp only [Pt.U, Pt.locs, Pt.cells, Pt.slots] at X166 l166 y166 z166 st166 hQ166
    subst l166 y166 z166
    obtain ⟨rfl, N166q, eh166⟩ := hQ166
    have N167 := Fr.app N161 N166q
    refine own_via (fun k => st166.trans k) ?_
    show own_Go p e below s _ _ (T166.setTop (mkF m 107 #[iv p0, iv p1, iv p2, iv 2, rv b123, iv z137, rv b138, rv b138, .unset] [(.int 2)]))
    refine own_via (fun k => XS.iloadN X166.here hx rfl (hb hby at_107) rfl  k) ?_
    show own_Go p e below s _ _ (T166.setTop (mkF m 108 #[iv p0, iv p1, iv p2, iv 2, rv b123, iv z137, rv b138, rv b138, .unset] [(.int 2), (.int 2)]))
    refine own_via (fun k => XS.icmpYes X166.here hx rfl (pc0 := 108) (pc' := 113) rfl (hb hby at_108) rfl (by decide) (by decide) (by decide) k) ?_
    show own_Go p e below s _ _ (T166.setTop (mkF m 113 #[iv p0, iv p1, iv p2, iv 2, rv b123, iv z137, rv b138, rv b138, .unset] []))
    refine own_via (fun k => XS.aload X166.here hx rfl (hb hby at_113) rfl rfl  k) ?_
    show own_Go p e below s _ _ (T166.setTop (mkF m 115 #[iv p0, iv p1, iv p2, iv 2, rv b123, iv z137, rv b138, rv b138, .unset] [(.ref b138)]))
    obtain ⟨cq168, kq168, q168a, q168b, q168c⟩ := isOf hZ eh166 B163
    obtain ⟨_, _, ⟨T168, L168, k168, n168⟩, -, X168, ⟨Lc168, hQ168, l168, y168, z168⟩, st168⟩ := X166.virtualBack hx (y := (⟨"com/example/dani/dani/core/Key", "toBytes", "()[B"⟩ : MethodName)) (z := (⟨"com/example/dani/dani/core/Key", "toBytes", "()[B"⟩ : MethodName)) hown (mvT hZ (hw _ (List.mem_of_getElem? (i := 40) rfl))) (mvT hZ (hw _ (List.mem_of_getElem? (i := 41) rfl))) (notFace_of_selects (args := #[]) (mvT hZ (hw _ (List.mem_of_getElem? (i := 43) rfl)))) (mvT hZ (hw _ (List.mem_of_getElem? (i := 43) rfl))) (mvT hZ (hw _ (List.mem_of_getElem? (i := 42) rfl))) (by decide) (backOf (W := 0) (rm8_2 l Z aw hw [] b138 b_145 k2_145 (own_r z137 (0 : Int32) (nar .byte z127)) (own_r z137 (1 : Int32) (nar .byte z132)) T157.heap n0 Z164 B158 B159 B160) hZ (hw _ (List.mem_of_getElem? (i := 44) rfl)) (hw _ (List.mem_of_getElem? (i := 4) rfl)) (by decide) (by decide)) q168a q168c (g := (mkF m 115 #[iv p0, iv p1, iv p2, iv 2, rv b123, iv z137, rv b138, rv b138, .unset] [(.ref b138)])) rfl (by rw [hml]; rfl) (Steps.refl _) (argsL := []) (rest := []) (lenOf pd_7 rfl) rfl (by show 2 * 0 + _ ≤ _; exact Nat.le_of_eq rfl) (hb hby at_115) (fun _ _ => ⟨rfl, eh166, (by decide : 4 + 1 ≤ _), (by decide : 132 + 2 ≤ _)⟩)
    dsimp only [Pt.U, Pt.locs, Pt.cells, Pt.slots] at X168 l168 y168 z168 st168 hQ168
    subst l168 y168 z168
    obtain ⟨b_168, k2_168, rfl, N168q, K168, B169, g170⟩ := hQ168
    have N171 := Fr.app N167 N168q
    have B172 := B162.keep K168 nin0
    have B173 := B163.keep K168
    have B174 := B158.keep K168 nin0
    have B175 := B159.keep K168 nin0
    have B176 := B160.keep K168 nin0
    have Z177 : n0 ≤ T168.heap.size := Nat.le_trans Z164 K168.1
    have g178 : n0 ≤ b_168 := Nat.le_trans Z164 g170
    have ne179 : b123 ≠ b_168 := Nat.ne_of_lt (Nat.lt_of_lt_of_le B162.lt g170)
    have ne180 : b138 ≠ b_168 := Nat.ne_of_lt (Nat.lt_of_lt_of_le B163.lt g170)
    have ne181 : b_145 ≠ b_168 := Nat.ne_of_lt (Nat.lt_of_lt_of_le B160.lt g170)
    refine own_via (fun k => st168.trans k) ?_
    show own_Go p e below s _ _ (T168.setTop (mkF m 118 #[iv p0, iv p1, iv p2, iv 2, rv b123, iv z137, rv b138, rv b138, .unset] [(.ref b_168)]))
    refine own_via (fun k => XS.astore X168.here hx rfl (hb hby at_118) rfl rfl (l' := #[iv p0, iv p1, iv p2, iv 2, rv b123, iv z137, rv b138, rv b138, rv b_168]) rfl (XS.aload X168.here hx rfl (hb hby at_120) rfl rfl  k)) ?_
    show own_Go p e below s _ _ (T168.setTop (mkF m 122 #[iv p0, iv p1, iv p2, iv 2, rv b123, iv z137, rv b138, rv b138, rv b_168] [(.ref b_168)]))
    obtain ⟨cl182, Ar182, -, S182, NN182, -, -⟩ := id B169
    refine own_via (fun k => X168.arraylength hx Ar182.1 (State.isArrayOf_alike hZ.alike Ar182.2.1) (g := (mkF m 122 #[iv p0, iv p1, iv p2, iv 2, rv b123, iv z137, rv b138, rv b138, rv b_168] [(.ref b_168)])) rfl rfl (hb hby at_122) _ k) ?_
    rw [len_of S182 NN182]
    show own_Go p e below s _ _ (T168.setTop (mkF m 123 #[iv p0, iv p1, iv p2, iv 2, rv b123, iv z137, rv b138, rv b138, rv b_168] [(.int 2)]))
    refine own_via (fun k => XS.iloadN X168.here hx rfl (hb hby at_123) rfl  k) ?_
    show own_Go p e below s _ _ (T168.setTop (mkF m 124 #[iv p0, iv p1, iv p2, iv 2, rv b123, iv z137, rv b138, rv b138, rv b_168] [(.int 2), (.int 2)]))
    refine own_via (fun k => XS.icmpYes X168.here hx rfl (pc0 := 124) (pc' := 129) rfl (hb hby at_124) rfl (by decide) (by decide) (by decide) k) ?_
    show own_Go p e below s _ _ (T168.setTop (mkF m 129 #[iv p0, iv p1, iv p2, iv 2, rv b123, iv z137, rv b138, rv b138, rv b_168] []))
    refine own_via (fun k => XS.aload X168.here hx rfl (hb hby at_129) rfl rfl  (XS.aload X168.here hx rfl (hb hby at_131) rfl rfl  (XS.iconst X168.here hx rfl (hb hby at_133) (XS.iload X168.here hx rfl (hb hby at_134) rfl  k)))) ?_
    show own_Go p e below s _ _ (T168.setTop (mkF m 136 #[iv p0, iv p1, iv p2, iv 2, rv b123, iv z137, rv b138, rv b138, rv b_168] [(.int z137), (.int 0), (.ref b123), (.ref b_168)]))
    obtain ⟨_, _, ⟨T183, L183, k183, n183⟩, -, X183, ⟨Lc183, hQ183, l183, y183, z183⟩, st183⟩ := Jvm.LawKit.callS X168 hx (y := (⟨"com/example/dani/dani/core/KeyReversedFromPinLaw", "at", "([B[BII)Z"⟩ : MethodName)) hown (mvT hZ (hw _ (List.mem_of_getElem? (i := 45) rfl))) (mvT hZ (hw _ (List.mem_of_getElem? (i := 46) rfl))) (mvT hZ (hw _ (List.mem_of_getElem? (i := 47) rfl))) (mvT hZ (hw _ (List.mem_of_getElem? (i := 48) rfl))) (by decide) (backOf (W := 0) (rm9_2_0 l Z aw hw [] b_168 b123 z137 k2_168 k123 (own_r z137 (0 : Int32) (nar .byte z127)) (own_r z137 (1 : Int32) (nar .byte z132)) (nar .byte z127) (nar .byte z132) T168.heap n0 Z177 B169 B172) hZ (hw _ (List.mem_of_getElem? (i := 48) rfl)) (hw _ (List.mem_of_getElem? (i := 47) rfl)) (by decide) (by decide)) (g := (mkF m 136 #[iv p0, iv p1, iv p2, iv 2, rv b123, iv z137, rv b138, rv b138, rv b_168] [(.int z137), (.int 0), (.ref b123), (.ref b_168)])) rfl (by rw [hml]; rfl) (argsL := [(.ref b_168), (.ref b123), (.int 0), (.int z137)]) (rest := []) (lenOf pd_8 rfl) rfl (by show 2 * 0 + _ ≤ _; exact Nat.le_of_eq rfl) (hb hby at_136) (fun _ _ => ⟨rfl, rfl, (by decide : 5 + 0 ≤ _), (by decide : 134 + 0 ≤ _)⟩)
    dsimp only [Pt.U, Pt.locs, Pt.cells, Pt.slots] at X183 l183 y183 z183 st183 hQ183
    subst l183 y183 z183
    obtain ⟨rfl, N183q, eh183⟩ := hQ183
    have N184 := Fr.app N171 N183q
    refine own_via (fun k => st183 _ k) ?_
    show own_Go p e below s _ _ (T183.setTop (mkF m 139 #[iv p0, iv p1, iv p2, iv 2, rv b123, iv z137, rv b138, rv b138, rv b_168] [(.int (own_f9_2_0 z137 (own_r z137 (0 : Int32) (nar .byte z127)) (nar .byte z127)))]))
    refine own_via (fun k => XS.ifNo X183.here hx rfl (hb hby at_139) rfl ((if0 _ _).trans (feq (own_law2_139 p0 p1 p2 z127 hz127 z137 hz137 hl1)).1) k) ?_
    show own_Go p e below s _ _ (T183.setTop (mkF m 142 #[iv p0, iv p1, iv p2, iv 2, rv b123, iv z137, rv b138, rv b138, rv b_168] []))
    refine own_via (fun k => XS.aload X183.here hx rfl (hb hby at_142) rfl rfl  (XS.aload X183.here hx rfl (hb hby at_144) rfl rfl  (XS.iconst X183.here hx rfl (hb hby at_146) (XS.iload X183.here hx rfl (hb hby at_147) rfl  k)))) ?_
    show own_Go p e below s _ _ (T183.setTop (mkF m 149 #[iv p0, iv p1, iv p2, iv 2, rv b123, iv z137, rv b138, rv b138, rv b_168] [(.int z137), (.int 1), (.ref b123), (.ref b_168)]))
    obtain ⟨_, _, ⟨T185, L185, k185, n185⟩, -, X185, ⟨Lc185, hQ185, l185, y185, z185⟩, st185⟩ := Jvm.LawKit.callS X183 hx (y := (⟨"com/example/dani/dani/core/KeyReversedFromPinLaw", "at", "([B[BII)Z"⟩ : MethodName)) hown (mvT hZ (hw _ (List.mem_of_getElem? (i := 45) rfl))) (mvT hZ (hw _ (List.mem_of_getElem? (i := 46) rfl))) (mvT hZ (hw _ (List.mem_of_getElem? (i := 47) rfl))) (mvT hZ (hw _ (List.mem_of_getElem? (i := 48) rfl))) (by decide) (backOf (W := 0) (rm9_2_1 l Z aw hw [] b_168 b123 z137 k2_168 k123 (own_r z137 (0 : Int32) (nar .byte z127)) (own_r z137 (1 : Int32) (nar .byte z132)) (nar .byte z127) (nar .byte z132) T168.heap n0 Z177 B169 B172) hZ (hw _ (List.mem_of_getElem? (i := 48) rfl)) (hw _ (List.mem_of_getElem? (i := 47) rfl)) (by decide) (by decide)) (g := (mkF m 149 #[iv p0, iv p1, iv p2, iv 2, rv b123, iv z137, rv b138, rv b138, rv b_168] [(.int z137), (.int 1), (.ref b123), (.ref b_168)])) rfl (by rw [hml]; rfl) (argsL := [(.ref b_168), (.ref b123), (.int 1), (.int z137)]) (rest := []) (lenOf pd_8 rfl) rfl (by show 2 * 0 + _ ≤ _; exact Nat.le_of_eq rfl) (hb hby at_149) (fun _ _ => ⟨rfl, eh183, (by decide : 5 + 0 ≤ _), (by decide : 134 + 0 ≤ _)⟩)
    dsimp only [Pt.U, Pt.locs, Pt.cells, Pt.slots] at X185 l185 y185 z185 st185 hQ185
    subst l185 y185 z185
    obtain ⟨rfl, N185q, eh185⟩ := hQ185
    have N186 := Fr.app N184 N185q
    refine own_via (fun k => st185 _ k) ?_
    show own_Go p e below s _ _ (T185.setTop (mkF m 152 #[iv p0, iv p1, iv p2, iv 2, rv b123, iv z137, rv b138, rv b138, rv b_168] [(.int (own_f9_2_1 z137 (own_r z137 (1 : Int32) (nar .byte z132)) (nar .byte z132)))]))
    refine own_via (fun k => XS.ifNo X185.here hx rfl (hb hby at_152) rfl ((if0 _ _).trans (feq (own_law2_152 p0 p1 p2 z132 hz132 z137 hz137 hl1)).1) k) ?_
    show own_Go p e below s _ _ (T185.setTop (mkF m 155 #[iv p0, iv p1, iv p2, iv 2, rv b123, iv z137, rv b138, rv b138, rv b_168] []))
    refine own_via (fun k => XS.aload X185.here hx rfl (hb hby at_155) rfl rfl  (XS.aload X185.here hx rfl (hb hby at_157) rfl rfl  (XS.iconst X185.here hx rfl (hb hby at_159) (XS.iload X185.here hx rfl (hb hby at_160) rfl  k)))) ?_
    show own_Go p e below s _ _ (T185.setTop (mkF m 162 #[iv p0, iv p1, iv p2, iv 2, rv b123, iv z137, rv b138, rv b138, rv b_168] [(.int z137), (.int 2), (.ref b123), (.ref b_168)]))
    obtain ⟨_, _, ⟨T187, L187, k187, n187⟩, -, X187, ⟨Lc187, hQ187, l187, y187, z187⟩, st187⟩ := Jvm.LawKit.callS X185 hx (y := (⟨"com/example/dani/dani/core/KeyReversedFromPinLaw", "at", "([B[BII)Z"⟩ : MethodName)) hown (mvT hZ (hw _ (List.mem_of_getElem? (i := 45) rfl))) (mvT hZ (hw _ (List.mem_of_getElem? (i := 46) rfl))) (mvT hZ (hw _ (List.mem_of_getElem? (i := 47) rfl))) (mvT hZ (hw _ (List.mem_of_getElem? (i := 48) rfl))) (by decide) (backOf (W := 0) (rm9_2_2 l Z aw hw [] b_168 b123 z137 k2_168 k123 (own_r z137 (0 : Int32) (nar .byte z127)) (own_r z137 (1 : Int32) (nar .byte z132)) (nar .byte z127) (nar .byte z132) T168.heap n0 Z177 B169 B172) hZ (hw _ (List.mem_of_getElem? (i := 48) rfl)) (hw _ (List.mem_of_getElem? (i := 47) rfl)) (by decide) (by decide)) (g := (mkF m 162 #[iv p0, iv p1, iv p2, iv 2, rv b123, iv z137, rv b138, rv b138, rv b_168] [(.int z137), (.int 2), (.ref b123), (.ref b_168)])) rfl (by rw [hml]; rfl) (argsL := [(.ref b_168), (.ref b123), (.int 2), (.int z137)]) (rest := []) (lenOf pd_8 rfl) rfl (by show 2 * 0 + _ ≤ _; exact Nat.le_of_eq rfl) (hb hby at_162) (fun _ _ => ⟨rfl, eh185, (by decide : 5 + 0 ≤ _), (by decide : 134 + 0 ≤ _)⟩)
    dsimp only [Pt.U, Pt.locs, Pt.cells, Pt.slots] at X187 l187 y187 z187 st187 hQ187
    subst l187 y187 z187
    obtain ⟨rfl, N187q, eh187⟩ := hQ187
    have N188 := Fr.app N186 N187q
    refine own_via (fun k => st187 _ k) ?_
    show own_Go p e below s _ _ (T187.setTop (mkF m 165 #[iv p0, iv p1, iv p2, iv 2, rv b123, iv z137, rv b138, rv b138, rv b_168] [(.int own_f9_2_2)]))
    refine own_via (fun k => XS.ifNo X187.here hx rfl (hb hby at_165) rfl ((if0 _ _).trans (feq (own_law2_165 p2 hl1)).1) k) ?_
    show own_Go p e below s _ _ (T187.setTop (mkF m 168 #[iv p0, iv p1, iv p2, iv 2, rv b123, iv z137, rv b138, rv b138, rv b_168] []))
    refine own_via (fun k => XS.aload X187.here hx rfl (hb hby at_168) rfl rfl  (XS.aload X187.here hx rfl (hb hby at_170) rfl rfl  (XS.iconst X187.here hx rfl (hb hby at_172) (XS.iload X187.here hx rfl (hb hby at_173) rfl  k)))) ?_
    show own_Go p e below s _ _ (T187.setTop (mkF m 175 #[iv p0, iv p1, iv p2, iv 2, rv b123, iv z137, rv b138, rv b138, rv b_168] [(.int z137), (.int 3), (.ref b123), (.ref b_168)]))
    obtain ⟨_, _, ⟨T189, L189, k189, n189⟩, -, X189, ⟨Lc189, hQ189, l189, y189, z189⟩, st189⟩ := Jvm.LawKit.callS X187 hx (y := (⟨"com/example/dani/dani/core/KeyReversedFromPinLaw", "at", "([B[BII)Z"⟩ : MethodName)) hown (mvT hZ (hw _ (List.mem_of_getElem? (i := 45) rfl))) (mvT hZ (hw _ (List.mem_of_getElem? (i := 46) rfl))) (mvT hZ (hw _ (List.mem_of_getElem? (i := 47) rfl))) (mvT hZ (hw _ (List.mem_of_getElem? (i := 48) rfl))) (by decide) (backOf (W := 0) (rm9_2_3 l Z aw hw [] b_168 b123 z137 k2_168 k123 (own_r z137 (0 : Int32) (nar .byte z127)) (own_r z137 (1 : Int32) (nar .byte z132)) (nar .byte z127) (nar .byte z132) T168.heap n0 Z177 B169 B172) hZ (hw _ (List.mem_of_getElem? (i := 48) rfl)) (hw _ (List.mem_of_getElem? (i := 47) rfl)) (by decide) (by decide)) (g := (mkF m 175 #[iv p0, iv p1, iv p2, iv 2, rv b123, iv z137, rv b138, rv b138, rv b_168] [(.int z137), (.int 3), (.ref b123), (.ref b_168)])) rfl (by rw [hml]; rfl) (argsL := [(.ref b_168), (.ref b123), (.int 3), (.int z137)]) (rest := []) (lenOf pd_8 rfl) rfl (by show 2 * 0 + _ ≤ _; exact Nat.le_of_eq rfl) (hb hby at_175) (fun _ _ => ⟨rfl, eh187, (by decide : 5 + 0 ≤ _), (by decide : 134 + 0 ≤ _)⟩)
    dsimp only [Pt.U, Pt.locs, Pt.cells, Pt.slots] at X189 l189 y189 z189 st189 hQ189
    subst l189 y189 z189
    obtain ⟨rfl, N189q, eh189⟩ := hQ189
    have N190 := Fr.app N188 N189q
    refine own_via (fun k => st189 _ k) ?_
    show own_Go p e below s _ _ (T189.setTop (mkF m 178 #[iv p0, iv p1, iv p2, iv 2, rv b123, iv z137, rv b138, rv b138, rv b_168] [(.int own_f9_2_3)]))
    refine own_via (fun k => XS.ifNo X189.here hx rfl (hb hby at_178) rfl ((if0 _ _).trans (feq (own_law2_178 p2 hl1)).1) k) ?_
    show own_Go p e below s _ _ (T189.setTop (mkF m 181 #[iv p0, iv p1, iv p2, iv 2, rv b123, iv z137, rv b138, rv b138, rv b_168] []))
    refine own_via (fun k => XS.iconst X189.here hx rfl (hb hby at_181) (XS.goto X189.here hx rfl (pc0 := 182) (pc' := 186) rfl (hb hby at_182) (by decide) (by decide) k)) ?_
    show own_Go p e below s _ _ (T189.setTop (mkF m 186 #[iv p0, iv p1, iv p2, iv 2, rv b123, iv z137, rv b138, rv b138, rv b_168] [(.int 1)]))
    exact own_retN X189 hx hlk (t := .boolean) Bd.returns (by simp) (hb hby at_186) (Q := (Q0 Z p0 p1 p2 h0 n0)) ⟨rfl, N190⟩ (by decide) (by decide)
  · rw [hl1]
    show own_Go p e below s _ _ (s₁.setTop (mkF m 7 #[iv p0, iv p1, iv p2, iv 3, .unset, .unset, .unset, .unset, .unset] []))
    refine own_via (fun k => XS.iloadN X0.here hx rfl (hb hby at_7) rfl  k) ?_
    show own_Go p e below s _ _ (s₁.setTop (mkF m 8 #[iv p0, iv p1, iv p2, iv 3, .unset, .unset, .unset, .unset, .unset] [(.int 3)]))
    obtain ⟨T191, h191, k191, X191, e191, E191, A191, st191⟩ := newP X0 hx hZ (hw _ (List.mem_of_getElem? (i := 0) rfl)) e0 (g := (mkF m 8 #[iv p0, iv p1, iv p2, iv 3, .unset, .unset, .unset, .unset, .unset] [(.int 3)])) rfl (hb hby at_8) rfl (by decide) (cap := 3) (by decide) (by decide) (by decide) (by decide)
    obtain ⟨b191, g191⟩ : ∃ z, z = h0.size := ⟨_, rfl⟩
    rw [← g191] at A191 st191
    refine own_via (fun k => st191 _ k) ?_
    show own_Go p e below s _ _ (T191.setTop (mkF m 10 #[iv p0, iv p1, iv p2, iv 3, .unset, .unset, .unset, .unset, .unset] [(.ref b191)]))
    have g192 : n0 ≤ b191 := Nat.le_trans Z0 (Nat.le_of_eq g191.symm)
    have Z193 : n0 ≤ h191.size := Nat.le_trans Z0 E191.1
    have B194 : Arv Z h191 b191 k191 .byte (3 : Int32) [(.int 0), (.int 0), (.int 0)] (.int 0) := (Arv.new A191 (by decide)).pad (pad_rep [] (.int 0) 3)
    refine own_via (fun k => XS.astore X191.here hx rfl (hb hby at_10) rfl rfl (l' := #[iv p0, iv p1, iv p2, iv 3, rv b191, .unset, .unset, .unset, .unset]) rfl (XS.iloadN X191.here hx rfl (hb hby at_12) rfl  k)) ?_
    show own_Go p e below s _ _ (T191.setTop (mkF m 13 #[iv p0, iv p1, iv p2, iv 3, rv b191, .unset, .unset, .unset, .unset] [(.int 3)]))
    refine own_via (fun k => XS.ifNo X191.here hx rfl (hb hby at_13) rfl (by decide) k) ?_
    show own_Go p e below s _ _ (T191.setTop (mkF m 16 #[iv p0, iv p1, iv p2, iv 3, rv b191, .unset, .unset, .unset, .unset] []))
    refine own_via (fun k => XS.aload X191.here hx rfl (hb hby at_16) rfl rfl  (XS.iconst X191.here hx rfl (hb hby at_18) (XS.iloadN X191.here hx rfl (hb hby at_19) rfl  (XS.i2b X191.here hx rfl (hb hby at_20) rfl k)))) ?_
    show own_Go p e below s _ _ (T191.setTop (mkF m 21 #[iv p0, iv p1, iv p2, iv 3, rv b191, .unset, .unset, .unset, .unset] [(.int (p0.toInt8.toInt32)), (.int 0), (.ref b191)]))
    obtain ⟨z195, hz195⟩ : ∃ z : Int32, z = (p0.toInt8.toInt32) := ⟨_, rfl⟩
    rw [← hz195]
    show own_Go p e below s _ _ (T191.setTop (mkF m 21 #[iv p0, iv p1, iv p2, iv 3, rv b191, .unset, .unset, .unset, .unset] [(.int z195), (.int 0), (.ref b191)]))
    obtain ⟨cl196, Ar196, q196, S196, NN196, H196, G196⟩ := id B194
    have hin196 : ¬ ((0 : Int32) < 0 ∨ cl196.slots.size ≤ ((0 : Int32)).toNatClampNeg) := inb_of S196 ⟨by decide, by decide⟩
    obtain ⟨T196, h196, X196, e196, W196, st196⟩ := stB X191 hx hZ e191 Ar196 (j := (0 : Int32)) hin196 (g := (mkF m 21 #[iv p0, iv p1, iv p2, iv 3, rv b191, .unset, .unset, .unset, .unset] [(.int z195), (.int 0), (.ref b191)])) rfl rfl (hb hby at_21)
    refine own_via (fun k => st196 _ k) ?_
    show own_Go p e below s _ _ (T196.setTop (mkF m 22 #[iv p0, iv p1, iv p2, iv 3, rv b191, .unset, .unset, .unset, .unset] []))
    have B197 : Arv Z h196 b191 k191 .byte (3 : Int32) [(.int (nar .byte z195)), (.int 0), (.int 0)] (.int 0) := Arv.set Ar196 q196 S196 NN196 H196 G196 (fits_nar_byte _) W196 0 rfl (Nat.le_of_ble_eq_true rfl)
    have N198 := Fr.snoc X196 N0 g192
    have Z199 : n0 ≤ h196.size := Nat.le_trans Z193 (Keep.of_wr W196).1
    refine own_via (fun k => XS.iloadN X196.here hx rfl (hb hby at_22) rfl  (XS.iconst X196.here hx rfl (hb hby at_23) k)) ?_
    show own_Go p e below s _ _ (T196.setTop (mkF m 24 #[iv p0, iv p1, iv p2, iv 3, rv b191, .unset, .unset, .unset, .unset] [(.int 1), (.int 3)]))
    refine own_via (fun k => XS.icmpNo X196.here hx rfl (hb hby at_24) rfl (by decide) k) ?_
    show own_Go p e below s _ _ (T196.setTop (mkF m 27 #[iv p0, iv p1, iv p2, iv 3, rv b191, .unset, .unset, .unset, .unset] []))
    refine own_via (fun k => XS.aload X196.here hx rfl (hb hby at_27) rfl rfl  (XS.iconst X196.here hx rfl (hb hby at_29) (XS.iloadN X196.here hx rfl (hb hby at_30) rfl  (XS.bipush X196.here hx rfl (hb hby at_31) k)))) ?_
    show own_Go p e below s _ _ (T196.setTop (mkF m 33 #[iv p0, iv p1, iv p2, iv 3, rv b191, .unset, .unset, .unset, .unset] [(.int 8), (.int p0), (.int 1), (.ref b191)]))
    refine own_via (fun k => XS.iushr X196.here hx rfl (hb hby at_33) rfl (XS.i2b X196.here hx rfl (hb hby at_34) rfl k)) ?_
    show own_Go p e below s _ _ (T196.setTop (mkF m 35 #[iv p0, iv p1, iv p2, iv 3, rv b191, .unset, .unset, .unset, .unset] [(.int (((p0.toUInt32 >>> ((8 : Int32) &&& 31).toUInt32).toInt32).toInt8.toInt32)), (.int 1), (.ref b191)]))
    obtain ⟨z200, hz200⟩ : ∃ z : Int32, z = (((p0.toUInt32 >>> ((8 : Int32) &&& 31).toUInt32).toInt32).toInt8.toInt32) := ⟨_, rfl⟩
    rw [← hz200]
    show own_Go p e below s _ _ (T196.setTop (mkF m 35 #[iv p0, iv p1, iv p2, iv 3, rv b191, .unset, .unset, .unset, .unset] [(.int z200), (.int 1), (.ref b191)]))
    obtain ⟨cl201, Ar201, q201, S201, NN201, H201, G201⟩ := id B197
    have hin201 : ¬ ((1 : Int32) < 0 ∨ cl201.slots.size ≤ ((1 : Int32)).toNatClampNeg) := inb_of S201 ⟨by decide, by decide⟩
    obtain ⟨T201, h201, X201, e201, W201, st201⟩ := stB X196 hx hZ e196 Ar201 (j := (1 : Int32)) hin201 (g := (mkF m 35 #[iv p0, iv p1, iv p2, iv 3, rv b191, .unset, .unset, .unset, .unset] [(.int z200), (.int 1), (.ref b191)])) rfl rfl (hb hby at_35)
    refine own_via (fun k => st201 _ k) ?_
    show own_Go p e below s _ _ (T201.setTop (mkF m 36 #[iv p0, iv p1, iv p2, iv 3, rv b191, .unset, .unset, .unset, .unset] []))
    have B202 : Arv Z h201 b191 k191 .byte (3 : Int32) [(.int (nar .byte z195)), (.int (nar .byte z200)), (.int 0)] (.int 0) := Arv.set Ar201 q201 S201 NN201 H201 G201 (fits_nar_byte _) W201 1 rfl (Nat.le_of_ble_eq_true rfl)
    have N203 := Fr.snoc X201 N198 g192
    have Z204 : n0 ≤ h201.size := Nat.le_trans Z199 (Keep.of_wr W201).1
    refine own_via (fun k => XS.iloadN X201.here hx rfl (hb hby at_36) rfl  (XS.iconst X201.here hx rfl (hb hby at_37) k)) ?_
    show own_Go p e below s _ _ (T201.setTop (mkF m 38 #[iv p0, iv p1, iv p2, iv 3, rv b191, .unset, .unset, .unset, .unset] [(.int 2), (.int 3)]))
    refine own_via (fun k => XS.icmpNo X201.here hx rfl (hb hby at_38) rfl (by decide) k) ?_
    show own_Go p e below s _ _ (T201.setTop (mkF m 41 #[iv p0, iv p1, iv p2, iv 3, rv b191, .unset, .unset, .unset, .unset] []))
    refine own_via (fun k => XS.aload X201.here hx rfl (hb hby at_41) rfl rfl  (XS.iconst X201.here hx rfl (hb hby at_43) (XS.iloadN X201.here hx rfl (hb hby at_44) rfl  (XS.bipush X201.here hx rfl (hb hby at_45) k)))) ?_
    show own_Go p e below s _ _ (T201.setTop (mkF m 47 #[iv p0, iv p1, iv p2, iv 3, rv b191, .unset, .unset, .unset, .unset] [(.int 16), (.int p0), (.int 2), (.ref b191)]))
    refine own_via (fun k => XS.iushr X201.here hx rfl (hb hby at_47) rfl (XS.i2b X201.here hx rfl (hb hby at_48) rfl k)) ?_
    show own_Go p e below s _ _ (T201.setTop (mkF m 49 #[iv p0, iv p1, iv p2, iv 3, rv b191, .unset, .unset, .unset, .unset] [(.int (((p0.toUInt32 >>> ((16 : Int32) &&& 31).toUInt32).toInt32).toInt8.toInt32)), (.int 2), (.ref b191)]))
    obtain ⟨z205, hz205⟩ : ∃ z : Int32, z = (((p0.toUInt32 >>> ((16 : Int32) &&& 31).toUInt32).toInt32).toInt8.toInt32) := ⟨_, rfl⟩
    rw [← hz205]
    show own_Go p e below s _ _ (T201.setTop (mkF m 49 #[iv p0, iv p1, iv p2, iv 3, rv b191, .unset, .unset, .unset, .unset] [(.int z205), (.int 2), (.ref b191)]))
    obtain ⟨cl206, Ar206, q206, S206, NN206, H206, G206⟩ := id B202
    have hin206 : ¬ ((2 : Int32) < 0 ∨ cl206.slots.size ≤ ((2 : Int32)).toNatClampNeg) := inb_of S206 ⟨by decide, by decide⟩
    obtain ⟨T206, h206, X206, e206, W206, st206⟩ := stB X201 hx hZ e201 Ar206 (j := (2 : Int32)) hin206 (g := (mkF m 49 #[iv p0, iv p1, iv p2, iv 3, rv b191, .unset, .unset, .unset, .unset] [(.int z205), (.int 2), (.ref b191)])) rfl rfl (hb hby at_49)
    refine own_via (fun k => st206 _ k) ?_
    show own_Go p e below s _ _ (T206.setTop (mkF m 50 #[iv p0, iv p1, iv p2, iv 3, rv b191, .unset, .unset, .unset, .unset] []))
    have B207 : Arv Z h206 b191 k191 .byte (3 : Int32) [(.int (nar .byte z195)), (.int (nar .byte z200)), (.int (nar .byte z205))] (.int 0) := Arv.set Ar206 q206 S206 NN206 H206 G206 (fits_nar_byte _) W206 2 rfl (Nat.le_of_ble_eq_true rfl)
    have N208 := Fr.snoc X206 N203 g192
    have Z209 : n0 ≤ h206.size := Nat.le_trans Z204 (Keep.of_wr W206).1
    refine own_via (fun k => XS.iloadN X206.here hx rfl (hb hby at_50) rfl  (XS.iconst X206.here hx rfl (hb hby at_51) k)) ?_
    show own_Go p e below s _ _ (T206.setTop (mkF m 52 #[iv p0, iv p1, iv p2, iv 3, rv b191, .unset, .unset, .unset, .unset] [(.int 3), (.int 3)]))
    refine own_via (fun k => XS.icmpYes X206.here hx rfl (pc0 := 52) (pc' := 64) rfl (hb hby at_52) rfl (by decide) (by decide) (by decide) k) ?_
    show own_Go p e below s _ _ (T206.setTop (mkF m 64 #[iv p0, iv p1, iv p2, iv 3, rv b191, .unset, .unset, .unset, .unset] []))
    refine own_via (fun k => XS.iloadN X206.here hx rfl (hb hby at_64) rfl  (X206.ldcInt hx hown (mvT hZ (hw _ (List.mem_of_getElem? (i := 1) rfl))) (g := (mkF m 65 #[iv p0, iv p1, iv p2, iv 3, rv b191, .unset, .unset, .unset, .unset] [(.int p1)])) rfl (hb hby at_65) _ (XS.iand X206.here hx rfl (hb hby at_67) rfl (XS.bipush X206.here hx rfl (hb hby at_68) k)))) ?_
    show own_Go p e below s _ _ (T206.setTop (mkF m 70 #[iv p0, iv p1, iv p2, iv 3, rv b191, .unset, .unset, .unset, .unset] [(.int 7), (.int (p1 &&& (2147483647 : Int32)))]))
    refine own_via (fun k => Jvm.RoadKit.iremM X206 hx rfl (hb hby at_70) rfl (by decide) k) ?_
    show own_Go p e below s _ _ (T206.setTop (mkF m 71 #[iv p0, iv p1, iv p2, iv 3, rv b191, .unset, .unset, .unset, .unset] [(.int ((p1 &&& (2147483647 : Int32)) % (7 : Int32)))]))
    obtain ⟨z210, hz210⟩ : ∃ z : Int32, z = ((p1 &&& (2147483647 : Int32)) % (7 : Int32)) := ⟨_, rfl⟩
    rw [← hz210]
    show own_Go p e below s _ _ (T206.setTop (mkF m 71 #[iv p0, iv p1, iv p2, iv 3, rv b191, .unset, .unset, .unset, .unset] [(.int z210)]))
    refine own_via (fun k => XS.istore X206.here hx rfl (hb hby at_71) rfl (l' := #[iv p0, iv p1, iv p2, iv 3, rv b191, iv z210, .unset, .unset, .unset]) rfl k) ?_
    show own_Go p e below s _ _ (T206.setTop (mkF m 73 #[iv p0, iv p1, iv p2, iv 3, rv b191, iv z210, .unset, .unset, .unset] []))
    obtain ⟨T211, h211, X211, e211, E211, A211, D211, -, st211⟩ := newO X206 hx hZ hown (hw _ (List.mem_of_getElem? (i := 2) rfl)) (hw _ (List.mem_of_getElem? (i := 3) rfl)) (hw _ (List.mem_of_getElem? (i := 4) rfl)) e206 (g := (mkF m 73 #[iv p0, iv p1, iv p2, iv 3, rv b191, iv z210, .unset, .unset, .unset] [])) rfl (hb hby at_73) (by decide) (by decide)
    obtain ⟨b211, g211⟩ : ∃ z, z = h206.size := ⟨_, rfl⟩
    rw [← g211] at A211 D211 st211
    refine own_via (fun k => st211 _ k) ?_
    show own_Go p e below s _ _ (T211.setTop (mkF m 76 #[iv p0, iv p1, iv p2, iv 3, rv b191, iv z210, .unset, .unset, .unset] [(.ref b211)]))
    have g212 : n0 ≤ b211 := Nat.le_trans Z209 (Nat.le_of_eq g211.symm)
    have ne213 : b191 ≠ b211 := Nat.ne_of_lt (Nat.lt_of_lt_of_le B207.lt (Nat.le_of_eq g211.symm))
    have B214 := B207.ext E211
    have Z215 : n0 ≤ h211.size := Nat.le_trans Z209 E211.1
    have B216 : Fld Z h211 b211 "com/example/dani/dani/core/Key" "bytes" "[B" .null := D211 (Or.inl (hw _ (List.mem_of_getElem? (i := 12) rfl))) (ty := (.array .byte)) (by decide)
    have B217 : Fld Z h211 b211 "com/example/dani/dani/core/Key" "length" "I" (.int 0) := D211 (Or.inl (hw _ (List.mem_of_getElem? (i := 29) rfl))) (ty := .int) (by decide)
    refine own_via (fun k => XS.dup X211.here hx rfl (hb hby at_76) rfl rfl (XS.aload X211.here hx rfl (hb hby at_77) rfl rfl  k)) ?_
    show own_Go p e below s _ _ (T211.setTop (mkF m 79 #[iv p0, iv p1, iv p2, iv 3, rv b191, iv z210, .unset, .unset, .unset] [(.ref b191), (.ref b211), (.ref b211)]))
    obtain ⟨_, _, ⟨T218, L218, k218, n218⟩, -, X218, ⟨Lc218, hQ218, l218, y218, z218⟩, st218⟩ := X211.specialBack hx (y := (⟨"com/example/dani/dani/core/Key", "<init>", "([B)V"⟩ : MethodName)) rfl hown (mvT hZ (hw _ (List.mem_of_getElem? (i := 5) rfl))) (mvT hZ (hw _ (List.mem_of_getElem? (i := 6) rfl))) (mvT hZ (hw _ (List.mem_of_getElem? (i := 7) rfl))) (by decide) (backOf (W := 1) (rm1_3 l Z aw hw [] b211 b191 k191 (nar .byte z195) (nar .byte z200) (nar .byte z205) h211 n0 Z215 B216 B217 A211 B214 g212 ne213) hZ (hw _ (List.mem_of_getElem? (i := 7) rfl)) (hw _ (List.mem_of_getElem? (i := 4) rfl)) (by decide) (by decide)) (g := (mkF m 79 #[iv p0, iv p1, iv p2, iv 3, rv b191, iv z210, .unset, .unset, .unset] [(.ref b191), (.ref b211), (.ref b211)])) rfl (by rw [hml]; rfl) (Steps.refl _) (a := b211) (argsL := [(.ref b191)]) (rest := [(.ref b211)]) (lenOf pd_0 rfl) rfl (by show 2 * 0 + _ ≤ _; exact Nat.le_of_eq rfl) (hb hby at_79) (fun _ _ => ⟨rfl, e211, (by decide : 2 + 2 ≤ _), (by decide : 5 + 128 ≤ _)⟩)
    dsimp only [Pt.U, Pt.locs, Pt.cells, Pt.slots] at X218 l218 y218 z218 st218 hQ218
    subst l218 y218 z218
    obtain ⟨b_218, k2_218, rfl, N218q, K218, B219, B220, B221, g222⟩ := hQ218
    have N223 := Fr.app N208 N218q
    have B224 := B214.keep K218 (ninS ne213 nin0)
    have B225 := A211.keep K218
    have Z226 : n0 ≤ T218.heap.size := Nat.le_trans Z215 K218.1
    have g227 : n0 ≤ b_218 := Nat.le_trans Z215 g222
    have ne228 : b191 ≠ b_218 := Nat.ne_of_lt (Nat.lt_of_lt_of_le B214.lt g222)
    have ne229 : b211 ≠ b_218 := Nat.ne_of_lt (Nat.lt_of_lt_of_le A211.lt g222)
    refine own_via (fun k => st218.trans k) ?_
    show own_Go p e below s _ _ (T218.setTop (mkF m 82 #[iv p0, iv p1, iv p2, iv 3, rv b191, iv z210, .unset, .unset, .unset] [(.ref b211)]))
    refine own_via (fun k => XS.astore X218.here hx rfl (hb hby at_82) rfl rfl (l' := #[iv p0, iv p1, iv p2, iv 3, rv b191, iv z210, rv b211, .unset, .unset]) rfl (XS.aload X218.here hx rfl (hb hby at_84) rfl rfl  (XS.iload X218.here hx rfl (hb hby at_86) rfl  k))) ?_
    show own_Go p e below s _ _ (T218.setTop (mkF m 88 #[iv p0, iv p1, iv p2, iv 3, rv b191, iv z210, rv b211, .unset, .unset] [(.int z210), (.ref b211)]))
    obtain ⟨cq230, kq230, q230a, q230b, q230c⟩ := isOf hZ rfl B225
    obtain ⟨_, _, ⟨T230, L230, k230, n230⟩, -, X230, ⟨Lc230, hQ230, l230, y230, z230⟩, st230⟩ := X218.virtualBack hx (y := (⟨"com/example/dani/dani/core/Key", "reversedFrom", "(I)Lcom/example/dani/dani/core/Key;"⟩ : MethodName)) (z := (⟨"com/example/dani/dani/core/Key", "reversedFrom", "(I)Lcom/example/dani/dani/core/Key;"⟩ : MethodName)) hown (mvT hZ (hw _ (List.mem_of_getElem? (i := 30) rfl))) (mvT hZ (hw _ (List.mem_of_getElem? (i := 31) rfl))) (notFace_of_selects (args := #[]) (mvT hZ (hw _ (List.mem_of_getElem? (i := 33) rfl)))) (mvT hZ (hw _ (List.mem_of_getElem? (i := 33) rfl))) (mvT hZ (hw _ (List.mem_of_getElem? (i := 32) rfl))) (by decide) (backOf (W := 0) (rm6_3 l Z aw hw [] b211 z210 b_218 k2_218 (nar .byte z195) (nar .byte z200) (nar .byte z205) T218.heap n0 Z226 B219 B220 B225 B221 g227 ne229 (own_hs3 p1 p2 z210 hz210 hl1)) hZ (hw _ (List.mem_of_getElem? (i := 34) rfl)) (hw _ (List.mem_of_getElem? (i := 4) rfl)) (by decide) (by decide)) q230a q230c (g := (mkF m 88 #[iv p0, iv p1, iv p2, iv 3, rv b191, iv z210, rv b211, .unset, .unset] [(.int z210), (.ref b211)])) rfl (by rw [hml]; rfl) (Steps.refl _) (argsL := [(.int z210)]) (rest := []) (lenOf pd_5 rfl) rfl (by show 2 * 0 + _ ≤ _; exact Nat.le_of_eq rfl) (hb hby at_88) (fun _ _ => ⟨rfl, rfl, (by decide : 4 + 0 ≤ _), (by decide : 133 + 0 ≤ _)⟩)
    dsimp only [Pt.U, Pt.locs, Pt.cells, Pt.slots] at X230 l230 y230 z230 st230 hQ230
    subst l230 y230 z230
    obtain ⟨rfl, N230q, K230, B231, B232, B233⟩ := hQ230
    have N234 := Fr.app N223 N230q
    have B235 := B224.keep K230 (ninS ne228 nin0)
    have B236 := B225.keep K230
    have Z237 : n0 ≤ T230.heap.size := Nat.le_trans Z226 K230.1
    refine own_via (fun k => st230.trans k) ?_
    show own_Go p e below s _ _ (T230.setTop (mkF m 91 #[iv p0, iv p1, iv p2, iv 3, rv b191, iv z210, rv b211, .unset, .unset] [(.ref b211)]))
    refine own_via (fun k => XS.astore X230.here hx rfl (hb hby at_91) rfl rfl (l' := #[iv p0, iv p1, iv p2, iv 3, rv b191, iv z210, rv b211, rv b211, .unset]) rfl (XS.aload X230.here hx rfl (hb hby at_93) rfl rfl  (XS.aload X230.here hx rfl (hb hby at_95) rfl rfl  k))) ?_
    show own_Go p e below s _ _ (T230.setTop (mkF m 97 #[iv p0, iv p1, iv p2, iv 3, rv b191, iv z210, rv b211, rv b211, .unset] [(.ref b211), (.ref b211)]))
    refine own_via (fun k => Jvm.RoadKit.acmp (g := (mkF m 97 #[iv p0, iv p1, iv p2, iv 3, rv b191, iv z210, rv b211, rv b211, .unset] [(.ref b211), (.ref b211)])) X230 hx rfl rfl rfl (pc0 := 97) (pc' := 102) (same := true) rfl (hb hby at_97) rfl (decide_eq_true rfl) (by decide) (by decide) k) ?_
    show own_Go p e below s _ _ (T230.setTop (mkF m 102 #[iv p0, iv p1, iv p2, iv 3, rv b191, iv z210, rv b211, rv b211, .unset] []))
    refine own_via (fun k => XS.aload X230.here hx rfl (hb hby at_102) rfl rfl  k) ?_
    show own_Go p e below s _ _ (T230.setTop (mkF m 104 #[iv p0, iv p1, iv p2, iv 3, rv b191, iv z210, rv b211, rv b211, .unset] [(.ref b211)]))
    obtain ⟨cq239, kq239, q239a, q239b, q239c⟩ := isOf hZ rfl B236
    obtain ⟨_, _, ⟨T239, L239, k239, n239⟩, -, X239, ⟨Lc239, hQ239, l239, y239, z239⟩, st239⟩ := X230.virtualBack hx (y := (⟨"com/example/dani/dani/core/Key", "length", "()I"⟩ : MethodName)) (z := (⟨"com/example/dani/dani/core/Key", "length", "()I"⟩ : MethodName)) hown (mvT hZ (hw _ (List.mem_of_getElem? (i := 35) rfl))) (mvT hZ (hw _ (List.mem_of_getElem? (i := 36) rfl))) (notFace_of_selects (args := #[]) (mvT hZ (hw _ (List.mem_of_getElem? (i := 38) rfl)))) (mvT hZ (hw _ (List.mem_of_getElem? (i := 38) rfl))) (mvT hZ (hw _ (List.mem_of_getElem? (i := 37) rfl))) (by decide) (backOf (W := 0) (rm7_3 l Z aw hw [] b211 T230.heap n0 Z237 B232) hZ (hw _ (List.mem_of_getElem? (i := 39) rfl)) (hw _ (List.mem_of_getElem? (i := 4) rfl)) (by decide) (by decide)) q239a q239c (g := (mkF m 104 #[iv p0, iv p1, iv p2, iv 3, rv b191, iv z210, rv b211, rv b211, .unset] [(.ref b211)])) rfl (by rw [hml]; rfl) (Steps.refl _) (argsL := []) (rest := []) (lenOf pd_6 rfl) rfl (by show 2 * 0 + _ ≤ _; exact Nat.le_of_eq rfl) (hb hby at_104) (fun _ _ => ⟨rfl, rfl, (by decide : 4 + 0 ≤ _), (by decide : 133 + 0 ≤ _)⟩)
    dsimp only [Pt.U, Pt.locs, Pt.cells, Pt.slots] at X239 l239 y239 z239 st239 hQ239
    subst l239 y239 z239
    obtain ⟨rfl, N239q, eh239⟩ := hQ239
    have N240 := Fr.app N234 N239q
    refine own_via (fun k => st239.trans k) ?_
    show own_Go p e below s _ _ (T239.setTop (mkF m 107 #[iv p0, iv p1, iv p2, iv 3, rv b191, iv z210, rv b211, rv b211, .unset] [(.int 3)]))
    refine own_via (fun k => XS.iloadN X239.here hx rfl (hb hby at_107) rfl  k) ?_
    show own_Go p e below s _ _ (T239.setTop (mkF m 108 #[iv p0, iv p1, iv p2, iv 3, rv b191, iv z210, rv b211, rv b211, .unset] [(.int 3), (.int 3)]))
    refine own_via (fun k => XS.icmpYes X239.here hx rfl (pc0 := 108) (pc' := 113) rfl (hb hby at_108) rfl (by decide) (by decide) (by decide) k) ?_
    show own_Go p e below s _ _ (T239.setTop (mkF m 113 #[iv p0, iv p1, iv p2, iv 3, rv b191, iv z210, rv b211, rv b211, .unset] []))
    refine own_via (fun k => XS.aload X239.here hx rfl (hb hby at_113) rfl rfl  k) ?_
    show own_Go p e below s _ _ (T239.setTop (mkF m 115 #[iv p0, iv p1, iv p2, iv 3, rv b191, iv z210, rv b211, rv b211, .unset] [(.ref b211)]))
    obtain ⟨cq241, kq241, q241a, q241b, q241c⟩ := isOf hZ eh239 B236
    obtain ⟨_, _, ⟨T241, L241, k241, n241⟩, -, X241, ⟨Lc241, hQ241, l241, y241, z241⟩, st241⟩ := X239.virtualBack hx (y := (⟨"com/example/dani/dani/core/Key", "toBytes", "()[B"⟩ : MethodName)) (z := (⟨"com/example/dani/dani/core/Key", "toBytes", "()[B"⟩ : MethodName)) hown (mvT hZ (hw _ (List.mem_of_getElem? (i := 40) rfl))) (mvT hZ (hw _ (List.mem_of_getElem? (i := 41) rfl))) (notFace_of_selects (args := #[]) (mvT hZ (hw _ (List.mem_of_getElem? (i := 43) rfl)))) (mvT hZ (hw _ (List.mem_of_getElem? (i := 43) rfl))) (mvT hZ (hw _ (List.mem_of_getElem? (i := 42) rfl))) (by decide) (backOf (W := 0) (rm8_3 l Z aw hw [] b211 b_218 k2_218 (own_r z210 (0 : Int32) (nar .byte z195)) (own_r z210 (1 : Int32) (nar .byte z200)) (own_r z210 (2 : Int32) (nar .byte z205)) T230.heap n0 Z237 B231 B232 B233) hZ (hw _ (List.mem_of_getElem? (i := 44) rfl)) (hw _ (List.mem_of_getElem? (i := 4) rfl)) (by decide) (by decide)) q241a q241c (g := (mkF m 115 #[iv p0, iv p1, iv p2, iv 3, rv b191, iv z210, rv b211, rv b211, .unset] [(.ref b211)])) rfl (by rw [hml]; rfl) (Steps.refl _) (argsL := []) (rest := []) (lenOf pd_7 rfl) rfl (by show 2 * 0 + _ ≤ _; exact Nat.le_of_eq rfl) (hb hby at_115) (fun _ _ => ⟨rfl, eh239, (by decide : 4 + 1 ≤ _), (by decide : 133 + 3 ≤ _)⟩)
    dsimp only [Pt.U, Pt.locs, Pt.cells, Pt.slots] at X241 l241 y241 z241 st241 hQ241
    subst l241 y241 z241
    obtain ⟨b_241, k2_241, rfl, N241q, K241, B242, g243⟩ := hQ241
    have N244 := Fr.app N240 N241q
    have B245 := B235.keep K241 nin0
    have B246 := B236.keep K241
    have B247 := B231.keep K241 nin0
    have B248 := B232.keep K241 nin0
    have B249 := B233.keep K241 nin0
    have Z250 : n0 ≤ T241.heap.size := Nat.le_trans Z237 K241.1
    have g251 : n0 ≤ b_241 := Nat.le_trans Z237 g243
    have ne252 : b191 ≠ b_241 := Nat.ne_of_lt (Nat.lt_of_lt_of_le B235.lt g243)
    have ne253 : b211 ≠ b_241 := Nat.ne_of_lt (Nat.lt_of_lt_of_le B236.lt g243)
    have ne254 : b_218 ≠ b_241 := Nat.ne_of_lt (Nat.lt_of_lt_of_le B233.lt g243)
    refine own_via (fun k => st241.trans k) ?_
    show own_Go p e below s _ _ (T241.setTop (mkF m 118 #[iv p0, iv p1, iv p2, iv 3, rv b191, iv z210, rv b211, rv b211, .unset] [(.ref b_241)]))
    refine own_via (fun k => XS.astore X241.here hx rfl (hb hby at_118) rfl rfl (l' := #[iv p0, iv p1, iv p2, iv 3, rv b191, iv z210, rv b211, rv b211, rv b_241]) rfl (XS.aload X241.here hx rfl (hb hby at_120) rfl rfl  k)) ?_
    show own_Go p e below s _ _ (T241.setTop (mkF m 122 #[iv p0, iv p1, iv p2, iv 3, rv b191, iv z210, rv b211, rv b211, rv b_241] [(.ref b_241)]))
    obtain ⟨cl255, Ar255, -, S255, NN255, -, -⟩ := id B242
    refine own_via (fun k => X241.arraylength hx Ar255.1 (State.isArrayOf_alike hZ.alike Ar255.2.1) (g := (mkF m 122 #[iv p0, iv p1, iv p2, iv 3, rv b191, iv z210, rv b211, rv b211, rv b_241] [(.ref b_241)])) rfl rfl (hb hby at_122) _ k) ?_
    rw [len_of S255 NN255]
    show own_Go p e below s _ _ (T241.setTop (mkF m 123 #[iv p0, iv p1, iv p2, iv 3, rv b191, iv z210, rv b211, rv b211, rv b_241] [(.int 3)]))
    refine own_via (fun k => XS.iloadN X241.here hx rfl (hb hby at_123) rfl  k) ?_
    show own_Go p e below s _ _ (T241.setTop (mkF m 124 #[iv p0, iv p1, iv p2, iv 3, rv b191, iv z210, rv b211, rv b211, rv b_241] [(.int 3), (.int 3)]))
    refine own_via (fun k => XS.icmpYes X241.here hx rfl (pc0 := 124) (pc' := 129) rfl (hb hby at_124) rfl (by decide) (by decide) (by decide) k) ?_
    show own_Go p e below s _ _ (T241.setTop (mkF m 129 #[iv p0, iv p1, iv p2, iv 3, rv b191, iv z210, rv b211, rv b211, rv b_241] []))
    refine own_via (fun k => XS.aload X241.here hx rfl (hb hby at_129) rfl rfl  (XS.aload X241.here hx rfl (hb hby at_131) rfl rfl  (XS.iconst X241.here hx rfl (hb hby at_133) (XS.iload X241.here hx rfl (hb hby at_134) rfl  k)))) ?_
    show own_Go p e below s _ _ (T241.setTop (mkF m 136 #[iv p0, iv p1, iv p2, iv 3, rv b191, iv z210, rv b211, rv b211, rv b_241] [(.int z210), (.int 0), (.ref b191), (.ref b_241)]))
    obtain ⟨_, _, ⟨T256, L256, k256, n256⟩, -, X256, ⟨Lc256, hQ256, l256, y256, z256⟩, st256⟩ := Jvm.LawKit.callS X241 hx (y := (⟨"com/example/dani/dani/core/KeyReversedFromPinLaw", "at", "([B[BII)Z"⟩ : MethodName)) hown (mvT hZ (hw _ (List.mem_of_getElem? (i := 45) rfl))) (mvT hZ (hw _ (List.mem_of_getElem? (i := 46) rfl))) (mvT hZ (hw _ (List.mem_of_getElem? (i := 47) rfl))) (mvT hZ (hw _ (List.mem_of_getElem? (i := 48) rfl))) (by decide) (backOf (W := 0) (rm9_3_0 l Z aw hw [] b_241 b191 z210 k2_241 k191 (own_r z210 (0 : Int32) (nar .byte z195)) (own_r z210 (1 : Int32) (nar .byte z200)) (own_r z210 (2 : Int32) (nar .byte z205)) (nar .byte z195) (nar .byte z200) (nar .byte z205) T241.heap n0 Z250 B242 B245) hZ (hw _ (List.mem_of_getElem? (i := 48) rfl)) (hw _ (List.mem_of_getElem? (i := 47) rfl)) (by decide) (by decide)) (g := (mkF m 136 #[iv p0, iv p1, iv p2, iv 3, rv b191, iv z210, rv b211, rv b211, rv b_241] [(.int z210), (.int 0), (.ref b191), (.ref b_241)])) rfl (by rw [hml]; rfl) (argsL := [(.ref b_241), (.ref b191), (.int 0), (.int z210)]) (rest := []) (lenOf pd_8 rfl) rfl (by show 2 * 0 + _ ≤ _; exact Nat.le_of_eq rfl) (hb hby at_136) (fun _ _ => ⟨rfl, rfl, (by decide : 5 + 0 ≤ _), (by decide : 136 + 0 ≤ _)⟩)
    dsimp only [Pt.U, Pt.locs, Pt.cells, Pt.slots] at X256 l256 y256 z256 st256 hQ256
    subst l256 y256 z256
    obtain ⟨rfl, N256q, eh256⟩ := hQ256
    have N257 := Fr.app N244 N256q
    refine own_via (fun k => st256 _ k) ?_
    show own_Go p e below s _ _ (T256.setTop (mkF m 139 #[iv p0, iv p1, iv p2, iv 3, rv b191, iv z210, rv b211, rv b211, rv b_241] [(.int (own_f9_3_0 z210 (own_r z210 (0 : Int32) (nar .byte z195)) (nar .byte z195)))]))
    refine own_via (fun k => XS.ifNo X256.here hx rfl (hb hby at_139) rfl ((if0 _ _).trans (feq (own_law3_139 p0 p1 p2 z195 hz195 z210 hz210 hl1)).1) k) ?_
    show own_Go p e below s _ _ (T256.setTop (mkF m 142 #[iv p0, iv p1, iv p2, iv 3, rv b191, iv z210, rv b211, rv b211, rv b_241] []))
    refine own_via (fun k => XS.aload X256.here hx rfl (hb hby at_142) rfl rfl  (XS.aload X256.here hx rfl (hb hby at_144) rfl rfl  (XS.iconst X256.here hx rfl (hb hby at_146) (XS.iload X256.here hx rfl (hb hby at_147) rfl  k)))) ?_
    show own_Go p e below s _ _ (T256.setTop (mkF m 149 #[iv p0, iv p1, iv p2, iv 3, rv b191, iv z210, rv b211, rv b211, rv b_241] [(.int z210), (.int 1), (.ref b191), (.ref b_241)]))
    obtain ⟨_, _, ⟨T258, L258, k258, n258⟩, -, X258, ⟨Lc258, hQ258, l258, y258, z258⟩, st258⟩ := Jvm.LawKit.callS X256 hx (y := (⟨"com/example/dani/dani/core/KeyReversedFromPinLaw", "at", "([B[BII)Z"⟩ : MethodName)) hown (mvT hZ (hw _ (List.mem_of_getElem? (i := 45) rfl))) (mvT hZ (hw _ (List.mem_of_getElem? (i := 46) rfl))) (mvT hZ (hw _ (List.mem_of_getElem? (i := 47) rfl))) (mvT hZ (hw _ (List.mem_of_getElem? (i := 48) rfl))) (by decide) (backOf (W := 0) (rm9_3_1 l Z aw hw [] b_241 b191 z210 k2_241 k191 (own_r z210 (0 : Int32) (nar .byte z195)) (own_r z210 (1 : Int32) (nar .byte z200)) (own_r z210 (2 : Int32) (nar .byte z205)) (nar .byte z195) (nar .byte z200) (nar .byte z205) T241.heap n0 Z250 B242 B245) hZ (hw _ (List.mem_of_getElem? (i := 48) rfl)) (hw _ (List.mem_of_getElem? (i := 47) rfl)) (by decide) (by decide)) (g := (mkF m 149 #[iv p0, iv p1, iv p2, iv 3, rv b191, iv z210, rv b211, rv b211, rv b_241] [(.int z210), (.int 1), (.ref b191), (.ref b_241)])) rfl (by rw [hml]; rfl) (argsL := [(.ref b_241), (.ref b191), (.int 1), (.int z210)]) (rest := []) (lenOf pd_8 rfl) rfl (by show 2 * 0 + _ ≤ _; exact Nat.le_of_eq rfl) (hb hby at_149) (fun _ _ => ⟨rfl, eh256, (by decide : 5 + 0 ≤ _), (by decide : 136 + 0 ≤ _)⟩)
    dsimp only [Pt.U, Pt.locs, Pt.cells, Pt.slots] at X258 l258 y258 z258 st258 hQ258
    subst l258 y258 z258
    obtain ⟨rfl, N258q, eh258⟩ := hQ258
    have N259 := Fr.app N257 N258q
    refine own_via (fun k => st258 _ k) ?_
    show own_Go p e below s _ _ (T258.setTop (mkF m 152 #[iv p0, iv p1, iv p2, iv 3, rv b191, iv z210, rv b211, rv b211, rv b_241] [(.int (own_f9_3_1 z210 (own_r z210 (1 : Int32) (nar .byte z200)) (nar .byte z200)))]))
    refine own_via (fun k => XS.ifNo X258.here hx rfl (hb hby at_152) rfl ((if0 _ _).trans (feq (own_law3_152 p0 p1 p2 z200 hz200 z210 hz210 hl1)).1) k) ?_
    show own_Go p e below s _ _ (T258.setTop (mkF m 155 #[iv p0, iv p1, iv p2, iv 3, rv b191, iv z210, rv b211, rv b211, rv b_241] []))
    refine own_via (fun k => XS.aload X258.here hx rfl (hb hby at_155) rfl rfl  (XS.aload X258.here hx rfl (hb hby at_157) rfl rfl  (XS.iconst X258.here hx rfl (hb hby at_159) (XS.iload X258.here hx rfl (hb hby at_160) rfl  k)))) ?_
    show own_Go p e below s _ _ (T258.setTop (mkF m 162 #[iv p0, iv p1, iv p2, iv 3, rv b191, iv z210, rv b211, rv b211, rv b_241] [(.int z210), (.int 2), (.ref b191), (.ref b_241)]))
    obtain ⟨_, _, ⟨T260, L260, k260, n260⟩, -, X260, ⟨Lc260, hQ260, l260, y260, z260⟩, st260⟩ := Jvm.LawKit.callS X258 hx (y := (⟨"com/example/dani/dani/core/KeyReversedFromPinLaw", "at", "([B[BII)Z"⟩ : MethodName)) hown (mvT hZ (hw _ (List.mem_of_getElem? (i := 45) rfl))) (mvT hZ (hw _ (List.mem_of_getElem? (i := 46) rfl))) (mvT hZ (hw _ (List.mem_of_getElem? (i := 47) rfl))) (mvT hZ (hw _ (List.mem_of_getElem? (i := 48) rfl))) (by decide) (backOf (W := 0) (rm9_3_2 l Z aw hw [] b_241 b191 z210 k2_241 k191 (own_r z210 (0 : Int32) (nar .byte z195)) (own_r z210 (1 : Int32) (nar .byte z200)) (own_r z210 (2 : Int32) (nar .byte z205)) (nar .byte z195) (nar .byte z200) (nar .byte z205) T241.heap n0 Z250 B242 B245) hZ (hw _ (List.mem_of_getElem? (i := 48) rfl)) (hw _ (List.mem_of_getElem? (i := 47) rfl)) (by decide) (by decide)) (g := (mkF m 162 #[iv p0, iv p1, iv p2, iv 3, rv b191, iv z210, rv b211, rv b211, rv b_241] [(.int z210), (.int 2), (.ref b191), (.ref b_241)])) rfl (by rw [hml]; rfl) (argsL := [(.ref b_241), (.ref b191), (.int 2), (.int z210)]) (rest := []) (lenOf pd_8 rfl) rfl (by show 2 * 0 + _ ≤ _; exact Nat.le_of_eq rfl) (hb hby at_162) (fun _ _ => ⟨rfl, eh258, (by decide : 5 + 0 ≤ _), (by decide : 136 + 0 ≤ _)⟩)
    dsimp only [Pt.U, Pt.locs, Pt.cells, Pt.slots] at X260 l260 y260 z260 st260 hQ260
    subst l260 y260 z260
    obtain ⟨rfl, N260q, eh260⟩ := hQ260
    have N261 := Fr.app N259 N260q
    refine own_via (fun k => st260 _ k) ?_
    show own_Go p e below s _ _ (T260.setTop (mkF m 165 #[iv p0, iv p1, iv p2, iv 3, rv b191, iv z210, rv b211, rv b211, rv b_241] [(.int (own_f9_3_2 z210 (own_r z210 (2 : Int32) (nar .byte z205)) (nar .byte z205)))]))
    refine own_via (fun k => XS.ifNo X260.here hx rfl (hb hby at_165) rfl ((if0 _ _).trans (feq (own_law3_165 p0 p1 p2 z205 hz205 z210 hz210 hl1)).1) k) ?_
    show own_Go p e below s _ _ (T260.setTop (mkF m 168 #[iv p0, iv p1, iv p2, iv 3, rv b191, iv z210, rv b211, rv b211, rv b_241] []))
    refine own_via (fun k => XS.aload X260.here hx rfl (hb hby at_168) rfl rfl  (XS.aload X260.here hx rfl (hb hby at_170) rfl rfl  (XS.iconst X260.here hx rfl (hb hby at_172) (XS.iload X260.here hx rfl (hb hby at_173) rfl  k)))) ?_
    show own_Go p e below s _ _ (T260.setTop (mkF m 175 #[iv p0, iv p1, iv p2, iv 3, rv b191, iv z210, rv b211, rv b211, rv b_241] [(.int z210), (.int 3), (.ref b191), (.ref b_241)]))
    obtain ⟨_, _, ⟨T262, L262, k262, n262⟩, -, X262, ⟨Lc262, hQ262, l262, y262, z262⟩, st262⟩ := Jvm.LawKit.callS X260 hx (y := (⟨"com/example/dani/dani/core/KeyReversedFromPinLaw", "at", "([B[BII)Z"⟩ : MethodName)) hown (mvT hZ (hw _ (List.mem_of_getElem? (i := 45) rfl))) (mvT hZ (hw _ (List.mem_of_getElem? (i := 46) rfl))) (mvT hZ (hw _ (List.mem_of_getElem? (i := 47) rfl))) (mvT hZ (hw _ (List.mem_of_getElem? (i := 48) rfl))) (by decide) (backOf (W := 0) (rm9_3_3 l Z aw hw [] b_241 b191 z210 k2_241 k191 (own_r z210 (0 : Int32) (nar .byte z195)) (own_r z210 (1 : Int32) (nar .byte z200)) (own_r z210 (2 : Int32) (nar .byte z205)) (nar .byte z195) (nar .byte z200) (nar .byte z205) T241.heap n0 Z250 B242 B245) hZ (hw _ (List.mem_of_getElem? (i := 48) rfl)) (hw _ (List.mem_of_getElem? (i := 47) rfl)) (by decide) (by decide)) (g := (mkF m 175 #[iv p0, iv p1, iv p2, iv 3, rv b191, iv z210, rv b211, rv b211, rv b_241] [(.int z210), (.int 3), (.ref b191), (.ref b_241)])) rfl (by rw [hml]; rfl) (argsL := [(.ref b_241), (.ref b191), (.int 3), (.int z210)]) (rest := []) (lenOf pd_8 rfl) rfl (by show 2 * 0 + _ ≤ _; exact Nat.le_of_eq rfl) (hb hby at_175) (fun _ _ => ⟨rfl, eh260, (by decide : 5 + 0 ≤ _), (by decide : 136 + 0 ≤ _)⟩)
    dsimp only [Pt.U, Pt.locs, Pt.cells, Pt.slots] at X262 l262 y262 z262 st262 hQ262
    subst l262 y262 z262
    obtain ⟨rfl, N262q, eh262⟩ := hQ262
    have N263 := Fr.app N261 N262q
    refine own_via (fun k => st262 _ k) ?_
    show own_Go p e below s _ _ (T262.setTop (mkF m 178 #[iv p0, iv p1, iv p2, iv 3, rv b191, iv z210, rv b211, rv b211, rv b_241] [(.int own_f9_3_3)]))
    refine own_via (fun k => XS.ifNo X262.here hx rfl (hb hby at_178) rfl ((if0 _ _).trans (feq (own_law3_178 p2 hl1)).1) k) ?_
    show own_Go p e below s _ _ (T262.setTop (mkF m 181 #[iv p0, iv p1, iv p2, iv 3, rv b191, iv z210, rv b211, rv b211, rv b_241] []))
    refine own_via (fun k => XS.iconst X262.here hx rfl (hb hby at_181) (XS.goto X262.here hx rfl (pc0 := 182) (pc' := 186) rfl (hb hby at_182) (by decide) (by decide) k)) ?_
    show own_Go p e below s _ _ (T262.setTop (mkF m 186 #[iv p0, iv p1, iv p2, iv 3, rv b191, iv z210, rv b211, rv b211, rv b_241] [(.int 1)]))
    exact own_retN X262 hx hlk (t := .boolean) Bd.returns (by simp) (hb hby at_186) (Q := (Q0 Z p0 p1 p2 h0 n0)) ⟨rfl, N263⟩ (by decide) (by decide)
  · rw [hl1]
    show own_Go p e below s _ _ (s₁.setTop (mkF m 7 #[iv p0, iv p1, iv p2, iv 4, .unset, .unset, .unset, .unset, .unset] []))
    refine own_via (fun k => XS.iloadN X0.here hx rfl (hb hby at_7) rfl  k) ?_
    show own_Go p e below s _ _ (s₁.setTop (mkF m 8 #[iv p0, iv p1, iv p2, iv 4, .unset, .unset, .unset, .unset, .unset] [(.int 4)]))
    obtain ⟨T264, h264, k264, X264, e264, E264, A264, st264⟩ := newP X0 hx hZ (hw _ (List.mem_of_getElem? (i := 0) rfl)) e0 (g := (mkF m 8 #[iv p0, iv p1, iv p2, iv 4, .unset, .unset, .unset, .unset, .unset] [(.int 4)])) rfl (hb hby at_8) rfl (by decide) (cap := 4) (by decide) (by decide) (by decide) (by decide)
    obtain ⟨b264, g264⟩ : ∃ z, z = h0.size := ⟨_, rfl⟩
    rw [← g264] at A264 st264
    refine own_via (fun k => st264 _ k) ?_
    show own_Go p e below s _ _ (T264.setTop (mkF m 10 #[iv p0, iv p1, iv p2, iv 4, .unset, .unset, .unset, .unset, .unset] [(.ref b264)]))
    have g265 : n0 ≤ b264 := Nat.le_trans Z0 (Nat.le_of_eq g264.symm)
    have Z266 : n0 ≤ h264.size := Nat.le_trans Z0 E264.1
    have B267 : Arv Z h264 b264 k264 .byte (4 : Int32) [(.int 0), (.int 0), (.int 0), (.int 0)] (.int 0) := (Arv.new A264 (by decide)).pad (pad_rep [] (.int 0) 4)
    refine own_via (fun k => XS.astore X264.here hx rfl (hb hby at_10) rfl rfl (l' := #[iv p0, iv p1, iv p2, iv 4, rv b264, .unset, .unset, .unset, .unset]) rfl (XS.iloadN X264.here hx rfl (hb hby at_12) rfl  k)) ?_
    show own_Go p e below s _ _ (T264.setTop (mkF m 13 #[iv p0, iv p1, iv p2, iv 4, rv b264, .unset, .unset, .unset, .unset] [(.int 4)]))
    refine own_via (fun k => XS.ifNo X264.here hx rfl (hb hby at_13) rfl (by decide) k) ?_
    show own_Go p e below s _ _ (T264.setTop (mkF m 16 #[iv p0, iv p1, iv p2, iv 4, rv b264, .unset, .unset, .unset, .unset] []))
    refine own_via (fun k => XS.aload X264.here hx rfl (hb hby at_16) rfl rfl  (XS.iconst X264.here hx rfl (hb hby at_18) (XS.iloadN X264.here hx rfl (hb hby at_19) rfl  (XS.i2b X264.here hx rfl (hb hby at_20) rfl k)))) ?_
    show own_Go p e below s _ _ (T264.setTop (mkF m 21 #[iv p0, iv p1, iv p2, iv 4, rv b264, .unset, .unset, .unset, .unset] [(.int (p0.toInt8.toInt32)), (.int 0), (.ref b264)]))
    obtain ⟨z268, hz268⟩ : ∃ z : Int32, z = (p0.toInt8.toInt32) := ⟨_, rfl⟩
    rw [← hz268]
    show own_Go p e below s _ _ (T264.setTop (mkF m 21 #[iv p0, iv p1, iv p2, iv 4, rv b264, .unset, .unset, .unset, .unset] [(.int z268), (.int 0), (.ref b264)]))
    obtain ⟨cl269, Ar269, q269, S269, NN269, H269, G269⟩ := id B267
    have hin269 : ¬ ((0 : Int32) < 0 ∨ cl269.slots.size ≤ ((0 : Int32)).toNatClampNeg) := inb_of S269 ⟨by decide, by decide⟩
    obtain ⟨T269, h269, X269, e269, W269, st269⟩ := stB X264 hx hZ e264 Ar269 (j := (0 : Int32)) hin269 (g := (mkF m 21 #[iv p0, iv p1, iv p2, iv 4, rv b264, .unset, .unset, .unset, .unset] [(.int z268), (.int 0), (.ref b264)])) rfl rfl (hb hby at_21)
    refine own_via (fun k => st269 _ k) ?_
    show own_Go p e below s _ _ (T269.setTop (mkF m 22 #[iv p0, iv p1, iv p2, iv 4, rv b264, .unset, .unset, .unset, .unset] []))
    have B270 : Arv Z h269 b264 k264 .byte (4 : Int32) [(.int (nar .byte z268)), (.int 0), (.int 0), (.int 0)] (.int 0) := Arv.set Ar269 q269 S269 NN269 H269 G269 (fits_nar_byte _) W269 0 rfl (Nat.le_of_ble_eq_true rfl)
    have N271 := Fr.snoc X269 N0 g265
    have Z272 : n0 ≤ h269.size := Nat.le_trans Z266 (Keep.of_wr W269).1
    refine own_via (fun k => XS.iloadN X269.here hx rfl (hb hby at_22) rfl  (XS.iconst X269.here hx rfl (hb hby at_23) k)) ?_
    show own_Go p e below s _ _ (T269.setTop (mkF m 24 #[iv p0, iv p1, iv p2, iv 4, rv b264, .unset, .unset, .unset, .unset] [(.int 1), (.int 4)]))
    refine own_via (fun k => XS.icmpNo X269.here hx rfl (hb hby at_24) rfl (by decide) k) ?_
    show own_Go p e below s _ _ (T269.setTop (mkF m 27 #[iv p0, iv p1, iv p2, iv 4, rv b264, .unset, .unset, .unset, .unset] []))
    refine own_via (fun k => XS.aload X269.here hx rfl (hb hby at_27) rfl rfl  (XS.iconst X269.here hx rfl (hb hby at_29) (XS.iloadN X269.here hx rfl (hb hby at_30) rfl  (XS.bipush X269.here hx rfl (hb hby at_31) k)))) ?_
    show own_Go p e below s _ _ (T269.setTop (mkF m 33 #[iv p0, iv p1, iv p2, iv 4, rv b264, .unset, .unset, .unset, .unset] [(.int 8), (.int p0), (.int 1), (.ref b264)]))
    refine own_via (fun k => XS.iushr X269.here hx rfl (hb hby at_33) rfl (XS.i2b X269.here hx rfl (hb hby at_34) rfl k)) ?_
    show own_Go p e below s _ _ (T269.setTop (mkF m 35 #[iv p0, iv p1, iv p2, iv 4, rv b264, .unset, .unset, .unset, .unset] [(.int (((p0.toUInt32 >>> ((8 : Int32) &&& 31).toUInt32).toInt32).toInt8.toInt32)), (.int 1), (.ref b264)]))
    obtain ⟨z273, hz273⟩ : ∃ z : Int32, z = (((p0.toUInt32 >>> ((8 : Int32) &&& 31).toUInt32).toInt32).toInt8.toInt32) := ⟨_, rfl⟩
    rw [← hz273]
    show own_Go p e below s _ _ (T269.setTop (mkF m 35 #[iv p0, iv p1, iv p2, iv 4, rv b264, .unset, .unset, .unset, .unset] [(.int z273), (.int 1), (.ref b264)]))
    obtain ⟨cl274, Ar274, q274, S274, NN274, H274, G274⟩ := id B270
    have hin274 : ¬ ((1 : Int32) < 0 ∨ cl274.slots.size ≤ ((1 : Int32)).toNatClampNeg) := inb_of S274 ⟨by decide, by decide⟩
    obtain ⟨T274, h274, X274, e274, W274, st274⟩ := stB X269 hx hZ e269 Ar274 (j := (1 : Int32)) hin274 (g := (mkF m 35 #[iv p0, iv p1, iv p2, iv 4, rv b264, .unset, .unset, .unset, .unset] [(.int z273), (.int 1), (.ref b264)])) rfl rfl (hb hby at_35)
    refine own_via (fun k => st274 _ k) ?_
    show own_Go p e below s _ _ (T274.setTop (mkF m 36 #[iv p0, iv p1, iv p2, iv 4, rv b264, .unset, .unset, .unset, .unset] []))
    have B275 : Arv Z h274 b264 k264 .byte (4 : Int32) [(.int (nar .byte z268)), (.int (nar .byte z273)), (.int 0), (.int 0)] (.int 0) := Arv.set Ar274 q274 S274 NN274 H274 G274 (fits_nar_byte _) W274 1 rfl (Nat.le_of_ble_eq_true rfl)
    have N276 := Fr.snoc X274 N271 g265
    have Z277 : n0 ≤ h274.size := Nat.le_trans Z272 (Keep.of_wr W274).1
    refine own_via (fun k => XS.iloadN X274.here hx rfl (hb hby at_36) rfl  (XS.iconst X274.here hx rfl (hb hby at_37) k)) ?_
    show own_Go p e below s _ _ (T274.setTop (mkF m 38 #[iv p0, iv p1, iv p2, iv 4, rv b264, .unset, .unset, .unset, .unset] [(.int 2), (.int 4)]))
    refine own_via (fun k => XS.icmpNo X274.here hx rfl (hb hby at_38) rfl (by decide) k) ?_
    show own_Go p e below s _ _ (T274.setTop (mkF m 41 #[iv p0, iv p1, iv p2, iv 4, rv b264, .unset, .unset, .unset, .unset] []))
    refine own_via (fun k => XS.aload X274.here hx rfl (hb hby at_41) rfl rfl  (XS.iconst X274.here hx rfl (hb hby at_43) (XS.iloadN X274.here hx rfl (hb hby at_44) rfl  (XS.bipush X274.here hx rfl (hb hby at_45) k)))) ?_
    show own_Go p e below s _ _ (T274.setTop (mkF m 47 #[iv p0, iv p1, iv p2, iv 4, rv b264, .unset, .unset, .unset, .unset] [(.int 16), (.int p0), (.int 2), (.ref b264)]))
    refine own_via (fun k => XS.iushr X274.here hx rfl (hb hby at_47) rfl (XS.i2b X274.here hx rfl (hb hby at_48) rfl k)) ?_
    show own_Go p e below s _ _ (T274.setTop (mkF m 49 #[iv p0, iv p1, iv p2, iv 4, rv b264, .unset, .unset, .unset, .unset] [(.int (((p0.toUInt32 >>> ((16 : Int32) &&& 31).toUInt32).toInt32).toInt8.toInt32)), (.int 2), (.ref b264)]))
    obtain ⟨z278, hz278⟩ : ∃ z : Int32, z = (((p0.toUInt32 >>> ((16 : Int32) &&& 31).toUInt32).toInt32).toInt8.toInt32) := ⟨_, rfl⟩
    rw [← hz278]
    show own_Go p e below s _ _ (T274.setTop (mkF m 49 #[iv p0, iv p1, iv p2, iv 4, rv b264, .unset, .unset, .unset, .unset] [(.int z278), (.int 2), (.ref b264)]))
    obtain ⟨cl279, Ar279, q279, S279, NN279, H279, G279⟩ := id B275
    have hin279 : ¬ ((2 : Int32) < 0 ∨ cl279.slots.size ≤ ((2 : Int32)).toNatClampNeg) := inb_of S279 ⟨by decide, by decide⟩
    obtain ⟨T279, h279, X279, e279, W279, st279⟩ := stB X274 hx hZ e274 Ar279 (j := (2 : Int32)) hin279 (g := (mkF m 49 #[iv p0, iv p1, iv p2, iv 4, rv b264, .unset, .unset, .unset, .unset] [(.int z278), (.int 2), (.ref b264)])) rfl rfl (hb hby at_49)
    refine own_via (fun k => st279 _ k) ?_
    show own_Go p e below s _ _ (T279.setTop (mkF m 50 #[iv p0, iv p1, iv p2, iv 4, rv b264, .unset, .unset, .unset, .unset] []))
    have B280 : Arv Z h279 b264 k264 .byte (4 : Int32) [(.int (nar .byte z268)), (.int (nar .byte z273)), (.int (nar .byte z278)), (.int 0)] (.int 0) := Arv.set Ar279 q279 S279 NN279 H279 G279 (fits_nar_byte _) W279 2 rfl (Nat.le_of_ble_eq_true rfl)
    have N281 := Fr.snoc X279 N276 g265
    have Z282 : n0 ≤ h279.size := Nat.le_trans Z277 (Keep.of_wr W279).1
    refine own_via (fun k => XS.iloadN X279.here hx rfl (hb hby at_50) rfl  (XS.iconst X279.here hx rfl (hb hby at_51) k)) ?_
    show own_Go p e below s _ _ (T279.setTop (mkF m 52 #[iv p0, iv p1, iv p2, iv 4, rv b264, .unset, .unset, .unset, .unset] [(.int 3), (.int 4)]))
    refine own_via (fun k => XS.icmpNo X279.here hx rfl (hb hby at_52) rfl (by decide) k) ?_
    show own_Go p e below s _ _ (T279.setTop (mkF m 55 #[iv p0, iv p1, iv p2, iv 4, rv b264, .unset, .unset, .unset, .unset] []))
    refine own_via (fun k => XS.aload X279.here hx rfl (hb hby at_55) rfl rfl  (XS.iconst X279.here hx rfl (hb hby at_57) (XS.iloadN X279.here hx rfl (hb hby at_58) rfl  (XS.bipush X279.here hx rfl (hb hby at_59) k)))) ?_
    show own_Go p e below s _ _ (T279.setTop (mkF m 61 #[iv p0, iv p1, iv p2, iv 4, rv b264, .unset, .unset, .unset, .unset] [(.int 24), (.int p0), (.int 3), (.ref b264)]))
    refine own_via (fun k => XS.iushr X279.here hx rfl (hb hby at_61) rfl (XS.i2b X279.here hx rfl (hb hby at_62) rfl k)) ?_
    show own_Go p e below s _ _ (T279.setTop (mkF m 63 #[iv p0, iv p1, iv p2, iv 4, rv b264, .unset, .unset, .unset, .unset] [(.int (((p0.toUInt32 >>> ((24 : Int32) &&& 31).toUInt32).toInt32).toInt8.toInt32)), (.int 3), (.ref b264)]))
    obtain ⟨z283, hz283⟩ : ∃ z : Int32, z = (((p0.toUInt32 >>> ((24 : Int32) &&& 31).toUInt32).toInt32).toInt8.toInt32) := ⟨_, rfl⟩
    rw [← hz283]
    show own_Go p e below s _ _ (T279.setTop (mkF m 63 #[iv p0, iv p1, iv p2, iv 4, rv b264, .unset, .unset, .unset, .unset] [(.int z283), (.int 3), (.ref b264)]))
    obtain ⟨cl284, Ar284, q284, S284, NN284, H284, G284⟩ := id B280
    have hin284 : ¬ ((3 : Int32) < 0 ∨ cl284.slots.size ≤ ((3 : Int32)).toNatClampNeg) := inb_of S284 ⟨by decide, by decide⟩
    obtain ⟨T284, h284, X284, e284, W284, st284⟩ := stB X279 hx hZ e279 Ar284 (j := (3 : Int32)) hin284 (g := (mkF m 63 #[iv p0, iv p1, iv p2, iv 4, rv b264, .unset, .unset, .unset, .unset] [(.int z283), (.int 3), (.ref b264)])) rfl rfl (hb hby at_63)
    refine own_via (fun k => st284 _ k) ?_
    show own_Go p e below s _ _ (T284.setTop (mkF m 64 #[iv p0, iv p1, iv p2, iv 4, rv b264, .unset, .unset, .unset, .unset] []))
    have B285 : Arv Z h284 b264 k264 .byte (4 : Int32) [(.int (nar .byte z268)), (.int (nar .byte z273)), (.int (nar .byte z278)), (.int (nar .byte z283))] (.int 0) := Arv.set Ar284 q284 S284 NN284 H284 G284 (fits_nar_byte _) W284 3 rfl (Nat.le_of_ble_eq_true rfl)
    have N286 := Fr.snoc X284 N281 g265
    have Z287 : n0 ≤ h284.size := Nat.le_trans Z282 (Keep.of_wr W284).1
    refine own_via (fun k => XS.iloadN X284.here hx rfl (hb hby at_64) rfl  (X284.ldcInt hx hown (mvT hZ (hw _ (List.mem_of_getElem? (i := 1) rfl))) (g := (mkF m 65 #[iv p0, iv p1, iv p2, iv 4, rv b264, .unset, .unset, .unset, .unset] [(.int p1)])) rfl (hb hby at_65) _ (XS.iand X284.here hx rfl (hb hby at_67) rfl (XS.bipush X284.here hx rfl (hb hby at_68) k)))) ?_
    show own_Go p e below s _ _ (T284.setTop (mkF m 70 #[iv p0, iv p1, iv p2, iv 4, rv b264, .unset, .unset, .unset, .unset] [(.int 7), (.int (p1 &&& (2147483647 : Int32)))]))
    refine own_via (fun k => Jvm.RoadKit.iremM X284 hx rfl (hb hby at_70) rfl (by decide) k) ?_
    show own_Go p e below s _ _ (T284.setTop (mkF m 71 #[iv p0, iv p1, iv p2, iv 4, rv b264, .unset, .unset, .unset, .unset] [(.int ((p1 &&& (2147483647 : Int32)) % (7 : Int32)))]))
    obtain ⟨z288, hz288⟩ : ∃ z : Int32, z = ((p1 &&& (2147483647 : Int32)) % (7 : Int32)) := ⟨_, rfl⟩
    rw [← hz288]
    show own_Go p e below s _ _ (T284.setTop (mkF m 71 #[iv p0, iv p1, iv p2, iv 4, rv b264, .unset, .unset, .unset, .unset] [(.int z288)]))
    refine own_via (fun k => XS.istore X284.here hx rfl (hb hby at_71) rfl (l' := #[iv p0, iv p1, iv p2, iv 4, rv b264, iv z288, .unset, .unset, .unset]) rfl k) ?_
    show own_Go p e below s _ _ (T284.setTop (mkF m 73 #[iv p0, iv p1, iv p2, iv 4, rv b264, iv z288, .unset, .unset, .unset] []))
    obtain ⟨T289, h289, X289, e289, E289, A289, D289, -, st289⟩ := newO X284 hx hZ hown (hw _ (List.mem_of_getElem? (i := 2) rfl)) (hw _ (List.mem_of_getElem? (i := 3) rfl)) (hw _ (List.mem_of_getElem? (i := 4) rfl)) e284 (g := (mkF m 73 #[iv p0, iv p1, iv p2, iv 4, rv b264, iv z288, .unset, .unset, .unset] [])) rfl (hb hby at_73) (by decide) (by decide)
    obtain ⟨b289, g289⟩ : ∃ z, z = h284.size := ⟨_, rfl⟩
    rw [← g289] at A289 D289 st289
    refine own_via (fun k => st289 _ k) ?_
    show own_Go p e below s _ _ (T289.setTop (mkF m 76 #[iv p0, iv p1, iv p2, iv 4, rv b264, iv z288, .unset, .unset, .unset] [(.ref b289)]))
    have g290 : n0 ≤ b289 := Nat.le_trans Z287 (Nat.le_of_eq g289.symm)
    have ne291 : b264 ≠ b289 := Nat.ne_of_lt (Nat.lt_of_lt_of_le B285.lt (Nat.le_of_eq g289.symm))
    have B292 := B285.ext E289
    have Z293 : n0 ≤ h289.size := Nat.le_trans Z287 E289.1
    have B294 : Fld Z h289 b289 "com/example/dani/dani/core/Key" "bytes" "[B" .null := D289 (Or.inl (hw _ (List.mem_of_getElem? (i := 12) rfl))) (ty := (.array .byte)) (by decide)
    have B295 : Fld Z h289 b289 "com/example/dani/dani/core/Key" "length" "I" (.int 0) := D289 (Or.inl (hw _ (List.mem_of_getElem? (i := 29) rfl))) (ty := .int) (by decide)
    refine own_via (fun k => XS.dup X289.here hx rfl (hb hby at_76) rfl rfl (XS.aload X289.here hx rfl (hb hby at_77) rfl rfl  k)) ?_
    show own_Go p e below s _ _ (T289.setTop (mkF m 79 #[iv p0, iv p1, iv p2, iv 4, rv b264, iv z288, .unset, .unset, .unset] [(.ref b264), (.ref b289), (.ref b289)]))
    obtain ⟨_, _, ⟨T296, L296, k296, n296⟩, -, X296, ⟨Lc296, hQ296, l296, y296, z296⟩, st296⟩ := X289.specialBack hx (y := (⟨"com/example/dani/dani/core/Key", "<init>", "([B)V"⟩ : MethodName)) rfl hown (mvT hZ (hw _ (List.mem_of_getElem? (i := 5) rfl))) (mvT hZ (hw _ (List.mem_of_getElem? (i := 6) rfl))) (mvT hZ (hw _ (List.mem_of_getElem? (i := 7) rfl))) (by decide) (backOf (W := 1) (rm1_4 l Z aw hw [] b289 b264 k264 (nar .byte z268) (nar .byte z273) (nar .byte z278) (nar .byte z283) h289 n0 Z293 B294 B295 A289 B292 g290 ne291) hZ (hw _ (List.mem_of_getElem? (i := 7) rfl)) (hw _ (List.mem_of_getElem? (i := 4) rfl)) (by decide) (by decide)) (g := (mkF m 79 #[iv p0, iv p1, iv p2, iv 4, rv b264, iv z288, .unset, .unset, .unset] [(.ref b264), (.ref b289), (.ref b289)])) rfl (by rw [hml]; rfl) (Steps.refl _) (a := b289) (argsL := [(.ref b264)]) (rest := [(.ref b289)]) (lenOf pd_0 rfl) rfl (by show 2 * 0 + _ ≤ _; exact Nat.le_of_eq rfl) (hb hby at_79) (fun _ _ => ⟨rfl, e289, (by decide : 2 + 2 ≤ _), (by decide : 6 + 128 ≤ _)⟩)
    dsimp only [Pt.U, Pt.locs, Pt.cells, Pt.slots] at X296 l296 y296 z296 st296 hQ296
    subst l296 y296 z296
    obtain ⟨b_296, k2_296, rfl, N296q, K296, B297, B298, B299, g300⟩ := hQ296
    have N301 := Fr.app N286 N296q
    have B302 := B292.keep K296 (ninS ne291 nin0)
    have B303 := A289.keep K296
    have Z304 : n0 ≤ T296.heap.size := Nat.le_trans Z293 K296.1
    have g305 : n0 ≤ b_296 := Nat.le_trans Z293 g300
    have ne306 : b264 ≠ b_296 := Nat.ne_of_lt (Nat.lt_of_lt_of_le B292.lt g300)
    have ne307 : b289 ≠ b_296 := Nat.ne_of_lt (Nat.lt_of_lt_of_le A289.lt g300)
    refine own_via (fun k => st296.trans k) ?_
    show own_Go p e below s _ _ (T296.setTop (mkF m 82 #[iv p0, iv p1, iv p2, iv 4, rv b264, iv z288, .unset, .unset, .unset] [(.ref b289)]))
    refine own_via (fun k => XS.astore X296.here hx rfl (hb hby at_82) rfl rfl (l' := #[iv p0, iv p1, iv p2, iv 4, rv b264, iv z288, rv b289, .unset, .unset]) rfl (XS.aload X296.here hx rfl (hb hby at_84) rfl rfl  (XS.iload X296.here hx rfl (hb hby at_86) rfl  k))) ?_
    show own_Go p e below s _ _ (T296.setTop (mkF m 88 #[iv p0, iv p1, iv p2, iv 4, rv b264, iv z288, rv b289, .unset, .unset] [(.int z288), (.ref b289)]))
    obtain ⟨cq308, kq308, q308a, q308b, q308c⟩ := isOf hZ rfl B303
    obtain ⟨_, _, ⟨T308, L308, k308, n308⟩, -, X308, ⟨Lc308, hQ308, l308, y308, z308⟩, st308⟩ := X296.virtualBack hx (y := (⟨"com/example/dani/dani/core/Key", "reversedFrom", "(I)Lcom/example/dani/dani/core/Key;"⟩ : MethodName)) (z := (⟨"com/example/dani/dani/core/Key", "reversedFrom", "(I)Lcom/example/dani/dani/core/Key;"⟩ : MethodName)) hown (mvT hZ (hw _ (List.mem_of_getElem? (i := 30) rfl))) (mvT hZ (hw _ (List.mem_of_getElem? (i := 31) rfl))) (notFace_of_selects (args := #[]) (mvT hZ (hw _ (List.mem_of_getElem? (i := 33) rfl)))) (mvT hZ (hw _ (List.mem_of_getElem? (i := 33) rfl))) (mvT hZ (hw _ (List.mem_of_getElem? (i := 32) rfl))) (by decide) (backOf (W := 0) (rm6_4 l Z aw hw [] b289 z288 b_296 k2_296 (nar .byte z268) (nar .byte z273) (nar .byte z278) (nar .byte z283) T296.heap n0 Z304 B297 B298 B303 B299 g305 ne307 (own_hs4 p1 p2 z288 hz288 hl1)) hZ (hw _ (List.mem_of_getElem? (i := 34) rfl)) (hw _ (List.mem_of_getElem? (i := 4) rfl)) (by decide) (by decide)) q308a q308c (g := (mkF m 88 #[iv p0, iv p1, iv p2, iv 4, rv b264, iv z288, rv b289, .unset, .unset] [(.int z288), (.ref b289)])) rfl (by rw [hml]; rfl) (Steps.refl _) (argsL := [(.int z288)]) (rest := []) (lenOf pd_5 rfl) rfl (by show 2 * 0 + _ ≤ _; exact Nat.le_of_eq rfl) (hb hby at_88) (fun _ _ => ⟨rfl, rfl, (by decide : 4 + 0 ≤ _), (by decide : 134 + 0 ≤ _)⟩)
    dsimp only [Pt.U, Pt.locs, Pt.cells, Pt.slots] at X308 l308 y308 z308 st308 hQ308
    subst l308 y308 z308
    obtain ⟨rfl, N308q, K308, B309, B310, B311⟩ := hQ308
    have N312 := Fr.app N301 N308q
    have B313 := B302.keep K308 (ninS ne306 nin0)
    have B314 := B303.keep K308
    have Z315 : n0 ≤ T308.heap.size := Nat.le_trans Z304 K308.1
    refine own_via (fun k => st308.trans k) ?_
    show own_Go p e below s _ _ (T308.setTop (mkF m 91 #[iv p0, iv p1, iv p2, iv 4, rv b264, iv z288, rv b289, .unset, .unset] [(.ref b289)]))
    refine own_via (fun k => XS.astore X308.here hx rfl (hb hby at_91) rfl rfl (l' := #[iv p0, iv p1, iv p2, iv 4, rv b264, iv z288, rv b289, rv b289, .unset]) rfl (XS.aload X308.here hx rfl (hb hby at_93) rfl rfl  (XS.aload X308.here hx rfl (hb hby at_95) rfl rfl  k))) ?_
    show own_Go p e below s _ _ (T308.setTop (mkF m 97 #[iv p0, iv p1, iv p2, iv 4, rv b264, iv z288, rv b289, rv b289, .unset] [(.ref b289), (.ref b289)]))
    refine own_via (fun k => Jvm.RoadKit.acmp (g := (mkF m 97 #[iv p0, iv p1, iv p2, iv 4, rv b264, iv z288, rv b289, rv b289, .unset] [(.ref b289), (.ref b289)])) X308 hx rfl rfl rfl (pc0 := 97) (pc' := 102) (same := true) rfl (hb hby at_97) rfl (decide_eq_true rfl) (by decide) (by decide) k) ?_
    show own_Go p e below s _ _ (T308.setTop (mkF m 102 #[iv p0, iv p1, iv p2, iv 4, rv b264, iv z288, rv b289, rv b289, .unset] []))
    refine own_via (fun k => XS.aload X308.here hx rfl (hb hby at_102) rfl rfl  k) ?_
    show own_Go p e below s _ _ (T308.setTop (mkF m 104 #[iv p0, iv p1, iv p2, iv 4, rv b264, iv z288, rv b289, rv b289, .unset] [(.ref b289)]))
    obtain ⟨cq317, kq317, q317a, q317b, q317c⟩ := isOf hZ rfl B314
    obtain ⟨_, _, ⟨T317, L317, k317, n317⟩, -, X317, ⟨Lc317, hQ317, l317, y317, z317⟩, st317⟩ := X308.virtualBack hx (y := (⟨"com/example/dani/dani/core/Key", "length", "()I"⟩ : MethodName)) (z := (⟨"com/example/dani/dani/core/Key", "length", "()I"⟩ : MethodName)) hown (mvT hZ (hw _ (List.mem_of_getElem? (i := 35) rfl))) (mvT hZ (hw _ (List.mem_of_getElem? (i := 36) rfl))) (notFace_of_selects (args := #[]) (mvT hZ (hw _ (List.mem_of_getElem? (i := 38) rfl)))) (mvT hZ (hw _ (List.mem_of_getElem? (i := 38) rfl))) (mvT hZ (hw _ (List.mem_of_getElem? (i := 37) rfl))) (by decide) (backOf (W := 0) (rm7_4 l Z aw hw [] b289 T308.heap n0 Z315 B310) hZ (hw _ (List.mem_of_getElem? (i := 39) rfl)) (hw _ (List.mem_of_getElem? (i := 4) rfl)) (by decide) (by decide)) q317a q317c (g := (mkF m 104 #[iv p0, iv p1, iv p2, iv 4, rv b264, iv z288, rv b289, rv b289, .unset] [(.ref b289)])) rfl (by rw [hml]; rfl) (Steps.refl _) (argsL := []) (rest := []) (lenOf pd_6 rfl) rfl (by show 2 * 0 + _ ≤ _; exact Nat.le_of_eq rfl) (hb hby at_104) (fun _ _ => ⟨rfl, rfl, (by decide : 4 + 0 ≤ _), (by decide : 134 + 0 ≤ _)⟩)
    dsimp only [Pt.U, Pt.locs, Pt.cells, Pt.slots] at X317 l317 y317 z317 st317 hQ317
    subst l317 y317 z317
    obtain ⟨rfl, N317q, eh317⟩ := hQ317
    have N318 := Fr.app N312 N317q
    refine own_via (fun k => st317.trans k) ?_
    show own_Go p e below s _ _ (T317.setTop (mkF m 107 #[iv p0, iv p1, iv p2, iv 4, rv b264, iv z288, rv b289, rv b289, .unset] [(.int 4)]))
    refine own_via (fun k => XS.iloadN X317.here hx rfl (hb hby at_107) rfl  k) ?_
    show own_Go p e below s _ _ (T317.setTop (mkF m 108 #[iv p0, iv p1, iv p2, iv 4, rv b264, iv z288, rv b289, rv b289, .unset] [(.int 4), (.int 4)]))
    refine own_via (fun k => XS.icmpYes X317.here hx rfl (pc0 := 108) (pc' := 113) rfl (hb hby at_108) rfl (by decide) (by decide) (by decide) k) ?_
    show own_Go p e below s _ _ (T317.setTop (mkF m 113 #[iv p0, iv p1, iv p2, iv 4, rv b264, iv z288, rv b289, rv b289, .unset] []))
    refine own_via (fun k => XS.aload X317.here hx rfl (hb hby at_113) rfl rfl  k) ?_
    show own_Go p e below s _ _ (T317.setTop (mkF m 115 #[iv p0, iv p1, iv p2, iv 4, rv b264, iv z288, rv b289, rv b289, .unset] [(.ref b289)]))
    obtain ⟨cq319, kq319, q319a, q319b, q319c⟩ := isOf hZ eh317 B314
    obtain ⟨_, _, ⟨T319, L319, k319, n319⟩, -, X319, ⟨Lc319, hQ319, l319, y319, z319⟩, st319⟩ := X317.virtualBack hx (y := (⟨"com/example/dani/dani/core/Key", "toBytes", "()[B"⟩ : MethodName)) (z := (⟨"com/example/dani/dani/core/Key", "toBytes", "()[B"⟩ : MethodName)) hown (mvT hZ (hw _ (List.mem_of_getElem? (i := 40) rfl))) (mvT hZ (hw _ (List.mem_of_getElem? (i := 41) rfl))) (notFace_of_selects (args := #[]) (mvT hZ (hw _ (List.mem_of_getElem? (i := 43) rfl)))) (mvT hZ (hw _ (List.mem_of_getElem? (i := 43) rfl))) (mvT hZ (hw _ (List.mem_of_getElem? (i := 42) rfl))) (by decide) (backOf (W := 0) (rm8_4 l Z aw hw [] b289 b_296 k2_296 (own_r z288 (0 : Int32) (nar .byte z268)) (own_r z288 (1 : Int32) (nar .byte z273)) (own_r z288 (2 : Int32) (nar .byte z278)) (own_r z288 (3 : Int32) (nar .byte z283)) T308.heap n0 Z315 B309 B310 B311) hZ (hw _ (List.mem_of_getElem? (i := 44) rfl)) (hw _ (List.mem_of_getElem? (i := 4) rfl)) (by decide) (by decide)) q319a q319c (g := (mkF m 115 #[iv p0, iv p1, iv p2, iv 4, rv b264, iv z288, rv b289, rv b289, .unset] [(.ref b289)])) rfl (by rw [hml]; rfl) (Steps.refl _) (argsL := []) (rest := []) (lenOf pd_7 rfl) rfl (by show 2 * 0 + _ ≤ _; exact Nat.le_of_eq rfl) (hb hby at_115) (fun _ _ => ⟨rfl, eh317, (by decide : 4 + 1 ≤ _), (by decide : 134 + 4 ≤ _)⟩)
    dsimp only [Pt.U, Pt.locs, Pt.cells, Pt.slots] at X319 l319 y319 z319 st319 hQ319
    subst l319 y319 z319
    obtain ⟨b_319, k2_319, rfl, N319q, K319, B320, g321⟩ := hQ319
    have N322 := Fr.app N318 N319q
    have B323 := B313.keep K319 nin0
    have B324 := B314.keep K319
    have B325 := B309.keep K319 nin0
    have B326 := B310.keep K319 nin0
    have B327 := B311.keep K319 nin0
    have Z328 : n0 ≤ T319.heap.size := Nat.le_trans Z315 K319.1
    have g329 : n0 ≤ b_319 := Nat.le_trans Z315 g321
    have ne330 : b264 ≠ b_319 := Nat.ne_of_lt (Nat.lt_of_lt_of_le B313.lt g321)
    have ne331 : b289 ≠ b_319 := Nat.ne_of_lt (Nat.lt_of_lt_of_le B314.lt g321)
    have ne332 : b_296 ≠ b_319 := Nat.ne_of_lt (Nat.lt_of_lt_of_le B311.lt g321)
    refine own_via (fun k => st319.trans k) ?_
    show own_Go p e below s _ _ (T319.setTop (mkF m 118 #[iv p0, iv p1, iv p2, iv 4, rv b264, iv z288, rv b289, rv b289, .unset] [(.ref b_319)]))
    refine own_via (fun k => XS.astore X319.here hx rfl (hb hby at_118) rfl rfl (l' := #[iv p0, iv p1, iv p2, iv 4, rv b264, iv z288, rv b289, rv b289, rv b_319]) rfl (XS.aload X319.here hx rfl (hb hby at_120) rfl rfl  k)) ?_
    show own_Go p e below s _ _ (T319.setTop (mkF m 122 #[iv p0, iv p1, iv p2, iv 4, rv b264, iv z288, rv b289, rv b289, rv b_319] [(.ref b_319)]))
    obtain ⟨cl333, Ar333, -, S333, NN333, -, -⟩ := id B320
    refine own_via (fun k => X319.arraylength hx Ar333.1 (State.isArrayOf_alike hZ.alike Ar333.2.1) (g := (mkF m 122 #[iv p0, iv p1, iv p2, iv 4, rv b264, iv z288, rv b289, rv b289, rv b_319] [(.ref b_319)])) rfl rfl (hb hby at_122) _ k) ?_
    rw [len_of S333 NN333]
    show own_Go p e below s _ _ (T319.setTop (mkF m 123 #[iv p0, iv p1, iv p2, iv 4, rv b264, iv z288, rv b289, rv b289, rv b_319] [(.int 4)]))
    refine own_via (fun k => XS.iloadN X319.here hx rfl (hb hby at_123) rfl  k) ?_
    show own_Go p e below s _ _ (T319.setTop (mkF m 124 #[iv p0, iv p1, iv p2, iv 4, rv b264, iv z288, rv b289, rv b289, rv b_319] [(.int 4), (.int 4)]))
    refine own_via (fun k => XS.icmpYes X319.here hx rfl (pc0 := 124) (pc' := 129) rfl (hb hby at_124) rfl (by decide) (by decide) (by decide) k) ?_
    show own_Go p e below s _ _ (T319.setTop (mkF m 129 #[iv p0, iv p1, iv p2, iv 4, rv b264, iv z288, rv b289, rv b289, rv b_319] []))
    refine own_via (fun k => XS.aload X319.here hx rfl (hb hby at_129) rfl rfl  (XS.aload X319.here hx rfl (hb hby at_131) rfl rfl  (XS.iconst X319.here hx rfl (hb hby at_133) (XS.iload X319.here hx rfl (hb hby at_134) rfl  k)))) ?_
    show own_Go p e below s _ _ (T319.setTop (mkF m 136 #[iv p0, iv p1, iv p2, iv 4, rv b264, iv z288, rv b289, rv b289, rv b_319] [(.int z288), (.int 0), (.ref b264), (.ref b_319)]))
    obtain ⟨_, _, ⟨T334, L334, k334, n334⟩, -, X334, ⟨Lc334, hQ334, l334, y334, z334⟩, st334⟩ := Jvm.LawKit.callS X319 hx (y := (⟨"com/example/dani/dani/core/KeyReversedFromPinLaw", "at", "([B[BII)Z"⟩ : MethodName)) hown (mvT hZ (hw _ (List.mem_of_getElem? (i := 45) rfl))) (mvT hZ (hw _ (List.mem_of_getElem? (i := 46) rfl))) (mvT hZ (hw _ (List.mem_of_getElem? (i := 47) rfl))) (mvT hZ (hw _ (List.mem_of_getElem? (i := 48) rfl))) (by decide) (backOf (W := 0) (rm9_4_0 l Z aw hw [] b_319 b264 z288 k2_319 k264 (own_r z288 (0 : Int32) (nar .byte z268)) (own_r z288 (1 : Int32) (nar .byte z273)) (own_r z288 (2 : Int32) (nar .byte z278)) (own_r z288 (3 : Int32) (nar .byte z283)) (nar .byte z268) (nar .byte z273) (nar .byte z278) (nar .byte z283) T319.heap n0 Z328 B320 B323) hZ (hw _ (List.mem_of_getElem? (i := 48) rfl)) (hw _ (List.mem_of_getElem? (i := 47) rfl)) (by decide) (by decide)) (g := (mkF m 136 #[iv p0, iv p1, iv p2, iv 4, rv b264, iv z288, rv b289, rv b289, rv b_319] [(.int z288), (.int 0), (.ref b264), (.ref b_319)])) rfl (by rw [hml]; rfl) (argsL := [(.ref b_319), (.ref b264), (.int 0), (.int z288)]) (rest := []) (lenOf pd_8 rfl) rfl (by show 2 * 0 + _ ≤ _; exact Nat.le_of_eq rfl) (hb hby at_136) (fun _ _ => ⟨rfl, rfl, (by decide : 5 + 0 ≤ _), (by decide : 138 + 0 ≤ _)⟩)
    dsimp only [Pt.U, Pt.locs, Pt.cells, Pt.slots] at X334 l334 y334 z334 st334 hQ334
    subst l334 y334 z334
    obtain ⟨rfl, N334q, eh334⟩ := hQ334
    have N335 := Fr.app N322 N334q
    refine own_via (fun k => st334 _ k) ?_
    show own_Go p e below s _ _ (T334.setTop (mkF m 139 #[iv p0, iv p1, iv p2, iv 4, rv b264, iv z288, rv b289, rv b289, rv b_319] [(.int (own_f9_4_0 z288 (own_r z288 (0 : Int32) (nar .byte z268)) (nar .byte z268)))]))
    refine own_via (fun k => XS.ifNo X334.here hx rfl (hb hby at_139) rfl ((if0 _ _).trans (feq (own_law4_139 p0 p1 p2 z268 hz268 z288 hz288 hl1)).1) k) ?_
    show own_Go p e below s _ _ (T334.setTop (mkF m 142 #[iv p0, iv p1, iv p2, iv 4, rv b264, iv z288, rv b289, rv b289, rv b_319] []))
    refine own_via (fun k => XS.aload X334.here hx rfl (hb hby at_142) rfl rfl  (XS.aload X334.here hx rfl (hb hby at_144) rfl rfl  (XS.iconst X334.here hx rfl (hb hby at_146) (XS.iload X334.here hx rfl (hb hby at_147) rfl  k)))) ?_
    show own_Go p e below s _ _ (T334.setTop (mkF m 149 #[iv p0, iv p1, iv p2, iv 4, rv b264, iv z288, rv b289, rv b289, rv b_319] [(.int z288), (.int 1), (.ref b264), (.ref b_319)]))
    obtain ⟨_, _, ⟨T336, L336, k336, n336⟩, -, X336, ⟨Lc336, hQ336, l336, y336, z336⟩, st336⟩ := Jvm.LawKit.callS X334 hx (y := (⟨"com/example/dani/dani/core/KeyReversedFromPinLaw", "at", "([B[BII)Z"⟩ : MethodName)) hown (mvT hZ (hw _ (List.mem_of_getElem? (i := 45) rfl))) (mvT hZ (hw _ (List.mem_of_getElem? (i := 46) rfl))) (mvT hZ (hw _ (List.mem_of_getElem? (i := 47) rfl))) (mvT hZ (hw _ (List.mem_of_getElem? (i := 48) rfl))) (by decide) (backOf (W := 0) (rm9_4_1 l Z aw hw [] b_319 b264 z288 k2_319 k264 (own_r z288 (0 : Int32) (nar .byte z268)) (own_r z288 (1 : Int32) (nar .byte z273)) (own_r z288 (2 : Int32) (nar .byte z278)) (own_r z288 (3 : Int32) (nar .byte z283)) (nar .byte z268) (nar .byte z273) (nar .byte z278) (nar .byte z283) T319.heap n0 Z328 B320 B323) hZ (hw _ (List.mem_of_getElem? (i := 48) rfl)) (hw _ (List.mem_of_getElem? (i := 47) rfl)) (by decide) (by decide)) (g := (mkF m 149 #[iv p0, iv p1, iv p2, iv 4, rv b264, iv z288, rv b289, rv b289, rv b_319] [(.int z288), (.int 1), (.ref b264), (.ref b_319)])) rfl (by rw [hml]; rfl) (argsL := [(.ref b_319), (.ref b264), (.int 1), (.int z288)]) (rest := []) (lenOf pd_8 rfl) rfl (by show 2 * 0 + _ ≤ _; exact Nat.le_of_eq rfl) (hb hby at_149) (fun _ _ => ⟨rfl, eh334, (by decide : 5 + 0 ≤ _), (by decide : 138 + 0 ≤ _)⟩)
    dsimp only [Pt.U, Pt.locs, Pt.cells, Pt.slots] at X336 l336 y336 z336 st336 hQ336
    subst l336 y336 z336
    obtain ⟨rfl, N336q, eh336⟩ := hQ336
    have N337 := Fr.app N335 N336q
    refine own_via (fun k => st336 _ k) ?_
    show own_Go p e below s _ _ (T336.setTop (mkF m 152 #[iv p0, iv p1, iv p2, iv 4, rv b264, iv z288, rv b289, rv b289, rv b_319] [(.int (own_f9_4_1 z288 (own_r z288 (1 : Int32) (nar .byte z273)) (nar .byte z273)))]))
    refine own_via (fun k => XS.ifNo X336.here hx rfl (hb hby at_152) rfl ((if0 _ _).trans (feq (own_law4_152 p0 p1 p2 z273 hz273 z288 hz288 hl1)).1) k) ?_
    show own_Go p e below s _ _ (T336.setTop (mkF m 155 #[iv p0, iv p1, iv p2, iv 4, rv b264, iv z288, rv b289, rv b289, rv b_319] []))
    refine own_via (fun k => XS.aload X336.here hx rfl (hb hby at_155) rfl rfl  (XS.aload X336.here hx rfl (hb hby at_157) rfl rfl  (XS.iconst X336.here hx rfl (hb hby at_159) (XS.iload X336.here hx rfl (hb hby at_160) rfl  k)))) ?_
    show own_Go p e below s _ _ (T336.setTop (mkF m 162 #[iv p0, iv p1, iv p2, iv 4, rv b264, iv z288, rv b289, rv b289, rv b_319] [(.int z288), (.int 2), (.ref b264), (.ref b_319)]))
    obtain ⟨_, _, ⟨T338, L338, k338, n338⟩, -, X338, ⟨Lc338, hQ338, l338, y338, z338⟩, st338⟩ := Jvm.LawKit.callS X336 hx (y := (⟨"com/example/dani/dani/core/KeyReversedFromPinLaw", "at", "([B[BII)Z"⟩ : MethodName)) hown (mvT hZ (hw _ (List.mem_of_getElem? (i := 45) rfl))) (mvT hZ (hw _ (List.mem_of_getElem? (i := 46) rfl))) (mvT hZ (hw _ (List.mem_of_getElem? (i := 47) rfl))) (mvT hZ (hw _ (List.mem_of_getElem? (i := 48) rfl))) (by decide) (backOf (W := 0) (rm9_4_2 l Z aw hw [] b_319 b264 z288 k2_319 k264 (own_r z288 (0 : Int32) (nar .byte z268)) (own_r z288 (1 : Int32) (nar .byte z273)) (own_r z288 (2 : Int32) (nar .byte z278)) (own_r z288 (3 : Int32) (nar .byte z283)) (nar .byte z268) (nar .byte z273) (nar .byte z278) (nar .byte z283) T319.heap n0 Z328 B320 B323) hZ (hw _ (List.mem_of_getElem? (i := 48) rfl)) (hw _ (List.mem_of_getElem? (i := 47) rfl)) (by decide) (by decide)) (g := (mkF m 162 #[iv p0, iv p1, iv p2, iv 4, rv b264, iv z288, rv b289, rv b289, rv b_319] [(.int z288), (.int 2), (.ref b264), (.ref b_319)])) rfl (by rw [hml]; rfl) (argsL := [(.ref b_319), (.ref b264), (.int 2), (.int z288)]) (rest := []) (lenOf pd_8 rfl) rfl (by show 2 * 0 + _ ≤ _; exact Nat.le_of_eq rfl) (hb hby at_162) (fun _ _ => ⟨rfl, eh336, (by decide : 5 + 0 ≤ _), (by decide : 138 + 0 ≤ _)⟩)
    dsimp only [Pt.U, Pt.locs, Pt.cells, Pt.slots] at X338 l338 y338 z338 st338 hQ338
    subst l338 y338 z338
    obtain ⟨rfl, N338q, eh338⟩ := hQ338
    have N339 := Fr.app N337 N338q
    refine own_via (fun k => st338 _ k) ?_
    show own_Go p e below s _ _ (T338.setTop (mkF m 165 #[iv p0, iv p1, iv p2, iv 4, rv b264, iv z288, rv b289, rv b289, rv b_319] [(.int (own_f9_4_2 z288 (own_r z288 (2 : Int32) (nar .byte z278)) (nar .byte z278)))]))
    refine own_via (fun k => XS.ifNo X338.here hx rfl (hb hby at_165) rfl ((if0 _ _).trans (feq (own_law4_165 p0 p1 p2 z278 hz278 z288 hz288 hl1)).1) k) ?_
    show own_Go p e below s _ _ (T338.setTop (mkF m 168 #[iv p0, iv p1, iv p2, iv 4, rv b264, iv z288, rv b289, rv b289, rv b_319] []))
    refine own_via (fun k => XS.aload X338.here hx rfl (hb hby at_168) rfl rfl  (XS.aload X338.here hx rfl (hb hby at_170) rfl rfl  (XS.iconst X338.here hx rfl (hb hby at_172) (XS.iload X338.here hx rfl (hb hby at_173) rfl  k)))) ?_
    show own_Go p e below s _ _ (T338.setTop (mkF m 175 #[iv p0, iv p1, iv p2, iv 4, rv b264, iv z288, rv b289, rv b289, rv b_319] [(.int z288), (.int 3), (.ref b264), (.ref b_319)]))
    obtain ⟨_, _, ⟨T340, L340, k340, n340⟩, -, X340, ⟨Lc340, hQ340, l340, y340, z340⟩, st340⟩ := Jvm.LawKit.callS X338 hx (y := (⟨"com/example/dani/dani/core/KeyReversedFromPinLaw", "at", "([B[BII)Z"⟩ : MethodName)) hown (mvT hZ (hw _ (List.mem_of_getElem? (i := 45) rfl))) (mvT hZ (hw _ (List.mem_of_getElem? (i := 46) rfl))) (mvT hZ (hw _ (List.mem_of_getElem? (i := 47) rfl))) (mvT hZ (hw _ (List.mem_of_getElem? (i := 48) rfl))) (by decide) (backOf (W := 0) (rm9_4_3 l Z aw hw [] b_319 b264 z288 k2_319 k264 (own_r z288 (0 : Int32) (nar .byte z268)) (own_r z288 (1 : Int32) (nar .byte z273)) (own_r z288 (2 : Int32) (nar .byte z278)) (own_r z288 (3 : Int32) (nar .byte z283)) (nar .byte z268) (nar .byte z273) (nar .byte z278) (nar .byte z283) T319.heap n0 Z328 B320 B323) hZ (hw _ (List.mem_of_getElem? (i := 48) rfl)) (hw _ (List.mem_of_getElem? (i := 47) rfl)) (by decide) (by decide)) (g := (mkF m 175 #[iv p0, iv p1, iv p2, iv 4, rv b264, iv z288, rv b289, rv b289, rv b_319] [(.int z288), (.int 3), (.ref b264), (.ref b_319)])) rfl (by rw [hml]; rfl) (argsL := [(.ref b_319), (.ref b264), (.int 3), (.int z288)]) (rest := []) (lenOf pd_8 rfl) rfl (by show 2 * 0 + _ ≤ _; exact Nat.le_of_eq rfl) (hb hby at_175) (fun _ _ => ⟨rfl, eh338, (by decide : 5 + 0 ≤ _), (by decide : 138 + 0 ≤ _)⟩)
    dsimp only [Pt.U, Pt.locs, Pt.cells, Pt.slots] at X340 l340 y340 z340 st340 hQ340
    subst l340 y340 z340
    obtain ⟨rfl, N340q, eh340⟩ := hQ340
    have N341 := Fr.app N339 N340q
    refine own_via (fun k => st340 _ k) ?_
    show own_Go p e below s _ _ (T340.setTop (mkF m 178 #[iv p0, iv p1, iv p2, iv 4, rv b264, iv z288, rv b289, rv b289, rv b_319] [(.int (own_f9_4_3 z288 (own_r z288 (3 : Int32) (nar .byte z283)) (nar .byte z283)))]))
    refine own_via (fun k => XS.ifNo X340.here hx rfl (hb hby at_178) rfl ((if0 _ _).trans (feq (own_law4_178 p0 p1 p2 z283 hz283 z288 hz288 hl1)).1) k) ?_
    show own_Go p e below s _ _ (T340.setTop (mkF m 181 #[iv p0, iv p1, iv p2, iv 4, rv b264, iv z288, rv b289, rv b289, rv b_319] []))
    refine own_via (fun k => XS.iconst X340.here hx rfl (hb hby at_181) (XS.goto X340.here hx rfl (pc0 := 182) (pc' := 186) rfl (hb hby at_182) (by decide) (by decide) k)) ?_
    show own_Go p e below s _ _ (T340.setTop (mkF m 186 #[iv p0, iv p1, iv p2, iv 4, rv b264, iv z288, rv b289, rv b289, rv b_319] [(.int 1)]))
    exact own_retN X340 hx hlk (t := .boolean) Bd.returns (by simp) (hb hby at_186) (Q := (Q0 Z p0 p1 p2 h0 n0)) ⟨rfl, N341⟩ (by decide) (by decide)
set_option maxRecDepth 65536 in
set_option maxHeartbeats 40000000 in
theorem comes_1 {Post : Tables → Env → Array Value → State → Outcome → State → Prop} (hpost : ∀ tb e args s v u, (limb_1_1.after args s (.returned v) u = true ∧ limb_1_2.after args s (.returned v) u = true ∧ True) → FrameEnd s (.returned v) u (Jvm.fieldLocs frame_1_writes args s ++ Jvm.arrayLocs frame_1_arrays args s ++ Jvm.staticLocs frame_1_statics s) 24 384 → Post tb e args s (.returned v) u) :
    ArmFor flags0 classFile x code maxLocals ret World_1 tables_1 room_1 Calls_1 rest_1 Pre_1 Post := by
  intro l hfl _ _ p e ha hc hk s m args below hf hA hF happ hP
  obtain ⟨hcalls, hrest, hpre⟩ := hP
  obtain ⟨-, -, -, hnamed, -, -, -, hat⟩ := (Spec.applies_iff hf).mp happ
  obtain ⟨hg, hn⟩ := and_e (Cond.before_iff.mp (show (Jvm.Cond.and given_1 narrow_1).before args s = true from hpre))
  obtain ⟨g1, g2⟩ := and_e hg
  obtain ⟨g3, g4⟩ := and_e g2
  obtain ⟨g5, g6⟩ := and_e g4
  obtain ⟨w0, w1, w2, rfl⟩ : ∃ w0 w1 w2 : Value, args = #[w0, w1, w2] := by
    have hs : args.size = 3 := by simpa [Cond.value, given_1] using g1
    obtain ⟨L⟩ := args
    match L, hs with
    | [w0, w1, w2], _ => exact ⟨w0, w1, w2, rfl⟩
  have hw := fun d (hd : d ∈ tables_1) => atoms_spec (ws := Jvm.Cond.code x code maxLocals ret :: tables_1) hat d (List.mem_cons_of_mem _ hd)
  obtain ⟨i0, ei0⟩ := is_v g3
  obtain rfl : w0 = (.int i0) := Option.some.inj ei0
  obtain ⟨i1, ei1⟩ := is_v g5
  obtain rfl : w1 = (.int i1) := Option.some.inj ei1
  obtain ⟨i2, ei2⟩ := is_v g6
  obtain rfl : w2 = (.int i2) := Option.some.inj ei2
  obtain ⟨n, o, h1, h2, h3, _, L, rfl, ⟨rfl, N⟩, hq⟩ := rm0 l s _ hw tables_1 i0 i1 i2 s.heap s.heap.size (Nat.le_refl _) p e ha hc hk s m _ below hf ((Spec.applies_iff_loose hf).mp happ).1 ⟨rfl, State.Warmed39.refl s, rfl⟩ trivial
  refine ⟨n, _, h1, h2, h3, hpost _ _ _ _ _ _ ⟨Cond.after_iff.mpr rfl, Cond.after_iff.mpr (eq_i res_at (Term.int_eval (1)) rfl), trivial⟩ ⟨hq.1, hq.2.1, (hq.2.2.sift fun y hy => Or.inr (N y hy)).mono (by decide) (by decide)⟩⟩
theorem main_1_1 : Claimed_1_1 := comes_1 fun _ _ _ _ _ _ h hF => ⟨h.1, hF⟩
theorem main_1_2 : Claimed_1_2 := comes_1 fun _ _ _ _ _ _ h hF => ⟨h.2.1, hF⟩
end Jvm.Pilot.@@N@@
namespace Jvm.Pilot.@@N@@
open Jvm Jvm.ClassFile Sem Op Lib Jvm.Free Jvm.Stand Jvm.Pilot.@@N@@.Jvm.D
/-! MADE BY PROGRAM (witnessworld.py) out of the Statement's table words and the real class files: 12 classes; the members and pool entries that the words name. The judged class is class 1, her method 1. -/
namespace start1
open Jvm.ClassFile
def u (s : String) : CpInfo := .utf8 (stringToUtf16 s)
/-- a pool by its gaps: so many unusable entries, then the entry; so many at the end -/
def gap : Nat → List CpInfo → List CpInfo
  | 0, r => r
  | n + 1, r => .unusable :: gap n r
def poolList (es : List (Nat × CpInfo)) (last : Nat) : List CpInfo := es.foldr (fun e r => gap e.1 (e.2 :: r)) (gap last [])
def pool (es : List (Nat × CpInfo)) (last : Nat) : Array CpInfo := ⟨poolList es last⟩
def fileOf (pool : Array CpInfo) (this : Nat) (attrs : Array Attribute := #[]) (ms : Array MethodInfo := #[]) (fl : Nat := 33) (sup : Nat := 0) (ifs : Array Nat := #[]) (fds : Array FieldInfo := #[]) : ClassFile where
  minorVersion := 0
  majorVersion := 65
  constantPool := pool
  accessFlags := fl
  thisClass := this
  superClass := sup
  interfaces := ifs
  fields := fds
  methods := ms
  attributes := attrs
def plain (name : String) (sup : Option ClassId) : Class where
  name := name
  kind := .ordinary
  loader := none
  accessFlags := 33
  super := sup
  interfaces := #[]
  cf := none
  fields := #[]
  methods := #[]
  instanceTypes := #[]
  staticTypes := #[]
  resolved := #[]
  callSites := []
  init := .initialized
  statics := none
  mirror := none

def pool0 : Array CpInfo := pool [(5, u "<init>"), (0, u "()V"), (1, .class_ 10), (1, u "java/lang/Object")] 113

def k0c0 : Code := { maxStack := 0, maxLocals := 1, code := object_method_1_code, exceptionTable := #[], attributes := #[] }
def k0m0 : Method := { name := "<init>", desc := "()V", sig := { parameters := [], returnType := none }, accessFlags := 1, code := some k0c0 }
/-- java/lang/Object -/
def k0 : Class := { plain "java/lang/Object" none with
  accessFlags := 33
  interfaces := #[]
  cf := some (fileOf pool0 8 #[] #[{ accessFlags := 1, nameIndex := 5, descriptorIndex := 6, attributes := #[] }] 33 0 #[] #[])
  fields := #[]
  methods := #[k0m0]
  instanceTypes := #[]
  staticTypes := #[]
  resolved := Array.replicate 124 none
  statics := none }

def pool1 : Array CpInfo := pool [(2, .class_ 4), (1, u "java/lang/Object"), (0, u "<init>"), (0, u "()V"), (0, .integer 2147483647), (0, .class_ 9), (0, u "com/example/dani/dani/core/Key"), (0, .methodref 8 11), (0, .nameAndType 5 12), (0, u "([B)V"), (0, .methodref 8 14), (0, .nameAndType 15 16), (0, u "reversedFrom"), (0, u "(I)Lcom/example/dani/dani/core/Key;"), (0, .methodref 8 18), (0, .nameAndType 19 20), (0, u "length"), (0, u "()I"), (0, .methodref 8 22), (0, .nameAndType 23 24), (0, u "toBytes"), (0, u "()[B"), (0, .methodref 26 27), (0, .class_ 28), (0, .nameAndType 29 30), (0, u "com/example/dani/dani/core/KeyReversedFromPinLaw"), (0, u "at"), (0, u "([B[BII)Z"), (2, u "law"), (0, u "(III)Z")] 5

def k1m0 : Method := { name := "<init>", desc := "()V", sig := { parameters := [], returnType := none }, accessFlags := 1, code := none }
def k1c1 : Code := { maxStack := 4, maxLocals := 9, code := code, exceptionTable := #[], attributes := #[] }
def k1m1 : Method := { name := "law", desc := "(III)Z", sig := { parameters := [.int, .int, .int], returnType := some .boolean }, accessFlags := 9, code := some k1c1 }
def k1c2 : Code := { maxStack := 2, maxLocals := 5, code := method_3_code, exceptionTable := #[], attributes := #[] }
def k1m2 : Method := { name := "at", desc := "([B[BII)Z", sig := { parameters := [(.array .byte), (.array .byte), .int, .int], returnType := some .boolean }, accessFlags := 10, code := some k1c2 }
/-- com/example/dani/dani/core/KeyReversedFromPinLaw -/
def k1 : Class := { plain "com/example/dani/dani/core/KeyReversedFromPinLaw" (some 0) with
  accessFlags := 49
  interfaces := #[]
  cf := some (fileOf pool1 26 #[] #[{ accessFlags := 1, nameIndex := 5, descriptorIndex := 6, attributes := #[] }, { accessFlags := 9, nameIndex := 33, descriptorIndex := 34, attributes := #[] }, { accessFlags := 10, nameIndex := 29, descriptorIndex := 30, attributes := #[] }] 49 2 #[] #[])
  fields := #[]
  methods := #[k1m0, k1m1, k1m2]
  instanceTypes := #[]
  staticTypes := #[]
  resolved := Array.replicate 40 none
  statics := none }

def pool2 : Array CpInfo := pool [(1, .methodref 2 3), (0, .class_ 4), (0, .nameAndType 5 6), (0, u "java/lang/Object"), (0, u "<init>"), (0, u "()V"), (0, .fieldref 8 9), (0, .class_ 10), (0, .nameAndType 11 12), (0, u "com/example/dani/dani/core/Key"), (0, u "bytes"), (0, u "[B"), (4, .methodref 18 19), (0, .class_ 20), (0, .nameAndType 21 22), (0, u "java/lang/Math"), (0, u "max"), (0, u "(II)I"), (0, .methodref 24 25), (0, .class_ 26), (0, .nameAndType 27 28), (0, u "java/util/Arrays"), (0, u "copyOf"), (0, u "([BI)[B"), (0, .fieldref 8 30), (0, .nameAndType 31 32), (0, u "length"), (0, u "I"), (17, u "()[B"), (40, u "([B)V"), (12, u "reversedFrom"), (0, u "(I)Lcom/example/dani/dani/core/Key;"), (0, u "()I"), (0, u "toBytes")] 29

def k2c0 : Code := { maxStack := 5, maxLocals := 2, code := prog_5_method_2_code, exceptionTable := #[], attributes := #[] }
def k2m0 : Method := { name := "<init>", desc := "([B)V", sig := { parameters := [(.array .byte)], returnType := none }, accessFlags := 0, code := some k2c0 }
def k2c1 : Code := { maxStack := 4, maxLocals := 3, code := prog_5_method_9_code, exceptionTable := #[], attributes := #[] }
def k2m1 : Method := { name := "reversedFrom", desc := "(I)Lcom/example/dani/dani/core/Key;", sig := { parameters := [.int], returnType := some (.object "com/example/dani/dani/core/Key") }, accessFlags := 0, code := some k2c1 }
def k2c2 : Code := { maxStack := 1, maxLocals := 1, code := prog_5_method_10_code, exceptionTable := #[], attributes := #[] }
def k2m2 : Method := { name := "length", desc := "()I", sig := { parameters := [], returnType := some .int }, accessFlags := 0, code := some k2c2 }
def k2c3 : Code := { maxStack := 2, maxLocals := 1, code := prog_5_method_12_code, exceptionTable := #[], attributes := #[] }
def k2m3 : Method := { name := "toBytes", desc := "()[B", sig := { parameters := [], returnType := some (.array .byte) }, accessFlags := 0, code := some k2c3 }
/-- com/example/dani/dani/core/Key -/
def k2 : Class := { plain "com/example/dani/dani/core/Key" (some 0) with
  accessFlags := 32
  interfaces := #[]
  cf := some (fileOf pool2 8 #[] #[{ accessFlags := 0, nameIndex := 5, descriptorIndex := 91, attributes := #[] }, { accessFlags := 0, nameIndex := 104, descriptorIndex := 105, attributes := #[] }, { accessFlags := 0, nameIndex := 31, descriptorIndex := 106, attributes := #[] }, { accessFlags := 0, nameIndex := 107, descriptorIndex := 50, attributes := #[] }] 32 2 #[] #[{ accessFlags := 2, nameIndex := 11, descriptorIndex := 12, attributes := #[] }, { accessFlags := 2, nameIndex := 31, descriptorIndex := 32, attributes := #[] }])
  fields := #[{ name := "bytes", type := (.array .byte), accessFlags := 2, slot := 0, constantValue := 0 }, { name := "length", type := .int, accessFlags := 2, slot := 1, constantValue := 0 }]
  methods := #[k2m0, k2m1, k2m2, k2m3]
  instanceTypes := #[(.array .byte), .int]
  staticTypes := #[]
  resolved := Array.replicate 137 none
  statics := none }

def pool3 : Array CpInfo := pool [(1, .class_ 2), (0, u "java/lang/Math"), (1, .class_ 6), (1, u "java/lang/Object"), (0, u "<init>"), (0, u "()V"), (89, .class_ 100), (1, u "java/lang/Math$RandomNumberGeneratorHolder"), (71, u "negativeZeroFloatBits"), (0, u "J"), (2, u "negativeZeroDoubleBits"), (21, u "max"), (2, u "min"), (43, u "$assertionsDisabled"), (0, u "Z"), (88, u "(II)I"), (2, u "twoToTheDoubleScaleDown"), (0, u "D"), (4, u "twoToTheDoubleScaleUp"), (9, u "E"), (3, u "PI"), (2, u "TAU"), (2, u "DEGREES_TO_RADIANS"), (0, u "RADIANS_TO_DEGREES")] 94

def k3m0 : Method := { name := "<init>", desc := "()V", sig := { parameters := [], returnType := none }, accessFlags := 2, code := none }
def k3c1 : Code := { maxStack := 2, maxLocals := 2, code := jdk_29_method_65_code, exceptionTable := #[], attributes := #[] }
def k3m1 : Method := { name := "max", desc := "(II)I", sig := { parameters := [.int, .int], returnType := some .int }, accessFlags := 9, code := some k3c1 }
def k3c2 : Code := { maxStack := 2, maxLocals := 2, code := jdk_29_method_69_code, exceptionTable := #[], attributes := #[] }
def k3m2 : Method := { name := "min", desc := "(II)I", sig := { parameters := [.int, .int], returnType := some .int }, accessFlags := 9, code := some k3c2 }
/-- java/lang/Math -/
def k3 : Class := { plain "java/lang/Math" (some 0) with
  accessFlags := 49
  interfaces := #[]
  cf := some (fileOf pool3 1 #[.nestMembers #[98]] #[{ accessFlags := 2, nameIndex := 7, descriptorIndex := 8, attributes := #[] }, { accessFlags := 9, nameIndex := 198, descriptorIndex := 335, attributes := #[] }, { accessFlags := 9, nameIndex := 201, descriptorIndex := 335, attributes := #[] }] 49 4 #[] #[{ accessFlags := 25, nameIndex := 354, descriptorIndex := 339, attributes := #[] }, { accessFlags := 25, nameIndex := 358, descriptorIndex := 339, attributes := #[] }, { accessFlags := 25, nameIndex := 361, descriptorIndex := 339, attributes := #[] }, { accessFlags := 26, nameIndex := 364, descriptorIndex := 339, attributes := #[] }, { accessFlags := 26, nameIndex := 365, descriptorIndex := 339, attributes := #[] }, { accessFlags := 26, nameIndex := 172, descriptorIndex := 173, attributes := #[] }, { accessFlags := 26, nameIndex := 176, descriptorIndex := 173, attributes := #[] }, { accessFlags := 8, nameIndex := 344, descriptorIndex := 339, attributes := #[] }, { accessFlags := 8, nameIndex := 338, descriptorIndex := 339, attributes := #[] }, { accessFlags := 4120, nameIndex := 245, descriptorIndex := 246, attributes := #[] }])
  fields := #[{ name := "E", type := .double, accessFlags := 25, slot := 0, constantValue := 0 }, { name := "PI", type := .double, accessFlags := 25, slot := 1, constantValue := 0 }, { name := "TAU", type := .double, accessFlags := 25, slot := 2, constantValue := 0 }, { name := "DEGREES_TO_RADIANS", type := .double, accessFlags := 26, slot := 3, constantValue := 0 }, { name := "RADIANS_TO_DEGREES", type := .double, accessFlags := 26, slot := 4, constantValue := 0 }, { name := "negativeZeroFloatBits", type := .long, accessFlags := 26, slot := 5, constantValue := 0 }, { name := "negativeZeroDoubleBits", type := .long, accessFlags := 26, slot := 6, constantValue := 0 }, { name := "twoToTheDoubleScaleUp", type := .double, accessFlags := 8, slot := 7, constantValue := 0 }, { name := "twoToTheDoubleScaleDown", type := .double, accessFlags := 8, slot := 8, constantValue := 0 }, { name := "$assertionsDisabled", type := .boolean, accessFlags := 4120, slot := 9, constantValue := 0 }]
  methods := #[k3m0, k3m1, k3m2]
  instanceTypes := #[]
  staticTypes := #[.double, .double, .double, .double, .double, .long, .long, .double, .double, .boolean]
  resolved := Array.replicate 460 none
  statics := none }

def pool4 : Array CpInfo := pool [(2, .class_ 4), (1, u "java/lang/Object"), (0, u "<init>"), (0, u "()V"), (7, .class_ 16), (1, u "java/util/Arrays"), (57, .class_ 76), (1, u "java/util/Arrays$NaturalOrder"), (36, .class_ 115), (1, u "java/util/Arrays$LegacyMergeSort"), (1, u "Z"), (32, .methodref 151 152), (0, .class_ 153), (0, .nameAndType 154 155), (0, u "java/lang/System"), (0, u "arraycopy"), (0, u "(Ljava/lang/Object;ILjava/lang/Object;II)V"), (146, u "copyOf"), (1, .methodref 305 306), (0, .class_ 307), (0, .nameAndType 308 309), (0, u "java/lang/Math"), (0, u "min"), (0, u "(II)I"), (65, .class_ 376), (0, u "java/util/Arrays$ArrayList"), (68, u "$assertionsDisabled"), (269, u "MIN_ARRAY_SORT_GRAN"), (0, u "I"), (2, u "INSERTIONSORT_THRESHOLD"), (149, u "([BI)[B"), (105, .class_ 976), (0, u "java/util/Arrays$ArrayItr")] 52

def k4m0 : Method := { name := "<init>", desc := "()V", sig := { parameters := [], returnType := none }, accessFlags := 2, code := none }
def k4c1 : Code := { maxStack := 6, maxLocals := 3, code := jdk_65_method_121_code, exceptionTable := #[], attributes := #[] }
def k4m1 : Method := { name := "copyOf", desc := "([BI)[B", sig := { parameters := [(.array .byte), .int], returnType := some (.array .byte) }, accessFlags := 9, code := some k4c1 }
/-- java/util/Arrays -/
def k4 : Class := { plain "java/util/Arrays" (some 0) with
  accessFlags := 49
  interfaces := #[]
  cf := some (fileOf pool4 14 #[.nestMembers #[975, 375, 113, 74]] #[{ accessFlags := 2, nameIndex := 5, descriptorIndex := 6, attributes := #[] }, { accessFlags := 9, nameIndex := 302, descriptorIndex := 869, attributes := #[] }] 49 2 #[] #[{ accessFlags := 26, nameIndex := 715, descriptorIndex := 716, attributes := #[] }, { accessFlags := 26, nameIndex := 719, descriptorIndex := 716, attributes := #[] }, { accessFlags := 4120, nameIndex := 445, descriptorIndex := 117, attributes := #[] }])
  fields := #[{ name := "MIN_ARRAY_SORT_GRAN", type := .int, accessFlags := 26, slot := 0, constantValue := 0 }, { name := "INSERTIONSORT_THRESHOLD", type := .int, accessFlags := 26, slot := 1, constantValue := 0 }, { name := "$assertionsDisabled", type := .boolean, accessFlags := 4120, slot := 2, constantValue := 0 }]
  methods := #[k4m0, k4m1]
  instanceTypes := #[]
  staticTypes := #[.int, .int, .boolean]
  resolved := Array.replicate 1029 none
  statics := none }

def pool5 : Array CpInfo := pool [(2, .class_ 4), (1, u "java/lang/Object"), (0, u "<init>"), (0, u "()V"), (1, .class_ 10), (1, u "java/lang/System"), (0, u "allowSecurityManager"), (0, u "I"), (16, u "cons"), (0, u "Ljava/io/Console;"), (77, .class_ 110), (1, u "java/lang/System$CallersHolder"), (43, u "initialErrStream"), (0, u "Ljava/io/PrintStream;"), (19, u "security"), (0, u "Ljava/lang/SecurityManager;"), (31, .class_ 209), (0, u "java/lang/System$1"), (7, u "props"), (0, u "Ljava/util/Properties;"), (2, u "lineSeparator"), (0, u "Ljava/lang/String;"), (96, .class_ 321), (1, u "java/lang/System$LoggerFinder"), (5, .class_ 328), (0, u "java/lang/System$Logger"), (67, u "err"), (2, u "out"), (91, u "notSupportedJnuEncoding"), (15, u "in"), (17, u "initialIn"), (0, u "Ljava/io/InputStream;"), (35, u "bootLayer"), (0, u "Ljava/lang/ModuleLayer;"), (99, .class_ 664), (0, u "java/lang/System$2"), (9, u "NEVER"), (2, u "MAYBE"), (49, u "arraycopy"), (0, u "(Ljava/lang/Object;ILjava/lang/Object;II)V"), (72, .class_ 802), (0, u "java/lang/System$Logger$Level")] 31

def k5m0 : Method := { name := "<init>", desc := "()V", sig := { parameters := [], returnType := none }, accessFlags := 2, code := none }
def k5m1 : Method := { name := "arraycopy", desc := "(Ljava/lang/Object;ILjava/lang/Object;II)V", sig := { parameters := [(.object "java/lang/Object"), .int, (.object "java/lang/Object"), .int, .int], returnType := none }, accessFlags := 265, code := none }
/-- java/lang/System -/
def k5 : Class := { plain "java/lang/System" (some 0) with
  accessFlags := 49
  interfaces := #[]
  cf := some (fileOf pool5 8 #[.nestMembers #[319, 327, 801, 108, 663, 208]] #[{ accessFlags := 2, nameIndex := 5, descriptorIndex := 6, attributes := #[] }, { accessFlags := 265, nameIndex := 727, descriptorIndex := 728, attributes := #[] }] 49 2 #[] #[{ accessFlags := 25, nameIndex := 507, descriptorIndex := 526, attributes := #[] }, { accessFlags := 25, nameIndex := 399, descriptorIndex := 155, attributes := #[] }, { accessFlags := 25, nameIndex := 396, descriptorIndex := 155, attributes := #[] }, { accessFlags := 10, nameIndex := 525, descriptorIndex := 526, attributes := #[] }, { accessFlags := 26, nameIndex := 674, descriptorIndex := 12, attributes := #[] }, { accessFlags := 26, nameIndex := 677, descriptorIndex := 12, attributes := #[] }, { accessFlags := 10, nameIndex := 11, descriptorIndex := 12, attributes := #[] }, { accessFlags := 74, nameIndex := 175, descriptorIndex := 176, attributes := #[] }, { accessFlags := 10, nameIndex := 491, descriptorIndex := 222, attributes := #[] }, { accessFlags := 74, nameIndex := 29, descriptorIndex := 30, attributes := #[] }, { accessFlags := 74, nameIndex := 154, descriptorIndex := 155, attributes := #[] }, { accessFlags := 10, nameIndex := 217, descriptorIndex := 218, attributes := #[] }, { accessFlags := 10, nameIndex := 221, descriptorIndex := 222, attributes := #[] }, { accessFlags := 8, nameIndex := 562, descriptorIndex := 563, attributes := #[] }])
  fields := #[{ name := "in", type := (.object "java/io/InputStream"), accessFlags := 25, slot := 0, constantValue := 0 }, { name := "out", type := (.object "java/io/PrintStream"), accessFlags := 25, slot := 1, constantValue := 0 }, { name := "err", type := (.object "java/io/PrintStream"), accessFlags := 25, slot := 2, constantValue := 0 }, { name := "initialIn", type := (.object "java/io/InputStream"), accessFlags := 10, slot := 3, constantValue := 0 }, { name := "NEVER", type := .int, accessFlags := 26, slot := 4, constantValue := 0 }, { name := "MAYBE", type := .int, accessFlags := 26, slot := 5, constantValue := 0 }, { name := "allowSecurityManager", type := .int, accessFlags := 10, slot := 6, constantValue := 0 }, { name := "security", type := (.object "java/lang/SecurityManager"), accessFlags := 74, slot := 7, constantValue := 0 }, { name := "notSupportedJnuEncoding", type := (.object "java/lang/String"), accessFlags := 10, slot := 8, constantValue := 0 }, { name := "cons", type := (.object "java/io/Console"), accessFlags := 74, slot := 9, constantValue := 0 }, { name := "initialErrStream", type := (.object "java/io/PrintStream"), accessFlags := 74, slot := 10, constantValue := 0 }, { name := "props", type := (.object "java/util/Properties"), accessFlags := 10, slot := 11, constantValue := 0 }, { name := "lineSeparator", type := (.object "java/lang/String"), accessFlags := 10, slot := 12, constantValue := 0 }, { name := "bootLayer", type := (.object "java/lang/ModuleLayer"), accessFlags := 8, slot := 13, constantValue := 0 }]
  methods := #[k5m0, k5m1]
  instanceTypes := #[]
  staticTypes := #[(.object "java/io/InputStream"), (.object "java/io/PrintStream"), (.object "java/io/PrintStream"), (.object "java/io/InputStream"), .int, .int, .int, (.object "java/lang/SecurityManager"), (.object "java/lang/String"), (.object "java/io/Console"), (.object "java/io/PrintStream"), (.object "java/util/Properties"), (.object "java/lang/String"), (.object "java/lang/ModuleLayer")]
  resolved := Array.replicate 834 none
  statics := none }

def pool6 : Array CpInfo := pool [(1, u "java/lang/Cloneable"), (0, .class_ 1), (0, u "java/lang/Object"), (0, .class_ 3)] 3

/-- java/lang/Cloneable -/
def k6 : Class := { plain "java/lang/Cloneable" (some 0) with
  accessFlags := 1537
  interfaces := #[]
  cf := some (fileOf pool6 2 #[] #[] 1537 4 #[] #[])
  fields := #[]
  methods := #[]
  instanceTypes := #[]
  staticTypes := #[]
  resolved := Array.replicate 8 none
  statics := none }

def pool7 : Array CpInfo := pool [(1, u "java/io/Serializable"), (0, .class_ 1), (0, u "java/lang/Object"), (0, .class_ 3)] 3

/-- java/io/Serializable -/
def k7 : Class := { plain "java/io/Serializable" (some 0) with
  accessFlags := 1537
  interfaces := #[]
  cf := some (fileOf pool7 2 #[] #[] 1537 4 #[] #[])
  fields := #[]
  methods := #[]
  instanceTypes := #[]
  staticTypes := #[]
  resolved := Array.replicate 8 none
  statics := none }

/-- the primitive byte -/
def k8 : Class := { plain "byte" none with kind := .primitive 'B', accessFlags := 0x411 }
/-- [B -/
def k9 : Class := { plain "[B" (some 0) with kind := .array 8 .byte, interfaces := #[6, 7], accessFlags := 1041 }

/-- the primitive int -/
def k10 : Class := { plain "int" none with kind := .primitive 'I', accessFlags := 0x411 }
/-- [I -/
def k11 : Class := { plain "[I" (some 0) with kind := .array 10 .int, interfaces := #[6, 7], accessFlags := 1041 }

def heap : Heap := #[]
def classes : Array Class := #[k0, k1, k2, k3, k4, k5, k6, k7, k8, k9, k10, k11]
def interned : List (Array UInt16 × Addr) := []
def slotsUsed : Nat := 0
def theMethod : MethodId := ⟨1, 1⟩
def args0 : Array Value := #[.int 5, .int 3, .int 2]
def aboutOver (below : List Frame) : State where
  vm := { classes := classes, interned := interned.toArray }
  heap := heap
  slotsUsed := slotsUsed
  threads := #[{ frames := .invoking theMethod args0 :: below }]
def below0 : List Frame := [.native { method := ⟨0, 0⟩, args := #[] }]
def about1 : State := aboutOver below0
def p0 : Program := .bare "" "" ""
def e0 : Env := launch0.env 0 0 0
theorem w_frames : about1.frames = Frame.invoking theMethod args0 :: below0 := rfl
set_option maxRecDepth 65536 in
theorem w_args : argsFit about1.vm theMethod args0 = true := by decide +kernel
set_option maxRecDepth 65536 in
theorem w_heap : heapFits about1 = true := by decide +kernel
set_option maxRecDepth 65536 in
theorem w_runnable : about1.curStatus? = some .runnable := by decide +kernel
set_option maxRecDepth 65536 in
theorem w_alone : about1.alone = true := by decide +kernel
set_option maxRecDepth 65536 in
theorem w_named : about1.methodNamed? x = some theMethod := by decide +kernel
set_option maxRecDepth 65536 in
theorem w_hears : about1.hears theMethod below0 = true := by decide +kernel
set_option maxRecDepth 65536 in
theorem w_ripe : about1.ripe theMethod args0 below0 = true := by decide +kernel
theorem w_running : about1.status = .running := rfl
set_option maxRecDepth 65536 in
theorem w_room : about1.hasRoom e0.platform room_1 = true :=
  launch0.hasRoom_least _ room_1 (by decide +kernel) (by decide +kernel) (by decide +kernel) (by decide +kernel) (by decide +kernel) (by decide +kernel)
theorem allAtoms_all (ts : List Jvm.Cond) (a : Array Jvm.Value) (st : Jvm.State) : (allAtoms ts).before a st = ts.all (fun c => c.before a st) := by
  induction ts with
  | nil => rfl
  | cons c t ih =>
    show (Jvm.Cond.and c (allAtoms t)).before a st = _
    rw [Jvm.Cond.before_and, ih, List.all_cons]
def words1 : List Jvm.Cond := Jvm.Cond.code x code maxLocals ret :: tables_1
/-- a 'code' word, met by the world's own term for the bytes: nothing is compared byte by byte -/
theorem code_word {y : MethodName} {bytes : ByteArray} {mx : Nat} {rt : Option FieldType} {a : Array Value} {s : State} {m : MethodId} {meth : Method} {c : Code} (h1 : s.methodNamed? y = some m) (h2 : s.vm.method? m = some meth) (h3 : meth.code = some c) (h4 : c.code = bytes)
    (h5 : (c.maxLocals == mx && c.exceptionTable.isEmpty && decide (c.maxStack ≤ mostOperands) && decide (meth.sig.returnType = rt) && !meth.locks && decide (parseMethodDescriptor y.desc = some meth.sig)) = true) : (Jvm.Cond.code y bytes mx rt).before a s = true := by
  simp only [Bool.and_eq_true, beq_iff_eq, Bool.not_eq_true', decide_eq_true_eq] at h5
  obtain ⟨⟨⟨⟨⟨g1, g2⟩, g3⟩, g4⟩, g5⟩, g6⟩ := h5
  simp [Cond.before, Cond.holds, Cond.value, h1, h2, h3, h4, g1, g2, g3, g4, g5, g6]
def isCode : Jvm.Cond → Bool
  | .code _ _ _ _ => true
  | _ => false
theorem all_split {L : List Jvm.Cond} {P : Jvm.Cond → Bool} (h1 : L.all (fun c => isCode c || P c) = true) (h2 : ∀ c ∈ L.filter isCode, P c = true) : L.all P = true := by
  refine List.all_eq_true.mpr fun c hc => ?_
  have h := List.all_eq_true.mp h1 c hc
  rcases Bool.eq_false_or_eq_true (isCode c) with hi | hi
  · exact h2 c (List.mem_filter.mpr ⟨hc, hi⟩)
  · simpa [hi] using h
set_option maxRecDepth 65536 in
theorem w_c0 : (Jvm.Cond.code x code maxLocals ret).before args0 about1 = true := code_word (m := ⟨1, 1⟩) (meth := k1m1) (c := k1c1) (by decide +kernel) rfl rfl rfl (by decide +kernel)
set_option maxRecDepth 65536 in
theorem w_c1 : (Jvm.Cond.code ({ cls := "com/example/dani/dani/core/Key", name := "<init>", desc := "([B)V" } : Jvm.MethodName) prog_5_method_2_code (2 : Nat) (Option.none : Option Jvm.ClassFile.FieldType)).before args0 about1 = true := code_word (m := ⟨2, 0⟩) (meth := k2m0) (c := k2c0) (by decide +kernel) rfl rfl rfl (by decide +kernel)
set_option maxRecDepth 65536 in
theorem w_c2 : (Jvm.Cond.code ({ cls := "java/lang/Object", name := "<init>", desc := "()V" } : Jvm.MethodName) object_method_1_code (1 : Nat) (Option.none : Option Jvm.ClassFile.FieldType)).before args0 about1 = true := code_word (m := ⟨0, 0⟩) (meth := k0m0) (c := k0c0) (by decide +kernel) rfl rfl rfl (by decide +kernel)
set_option maxRecDepth 65536 in
theorem w_c3 : (Jvm.Cond.code ({ cls := "java/lang/Math", name := "max", desc := "(II)I" } : Jvm.MethodName) jdk_29_method_65_code (2 : Nat) (Option.some Jvm.ClassFile.FieldType.int)).before args0 about1 = true := code_word (m := ⟨3, 1⟩) (meth := k3m1) (c := k3c1) (by decide +kernel) rfl rfl rfl (by decide +kernel)
set_option maxRecDepth 65536 in
theorem w_c4 : (Jvm.Cond.code ({ cls := "java/util/Arrays", name := "copyOf", desc := "([BI)[B" } : Jvm.MethodName) jdk_65_method_121_code (3 : Nat) (Option.some (Jvm.ClassFile.FieldType.array Jvm.ClassFile.FieldType.byte))).before args0 about1 = true := code_word (m := ⟨4, 1⟩) (meth := k4m1) (c := k4c1) (by decide +kernel) rfl rfl rfl (by decide +kernel)
set_option maxRecDepth 65536 in
theorem w_c5 : (Jvm.Cond.code ({ cls := "java/lang/Math", name := "min", desc := "(II)I" } : Jvm.MethodName) jdk_29_method_69_code (2 : Nat) (Option.some Jvm.ClassFile.FieldType.int)).before args0 about1 = true := code_word (m := ⟨3, 2⟩) (meth := k3m2) (c := k3c2) (by decide +kernel) rfl rfl rfl (by decide +kernel)
set_option maxRecDepth 65536 in
theorem w_c6 : (Jvm.Cond.code ({ cls := "com/example/dani/dani/core/Key", name := "reversedFrom", desc := "(I)Lcom/example/dani/dani/core/Key;" } : Jvm.MethodName) prog_5_method_9_code (3 : Nat) (Option.some (Jvm.ClassFile.FieldType.object "com/example/dani/dani/core/Key"))).before args0 about1 = true := code_word (m := ⟨2, 1⟩) (meth := k2m1) (c := k2c1) (by decide +kernel) rfl rfl rfl (by decide +kernel)
set_option maxRecDepth 65536 in
theorem w_c7 : (Jvm.Cond.code ({ cls := "com/example/dani/dani/core/Key", name := "length", desc := "()I" } : Jvm.MethodName) prog_5_method_10_code (1 : Nat) (Option.some Jvm.ClassFile.FieldType.int)).before args0 about1 = true := code_word (m := ⟨2, 2⟩) (meth := k2m2) (c := k2c2) (by decide +kernel) rfl rfl rfl (by decide +kernel)
set_option maxRecDepth 65536 in
theorem w_c8 : (Jvm.Cond.code ({ cls := "com/example/dani/dani/core/Key", name := "toBytes", desc := "()[B" } : Jvm.MethodName) prog_5_method_12_code (1 : Nat) (Option.some (Jvm.ClassFile.FieldType.array Jvm.ClassFile.FieldType.byte))).before args0 about1 = true := code_word (m := ⟨2, 3⟩) (meth := k2m3) (c := k2c3) (by decide +kernel) rfl rfl rfl (by decide +kernel)
set_option maxRecDepth 65536 in
theorem w_c9 : (Jvm.Cond.code ({ cls := "com/example/dani/dani/core/KeyReversedFromPinLaw", name := "at", desc := "([B[BII)Z" } : Jvm.MethodName) method_3_code (5 : Nat) (Option.some Jvm.ClassFile.FieldType.boolean)).before args0 about1 = true := code_word (m := ⟨1, 2⟩) (meth := k1m2) (c := k1c2) (by decide +kernel) rfl rfl rfl (by decide +kernel)
def codes1 : List Jvm.Cond := [Jvm.Cond.code x code maxLocals ret, Jvm.Cond.code ({ cls := "com/example/dani/dani/core/Key", name := "<init>", desc := "([B)V" } : Jvm.MethodName) prog_5_method_2_code (2 : Nat) (Option.none : Option Jvm.ClassFile.FieldType), Jvm.Cond.code ({ cls := "java/lang/Object", name := "<init>", desc := "()V" } : Jvm.MethodName) object_method_1_code (1 : Nat) (Option.none : Option Jvm.ClassFile.FieldType), Jvm.Cond.code ({ cls := "java/lang/Math", name := "max", desc := "(II)I" } : Jvm.MethodName) jdk_29_method_65_code (2 : Nat) (Option.some Jvm.ClassFile.FieldType.int), Jvm.Cond.code ({ cls := "java/util/Arrays", name := "copyOf", desc := "([BI)[B" } : Jvm.MethodName) jdk_65_method_121_code (3 : Nat) (Option.some (Jvm.ClassFile.FieldType.array Jvm.ClassFile.FieldType.byte)), Jvm.Cond.code ({ cls := "java/lang/Math", name := "min", desc := "(II)I" } : Jvm.MethodName) jdk_29_method_69_code (2 : Nat) (Option.some Jvm.ClassFile.FieldType.int), Jvm.Cond.code ({ cls := "com/example/dani/dani/core/Key", name := "reversedFrom", desc := "(I)Lcom/example/dani/dani/core/Key;" } : Jvm.MethodName) prog_5_method_9_code (3 : Nat) (Option.some (Jvm.ClassFile.FieldType.object "com/example/dani/dani/core/Key")), Jvm.Cond.code ({ cls := "com/example/dani/dani/core/Key", name := "length", desc := "()I" } : Jvm.MethodName) prog_5_method_10_code (1 : Nat) (Option.some Jvm.ClassFile.FieldType.int), Jvm.Cond.code ({ cls := "com/example/dani/dani/core/Key", name := "toBytes", desc := "()[B" } : Jvm.MethodName) prog_5_method_12_code (1 : Nat) (Option.some (Jvm.ClassFile.FieldType.array Jvm.ClassFile.FieldType.byte)), Jvm.Cond.code ({ cls := "com/example/dani/dani/core/KeyReversedFromPinLaw", name := "at", desc := "([B[BII)Z" } : Jvm.MethodName) method_3_code (5 : Nat) (Option.some Jvm.ClassFile.FieldType.boolean)]
set_option maxRecDepth 65536 in
theorem codes_eq : words1.filter isCode = codes1 := rfl
theorem w_codes : ∀ c ∈ words1.filter isCode, c.before args0 about1 = true := by
  rw [codes_eq]
  intro c hc
  simp only [codes1, List.mem_cons, List.not_mem_nil, or_false] at hc
  rcases hc with rfl | rfl | rfl | rfl | rfl | rfl | rfl | rfl | rfl | rfl
  · exact w_c0
  · exact w_c1
  · exact w_c2
  · exact w_c3
  · exact w_c4
  · exact w_c5
  · exact w_c6
  · exact w_c7
  · exact w_c8
  · exact w_c9
set_option maxRecDepth 65536 in
theorem w_t1 : (words1.take 24).all (fun c => isCode c || c.before args0 about1) = true := by decide +kernel
set_option maxRecDepth 65536 in
theorem w_t2 : ((words1.drop 24).take 24).all (fun c => isCode c || c.before args0 about1) = true := by decide +kernel
set_option maxRecDepth 65536 in
theorem w_t3 : ((words1.drop 24).drop 24).all (fun c => isCode c || c.before args0 about1) = true := by decide +kernel
theorem w_tables : (allAtoms (Jvm.Cond.code x code maxLocals ret :: tables_1)).before args0 about1 = true := by
  rw [allAtoms_all]
  show words1.all (fun c => c.before args0 about1) = true
  refine all_split ?_ w_codes
  rw [← List.take_append_drop 24 words1, List.all_append, w_t1, ← List.take_append_drop 24 (words1.drop 24), List.all_append, w_t2, w_t3]
  rfl
set_option maxRecDepth 65536 in
theorem w_case : (Jvm.Cond.and given_1 narrow_1).before args0 about1 = true := by decide +kernel
theorem w_applies : (headSpec (Jvm.Cond.code x code maxLocals ret :: tables_1) room_1).applies x e0.platform about1 = true :=
  (Spec.applies_iff w_frames).mpr ⟨w_running, w_runnable, w_alone, w_named, w_hears, w_ripe, w_room, w_tables⟩
theorem atStart : AtStart classFile x code maxLocals ret World_1 tables_1 room_1 Calls_1 rest_1 Pre_1 launch0 p0 e0 about1 theMethod args0 below0 :=
  ⟨lists_1, trivial, launch0.admits_env _ _ _, launch0.least_env, fairChoices_fair.cas, fairChoices_fair.clock, w_frames, w_args, w_heap, w_applies, trivial, trivial, w_case⟩
end start1
theorem witness_1 : WitnessClaimed_1 := ⟨start1.p0, start1.e0, start1.about1, start1.theMethod, start1.args0, start1.below0, start1.atStart⟩
end Jvm.Pilot.@@N@@
