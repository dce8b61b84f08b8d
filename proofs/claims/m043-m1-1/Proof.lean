import JvmDerived
import JvmDerived.Pilot.@@N@@Statement
import JvmDerived.Pilot.@@N@@Code
set_option linter.unusedVariables false
set_option linter.unusedSimpArgs false
namespace Jvm.RoadKit
open Sem ClassFile Op Lib Jvm.Stand Jvm.Free Jvm.LawKit
section New
variable {p : Program} {l : Launch} {e : Env} {R : Room} {s : State} {m : MethodId} {args : Array Value} {below : List Frame} {meth : Method} {c : Code} {T : State} {locs : List Loc} {cells slots : Nat}
theorem retI (X : Stand p l e R s m args below meth c T locs cells slots) (hx : p.tables.exec = Jvm.exec) {pc : Nat} {Ls : Array Slot} {z : Int32} {rest : List Value} (hret : meth.sig.returnType = some .int) (hd : decode c.code pc = .ok (.ireturn, 1)) {fs : List Frame}
    (hl : ∀ (f : JFrame) (acts : List Action), f.method = m → f.locked = none → f.entered = [] → (doReturn e (T.setTop f) acts (some (.int z))).1 = T.setFrames fs) : Steps p.tables e below (T.setTop (mkF m pc Ls (.int z :: rest))) (T.setFrames fs) := by
  have hm' : T.vm.method? m = some meth := X.method'
  have hn : narrow .int (.int z) = .int z := rfl
  show Steps p.tables e below (T.setTop { method := m, pc := pc, locals := Ls, stack := _ :: rest, locked := none }) _
  jvm_step X.here [X.here.top, hx, hd, hm', hret, hn]
  first | (intro acts; rw [hl _ acts rfl rfl rfl]) | rw [hl _ _ rfl rfl rfl]
  exact Steps.refl _
abbrev jv (x : Int64) : Slot := .val (.long x)
/-- from the state st the run ends as Q says -/
def own_Go (p : Program) (e : Env) (below : List Frame) (s : State) (Q : Option Value → Heap → List Loc → Prop) (CS : Nat × Nat) (st : State) : Prop :=
  ∃ s₂ o, Steps p.tables e below st s₂ ∧ s₂.status = .running ∧ Ended s₂ below o ∧ ∃ v L, o = .returned v ∧ Q v s₂.heap L ∧ FrameEnd s o s₂ L CS.1 CS.2
variable {Q : Option Value → Heap → List Loc → Prop} {CS : Nat × Nat} {st st' : State}
theorem own_via (h : ∀ {t}, Steps p.tables e below st t → Steps p.tables e below st' t) (g : own_Go p e below s Q CS st) : own_Go p e below s Q CS st' := by
  obtain ⟨s₂, o, h1, h2⟩ := g
  exact ⟨s₂, o, h h1, h2⟩
theorem own_start {g g' : JFrame} (q : g = g') (h : own_Go p e below s Q CS (T.setTop g')) : ∃ s₂ o, Steps p.tables e below (T.setTop g) s₂ ∧ s₂.status = .running ∧ Ended s₂ below o ∧ ∃ v L, o = .returned v ∧ Q v s₂.heap L ∧ FrameEnd s o s₂ L CS.1 CS.2 := q ▸ h
theorem own_retN (X : Stand p l e R s m args below meth c T locs cells slots) (hx : p.tables.exec = Jvm.exec) (hlk : meth.locks = false) {pc : Nat} {Ls : Array Slot} {z : Int32} {t : FieldType} {rest : List Value} (hret : meth.sig.returnType = some t) (ht : t = .boolean ∨ t = .byte ∨ t = .char ∨ t = .short)
    (hd : decode c.code pc = .ok (.ireturn, 1)) (hq : Q (some (.int (nar t z))) T.heap locs) (hc : cells ≤ CS.1) (hs : slots ≤ CS.2) : own_Go p e below s Q CS (T.setTop (mkF m pc Ls (.int z :: rest))) := by
  obtain ⟨fs, hr, hrun, hended, hW, hsame⟩ := X.leave (v := some (.int (nar t z))) (fun h => by rw [hret] at h; cases h) hlk
  exact ⟨_, _, retN X hx hret ht hd hr, hrun, hended, _, _, rfl, hq, ⟨_, rfl⟩, hW, hsame.mono hc hs⟩
theorem own_retI (X : Stand p l e R s m args below meth c T locs cells slots) (hx : p.tables.exec = Jvm.exec) (hlk : meth.locks = false) {pc : Nat} {Ls : Array Slot} {z : Int32} {rest : List Value} (hret : meth.sig.returnType = some .int)
    (hd : decode c.code pc = .ok (.ireturn, 1)) (hq : Q (some (.int z)) T.heap locs) (hc : cells ≤ CS.1) (hs : slots ≤ CS.2) : own_Go p e below s Q CS (T.setTop (mkF m pc Ls (.int z :: rest))) := by
  obtain ⟨fs, hr, hrun, hended, hW, hsame⟩ := X.leave (v := some (.int z)) (fun h => by rw [hret] at h; cases h) hlk
  exact ⟨_, _, retI X hx hret hd hr, hrun, hended, _, _, rfl, hq, ⟨_, rfl⟩, hW, hsame.mono hc hs⟩
theorem own_retL (X : Stand p l e R s m args below meth c T locs cells slots) (hx : p.tables.exec = Jvm.exec) (hlk : meth.locks = false) {pc : Nat} {Ls : Array Slot} {z : Int64} (hret : meth.sig.returnType = some .long)
    (hd : decode c.code pc = .ok (.lreturn, 1)) (hq : Q (some (.long z)) T.heap locs) (hc : cells ≤ CS.1) (hs : slots ≤ CS.2) : own_Go p e below s Q CS (T.setTop (mkF m pc Ls [.long z])) := by
  obtain ⟨fs, hr, hrun, hended, hW, hsame⟩ := X.leave (v := some (.long z)) (fun h => by rw [hret] at h; cases h) hlk
  exact ⟨_, _, X.lreturnOut hx hret hd hr, hrun, hended, _, _, rfl, hq, ⟨_, rfl⟩, hW, hsame.mono hc hs⟩
theorem own_retA (X : Stand p l e R s m args below meth c T locs cells slots) (hx : p.tables.exec = Jvm.exec) (hlk : meth.locks = false) {pc : Nat} {Ls : Array Slot} {w : Value} (hw : w.isRef = true) {t : FieldType} (hret : meth.sig.returnType = some t) (ht : t.isReference = true)
    (hd : decode c.code pc = .ok (.areturn, 1)) (hq : Q (some w) T.heap locs) (hc : cells ≤ CS.1) (hs : slots ≤ CS.2) : own_Go p e below s Q CS (T.setTop (mkF m pc Ls [w])) := by
  obtain ⟨fs, hr, hrun, hended, hW, hsame⟩ := X.leave (v := some w) (fun h => by rw [hret] at h; cases h) hlk
  exact ⟨_, _, X.areturnOut hx hw hret ht hd hr, hrun, hended, _, _, rfl, hq, ⟨_, rfl⟩, hW, hsame.mono hc hs⟩
theorem own_ret0 (X : Stand p l e R s m args below meth c T locs cells slots) (hx : p.tables.exec = Jvm.exec) (hlk : meth.locks = false) {pc : Nat} {Ls : Array Slot} (hret : meth.sig.returnType = none)
    (hd : decode c.code pc = .ok (.return_, 1)) (hq : Q none T.heap locs) (hc : cells ≤ CS.1) (hs : slots ≤ CS.2) : own_Go p e below s Q CS (T.setTop (mkF m pc Ls [])) := by
  obtain ⟨fs, hr, hrun, hended, hW, hsame⟩ := X.leave (v := none) (fun _ => rfl) hlk
  exact ⟨_, _, X.returnOut hx hret hd hr, hrun, hended, _, _, rfl, hq, ⟨_, rfl⟩, hW, hsame.mono hc hs⟩
theorem own_fldI {Z : State} {h : Heap} {a : Addr} {C n d : String} {v w : Int32} (q : v = w) (F : Fld Z h a C n d (.int v)) : Fld Z h a C n d (.int w) := q ▸ F
theorem own_fldJ {Z : State} {h : Heap} {a : Addr} {C n d : String} {v w : Int64} (q : v = w) (F : Fld Z h a C n d (.long v)) : Fld Z h a C n d (.long w) := q ▸ F
theorem own_arv {Z : State} {h : Heap} {a : Addr} {k : ClassId} {ty : FieldType} {n : Int32} {vs vs' : List Value} {d : Value} (q : vs = vs') (F : Arv Z h a k ty n vs d) : Arv Z h a k ty n vs' d := q ▸ F
theorem own_fits {t : FieldType} {v w : Int32} (q : v = w) (F : fits t (.int v) = true) : fits t (.int w) = true := q ▸ F
end New
end Jvm.RoadKit
namespace Jvm.Pilot.@@N@@
open Jvm Jvm.ClassFile Sem Op Lib Jvm.Free Jvm.Stand Jvm.LawKit Jvm.RoadKit Bundle Jvm.Pilot.@@N@@.Jvm.D
theorem own_l32 {x y : Int32} : x < y ↔ x.toInt < y.toInt := Int32.lt_iff_toInt_lt
theorem own_e32 {x y : Int32} : x = y ↔ x.toInt = y.toInt := Int32.toInt_inj.symm
theorem own_l64 {x y : Int64} : x < y ↔ x.toInt < y.toInt := Int64.lt_iff_toInt_lt
theorem own_e64 {x y : Int64} : x = y ↔ x.toInt = y.toInt := Int64.toInt_inj.symm
theorem own_all8 {P : Int8 → Prop} (h : ∀ n : Fin 256, P (Int8.ofBitVec (BitVec.ofFin n))) (i : Int8) : P i := h i.toBitVec.toFin
theorem d1_0 : decode method_3_code 0 = .ok (.iload_n 0, 1) := by decide +kernel
theorem d1_1 : decode method_3_code 1 = .ok (.ldc 9, 2) := by decide +kernel
theorem d1_3 : decode method_3_code 3 = .ok (.iand, 1) := by decide +kernel
theorem d1_4 : decode method_3_code 4 = .ok (.istore_n 2, 1) := by decide +kernel
theorem d1_5 : decode method_3_code 5 = .ok (.iload_n 1, 1) := by decide +kernel
theorem d1_6 : decode method_3_code 6 = .ok (.ifCond .eq 9, 3) := by decide +kernel
theorem d1_9 : decode method_3_code 9 = .ok (.iload_n 2, 1) := by decide +kernel
theorem d1_10 : decode method_3_code 10 = .ok (.sipush 10002, 3) := by decide +kernel
theorem d1_13 : decode method_3_code 13 = .ok (.irem, 1) := by decide +kernel
theorem d1_14 : decode method_3_code 14 = .ok (.ireturn, 1) := by decide +kernel
theorem d1_15 : decode method_3_code 15 = .ok (.iload_n 2, 1) := by decide +kernel
theorem d1_16 : decode method_3_code 16 = .ok (.ireturn, 1) := by decide +kernel
theorem pn_1 : plainName "com/example/grant3/grant3/condition/StepBudgetSpendPinLaw" = true := by first | (simp [plainName, overriddenIn]; done) | decide +kernel
theorem ef_1 (m : MethodId) (x0 : Int32) (x1 : Int32) : entryFrame m #[(.int x0), (.int x1)] 3 = mkF m 0 #[iv x0, iv x1, .unset] [] := by first | (simp [entryFrame, mkF, argsToLocals, Value.category]; done) | rfl
def own_f1 (p0 : Int32) (p1 : Int32) : Int32 := (if p1 = (0 : Int32) then (p0 &&& (2147483647 : Int32)) else ((p0 &&& (2147483647 : Int32)) % (10002 : Int32)))
def Q1 (Z : State) (p0 : Int32) (p1 : Int32) (h0 : Heap) (n0 : Nat) (v : Option Value) (h : Heap) (L : List Loc) : Prop := v = some (.int (own_f1 p0 p1)) ∧ Fr n0 L ∧ h = h0
set_option maxRecDepth 65536 in
set_option maxHeartbeats 40000000 in
theorem rm1 (l : Launch) (Z : State) (aw : Array Value) (hw : ∀ d ∈ tables_1, d.before aw Z = true) (ws : List Jvm.Cond) (p0 : Int32) (p1 : Int32) (h0 : Heap) (n0 : Nat) (Z0 : n0 ≤ h0.size)  :
    MetFree l (⟨"com/example/grant3/grant3/condition/StepBudgetSpendPinLaw", "draw", "(IZ)I"⟩ : MethodName) (head1 (Jvm.Cond.code (⟨"com/example/grant3/grant3/condition/StepBudgetSpendPinLaw", "draw", "(IZ)I"⟩ : MethodName) method_3_code 3 (some .int) :: ws) ({ frames := 0, cells := 0, slots := 0, locals := 0 } : Room)) (fun a U => a = #[(.int p0), (.int p1)] ∧ Z.Warmed39 U.vm ∧ U.heap = h0) (fun _ _ _ _ _ => True) (fun _ U o U' => ∃ v L, o = .returned v ∧ Q1 Z p0 p1 h0 n0 v U'.heap L ∧ FrameEnd U o U' L ({ frames := 0, cells := 0, slots := 0, locals := 0 } : Room).cells ({ frames := 0, cells := 0, slots := 0, locals := 0 } : Room).slots) := by
  refine MetFree.of_bodySF (plainFor_of_name pn_1) hisR ?_
  intro p e s m args below meth c s₁ Bd hml0 hP hK
  obtain ⟨rfl, hZ, hh⟩ := hP
  have hx := Bd.exec
  have hby := Bd.bytes
  have hml : c.maxLocals = 3 := hml0
  have hown : s.vm.findClass "com/example/grant3/grant3/condition/StepBudgetSpendPinLaw" = some m.cls := findClass_of_methodNamed Bd.named
  have hnm := (name_of_methodNamed Bd.named Bd.method).1
  have hlk : meth.locks = false := by first | exact BodyLoose.notSynchronized (by assumption) | exact Body.notSynchronized (by assumption)
  have X0 : Stand p l e ({ frames := 0, cells := 0, slots := 0, locals := 0 } : Room) s m #[(.int p0), (.int p1)] below meth c s₁ [] 0 0 := Stand.of_body Bd
  have e0 : s₁.heap = h0 := by rw [← hh, Bd.state]; rfl
  have N0 := Fr.nil n0
  have K0 : Keep h0 h0 [] := Keep.refl _ _
  refine own_start (CS := (0, 0)) (Q := (Q1 Z p0 p1 h0 n0)) (ef_1 m p0 p1) ?_
  show own_Go p e below s _ _ (s₁.setTop (mkF m 0 #[iv p0, iv p1, .unset] []))
  refine own_via (fun k => XS.iloadN X0.here hx rfl (hb hby d1_0) rfl  (X0.ldcInt hx hown (mvT hZ (hw _ (List.mem_of_getElem? (i := 4) rfl))) (g := (mkF m 1 #[iv p0, iv p1, .unset] [(.int p0)])) rfl (hb hby d1_1) _ (XS.iand X0.here hx rfl (hb hby d1_3) rfl (XS.istoreN X0.here hx rfl (hb hby d1_4) rfl (l' := #[iv p0, iv p1, iv (p0 &&& (2147483647 : Int32))]) rfl k)))) ?_
  show own_Go p e below s _ _ (s₁.setTop (mkF m 5 #[iv p0, iv p1, iv (p0 &&& (2147483647 : Int32))] []))
  refine own_via (fun k => XS.iloadN X0.here hx rfl (hb hby d1_5) rfl  k) ?_
  show own_Go p e below s _ _ (s₁.setTop (mkF m 6 #[iv p0, iv p1, iv (p0 &&& (2147483647 : Int32))] [(.int p1)]))
  by_cases hc1 : p1 = (0 : Int32)
  · refine own_via (fun k => XS.ifYes X0.here hx rfl (pc0 := 6) (pc' := 15) rfl (hb hby d1_6) rfl ((if0 _ _).trans (teq hc1).1) (by decide) (by decide) k) ?_
    show own_Go p e below s _ _ (s₁.setTop (mkF m 15 #[iv p0, iv p1, iv (p0 &&& (2147483647 : Int32))] []))
    refine own_via (fun k => XS.iloadN X0.here hx rfl (hb hby d1_15) rfl  k) ?_
    show own_Go p e below s _ _ (s₁.setTop (mkF m 16 #[iv p0, iv p1, iv (p0 &&& (2147483647 : Int32))] [(.int (p0 &&& (2147483647 : Int32)))]))
    exact own_retI X0 hx hlk Bd.returns (hb hby d1_16) (Q := (Q1 Z p0 p1 h0 n0)) ⟨(congrArg (fun z => some (Value.int z)) (show (p0 &&& (2147483647 : Int32)) = (own_f1 p0 p1) from (by unfold own_f1; exact ((if_pos hc1).trans rfl).symm))), N0, e0⟩ (by decide) (by decide)
  · refine own_via (fun k => XS.ifNo X0.here hx rfl (hb hby d1_6) rfl ((if0 _ _).trans (feq hc1).1) k) ?_
    show own_Go p e below s _ _ (s₁.setTop (mkF m 9 #[iv p0, iv p1, iv (p0 &&& (2147483647 : Int32))] []))
    refine own_via (fun k => XS.iloadN X0.here hx rfl (hb hby d1_9) rfl  (XS.sipush X0.here hx rfl (hb hby d1_10) (Jvm.RoadKit.iremM X0 hx rfl (hb hby d1_13) rfl (by decide) k))) ?_
    show own_Go p e below s _ _ (s₁.setTop (mkF m 14 #[iv p0, iv p1, iv (p0 &&& (2147483647 : Int32))] [(.int ((p0 &&& (2147483647 : Int32)) % (10002 : Int32)))]))
    exact own_retI X0 hx hlk Bd.returns (hb hby d1_14) (Q := (Q1 Z p0 p1 h0 n0)) ⟨(congrArg (fun z => some (Value.int z)) (show ((p0 &&& (2147483647 : Int32)) % (10002 : Int32)) = (own_f1 p0 p1) from (by unfold own_f1; exact ((if_neg hc1).trans rfl).symm))), N0, e0⟩ (by decide) (by decide)
theorem d2_0 : decode prog_13_method_1_code 0 = .ok (.aload_n 0, 1) := by decide +kernel
theorem d2_1 : decode prog_13_method_1_code 1 = .ok (.invokespecial 1, 3) := by decide +kernel
theorem d2_4 : decode prog_13_method_1_code 4 = .ok (.aload_n 0, 1) := by decide +kernel
theorem d2_5 : decode prog_13_method_1_code 5 = .ok (.sipush 10000, 3) := by decide +kernel
theorem d2_8 : decode prog_13_method_1_code 8 = .ok (.putfield 9, 3) := by decide +kernel
theorem d2_11 : decode prog_13_method_1_code 11 = .ok (.return_, 1) := by decide +kernel
theorem pn_2 : plainName "com/example/grant3/grant3/condition/StepBudget" = true := by first | (simp [plainName, overriddenIn]; done) | decide +kernel
theorem ef_2 (m : MethodId) (x0 : Addr) : entryFrame m #[(.ref x0)] 1 = mkF m 0 #[rv x0] [] := by first | (simp [entryFrame, mkF, argsToLocals, Value.category]; done) | rfl
def Q2 (Z : State) (a0 : Addr) (h0 : Heap) (n0 : Nat) (v : Option Value) (h : Heap) (L : List Loc) : Prop := v = none ∧ Fr n0 L ∧ Keep h0 h [a0] ∧ Fld Z h a0 "com/example/grant3/grant3/condition/StepBudget" "left" "I" (.int 10000)
set_option maxRecDepth 65536 in
set_option maxHeartbeats 40000000 in
theorem rm2 (l : Launch) (Z : State) (aw : Array Value) (hw : ∀ d ∈ tables_1, d.before aw Z = true) (ws : List Jvm.Cond) (a0 : Addr) (h0 : Heap) (n0 : Nat) (Z0 : n0 ≤ h0.size) (P0 : Fld Z h0 a0 "com/example/grant3/grant3/condition/StepBudget" "left" "I" (.int 0)) (P1 : Exa Z h0 a0 "com/example/grant3/grant3/condition/StepBudget") (ge0 : n0 ≤ a0) :
    MetFree l (⟨"com/example/grant3/grant3/condition/StepBudget", "<init>", "()V"⟩ : MethodName) (head1 (Jvm.Cond.code (⟨"com/example/grant3/grant3/condition/StepBudget", "<init>", "()V"⟩ : MethodName) prog_13_method_1_code 1 none :: ws) ({ frames := 1, cells := 0, slots := 0, locals := 12 } : Room)) (fun a U => a = #[(.ref a0)] ∧ Z.Warmed39 U.vm ∧ U.heap = h0) (fun _ _ _ _ _ => True) (fun _ U o U' => ∃ v L, o = .returned v ∧ Q2 Z a0 h0 n0 v U'.heap L ∧ FrameEnd U o U' L ({ frames := 1, cells := 0, slots := 0, locals := 12 } : Room).cells ({ frames := 1, cells := 0, slots := 0, locals := 12 } : Room).slots) := by
  refine MetFree.of_bodySF (plainFor_of_name pn_2) hisR ?_
  intro p e s m args below meth c s₁ Bd hml0 hP hK
  obtain ⟨rfl, hZ, hh⟩ := hP
  have hx := Bd.exec
  have hby := Bd.bytes
  have hml : c.maxLocals = 1 := hml0
  have hown : s.vm.findClass "com/example/grant3/grant3/condition/StepBudget" = some m.cls := findClass_of_methodNamed Bd.named
  have hnm := (name_of_methodNamed Bd.named Bd.method).1
  have hlk : meth.locks = false := by first | exact BodyLoose.notSynchronized (by assumption) | exact Body.notSynchronized (by assumption)
  have X0 : Stand p l e ({ frames := 1, cells := 0, slots := 0, locals := 12 } : Room) s m #[(.ref a0)] below meth c s₁ [] 0 0 := Stand.of_body Bd
  have e0 : s₁.heap = h0 := by rw [← hh, Bd.state]; rfl
  have N0 := Fr.nil n0
  have K0 : Keep h0 h0 [a0] := Keep.refl _ _
  refine own_start (CS := (0, 0)) (Q := (Q2 Z a0 h0 n0)) (ef_2 m a0) ?_
  show own_Go p e below s _ _ (s₁.setTop (mkF m 0 #[rv a0] []))
  refine own_via (fun k => XS.aloadN X0.here hx rfl (hb hby d2_0) rfl rfl  k) ?_
  show own_Go p e below s _ _ (s₁.setTop (mkF m 1 #[rv a0] [(.ref a0)]))
  obtain ⟨T1, X1, e1, st1⟩ := initO X0 hx hZ hown (hw _ (List.mem_of_getElem? (i := 11) rfl)) (hw _ (List.mem_of_getElem? (i := 12) rfl)) (hw _ (List.mem_of_getElem? (i := 13) rfl)) e0 (g := (mkF m 1 #[rv a0] [(.ref a0)])) rfl (by rw [hml]; rfl) rfl (hb hby d2_1) (by decide) (W := 0) (by show 2 * 0 + _ ≤ _; exact Nat.le_of_eq rfl) (by decide)
  refine own_via (fun k => st1 _ k) ?_
  show own_Go p e below s _ _ (T1.setTop (mkF m 4 #[rv a0] []))
  refine own_via (fun k => XS.aloadN X1.here hx rfl (hb hby d2_4) rfl rfl  (XS.sipush X1.here hx rfl (hb hby d2_5) k)) ?_
  show own_Go p e below s _ _ (T1.setTop (mkF m 8 #[rv a0] [(.int 10000), (.ref a0)]))
  obtain ⟨T2, h2, X2, e2, W2, st2⟩ := putF X1 hx hZ hown (host := "") (Or.inl (hw _ (List.mem_of_getElem? (i := 14) rfl))) Via.refl e1 P0 P1 (Or.inl (hw _ (List.mem_of_getElem? (i := 15) rfl))) (hw _ (List.mem_of_getElem? (i := 6) rfl)) (ty := .int) (by decide) rfl rfl (g := (mkF m 8 #[rv a0] [(.int 10000), (.ref a0)])) rfl rfl (hb hby d2_8)
  refine own_via (fun k => st2 _ k) ?_
  show own_Go p e below s _ _ (T2.setTop (mkF m 11 #[rv a0] []))
  have B3 := P1.wr W2
  have B4 : Fld Z h2 a0 "com/example/grant3/grant3/condition/StepBudget" "left" "I" (.int 10000) := P0.same W2
  have N5 := Fr.snoc X2 N0 ge0
  have K6 : Keep h0 h2 [a0] := K0.wr W2 (Or.inl (List.mem_of_getElem? (i := 0) rfl))
  have Z7 : n0 ≤ h2.size := Nat.le_trans Z0 (Keep.of_wr W2).1
  exact own_ret0 X2 hx hlk Bd.returns (hb hby d2_11) (Q := (Q2 Z a0 h0 n0)) ⟨rfl, N5, (by rw [e2]; exact K6), (by rw [e2]; exact B4)⟩ (by decide) (by decide)
theorem d4_0 : decode prog_13_method_2_code 0 = .ok (.aload_n 0, 1) := by decide +kernel
theorem d4_1 : decode prog_13_method_2_code 1 = .ok (.getfield 9, 3) := by decide +kernel
theorem d4_4 : decode prog_13_method_2_code 4 = .ok (.ireturn, 1) := by decide +kernel
theorem pn_4 : plainName "com/example/grant3/grant3/condition/StepBudget" = true := by first | (simp [plainName, overriddenIn]; done) | decide +kernel
theorem ef_4 (m : MethodId) (x0 : Addr) : entryFrame m #[(.ref x0)] 1 = mkF m 0 #[rv x0] [] := by first | (simp [entryFrame, mkF, argsToLocals, Value.category]; done) | rfl
def Q4 (Z : State) (a0 : Addr) (w0 : Int32) (h0 : Heap) (n0 : Nat) (v : Option Value) (h : Heap) (L : List Loc) : Prop := v = some (.int w0) ∧ Fr n0 L ∧ h = h0
set_option maxRecDepth 65536 in
set_option maxHeartbeats 40000000 in
theorem rm4 (l : Launch) (Z : State) (aw : Array Value) (hw : ∀ d ∈ tables_1, d.before aw Z = true) (ws : List Jvm.Cond) (a0 : Addr) (w0 : Int32) (h0 : Heap) (n0 : Nat) (Z0 : n0 ≤ h0.size) (P0 : Fld Z h0 a0 "com/example/grant3/grant3/condition/StepBudget" "left" "I" (.int w0)) :
    MetFree l (⟨"com/example/grant3/grant3/condition/StepBudget", "left", "()I"⟩ : MethodName) (head1 (Jvm.Cond.code (⟨"com/example/grant3/grant3/condition/StepBudget", "left", "()I"⟩ : MethodName) prog_13_method_2_code 1 (some .int) :: ws) ({ frames := 0, cells := 0, slots := 0, locals := 0 } : Room)) (fun a U => a = #[(.ref a0)] ∧ Z.Warmed39 U.vm ∧ U.heap = h0) (fun _ _ _ _ _ => True) (fun _ U o U' => ∃ v L, o = .returned v ∧ Q4 Z a0 w0 h0 n0 v U'.heap L ∧ FrameEnd U o U' L ({ frames := 0, cells := 0, slots := 0, locals := 0 } : Room).cells ({ frames := 0, cells := 0, slots := 0, locals := 0 } : Room).slots) := by
  refine MetFree.of_bodySF (plainFor_of_name pn_4) hisR ?_
  intro p e s m args below meth c s₁ Bd hml0 hP hK
  obtain ⟨rfl, hZ, hh⟩ := hP
  have hx := Bd.exec
  have hby := Bd.bytes
  have hml : c.maxLocals = 1 := hml0
  have hown : s.vm.findClass "com/example/grant3/grant3/condition/StepBudget" = some m.cls := findClass_of_methodNamed Bd.named
  have hnm := (name_of_methodNamed Bd.named Bd.method).1
  have hlk : meth.locks = false := by first | exact BodyLoose.notSynchronized (by assumption) | exact Body.notSynchronized (by assumption)
  have X0 : Stand p l e ({ frames := 0, cells := 0, slots := 0, locals := 0 } : Room) s m #[(.ref a0)] below meth c s₁ [] 0 0 := Stand.of_body Bd
  have e0 : s₁.heap = h0 := by rw [← hh, Bd.state]; rfl
  have N0 := Fr.nil n0
  have K0 : Keep h0 h0 [] := Keep.refl _ _
  refine own_start (CS := (0, 0)) (Q := (Q4 Z a0 w0 h0 n0)) (ef_4 m a0) ?_
  show own_Go p e below s _ _ (s₁.setTop (mkF m 0 #[rv a0] []))
  refine own_via (fun k => XS.aloadN X0.here hx rfl (hb hby d4_0) rfl rfl  k) ?_
  show own_Go p e below s _ _ (s₁.setTop (mkF m 1 #[rv a0] [(.ref a0)]))
  obtain ⟨T1, X1, e1, st1⟩ := getF X0 hx hZ hown (host := "") (Or.inl (hw _ (List.mem_of_getElem? (i := 14) rfl))) Via.refl e0 P0 (g := (mkF m 1 #[rv a0] [(.ref a0)])) rfl rfl (hb hby d4_1)
  refine own_via (fun k => st1 _ k) ?_
  show own_Go p e below s _ _ (T1.setTop (mkF m 4 #[rv a0] [(.int w0)]))
  exact own_retI X1 hx hlk Bd.returns (hb hby d4_4) (Q := (Q4 Z a0 w0 h0 n0)) ⟨rfl, N0, e1⟩ (by decide) (by decide)
theorem d6_0 : decode jdk_29_method_65_code 0 = .ok (.iload_n 0, 1) := by decide +kernel
theorem d6_1 : decode jdk_29_method_65_code 1 = .ok (.iload_n 1, 1) := by decide +kernel
theorem d6_2 : decode jdk_29_method_65_code 2 = .ok (.if_icmp .lt 7, 3) := by decide +kernel
theorem d6_5 : decode jdk_29_method_65_code 5 = .ok (.iload_n 0, 1) := by decide +kernel
theorem d6_6 : decode jdk_29_method_65_code 6 = .ok (.goto 4, 3) := by decide +kernel
theorem d6_9 : decode jdk_29_method_65_code 9 = .ok (.iload_n 1, 1) := by decide +kernel
theorem d6_10 : decode jdk_29_method_65_code 10 = .ok (.ireturn, 1) := by decide +kernel
theorem ef_6 (m : MethodId) (x0 : Int32) (x1 : Int32) : entryFrame m #[(.int x0), (.int x1)] 2 = mkF m 0 #[iv x0, iv x1] [] := by first | (simp [entryFrame, mkF, argsToLocals, Value.category]; done) | rfl
def own_f6 (p0 : Int32) (p1 : Int32) : Int32 := (if p0 < p1 then p1 else p0)
def Q6 (Z : State) (p0 : Int32) (p1 : Int32) (h0 : Heap) (n0 : Nat) (v : Option Value) (h : Heap) (L : List Loc) : Prop := v = some (.int (own_f6 p0 p1)) ∧ Fr n0 L ∧ h = h0
set_option maxRecDepth 65536 in
set_option maxHeartbeats 40000000 in
theorem rm6 (l : Launch) (Z : State) (aw : Array Value) (hw : ∀ d ∈ tables_1, d.before aw Z = true) (ws : List Jvm.Cond) (p0 : Int32) (p1 : Int32) (h0 : Heap) (n0 : Nat) (Z0 : n0 ≤ h0.size)  :
    MetFree l (⟨"java/lang/Math", "max", "(II)I"⟩ : MethodName) (head1 (Jvm.Cond.code (⟨"java/lang/Math", "max", "(II)I"⟩ : MethodName) jdk_29_method_65_code 2 (some .int) :: ws) ({ frames := 0, cells := 0, slots := 0, locals := 0 } : Room)) (fun a U => a = #[(.int p0), (.int p1)] ∧ Z.Warmed39 U.vm ∧ U.heap = h0) (fun _ _ _ _ _ => True) (fun _ U o U' => ∃ v L, o = .returned v ∧ Q6 Z p0 p1 h0 n0 v U'.heap L ∧ FrameEnd U o U' L ({ frames := 0, cells := 0, slots := 0, locals := 0 } : Room).cells ({ frames := 0, cells := 0, slots := 0, locals := 0 } : Room).slots) := by
  refine MetFree.of_bodySF (Jvm.Free.JP.mathPlain rfl (by decide +kernel)) hisR ?_
  intro p e s m args below meth c s₁ Bd hml0 hP hK
  obtain ⟨rfl, hZ, hh⟩ := hP
  have hx := Bd.exec
  have hby := Bd.bytes
  have hml : c.maxLocals = 2 := hml0
  have hown : s.vm.findClass "java/lang/Math" = some m.cls := findClass_of_methodNamed Bd.named
  have hnm := (name_of_methodNamed Bd.named Bd.method).1
  have hlk : meth.locks = false := by first | exact BodyLoose.notSynchronized (by assumption) | exact Body.notSynchronized (by assumption)
  have X0 : Stand p l e ({ frames := 0, cells := 0, slots := 0, locals := 0 } : Room) s m #[(.int p0), (.int p1)] below meth c s₁ [] 0 0 := Stand.of_body Bd
  have e0 : s₁.heap = h0 := by rw [← hh, Bd.state]; rfl
  have N0 := Fr.nil n0
  have K0 : Keep h0 h0 [] := Keep.refl _ _
  refine own_start (CS := (0, 0)) (Q := (Q6 Z p0 p1 h0 n0)) (ef_6 m p0 p1) ?_
  show own_Go p e below s _ _ (s₁.setTop (mkF m 0 #[iv p0, iv p1] []))
  refine own_via (fun k => XS.iloadN X0.here hx rfl (hb hby d6_0) rfl  (XS.iloadN X0.here hx rfl (hb hby d6_1) rfl  k)) ?_
  show own_Go p e below s _ _ (s₁.setTop (mkF m 2 #[iv p0, iv p1] [(.int p1), (.int p0)]))
  by_cases hc1 : p0 < p1
  · refine own_via (fun k => XS.icmpYes X0.here hx rfl (pc0 := 2) (pc' := 9) rfl (hb hby d6_2) rfl (tlt hc1).1 (by decide) (by decide) k) ?_
    show own_Go p e below s _ _ (s₁.setTop (mkF m 9 #[iv p0, iv p1] []))
    refine own_via (fun k => XS.iloadN X0.here hx rfl (hb hby d6_9) rfl  k) ?_
    show own_Go p e below s _ _ (s₁.setTop (mkF m 10 #[iv p0, iv p1] [(.int p1)]))
    exact own_retI X0 hx hlk Bd.returns (hb hby d6_10) (Q := (Q6 Z p0 p1 h0 n0)) ⟨(congrArg (fun z => some (Value.int z)) (show p1 = (own_f6 p0 p1) from (by unfold own_f6; exact ((if_pos hc1).trans rfl).symm))), N0, e0⟩ (by decide) (by decide)
  · refine own_via (fun k => XS.icmpNo X0.here hx rfl (hb hby d6_2) rfl (flt hc1).1 k) ?_
    show own_Go p e below s _ _ (s₁.setTop (mkF m 5 #[iv p0, iv p1] []))
    refine own_via (fun k => XS.iloadN X0.here hx rfl (hb hby d6_5) rfl  (XS.goto X0.here hx rfl (pc0 := 6) (pc' := 10) rfl (hb hby d6_6) (by decide) (by decide) k)) ?_
    show own_Go p e below s _ _ (s₁.setTop (mkF m 10 #[iv p0, iv p1] [(.int p0)]))
    exact own_retI X0 hx hlk Bd.returns (hb hby d6_10) (Q := (Q6 Z p0 p1 h0 n0)) ⟨(congrArg (fun z => some (Value.int z)) (show p0 = (own_f6 p0 p1) from (by unfold own_f6; exact ((if_neg hc1).trans rfl).symm))), N0, e0⟩ (by decide) (by decide)
theorem d5_0 : decode prog_13_method_3_code 0 = .ok (.aload_n 0, 1) := by decide +kernel
theorem d5_1 : decode prog_13_method_3_code 1 = .ok (.iconst 0, 1) := by decide +kernel
theorem d5_2 : decode prog_13_method_3_code 2 = .ok (.aload_n 0, 1) := by decide +kernel
theorem d5_3 : decode prog_13_method_3_code 3 = .ok (.getfield 9, 3) := by decide +kernel
theorem d5_6 : decode prog_13_method_3_code 6 = .ok (.iload_n 1, 1) := by decide +kernel
theorem d5_7 : decode prog_13_method_3_code 7 = .ok (.isub, 1) := by decide +kernel
theorem d5_8 : decode prog_13_method_3_code 8 = .ok (.invokestatic 13, 3) := by decide +kernel
theorem d5_11 : decode prog_13_method_3_code 11 = .ok (.putfield 9, 3) := by decide +kernel
theorem d5_14 : decode prog_13_method_3_code 14 = .ok (.return_, 1) := by decide +kernel
theorem pn_5 : plainName "com/example/grant3/grant3/condition/StepBudget" = true := by first | (simp [plainName, overriddenIn]; done) | decide +kernel
theorem pd_4 : parseMethodDescriptor "(II)I" = some ⟨[.int, .int], some .int⟩ := by decide +kernel
theorem ef_5 (m : MethodId) (x0 : Addr) (x1 : Int32) : entryFrame m #[(.ref x0), (.int x1)] 2 = mkF m 0 #[rv x0, iv x1] [] := by first | (simp [entryFrame, mkF, argsToLocals, Value.category]; done) | rfl
def Q5 (Z : State) (a0 : Addr) (p1 : Int32) (w0 : Int32) (h0 : Heap) (n0 : Nat) (v : Option Value) (h : Heap) (L : List Loc) : Prop := v = none ∧ Fr n0 L ∧ Keep h0 h [a0] ∧ Fld Z h a0 "com/example/grant3/grant3/condition/StepBudget" "left" "I" (.int (own_f6 (0 : Int32) (w0 - p1)))
set_option maxRecDepth 65536 in
set_option maxHeartbeats 40000000 in
theorem rm5 (l : Launch) (Z : State) (aw : Array Value) (hw : ∀ d ∈ tables_1, d.before aw Z = true) (ws : List Jvm.Cond) (a0 : Addr) (p1 : Int32) (w0 : Int32) (h0 : Heap) (n0 : Nat) (Z0 : n0 ≤ h0.size) (P0 : Fld Z h0 a0 "com/example/grant3/grant3/condition/StepBudget" "left" "I" (.int w0)) (P1 : Exa Z h0 a0 "com/example/grant3/grant3/condition/StepBudget") (ge0 : n0 ≤ a0) :
    MetFree l (⟨"com/example/grant3/grant3/condition/StepBudget", "spend", "(I)V"⟩ : MethodName) (head1 (Jvm.Cond.code (⟨"com/example/grant3/grant3/condition/StepBudget", "spend", "(I)V"⟩ : MethodName) prog_13_method_3_code 2 none :: ws) ({ frames := 1, cells := 0, slots := 0, locals := 14 } : Room)) (fun a U => a = #[(.ref a0), (.int p1)] ∧ Z.Warmed39 U.vm ∧ U.heap = h0) (fun _ _ _ _ _ => True) (fun _ U o U' => ∃ v L, o = .returned v ∧ Q5 Z a0 p1 w0 h0 n0 v U'.heap L ∧ FrameEnd U o U' L ({ frames := 1, cells := 0, slots := 0, locals := 14 } : Room).cells ({ frames := 1, cells := 0, slots := 0, locals := 14 } : Room).slots) := by
  refine MetFree.of_bodySF (plainFor_of_name pn_5) hisR ?_
  intro p e s m args below meth c s₁ Bd hml0 hP hK
  obtain ⟨rfl, hZ, hh⟩ := hP
  have hx := Bd.exec
  have hby := Bd.bytes
  have hml : c.maxLocals = 2 := hml0
  have hown : s.vm.findClass "com/example/grant3/grant3/condition/StepBudget" = some m.cls := findClass_of_methodNamed Bd.named
  have hnm := (name_of_methodNamed Bd.named Bd.method).1
  have hlk : meth.locks = false := by first | exact BodyLoose.notSynchronized (by assumption) | exact Body.notSynchronized (by assumption)
  have X0 : Stand p l e ({ frames := 1, cells := 0, slots := 0, locals := 14 } : Room) s m #[(.ref a0), (.int p1)] below meth c s₁ [] 0 0 := Stand.of_body Bd
  have e0 : s₁.heap = h0 := by rw [← hh, Bd.state]; rfl
  have N0 := Fr.nil n0
  have K0 : Keep h0 h0 [a0] := Keep.refl _ _
  refine own_start (CS := (0, 0)) (Q := (Q5 Z a0 p1 w0 h0 n0)) (ef_5 m a0 p1) ?_
  show own_Go p e below s _ _ (s₁.setTop (mkF m 0 #[rv a0, iv p1] []))
  refine own_via (fun k => XS.aloadN X0.here hx rfl (hb hby d5_0) rfl rfl  (XS.iconst X0.here hx rfl (hb hby d5_1) (XS.aloadN X0.here hx rfl (hb hby d5_2) rfl rfl  k))) ?_
  show own_Go p e below s _ _ (s₁.setTop (mkF m 3 #[rv a0, iv p1] [(.ref a0), (.int 0), (.ref a0)]))
  obtain ⟨T1, X1, e1, st1⟩ := getF X0 hx hZ hown (host := "") (Or.inl (hw _ (List.mem_of_getElem? (i := 14) rfl))) Via.refl e0 P0 (g := (mkF m 3 #[rv a0, iv p1] [(.ref a0), (.int 0), (.ref a0)])) rfl rfl (hb hby d5_3)
  refine own_via (fun k => st1 _ k) ?_
  show own_Go p e below s _ _ (T1.setTop (mkF m 6 #[rv a0, iv p1] [(.int w0), (.int 0), (.ref a0)]))
  refine own_via (fun k => XS.iloadN X1.here hx rfl (hb hby d5_6) rfl  (XS.isub X1.here hx rfl (hb hby d5_7) rfl k)) ?_
  show own_Go p e below s _ _ (T1.setTop (mkF m 8 #[rv a0, iv p1] [(.int (w0 - p1)), (.int 0), (.ref a0)]))
  obtain ⟨_, _, ⟨T2, L2, k2, n2⟩, -, X2, ⟨Lc2, hQ2, l2, y2, z2⟩, st2⟩ := Jvm.LawKit.callS X1 hx (y := (⟨"java/lang/Math", "max", "(II)I"⟩ : MethodName)) hown (mvT hZ (hw _ (List.mem_of_getElem? (i := 26) rfl))) (mvT hZ (hw _ (List.mem_of_getElem? (i := 27) rfl))) (mvT hZ (hw _ (List.mem_of_getElem? (i := 28) rfl))) (mvT hZ (hw _ (List.mem_of_getElem? (i := 29) rfl))) (by decide) (backOf (W := 1) (rm6 l Z aw hw [] (0 : Int32) (w0 - p1) h0 n0 Z0) hZ (hw _ (List.mem_of_getElem? (i := 29) rfl)) (hw _ (List.mem_of_getElem? (i := 28) rfl)) (by decide) (by decide)) (g := (mkF m 8 #[rv a0, iv p1] [(.int (w0 - p1)), (.int 0), (.ref a0)])) rfl (by rw [hml]; rfl) (argsL := [(.int 0), (.int (w0 - p1))]) (rest := [(.ref a0)]) (lenOf pd_4 rfl) rfl (by show 2 * 0 + _ ≤ _; exact Nat.le_of_eq rfl) (hb hby d5_8) (fun _ _ => ⟨rfl, e1, (by decide : 0 + 0 ≤ _), (by decide : 0 + 0 ≤ _)⟩)
  dsimp only [Pt.U, Pt.locs, Pt.cells, Pt.slots] at X2 l2 y2 z2 st2 hQ2
  subst l2 y2 z2
  obtain ⟨rfl, N2q, eh2⟩ := hQ2
  have N3 := Fr.app N0 N2q
  refine own_via (fun k => st2 _ k) ?_
  show own_Go p e below s _ _ (T2.setTop (mkF m 11 #[rv a0, iv p1] [(.int (own_f6 (0 : Int32) (w0 - p1))), (.ref a0)]))
  obtain ⟨T4, h4, X4, e4, W4, st4⟩ := putF X2 hx hZ hown (host := "") (Or.inl (hw _ (List.mem_of_getElem? (i := 14) rfl))) Via.refl eh2 P0 P1 (Or.inl (hw _ (List.mem_of_getElem? (i := 15) rfl))) (hw _ (List.mem_of_getElem? (i := 6) rfl)) (ty := .int) (by decide) rfl rfl (g := (mkF m 11 #[rv a0, iv p1] [(.int (own_f6 (0 : Int32) (w0 - p1))), (.ref a0)])) rfl rfl (hb hby d5_11)
  refine own_via (fun k => st4 _ k) ?_
  show own_Go p e below s _ _ (T4.setTop (mkF m 14 #[rv a0, iv p1] []))
  have B5 := P1.wr W4
  have B6 : Fld Z h4 a0 "com/example/grant3/grant3/condition/StepBudget" "left" "I" (.int (own_f6 (0 : Int32) (w0 - p1))) := P0.same W4
  have N7 := Fr.snoc X4 N3 ge0
  have K8 : Keep h0 h4 [a0] := K0.wr W4 (Or.inl (List.mem_of_getElem? (i := 0) rfl))
  have Z9 : n0 ≤ h4.size := Nat.le_trans Z0 (Keep.of_wr W4).1
  exact own_ret0 X4 hx hlk Bd.returns (hb hby d5_14) (Q := (Q5 Z a0 p1 w0 h0 n0)) ⟨rfl, N7, (by rw [e4]; exact K8), (by rw [e4]; exact B6)⟩ (by decide) (by decide)
theorem d7_0 : decode method_2_code 0 = .ok (.lload_n 0, 1) := by decide +kernel
theorem d7_1 : decode method_2_code 1 = .ok (.ldc2_w 7, 3) := by decide +kernel
theorem d7_4 : decode method_2_code 4 = .ok (.lcmp, 1) := by decide +kernel
theorem d7_5 : decode method_2_code 5 = .ok (.ifCond .lt 5, 3) := by decide +kernel
theorem d7_8 : decode method_2_code 8 = .ok (.lconst 0, 1) := by decide +kernel
theorem d7_9 : decode method_2_code 9 = .ok (.lreturn, 1) := by decide +kernel
theorem d7_10 : decode method_2_code 10 = .ok (.ldc2_w 7, 3) := by decide +kernel
theorem d7_13 : decode method_2_code 13 = .ok (.lload_n 0, 1) := by decide +kernel
theorem d7_14 : decode method_2_code 14 = .ok (.lsub, 1) := by decide +kernel
theorem d7_15 : decode method_2_code 15 = .ok (.lreturn, 1) := by decide +kernel
theorem pn_7 : plainName "com/example/grant3/grant3/condition/StepBudgetSpendPinLaw" = true := by first | (simp [plainName, overriddenIn]; done) | decide +kernel
theorem ef_7 (m : MethodId) (x0 : Int64) : entryFrame m #[(.long x0)] 2 = mkF m 0 #[jv x0, .second] [] := by first | (simp [entryFrame, mkF, argsToLocals, Value.category]; done) | rfl
def own_f7 (q0 : Int64) : Int64 := (if q0 < (10000 : Int64) then ((10000 : Int64) - q0) else (0 : Int64))
def Q7 (Z : State) (q0 : Int64) (h0 : Heap) (n0 : Nat) (v : Option Value) (h : Heap) (L : List Loc) : Prop := v = some (.long (own_f7 q0)) ∧ Fr n0 L ∧ h = h0
set_option maxRecDepth 65536 in
set_option maxHeartbeats 40000000 in
theorem rm7 (l : Launch) (Z : State) (aw : Array Value) (hw : ∀ d ∈ tables_1, d.before aw Z = true) (ws : List Jvm.Cond) (q0 : Int64) (h0 : Heap) (n0 : Nat) (Z0 : n0 ≤ h0.size)  :
    MetFree l (⟨"com/example/grant3/grant3/condition/StepBudgetSpendPinLaw", "expected", "(J)J"⟩ : MethodName) (head1 (Jvm.Cond.code (⟨"com/example/grant3/grant3/condition/StepBudgetSpendPinLaw", "expected", "(J)J"⟩ : MethodName) method_2_code 2 (some .long) :: ws) ({ frames := 0, cells := 0, slots := 0, locals := 0 } : Room)) (fun a U => a = #[(.long q0)] ∧ Z.Warmed39 U.vm ∧ U.heap = h0) (fun _ _ _ _ _ => True) (fun _ U o U' => ∃ v L, o = .returned v ∧ Q7 Z q0 h0 n0 v U'.heap L ∧ FrameEnd U o U' L ({ frames := 0, cells := 0, slots := 0, locals := 0 } : Room).cells ({ frames := 0, cells := 0, slots := 0, locals := 0 } : Room).slots) := by
  refine MetFree.of_bodySF (plainFor_of_name pn_7) hisR ?_
  intro p e s m args below meth c s₁ Bd hml0 hP hK
  obtain ⟨rfl, hZ, hh⟩ := hP
  have hx := Bd.exec
  have hby := Bd.bytes
  have hml : c.maxLocals = 2 := hml0
  have hown : s.vm.findClass "com/example/grant3/grant3/condition/StepBudgetSpendPinLaw" = some m.cls := findClass_of_methodNamed Bd.named
  have hnm := (name_of_methodNamed Bd.named Bd.method).1
  have hlk : meth.locks = false := by first | exact BodyLoose.notSynchronized (by assumption) | exact Body.notSynchronized (by assumption)
  have X0 : Stand p l e ({ frames := 0, cells := 0, slots := 0, locals := 0 } : Room) s m #[(.long q0)] below meth c s₁ [] 0 0 := Stand.of_body Bd
  have e0 : s₁.heap = h0 := by rw [← hh, Bd.state]; rfl
  have N0 := Fr.nil n0
  have K0 : Keep h0 h0 [] := Keep.refl _ _
  refine own_start (CS := (0, 0)) (Q := (Q7 Z q0 h0 n0)) (ef_7 m q0) ?_
  show own_Go p e below s _ _ (s₁.setTop (mkF m 0 #[jv q0, .second] []))
  refine own_via (fun k => XS.lloadN X0.here hx rfl (hb hby d7_0) rfl  (X0.ldc2Long hx hown (mvT hZ (hw _ (List.mem_of_getElem? (i := 33) rfl))) (g := (mkF m 1 #[jv q0, .second] [(.long q0)])) rfl (hb hby d7_1) _ (XS.lcmp X0.here hx rfl (hb hby d7_4) rfl k))) ?_
  show own_Go p e below s _ _ (s₁.setTop (mkF m 5 #[jv q0, .second] [(.int (lcmpW q0 (10000 : Int64)))]))
  by_cases hc1 : q0 < (10000 : Int64)
  · refine own_via (fun k => XS.ifYes X0.here hx rfl (pc0 := 5) (pc' := 10) rfl (hb hby d7_5) rfl ((if0 _ _).trans (tlt ((lw_lt _ _).mpr hc1)).1) (by decide) (by decide) k) ?_
    show own_Go p e below s _ _ (s₁.setTop (mkF m 10 #[jv q0, .second] []))
    refine own_via (fun k => X0.ldc2Long hx hown (mvT hZ (hw _ (List.mem_of_getElem? (i := 33) rfl))) (g := (mkF m 10 #[jv q0, .second] [])) rfl (hb hby d7_10) _ (XS.lloadN X0.here hx rfl (hb hby d7_13) rfl  (XS.lsub X0.here hx rfl (hb hby d7_14) rfl k))) ?_
    show own_Go p e below s _ _ (s₁.setTop (mkF m 15 #[jv q0, .second] [(.long ((10000 : Int64) - q0))]))
    exact own_retL X0 hx hlk Bd.returns (hb hby d7_15) (Q := (Q7 Z q0 h0 n0)) ⟨(congrArg (fun z => some (Value.long z)) (show ((10000 : Int64) - q0) = (own_f7 q0) from (by unfold own_f7; exact ((if_pos hc1).trans rfl).symm))), N0, e0⟩ (by decide) (by decide)
  · refine own_via (fun k => XS.ifNo X0.here hx rfl (hb hby d7_5) rfl ((if0 _ _).trans (flt (mt (lw_lt _ _).mp hc1)).1) k) ?_
    show own_Go p e below s _ _ (s₁.setTop (mkF m 8 #[jv q0, .second] []))
    refine own_via (fun k => XS.lconst X0.here hx rfl (hb hby d7_8) k) ?_
    show own_Go p e below s _ _ (s₁.setTop (mkF m 9 #[jv q0, .second] [(.long 0)]))
    exact own_retL X0 hx hlk Bd.returns (hb hby d7_9) (Q := (Q7 Z q0 h0 n0)) ⟨(congrArg (fun z => some (Value.long z)) (show (0 : Int64) = (own_f7 q0) from (by unfold own_f7; exact ((if_neg hc1).trans rfl).symm))), N0, e0⟩ (by decide) (by decide)
theorem pn_0 : plainName "com/example/grant3/grant3/condition/StepBudgetSpendPinLaw" = true := by first | (simp [plainName, overriddenIn]; done) | decide +kernel
theorem pd_0 : parseMethodDescriptor "(IZ)I" = some ⟨[.int, .boolean], some .int⟩ := by decide +kernel
theorem pd_1 : parseMethodDescriptor "()V" = some ⟨[], none⟩ := by decide +kernel
theorem pd_2 : parseMethodDescriptor "()I" = some ⟨[], some .int⟩ := by decide +kernel
theorem pd_3 : parseMethodDescriptor "(I)V" = some ⟨[.int], none⟩ := by decide +kernel
theorem pd_5 : parseMethodDescriptor "(J)J" = some ⟨[.long], some .long⟩ := by decide +kernel
theorem ef_0 (m : MethodId) (x0 : Int32) (x1 : Int32) (x2 : Int32) : entryFrame m #[(.int x0), (.int x1), (.int x2)] maxLocals = mkF m 0 #[iv x0, iv x1, iv x2, .unset, .unset, .unset, .unset] [] := by first | (simp [entryFrame, mkF, argsToLocals, Value.category, maxLocals]; done) | rfl
theorem own_nn (p z : Int32) : 0 ≤ (own_f1 p z).toInt := by
  have m := c_mask p 2147483647 31 (by decide) (by decide)
  have r := (c_irem (p &&& (2147483647 : Int32)) 10002 10002 (by decide)).1 (by omega)
  rw [own_f1]; split <;> omega
theorem own_f6i (a : Int32) : (own_f6 0 a).toInt = max 0 a.toInt := by
  have e : (0 : Int32).toInt = 0 := by decide
  rw [own_f6]; split <;> rename_i h <;> rw [own_l32] at h <;> omega
theorem own_f7i (a : Int64) (h : 0 ≤ a.toInt) : (own_f7 a).toInt = max 0 (10000 - a.toInt) := by
  have e : (0 : Int64).toInt = 0 := by decide
  have e1 : (10000 : Int64).toInt = 10000 := by decide
  have s := c_lsub 10000 a; have r := rng64 (10000 - a); have ra := rng64 a
  rw [own_f7]; split <;> rename_i h <;> rw [own_l64] at h <;> omega
theorem own_s1 (a : Int32) (h : 0 ≤ a.toInt) : (own_f6 0 (10000 - a)).toInt = max 0 (10000 - a.toInt) := by
  have e1 : (10000 : Int32).toInt = 10000 := by decide
  have s := c_isub 10000 a; have r := rng32 (10000 - a); have ra := rng32 a
  rw [own_f6i]; omega
theorem own_s2 (x b : Int32) (hx : 0 ≤ x.toInt) (h : 0 ≤ b.toInt) : (own_f6 0 (x - b)).toInt = max 0 (x.toInt - b.toInt) := by
  have s := c_isub x b; have r := rng32 (x - b); have ra := rng32 b; have rx := rng32 x
  rw [own_f6i]; omega
theorem own_m83 (a : Int32) (h : 0 ≤ a.toInt) : ((own_f6 (0 : Int32) ((10000 : Int32) - a)).toInt64) = (own_f7 (a.toInt64)) := by
  rw [own_e64, c_i2l, own_f7i _ (by rw [c_i2l]; exact h), own_s1 _ h, c_i2l]
theorem own_sum (a b : Int32) : (a.toInt64 + b.toInt64).toInt = a.toInt + b.toInt := by
  have s := c_ladd a.toInt64 b.toInt64; have r := rng64 (a.toInt64 + b.toInt64); have ra := rng32 a; have rb := rng32 b
  have := c_i2l a; have := c_i2l b; omega
theorem own_m121 (a b : Int32) (ha : 0 ≤ a.toInt) (hb : 0 ≤ b.toInt) : ((own_f6 (0 : Int32) ((own_f6 (0 : Int32) ((10000 : Int32) - a)) - b)).toInt64) = (own_f7 ((a.toInt64) + (b.toInt64))) := by
  have h1 := own_s1 a ha
  rw [own_e64, c_i2l, own_f7i _ (by rw [own_sum]; omega), own_s2 _ _ (by omega) hb, own_sum]; omega
theorem own_m158 (a b : Int32) (ha : 0 ≤ a.toInt) (hb : 0 ≤ b.toInt) : ((own_f6 (0 : Int32) ((own_f6 (0 : Int32) ((own_f6 (0 : Int32) ((10000 : Int32) - a)) - b)) - (0 : Int32))).toInt64) = (own_f7 ((a.toInt64) + (b.toInt64))) := by
  have h1 := own_s1 a ha
  have h2 := own_s2 (own_f6 (0 : Int32) ((10000 : Int32) - a)) b (by omega) hb
  have e : (0 : Int32).toInt = 0 := by decide
  rw [own_e64, c_i2l, own_f7i _ (by rw [own_sum]; omega), own_s2 _ _ (by omega) (by omega), own_sum]; omega
theorem own_l83 (p0 : Int32) (p2 : Int32) (z1 : Int32) (hz1 : z1 = (if (p2 &&& (1 : Int32)) = (0 : Int32) then (0 : Int32) else (1 : Int32))) : ((own_f6 (0 : Int32) ((10000 : Int32) - (own_f1 p0 z1))).toInt64) = (own_f7 ((own_f1 p0 z1).toInt64)) := own_m83 _ (own_nn _ _)
theorem own_l121 (p0 : Int32) (p1 : Int32) (p2 : Int32) (z1 : Int32) (hz1 : z1 = (if (p2 &&& (1 : Int32)) = (0 : Int32) then (0 : Int32) else (1 : Int32))) (z5 : Int32) (hz5 : z5 = (if (p2 &&& (2 : Int32)) = (0 : Int32) then (0 : Int32) else (1 : Int32))) : ((own_f6 (0 : Int32) ((own_f6 (0 : Int32) ((10000 : Int32) - (own_f1 p0 z1))) - (own_f1 p1 z5))).toInt64) = (own_f7 (((own_f1 p0 z1).toInt64) + ((own_f1 p1 z5).toInt64))) := own_m121 _ _ (own_nn _ _) (own_nn _ _)
theorem own_l158 (p0 : Int32) (p1 : Int32) (p2 : Int32) (z1 : Int32) (hz1 : z1 = (if (p2 &&& (1 : Int32)) = (0 : Int32) then (0 : Int32) else (1 : Int32))) (z5 : Int32) (hz5 : z5 = (if (p2 &&& (2 : Int32)) = (0 : Int32) then (0 : Int32) else (1 : Int32))) : ((own_f6 (0 : Int32) ((own_f6 (0 : Int32) ((own_f6 (0 : Int32) ((10000 : Int32) - (own_f1 p0 z1))) - (own_f1 p1 z5))) - (0 : Int32))).toInt64) = (own_f7 (((own_f1 p0 z1).toInt64) + ((own_f1 p1 z5).toInt64))) := own_m158 _ _ (own_nn _ _) (own_nn _ _)
def Q0 (Z : State) (p0 : Int32) (p1 : Int32) (p2 : Int32) (h0 : Heap) (n0 : Nat) (v : Option Value) (h : Heap) (L : List Loc) : Prop := v = some (.int 1) ∧ Fr n0 L
set_option maxRecDepth 65536 in
set_option maxHeartbeats 40000000 in
theorem rm0 (l : Launch) (Z : State) (aw : Array Value) (hw : ∀ d ∈ tables_1, d.before aw Z = true) (ws : List Jvm.Cond) (p0 : Int32) (p1 : Int32) (p2 : Int32) (h0 : Heap) (n0 : Nat) (Z0 : n0 ≤ h0.size)  :
    MetFree l x (head1 (Jvm.Cond.code x code maxLocals ret :: ws) room_1) (fun a U => a = #[(.int p0), (.int p1), (.int p2)] ∧ Z.Warmed39 U.vm ∧ U.heap = h0) (fun _ _ _ _ _ => True) (fun _ U o U' => ∃ v L, o = .returned v ∧ Q0 Z p0 p1 p2 h0 n0 v U'.heap L ∧ FrameEnd U o U' L room_1.cells room_1.slots) := by
  refine MetFree.of_bodySF (plainFor_of_name pn_0) hisR ?_
  intro p e s m args below meth c s₁ Bd hml0 hP hK
  obtain ⟨rfl, hZ, hh⟩ := hP
  have hx := Bd.exec
  have hby := Bd.bytes
  have hml : c.maxLocals = 7 := hml0
  have hown : s.vm.findClass "com/example/grant3/grant3/condition/StepBudgetSpendPinLaw" = some m.cls := findClass_of_methodNamed Bd.named
  have hnm := (name_of_methodNamed Bd.named Bd.method).1
  have hlk : meth.locks = false := by first | exact BodyLoose.notSynchronized (by assumption) | exact Body.notSynchronized (by assumption)
  have X0 : Stand p l e room_1 s m #[(.int p0), (.int p1), (.int p2)] below meth c s₁ [] 0 0 := Stand.of_body Bd
  have e0 : s₁.heap = h0 := by rw [← hh, Bd.state]; rfl
  have N0 := Fr.nil n0
  refine own_start (CS := (room_1.cells, room_1.slots)) (Q := (Q0 Z p0 p1 p2 h0 n0)) (ef_0 m p0 p1 p2) ?_
  show own_Go p e below s _ _ (s₁.setTop (mkF m 0 #[iv p0, iv p1, iv p2, .unset, .unset, .unset, .unset] []))
  refine own_via (fun k => XS.iloadN X0.here hx rfl (hb hby at_0) rfl  (XS.iloadN X0.here hx rfl (hb hby at_1) rfl  (XS.iconst X0.here hx rfl (hb hby at_2) (XS.iand X0.here hx rfl (hb hby at_3) rfl k)))) ?_
  show own_Go p e below s _ _ (s₁.setTop (mkF m 4 #[iv p0, iv p1, iv p2, .unset, .unset, .unset, .unset] [(.int (p2 &&& (1 : Int32))), (.int p0)]))
  have J2 : ∀ (z1 : Int32), z1 = (if (p2 &&& (1 : Int32)) = (0 : Int32) then (0 : Int32) else (1 : Int32)) → own_Go p e below s (Q0 Z p0 p1 p2 h0 n0) (room_1.cells, room_1.slots) (s₁.setTop (mkF m 12 #[iv p0, iv p1, iv p2, .unset, .unset, .unset, .unset] [(.int z1), (.int p0)])) := by
    intro z1 hz1
    obtain ⟨_, _, ⟨T3, L3, k3, n3⟩, -, X3, ⟨Lc3, hQ3, l3, y3, z3⟩, st3⟩ := Jvm.LawKit.callS X0 hx (y := (⟨"com/example/grant3/grant3/condition/StepBudgetSpendPinLaw", "draw", "(IZ)I"⟩ : MethodName)) hown (mvT hZ (hw _ (List.mem_of_getElem? (i := 0) rfl))) (mvT hZ (hw _ (List.mem_of_getElem? (i := 1) rfl))) (mvT hZ (hw _ (List.mem_of_getElem? (i := 2) rfl))) (mvT hZ (hw _ (List.mem_of_getElem? (i := 3) rfl))) (by decide) (backOf (W := 0) (rm1 l Z aw hw [] p0 z1 h0 n0 Z0) hZ (hw _ (List.mem_of_getElem? (i := 3) rfl)) (hw _ (List.mem_of_getElem? (i := 2) rfl)) (by decide) (by decide)) (g := (mkF m 12 #[iv p0, iv p1, iv p2, .unset, .unset, .unset, .unset] [(.int z1), (.int p0)])) rfl (by rw [hml]; rfl) (argsL := [(.int p0), (.int z1)]) (rest := []) (lenOf pd_0 rfl) rfl (by show 2 * 0 + _ ≤ _; exact Nat.le_of_eq rfl) (hb hby at_12) (fun _ _ => ⟨rfl, e0, (by decide : 0 + 0 ≤ _), (by decide : 0 + 0 ≤ _)⟩)
    dsimp only [Pt.U, Pt.locs, Pt.cells, Pt.slots] at X3 l3 y3 z3 st3 hQ3
    subst l3 y3 z3
    obtain ⟨rfl, N3q, eh3⟩ := hQ3
    have N4 := Fr.app N0 N3q
    refine own_via (fun k => st3 _ k) ?_
    show own_Go p e below s _ _ (T3.setTop (mkF m 15 #[iv p0, iv p1, iv p2, .unset, .unset, .unset, .unset] [(.int (own_f1 p0 z1))]))
    refine own_via (fun k => XS.istoreN X3.here hx rfl (hb hby at_15) rfl (l' := #[iv p0, iv p1, iv p2, iv (own_f1 p0 z1), .unset, .unset, .unset]) rfl (XS.iloadN X3.here hx rfl (hb hby at_16) rfl  (XS.iloadN X3.here hx rfl (hb hby at_17) rfl  (XS.iconst X3.here hx rfl (hb hby at_18) k)))) ?_
    show own_Go p e below s _ _ (T3.setTop (mkF m 19 #[iv p0, iv p1, iv p2, iv (own_f1 p0 z1), .unset, .unset, .unset] [(.int 2), (.int p2), (.int p1)]))
    refine own_via (fun k => XS.iand X3.here hx rfl (hb hby at_19) rfl k) ?_
    show own_Go p e below s _ _ (T3.setTop (mkF m 20 #[iv p0, iv p1, iv p2, iv (own_f1 p0 z1), .unset, .unset, .unset] [(.int (p2 &&& (2 : Int32))), (.int p1)]))
    have J6 : ∀ (z5 : Int32), z5 = (if (p2 &&& (2 : Int32)) = (0 : Int32) then (0 : Int32) else (1 : Int32)) → own_Go p e below s (Q0 Z p0 p1 p2 h0 n0) (room_1.cells, room_1.slots) (T3.setTop (mkF m 28 #[iv p0, iv p1, iv p2, iv (own_f1 p0 z1), .unset, .unset, .unset] [(.int z5), (.int p1)])) := by
      intro z5 hz5
      obtain ⟨_, _, ⟨T7, L7, k7, n7⟩, -, X7, ⟨Lc7, hQ7, l7, y7, z7⟩, st7⟩ := Jvm.LawKit.callS X3 hx (y := (⟨"com/example/grant3/grant3/condition/StepBudgetSpendPinLaw", "draw", "(IZ)I"⟩ : MethodName)) hown (mvT hZ (hw _ (List.mem_of_getElem? (i := 0) rfl))) (mvT hZ (hw _ (List.mem_of_getElem? (i := 1) rfl))) (mvT hZ (hw _ (List.mem_of_getElem? (i := 2) rfl))) (mvT hZ (hw _ (List.mem_of_getElem? (i := 3) rfl))) (by decide) (backOf (W := 0) (rm1 l Z aw hw [] p1 z5 h0 n0 Z0) hZ (hw _ (List.mem_of_getElem? (i := 3) rfl)) (hw _ (List.mem_of_getElem? (i := 2) rfl)) (by decide) (by decide)) (g := (mkF m 28 #[iv p0, iv p1, iv p2, iv (own_f1 p0 z1), .unset, .unset, .unset] [(.int z5), (.int p1)])) rfl (by rw [hml]; rfl) (argsL := [(.int p1), (.int z5)]) (rest := []) (lenOf pd_0 rfl) rfl (by show 2 * 0 + _ ≤ _; exact Nat.le_of_eq rfl) (hb hby at_28) (fun _ _ => ⟨rfl, eh3, (by decide : 0 + 0 ≤ _), (by decide : 0 + 0 ≤ _)⟩)
      dsimp only [Pt.U, Pt.locs, Pt.cells, Pt.slots] at X7 l7 y7 z7 st7 hQ7
      subst l7 y7 z7
      obtain ⟨rfl, N7q, eh7⟩ := hQ7
      have N8 := Fr.app N4 N7q
      refine own_via (fun k => st7 _ k) ?_
      show own_Go p e below s _ _ (T7.setTop (mkF m 31 #[iv p0, iv p1, iv p2, iv (own_f1 p0 z1), .unset, .unset, .unset] [(.int (own_f1 p1 z5))]))
      refine own_via (fun k => XS.istore X7.here hx rfl (hb hby at_31) rfl (l' := #[iv p0, iv p1, iv p2, iv (own_f1 p0 z1), iv (own_f1 p1 z5), .unset, .unset]) rfl k) ?_
      show own_Go p e below s _ _ (T7.setTop (mkF m 33 #[iv p0, iv p1, iv p2, iv (own_f1 p0 z1), iv (own_f1 p1 z5), .unset, .unset] []))
      obtain ⟨T9, h9, X9, e9, E9, A9, D9, -, st9⟩ := newO X7 hx hZ hown (hw _ (List.mem_of_getElem? (i := 5) rfl)) (hw _ (List.mem_of_getElem? (i := 6) rfl)) (hw _ (List.mem_of_getElem? (i := 7) rfl)) eh7 (g := (mkF m 33 #[iv p0, iv p1, iv p2, iv (own_f1 p0 z1), iv (own_f1 p1 z5), .unset, .unset] [])) rfl (hb hby at_33) (by decide) (by decide)
      obtain ⟨b9, g9⟩ : ∃ z, z = h0.size := ⟨_, rfl⟩
      rw [← g9] at A9 D9 st9
      refine own_via (fun k => st9 _ k) ?_
      show own_Go p e below s _ _ (T9.setTop (mkF m 36 #[iv p0, iv p1, iv p2, iv (own_f1 p0 z1), iv (own_f1 p1 z5), .unset, .unset] [(.ref b9)]))
      have g10 : n0 ≤ b9 := Nat.le_trans Z0 (Nat.le_of_eq g9.symm)
      have Z11 : n0 ≤ h9.size := Nat.le_trans Z0 E9.1
      have B12 : Fld Z h9 b9 "com/example/grant3/grant3/condition/StepBudget" "left" "I" (.int 0) := D9 (Or.inl (hw _ (List.mem_of_getElem? (i := 15) rfl))) (ty := .int) (by decide)
      refine own_via (fun k => XS.dup X9.here hx rfl (hb hby at_36) rfl rfl k) ?_
      show own_Go p e below s _ _ (T9.setTop (mkF m 37 #[iv p0, iv p1, iv p2, iv (own_f1 p0 z1), iv (own_f1 p1 z5), .unset, .unset] [(.ref b9), (.ref b9)]))
      obtain ⟨_, _, ⟨T13, L13, k13, n13⟩, -, X13, ⟨Lc13, hQ13, l13, y13, z13⟩, st13⟩ := X9.specialBack hx (y := (⟨"com/example/grant3/grant3/condition/StepBudget", "<init>", "()V"⟩ : MethodName)) rfl hown (mvT hZ (hw _ (List.mem_of_getElem? (i := 8) rfl))) (mvT hZ (hw _ (List.mem_of_getElem? (i := 9) rfl))) (mvT hZ (hw _ (List.mem_of_getElem? (i := 10) rfl))) (by decide) (backOf (W := 1) (rm2 l Z aw hw [] b9 h9 n0 Z11 B12 A9 g10) hZ (hw _ (List.mem_of_getElem? (i := 10) rfl)) (hw _ (List.mem_of_getElem? (i := 7) rfl)) (by decide) (by decide)) (g := (mkF m 37 #[iv p0, iv p1, iv p2, iv (own_f1 p0 z1), iv (own_f1 p1 z5), .unset, .unset] [(.ref b9), (.ref b9)])) rfl (by rw [hml]; rfl) (Steps.refl _) (a := b9) (argsL := []) (rest := [(.ref b9)]) (lenOf pd_1 rfl) rfl (by show 2 * 0 + _ ≤ _; exact Nat.le_of_eq rfl) (hb hby at_37) (fun _ _ => ⟨rfl, e9, (by decide : 1 + 0 ≤ _), (by decide : 1 + 0 ≤ _)⟩)
      dsimp only [Pt.U, Pt.locs, Pt.cells, Pt.slots] at X13 l13 y13 z13 st13 hQ13
      subst l13 y13 z13
      obtain ⟨rfl, N13q, K13, B14⟩ := hQ13
      have N15 := Fr.app N8 N13q
      have B16 := A9.keep K13
      have Z17 : n0 ≤ T13.heap.size := Nat.le_trans Z11 K13.1
      refine own_via (fun k => st13.trans k) ?_
      show own_Go p e below s _ _ (T13.setTop (mkF m 40 #[iv p0, iv p1, iv p2, iv (own_f1 p0 z1), iv (own_f1 p1 z5), .unset, .unset] [(.ref b9)]))
      refine own_via (fun k => XS.astore X13.here hx rfl (hb hby at_40) rfl rfl (l' := #[iv p0, iv p1, iv p2, iv (own_f1 p0 z1), iv (own_f1 p1 z5), rv b9, .unset]) rfl (XS.aload X13.here hx rfl (hb hby at_42) rfl rfl  k)) ?_
      show own_Go p e below s _ _ (T13.setTop (mkF m 44 #[iv p0, iv p1, iv p2, iv (own_f1 p0 z1), iv (own_f1 p1 z5), rv b9, .unset] [(.ref b9)]))
      obtain ⟨cq18, kq18, q18a, q18b, q18c⟩ := isOf hZ rfl B16
      obtain ⟨_, _, ⟨T18, L18, k18, n18⟩, -, X18, ⟨Lc18, hQ18, l18, y18, z18⟩, st18⟩ := X13.virtualBack hx (y := (⟨"com/example/grant3/grant3/condition/StepBudget", "left", "()I"⟩ : MethodName)) (z := (⟨"com/example/grant3/grant3/condition/StepBudget", "left", "()I"⟩ : MethodName)) hown (mvT hZ (hw _ (List.mem_of_getElem? (i := 16) rfl))) (mvT hZ (hw _ (List.mem_of_getElem? (i := 17) rfl))) (notFace_of_selects (args := #[]) (mvT hZ (hw _ (List.mem_of_getElem? (i := 19) rfl)))) (mvT hZ (hw _ (List.mem_of_getElem? (i := 19) rfl))) (mvT hZ (hw _ (List.mem_of_getElem? (i := 18) rfl))) (by decide) (backOf (W := 0) (rm4 l Z aw hw [] b9 (10000 : Int32) T13.heap n0 Z17 B14) hZ (hw _ (List.mem_of_getElem? (i := 20) rfl)) (hw _ (List.mem_of_getElem? (i := 7) rfl)) (by decide) (by decide)) q18a q18c (g := (mkF m 44 #[iv p0, iv p1, iv p2, iv (own_f1 p0 z1), iv (own_f1 p1 z5), rv b9, .unset] [(.ref b9)])) rfl (by rw [hml]; rfl) (Steps.refl _) (argsL := []) (rest := []) (lenOf pd_2 rfl) rfl (by show 2 * 0 + _ ≤ _; exact Nat.le_of_eq rfl) (hb hby at_44) (fun _ _ => ⟨rfl, rfl, (by decide : 1 + 0 ≤ _), (by decide : 1 + 0 ≤ _)⟩)
      dsimp only [Pt.U, Pt.locs, Pt.cells, Pt.slots] at X18 l18 y18 z18 st18 hQ18
      subst l18 y18 z18
      obtain ⟨rfl, N18q, eh18⟩ := hQ18
      have N19 := Fr.app N15 N18q
      refine own_via (fun k => st18.trans k) ?_
      show own_Go p e below s _ _ (T18.setTop (mkF m 47 #[iv p0, iv p1, iv p2, iv (own_f1 p0 z1), iv (own_f1 p1 z5), rv b9, .unset] [(.int 10000)]))
      refine own_via (fun k => XS.sipush X18.here hx rfl (hb hby at_47) k) ?_
      show own_Go p e below s _ _ (T18.setTop (mkF m 50 #[iv p0, iv p1, iv p2, iv (own_f1 p0 z1), iv (own_f1 p1 z5), rv b9, .unset] [(.int 10000), (.int 10000)]))
      refine own_via (fun k => XS.icmpNo X18.here hx rfl (hb hby at_50) rfl (by decide) k) ?_
      show own_Go p e below s _ _ (T18.setTop (mkF m 53 #[iv p0, iv p1, iv p2, iv (own_f1 p0 z1), iv (own_f1 p1 z5), rv b9, .unset] []))
      refine own_via (fun k => XS.iconst X18.here hx rfl (hb hby at_53) (XS.goto X18.here hx rfl (pc0 := 54) (pc' := 58) rfl (hb hby at_54) (by decide) (by decide) (XS.istore X18.here hx rfl (hb hby at_58) rfl (l' := #[iv p0, iv p1, iv p2, iv (own_f1 p0 z1), iv (own_f1 p1 z5), rv b9, iv 1]) rfl (XS.aload X18.here hx rfl (hb hby at_60) rfl rfl  k)))) ?_
      show own_Go p e below s _ _ (T18.setTop (mkF m 62 #[iv p0, iv p1, iv p2, iv (own_f1 p0 z1), iv (own_f1 p1 z5), rv b9, iv 1] [(.ref b9)]))
      refine own_via (fun k => XS.iloadN X18.here hx rfl (hb hby at_62) rfl  k) ?_
      show own_Go p e below s _ _ (T18.setTop (mkF m 63 #[iv p0, iv p1, iv p2, iv (own_f1 p0 z1), iv (own_f1 p1 z5), rv b9, iv 1] [(.int (own_f1 p0 z1)), (.ref b9)]))
      obtain ⟨cq20, kq20, q20a, q20b, q20c⟩ := isOf hZ eh18 B16
      obtain ⟨_, _, ⟨T20, L20, k20, n20⟩, -, X20, ⟨Lc20, hQ20, l20, y20, z20⟩, st20⟩ := X18.virtualBack hx (y := (⟨"com/example/grant3/grant3/condition/StepBudget", "spend", "(I)V"⟩ : MethodName)) (z := (⟨"com/example/grant3/grant3/condition/StepBudget", "spend", "(I)V"⟩ : MethodName)) hown (mvT hZ (hw _ (List.mem_of_getElem? (i := 21) rfl))) (mvT hZ (hw _ (List.mem_of_getElem? (i := 22) rfl))) (notFace_of_selects (args := #[]) (mvT hZ (hw _ (List.mem_of_getElem? (i := 24) rfl)))) (mvT hZ (hw _ (List.mem_of_getElem? (i := 24) rfl))) (mvT hZ (hw _ (List.mem_of_getElem? (i := 23) rfl))) (by decide) (backOf (W := 0) (rm5 l Z aw hw [] b9 (own_f1 p0 z1) (10000 : Int32) T13.heap n0 Z17 B14 B16 g10) hZ (hw _ (List.mem_of_getElem? (i := 25) rfl)) (hw _ (List.mem_of_getElem? (i := 7) rfl)) (by decide) (by decide)) q20a q20c (g := (mkF m 63 #[iv p0, iv p1, iv p2, iv (own_f1 p0 z1), iv (own_f1 p1 z5), rv b9, iv 1] [(.int (own_f1 p0 z1)), (.ref b9)])) rfl (by rw [hml]; rfl) (Steps.refl _) (argsL := [(.int (own_f1 p0 z1))]) (rest := []) (lenOf pd_3 rfl) rfl (by show 2 * 0 + _ ≤ _; exact Nat.le_of_eq rfl) (hb hby at_63) (fun _ _ => ⟨rfl, eh18, (by decide : 1 + 0 ≤ _), (by decide : 1 + 0 ≤ _)⟩)
      dsimp only [Pt.U, Pt.locs, Pt.cells, Pt.slots] at X20 l20 y20 z20 st20 hQ20
      subst l20 y20 z20
      obtain ⟨rfl, N20q, K20, B21⟩ := hQ20
      have N22 := Fr.app N19 N20q
      have B23 := B16.keep K20
      have Z24 : n0 ≤ T20.heap.size := Nat.le_trans Z17 K20.1
      refine own_via (fun k => st20.trans k) ?_
      show own_Go p e below s _ _ (T20.setTop (mkF m 66 #[iv p0, iv p1, iv p2, iv (own_f1 p0 z1), iv (own_f1 p1 z5), rv b9, iv 1] []))
      refine own_via (fun k => XS.iload X20.here hx rfl (hb hby at_66) rfl  k) ?_
      show own_Go p e below s _ _ (T20.setTop (mkF m 68 #[iv p0, iv p1, iv p2, iv (own_f1 p0 z1), iv (own_f1 p1 z5), rv b9, iv 1] [(.int 1)]))
      refine own_via (fun k => XS.ifNo X20.here hx rfl (hb hby at_68) rfl (by decide) k) ?_
      show own_Go p e below s _ _ (T20.setTop (mkF m 71 #[iv p0, iv p1, iv p2, iv (own_f1 p0 z1), iv (own_f1 p1 z5), rv b9, iv 1] []))
      refine own_via (fun k => XS.aload X20.here hx rfl (hb hby at_71) rfl rfl  k) ?_
      show own_Go p e below s _ _ (T20.setTop (mkF m 73 #[iv p0, iv p1, iv p2, iv (own_f1 p0 z1), iv (own_f1 p1 z5), rv b9, iv 1] [(.ref b9)]))
      obtain ⟨cq25, kq25, q25a, q25b, q25c⟩ := isOf hZ rfl B23
      obtain ⟨_, _, ⟨T25, L25, k25, n25⟩, -, X25, ⟨Lc25, hQ25, l25, y25, z25⟩, st25⟩ := X20.virtualBack hx (y := (⟨"com/example/grant3/grant3/condition/StepBudget", "left", "()I"⟩ : MethodName)) (z := (⟨"com/example/grant3/grant3/condition/StepBudget", "left", "()I"⟩ : MethodName)) hown (mvT hZ (hw _ (List.mem_of_getElem? (i := 16) rfl))) (mvT hZ (hw _ (List.mem_of_getElem? (i := 17) rfl))) (notFace_of_selects (args := #[]) (mvT hZ (hw _ (List.mem_of_getElem? (i := 19) rfl)))) (mvT hZ (hw _ (List.mem_of_getElem? (i := 19) rfl))) (mvT hZ (hw _ (List.mem_of_getElem? (i := 18) rfl))) (by decide) (backOf (W := 0) (rm4 l Z aw hw [] b9 (own_f6 (0 : Int32) ((10000 : Int32) - (own_f1 p0 z1))) T20.heap n0 Z24 B21) hZ (hw _ (List.mem_of_getElem? (i := 20) rfl)) (hw _ (List.mem_of_getElem? (i := 7) rfl)) (by decide) (by decide)) q25a q25c (g := (mkF m 73 #[iv p0, iv p1, iv p2, iv (own_f1 p0 z1), iv (own_f1 p1 z5), rv b9, iv 1] [(.ref b9)])) rfl (by rw [hml]; rfl) (Steps.refl _) (argsL := []) (rest := []) (lenOf pd_2 rfl) rfl (by show 2 * 0 + _ ≤ _; exact Nat.le_of_eq rfl) (hb hby at_73) (fun _ _ => ⟨rfl, rfl, (by decide : 1 + 0 ≤ _), (by decide : 1 + 0 ≤ _)⟩)
      dsimp only [Pt.U, Pt.locs, Pt.cells, Pt.slots] at X25 l25 y25 z25 st25 hQ25
      subst l25 y25 z25
      obtain ⟨rfl, N25q, eh25⟩ := hQ25
      have N26 := Fr.app N22 N25q
      refine own_via (fun k => st25.trans k) ?_
      show own_Go p e below s _ _ (T25.setTop (mkF m 76 #[iv p0, iv p1, iv p2, iv (own_f1 p0 z1), iv (own_f1 p1 z5), rv b9, iv 1] [(.int (own_f6 (0 : Int32) ((10000 : Int32) - (own_f1 p0 z1))))]))
      refine own_via (fun k => XS.i2l X25.here hx rfl (hb hby at_76) rfl (XS.iloadN X25.here hx rfl (hb hby at_77) rfl  (XS.i2l X25.here hx rfl (hb hby at_78) rfl k))) ?_
      show own_Go p e below s _ _ (T25.setTop (mkF m 79 #[iv p0, iv p1, iv p2, iv (own_f1 p0 z1), iv (own_f1 p1 z5), rv b9, iv 1] [(.long ((own_f1 p0 z1).toInt64)), (.long ((own_f6 (0 : Int32) ((10000 : Int32) - (own_f1 p0 z1))).toInt64))]))
      obtain ⟨_, _, ⟨T27, L27, k27, n27⟩, -, X27, ⟨Lc27, hQ27, l27, y27, z27⟩, st27⟩ := Jvm.LawKit.callS X25 hx (y := (⟨"com/example/grant3/grant3/condition/StepBudgetSpendPinLaw", "expected", "(J)J"⟩ : MethodName)) hown (mvT hZ (hw _ (List.mem_of_getElem? (i := 30) rfl))) (mvT hZ (hw _ (List.mem_of_getElem? (i := 31) rfl))) (mvT hZ (hw _ (List.mem_of_getElem? (i := 2) rfl))) (mvT hZ (hw _ (List.mem_of_getElem? (i := 32) rfl))) (by decide) (backOf (W := 2) (rm7 l Z aw hw [] ((own_f1 p0 z1).toInt64) T20.heap n0 Z24) hZ (hw _ (List.mem_of_getElem? (i := 32) rfl)) (hw _ (List.mem_of_getElem? (i := 2) rfl)) (by decide) (by decide)) (g := (mkF m 79 #[iv p0, iv p1, iv p2, iv (own_f1 p0 z1), iv (own_f1 p1 z5), rv b9, iv 1] [(.long ((own_f1 p0 z1).toInt64)), (.long ((own_f6 (0 : Int32) ((10000 : Int32) - (own_f1 p0 z1))).toInt64))])) rfl (by rw [hml]; rfl) (argsL := [(.long ((own_f1 p0 z1).toInt64))]) (rest := [(.long ((own_f6 (0 : Int32) ((10000 : Int32) - (own_f1 p0 z1))).toInt64))]) (lenOf pd_5 rfl) rfl (by show 2 * 0 + _ ≤ _; exact Nat.le_of_eq rfl) (hb hby at_79) (fun _ _ => ⟨rfl, eh25, (by decide : 1 + 0 ≤ _), (by decide : 1 + 0 ≤ _)⟩)
      dsimp only [Pt.U, Pt.locs, Pt.cells, Pt.slots] at X27 l27 y27 z27 st27 hQ27
      subst l27 y27 z27
      obtain ⟨rfl, N27q, eh27⟩ := hQ27
      have N28 := Fr.app N26 N27q
      refine own_via (fun k => st27 _ k) ?_
      show own_Go p e below s _ _ (T27.setTop (mkF m 82 #[iv p0, iv p1, iv p2, iv (own_f1 p0 z1), iv (own_f1 p1 z5), rv b9, iv 1] [(.long (own_f7 ((own_f1 p0 z1).toInt64))), (.long ((own_f6 (0 : Int32) ((10000 : Int32) - (own_f1 p0 z1))).toInt64))]))
      refine own_via (fun k => XS.lcmp X27.here hx rfl (hb hby at_82) rfl k) ?_
      show own_Go p e below s _ _ (T27.setTop (mkF m 83 #[iv p0, iv p1, iv p2, iv (own_f1 p0 z1), iv (own_f1 p1 z5), rv b9, iv 1] [(.int (lcmpW ((own_f6 (0 : Int32) ((10000 : Int32) - (own_f1 p0 z1))).toInt64) (own_f7 ((own_f1 p0 z1).toInt64))))]))
      refine own_via (fun k => XS.ifNo X27.here hx rfl (hb hby at_83) rfl ((if0 _ _).trans (teq ((lw_eq _ _).mpr (own_l83 p0 p2 z1 hz1))).2) k) ?_
      show own_Go p e below s _ _ (T27.setTop (mkF m 86 #[iv p0, iv p1, iv p2, iv (own_f1 p0 z1), iv (own_f1 p1 z5), rv b9, iv 1] []))
      refine own_via (fun k => XS.iconst X27.here hx rfl (hb hby at_86) (XS.goto X27.here hx rfl (pc0 := 87) (pc' := 91) rfl (hb hby at_87) (by decide) (by decide) (XS.istore X27.here hx rfl (hb hby at_91) rfl (l' := #[iv p0, iv p1, iv p2, iv (own_f1 p0 z1), iv (own_f1 p1 z5), rv b9, iv 1]) rfl (XS.aload X27.here hx rfl (hb hby at_93) rfl rfl  k)))) ?_
      show own_Go p e below s _ _ (T27.setTop (mkF m 95 #[iv p0, iv p1, iv p2, iv (own_f1 p0 z1), iv (own_f1 p1 z5), rv b9, iv 1] [(.ref b9)]))
      refine own_via (fun k => XS.iload X27.here hx rfl (hb hby at_95) rfl  k) ?_
      show own_Go p e below s _ _ (T27.setTop (mkF m 97 #[iv p0, iv p1, iv p2, iv (own_f1 p0 z1), iv (own_f1 p1 z5), rv b9, iv 1] [(.int (own_f1 p1 z5)), (.ref b9)]))
      obtain ⟨cq29, kq29, q29a, q29b, q29c⟩ := isOf hZ eh27 B23
      obtain ⟨_, _, ⟨T29, L29, k29, n29⟩, -, X29, ⟨Lc29, hQ29, l29, y29, z29⟩, st29⟩ := X27.virtualBack hx (y := (⟨"com/example/grant3/grant3/condition/StepBudget", "spend", "(I)V"⟩ : MethodName)) (z := (⟨"com/example/grant3/grant3/condition/StepBudget", "spend", "(I)V"⟩ : MethodName)) hown (mvT hZ (hw _ (List.mem_of_getElem? (i := 21) rfl))) (mvT hZ (hw _ (List.mem_of_getElem? (i := 22) rfl))) (notFace_of_selects (args := #[]) (mvT hZ (hw _ (List.mem_of_getElem? (i := 24) rfl)))) (mvT hZ (hw _ (List.mem_of_getElem? (i := 24) rfl))) (mvT hZ (hw _ (List.mem_of_getElem? (i := 23) rfl))) (by decide) (backOf (W := 0) (rm5 l Z aw hw [] b9 (own_f1 p1 z5) (own_f6 (0 : Int32) ((10000 : Int32) - (own_f1 p0 z1))) T20.heap n0 Z24 B21 B23 g10) hZ (hw _ (List.mem_of_getElem? (i := 25) rfl)) (hw _ (List.mem_of_getElem? (i := 7) rfl)) (by decide) (by decide)) q29a q29c (g := (mkF m 97 #[iv p0, iv p1, iv p2, iv (own_f1 p0 z1), iv (own_f1 p1 z5), rv b9, iv 1] [(.int (own_f1 p1 z5)), (.ref b9)])) rfl (by rw [hml]; rfl) (Steps.refl _) (argsL := [(.int (own_f1 p1 z5))]) (rest := []) (lenOf pd_3 rfl) rfl (by show 2 * 0 + _ ≤ _; exact Nat.le_of_eq rfl) (hb hby at_97) (fun _ _ => ⟨rfl, eh27, (by decide : 1 + 0 ≤ _), (by decide : 1 + 0 ≤ _)⟩)
      dsimp only [Pt.U, Pt.locs, Pt.cells, Pt.slots] at X29 l29 y29 z29 st29 hQ29
      subst l29 y29 z29
      obtain ⟨rfl, N29q, K29, B30⟩ := hQ29
      have N31 := Fr.app N28 N29q
      have B32 := B23.keep K29
      have Z33 : n0 ≤ T29.heap.size := Nat.le_trans Z24 K29.1
      refine own_via (fun k => st29.trans k) ?_
      show own_Go p e below s _ _ (T29.setTop (mkF m 100 #[iv p0, iv p1, iv p2, iv (own_f1 p0 z1), iv (own_f1 p1 z5), rv b9, iv 1] []))
      refine own_via (fun k => XS.iload X29.here hx rfl (hb hby at_100) rfl  k) ?_
      show own_Go p e below s _ _ (T29.setTop (mkF m 102 #[iv p0, iv p1, iv p2, iv (own_f1 p0 z1), iv (own_f1 p1 z5), rv b9, iv 1] [(.int 1)]))
      refine own_via (fun k => XS.ifNo X29.here hx rfl (hb hby at_102) rfl (by decide) k) ?_
      show own_Go p e below s _ _ (T29.setTop (mkF m 105 #[iv p0, iv p1, iv p2, iv (own_f1 p0 z1), iv (own_f1 p1 z5), rv b9, iv 1] []))
      refine own_via (fun k => XS.aload X29.here hx rfl (hb hby at_105) rfl rfl  k) ?_
      show own_Go p e below s _ _ (T29.setTop (mkF m 107 #[iv p0, iv p1, iv p2, iv (own_f1 p0 z1), iv (own_f1 p1 z5), rv b9, iv 1] [(.ref b9)]))
      obtain ⟨cq34, kq34, q34a, q34b, q34c⟩ := isOf hZ rfl B32
      obtain ⟨_, _, ⟨T34, L34, k34, n34⟩, -, X34, ⟨Lc34, hQ34, l34, y34, z34⟩, st34⟩ := X29.virtualBack hx (y := (⟨"com/example/grant3/grant3/condition/StepBudget", "left", "()I"⟩ : MethodName)) (z := (⟨"com/example/grant3/grant3/condition/StepBudget", "left", "()I"⟩ : MethodName)) hown (mvT hZ (hw _ (List.mem_of_getElem? (i := 16) rfl))) (mvT hZ (hw _ (List.mem_of_getElem? (i := 17) rfl))) (notFace_of_selects (args := #[]) (mvT hZ (hw _ (List.mem_of_getElem? (i := 19) rfl)))) (mvT hZ (hw _ (List.mem_of_getElem? (i := 19) rfl))) (mvT hZ (hw _ (List.mem_of_getElem? (i := 18) rfl))) (by decide) (backOf (W := 0) (rm4 l Z aw hw [] b9 (own_f6 (0 : Int32) ((own_f6 (0 : Int32) ((10000 : Int32) - (own_f1 p0 z1))) - (own_f1 p1 z5))) T29.heap n0 Z33 B30) hZ (hw _ (List.mem_of_getElem? (i := 20) rfl)) (hw _ (List.mem_of_getElem? (i := 7) rfl)) (by decide) (by decide)) q34a q34c (g := (mkF m 107 #[iv p0, iv p1, iv p2, iv (own_f1 p0 z1), iv (own_f1 p1 z5), rv b9, iv 1] [(.ref b9)])) rfl (by rw [hml]; rfl) (Steps.refl _) (argsL := []) (rest := []) (lenOf pd_2 rfl) rfl (by show 2 * 0 + _ ≤ _; exact Nat.le_of_eq rfl) (hb hby at_107) (fun _ _ => ⟨rfl, rfl, (by decide : 1 + 0 ≤ _), (by decide : 1 + 0 ≤ _)⟩)
      dsimp only [Pt.U, Pt.locs, Pt.cells, Pt.slots] at X34 l34 y34 z34 st34 hQ34
      subst l34 y34 z34
      obtain ⟨rfl, N34q, eh34⟩ := hQ34
      have N35 := Fr.app N31 N34q
      refine own_via (fun k => st34.trans k) ?_
      show own_Go p e below s _ _ (T34.setTop (mkF m 110 #[iv p0, iv p1, iv p2, iv (own_f1 p0 z1), iv (own_f1 p1 z5), rv b9, iv 1] [(.int (own_f6 (0 : Int32) ((own_f6 (0 : Int32) ((10000 : Int32) - (own_f1 p0 z1))) - (own_f1 p1 z5))))]))
      refine own_via (fun k => XS.i2l X34.here hx rfl (hb hby at_110) rfl (XS.iloadN X34.here hx rfl (hb hby at_111) rfl  (XS.i2l X34.here hx rfl (hb hby at_112) rfl (XS.iload X34.here hx rfl (hb hby at_113) rfl  k)))) ?_
      show own_Go p e below s _ _ (T34.setTop (mkF m 115 #[iv p0, iv p1, iv p2, iv (own_f1 p0 z1), iv (own_f1 p1 z5), rv b9, iv 1] [(.int (own_f1 p1 z5)), (.long ((own_f1 p0 z1).toInt64)), (.long ((own_f6 (0 : Int32) ((own_f6 (0 : Int32) ((10000 : Int32) - (own_f1 p0 z1))) - (own_f1 p1 z5))).toInt64))]))
      refine own_via (fun k => XS.i2l X34.here hx rfl (hb hby at_115) rfl (XS.ladd X34.here hx rfl (hb hby at_116) rfl k)) ?_
      show own_Go p e below s _ _ (T34.setTop (mkF m 117 #[iv p0, iv p1, iv p2, iv (own_f1 p0 z1), iv (own_f1 p1 z5), rv b9, iv 1] [(.long (((own_f1 p0 z1).toInt64) + ((own_f1 p1 z5).toInt64))), (.long ((own_f6 (0 : Int32) ((own_f6 (0 : Int32) ((10000 : Int32) - (own_f1 p0 z1))) - (own_f1 p1 z5))).toInt64))]))
      obtain ⟨_, _, ⟨T36, L36, k36, n36⟩, -, X36, ⟨Lc36, hQ36, l36, y36, z36⟩, st36⟩ := Jvm.LawKit.callS X34 hx (y := (⟨"com/example/grant3/grant3/condition/StepBudgetSpendPinLaw", "expected", "(J)J"⟩ : MethodName)) hown (mvT hZ (hw _ (List.mem_of_getElem? (i := 30) rfl))) (mvT hZ (hw _ (List.mem_of_getElem? (i := 31) rfl))) (mvT hZ (hw _ (List.mem_of_getElem? (i := 2) rfl))) (mvT hZ (hw _ (List.mem_of_getElem? (i := 32) rfl))) (by decide) (backOf (W := 2) (rm7 l Z aw hw [] (((own_f1 p0 z1).toInt64) + ((own_f1 p1 z5).toInt64)) T29.heap n0 Z33) hZ (hw _ (List.mem_of_getElem? (i := 32) rfl)) (hw _ (List.mem_of_getElem? (i := 2) rfl)) (by decide) (by decide)) (g := (mkF m 117 #[iv p0, iv p1, iv p2, iv (own_f1 p0 z1), iv (own_f1 p1 z5), rv b9, iv 1] [(.long (((own_f1 p0 z1).toInt64) + ((own_f1 p1 z5).toInt64))), (.long ((own_f6 (0 : Int32) ((own_f6 (0 : Int32) ((10000 : Int32) - (own_f1 p0 z1))) - (own_f1 p1 z5))).toInt64))])) rfl (by rw [hml]; rfl) (argsL := [(.long (((own_f1 p0 z1).toInt64) + ((own_f1 p1 z5).toInt64)))]) (rest := [(.long ((own_f6 (0 : Int32) ((own_f6 (0 : Int32) ((10000 : Int32) - (own_f1 p0 z1))) - (own_f1 p1 z5))).toInt64))]) (lenOf pd_5 rfl) rfl (by show 2 * 0 + _ ≤ _; exact Nat.le_of_eq rfl) (hb hby at_117) (fun _ _ => ⟨rfl, eh34, (by decide : 1 + 0 ≤ _), (by decide : 1 + 0 ≤ _)⟩)
      dsimp only [Pt.U, Pt.locs, Pt.cells, Pt.slots] at X36 l36 y36 z36 st36 hQ36
      subst l36 y36 z36
      obtain ⟨rfl, N36q, eh36⟩ := hQ36
      have N37 := Fr.app N35 N36q
      refine own_via (fun k => st36 _ k) ?_
      show own_Go p e below s _ _ (T36.setTop (mkF m 120 #[iv p0, iv p1, iv p2, iv (own_f1 p0 z1), iv (own_f1 p1 z5), rv b9, iv 1] [(.long (own_f7 (((own_f1 p0 z1).toInt64) + ((own_f1 p1 z5).toInt64)))), (.long ((own_f6 (0 : Int32) ((own_f6 (0 : Int32) ((10000 : Int32) - (own_f1 p0 z1))) - (own_f1 p1 z5))).toInt64))]))
      refine own_via (fun k => XS.lcmp X36.here hx rfl (hb hby at_120) rfl k) ?_
      show own_Go p e below s _ _ (T36.setTop (mkF m 121 #[iv p0, iv p1, iv p2, iv (own_f1 p0 z1), iv (own_f1 p1 z5), rv b9, iv 1] [(.int (lcmpW ((own_f6 (0 : Int32) ((own_f6 (0 : Int32) ((10000 : Int32) - (own_f1 p0 z1))) - (own_f1 p1 z5))).toInt64) (own_f7 (((own_f1 p0 z1).toInt64) + ((own_f1 p1 z5).toInt64)))))]))
      refine own_via (fun k => XS.ifNo X36.here hx rfl (hb hby at_121) rfl ((if0 _ _).trans (teq ((lw_eq _ _).mpr (own_l121 p0 p1 p2 z1 hz1 z5 hz5))).2) k) ?_
      show own_Go p e below s _ _ (T36.setTop (mkF m 124 #[iv p0, iv p1, iv p2, iv (own_f1 p0 z1), iv (own_f1 p1 z5), rv b9, iv 1] []))
      refine own_via (fun k => XS.iconst X36.here hx rfl (hb hby at_124) (XS.goto X36.here hx rfl (pc0 := 125) (pc' := 129) rfl (hb hby at_125) (by decide) (by decide) (XS.istore X36.here hx rfl (hb hby at_129) rfl (l' := #[iv p0, iv p1, iv p2, iv (own_f1 p0 z1), iv (own_f1 p1 z5), rv b9, iv 1]) rfl (XS.aload X36.here hx rfl (hb hby at_131) rfl rfl  k)))) ?_
      show own_Go p e below s _ _ (T36.setTop (mkF m 133 #[iv p0, iv p1, iv p2, iv (own_f1 p0 z1), iv (own_f1 p1 z5), rv b9, iv 1] [(.ref b9)]))
      refine own_via (fun k => XS.iconst X36.here hx rfl (hb hby at_133) k) ?_
      show own_Go p e below s _ _ (T36.setTop (mkF m 134 #[iv p0, iv p1, iv p2, iv (own_f1 p0 z1), iv (own_f1 p1 z5), rv b9, iv 1] [(.int 0), (.ref b9)]))
      obtain ⟨cq38, kq38, q38a, q38b, q38c⟩ := isOf hZ eh36 B32
      obtain ⟨_, _, ⟨T38, L38, k38, n38⟩, -, X38, ⟨Lc38, hQ38, l38, y38, z38⟩, st38⟩ := X36.virtualBack hx (y := (⟨"com/example/grant3/grant3/condition/StepBudget", "spend", "(I)V"⟩ : MethodName)) (z := (⟨"com/example/grant3/grant3/condition/StepBudget", "spend", "(I)V"⟩ : MethodName)) hown (mvT hZ (hw _ (List.mem_of_getElem? (i := 21) rfl))) (mvT hZ (hw _ (List.mem_of_getElem? (i := 22) rfl))) (notFace_of_selects (args := #[]) (mvT hZ (hw _ (List.mem_of_getElem? (i := 24) rfl)))) (mvT hZ (hw _ (List.mem_of_getElem? (i := 24) rfl))) (mvT hZ (hw _ (List.mem_of_getElem? (i := 23) rfl))) (by decide) (backOf (W := 0) (rm5 l Z aw hw [] b9 (0 : Int32) (own_f6 (0 : Int32) ((own_f6 (0 : Int32) ((10000 : Int32) - (own_f1 p0 z1))) - (own_f1 p1 z5))) T29.heap n0 Z33 B30 B32 g10) hZ (hw _ (List.mem_of_getElem? (i := 25) rfl)) (hw _ (List.mem_of_getElem? (i := 7) rfl)) (by decide) (by decide)) q38a q38c (g := (mkF m 134 #[iv p0, iv p1, iv p2, iv (own_f1 p0 z1), iv (own_f1 p1 z5), rv b9, iv 1] [(.int 0), (.ref b9)])) rfl (by rw [hml]; rfl) (Steps.refl _) (argsL := [(.int 0)]) (rest := []) (lenOf pd_3 rfl) rfl (by show 2 * 0 + _ ≤ _; exact Nat.le_of_eq rfl) (hb hby at_134) (fun _ _ => ⟨rfl, eh36, (by decide : 1 + 0 ≤ _), (by decide : 1 + 0 ≤ _)⟩)
      dsimp only [Pt.U, Pt.locs, Pt.cells, Pt.slots] at X38 l38 y38 z38 st38 hQ38
      subst l38 y38 z38
      obtain ⟨rfl, N38q, K38, B39⟩ := hQ38
      have N40 := Fr.app N37 N38q
      have B41 := B32.keep K38
      have Z42 : n0 ≤ T38.heap.size := Nat.le_trans Z33 K38.1
      refine own_via (fun k => st38.trans k) ?_
      show own_Go p e below s _ _ (T38.setTop (mkF m 137 #[iv p0, iv p1, iv p2, iv (own_f1 p0 z1), iv (own_f1 p1 z5), rv b9, iv 1] []))
      refine own_via (fun k => XS.iload X38.here hx rfl (hb hby at_137) rfl  k) ?_
      show own_Go p e below s _ _ (T38.setTop (mkF m 139 #[iv p0, iv p1, iv p2, iv (own_f1 p0 z1), iv (own_f1 p1 z5), rv b9, iv 1] [(.int 1)]))
      refine own_via (fun k => XS.ifNo X38.here hx rfl (hb hby at_139) rfl (by decide) k) ?_
      show own_Go p e below s _ _ (T38.setTop (mkF m 142 #[iv p0, iv p1, iv p2, iv (own_f1 p0 z1), iv (own_f1 p1 z5), rv b9, iv 1] []))
      refine own_via (fun k => XS.aload X38.here hx rfl (hb hby at_142) rfl rfl  k) ?_
      show own_Go p e below s _ _ (T38.setTop (mkF m 144 #[iv p0, iv p1, iv p2, iv (own_f1 p0 z1), iv (own_f1 p1 z5), rv b9, iv 1] [(.ref b9)]))
      obtain ⟨cq43, kq43, q43a, q43b, q43c⟩ := isOf hZ rfl B41
      obtain ⟨_, _, ⟨T43, L43, k43, n43⟩, -, X43, ⟨Lc43, hQ43, l43, y43, z43⟩, st43⟩ := X38.virtualBack hx (y := (⟨"com/example/grant3/grant3/condition/StepBudget", "left", "()I"⟩ : MethodName)) (z := (⟨"com/example/grant3/grant3/condition/StepBudget", "left", "()I"⟩ : MethodName)) hown (mvT hZ (hw _ (List.mem_of_getElem? (i := 16) rfl))) (mvT hZ (hw _ (List.mem_of_getElem? (i := 17) rfl))) (notFace_of_selects (args := #[]) (mvT hZ (hw _ (List.mem_of_getElem? (i := 19) rfl)))) (mvT hZ (hw _ (List.mem_of_getElem? (i := 19) rfl))) (mvT hZ (hw _ (List.mem_of_getElem? (i := 18) rfl))) (by decide) (backOf (W := 0) (rm4 l Z aw hw [] b9 (own_f6 (0 : Int32) ((own_f6 (0 : Int32) ((own_f6 (0 : Int32) ((10000 : Int32) - (own_f1 p0 z1))) - (own_f1 p1 z5))) - (0 : Int32))) T38.heap n0 Z42 B39) hZ (hw _ (List.mem_of_getElem? (i := 20) rfl)) (hw _ (List.mem_of_getElem? (i := 7) rfl)) (by decide) (by decide)) q43a q43c (g := (mkF m 144 #[iv p0, iv p1, iv p2, iv (own_f1 p0 z1), iv (own_f1 p1 z5), rv b9, iv 1] [(.ref b9)])) rfl (by rw [hml]; rfl) (Steps.refl _) (argsL := []) (rest := []) (lenOf pd_2 rfl) rfl (by show 2 * 0 + _ ≤ _; exact Nat.le_of_eq rfl) (hb hby at_144) (fun _ _ => ⟨rfl, rfl, (by decide : 1 + 0 ≤ _), (by decide : 1 + 0 ≤ _)⟩)
      dsimp only [Pt.U, Pt.locs, Pt.cells, Pt.slots] at X43 l43 y43 z43 st43 hQ43
      subst l43 y43 z43
      obtain ⟨rfl, N43q, eh43⟩ := hQ43
      have N44 := Fr.app N40 N43q
      refine own_via (fun k => st43.trans k) ?_
      show own_Go p e below s _ _ (T43.setTop (mkF m 147 #[iv p0, iv p1, iv p2, iv (own_f1 p0 z1), iv (own_f1 p1 z5), rv b9, iv 1] [(.int (own_f6 (0 : Int32) ((own_f6 (0 : Int32) ((own_f6 (0 : Int32) ((10000 : Int32) - (own_f1 p0 z1))) - (own_f1 p1 z5))) - (0 : Int32))))]))
      refine own_via (fun k => XS.i2l X43.here hx rfl (hb hby at_147) rfl (XS.iloadN X43.here hx rfl (hb hby at_148) rfl  (XS.i2l X43.here hx rfl (hb hby at_149) rfl (XS.iload X43.here hx rfl (hb hby at_150) rfl  k)))) ?_
      show own_Go p e below s _ _ (T43.setTop (mkF m 152 #[iv p0, iv p1, iv p2, iv (own_f1 p0 z1), iv (own_f1 p1 z5), rv b9, iv 1] [(.int (own_f1 p1 z5)), (.long ((own_f1 p0 z1).toInt64)), (.long ((own_f6 (0 : Int32) ((own_f6 (0 : Int32) ((own_f6 (0 : Int32) ((10000 : Int32) - (own_f1 p0 z1))) - (own_f1 p1 z5))) - (0 : Int32))).toInt64))]))
      refine own_via (fun k => XS.i2l X43.here hx rfl (hb hby at_152) rfl (XS.ladd X43.here hx rfl (hb hby at_153) rfl k)) ?_
      show own_Go p e below s _ _ (T43.setTop (mkF m 154 #[iv p0, iv p1, iv p2, iv (own_f1 p0 z1), iv (own_f1 p1 z5), rv b9, iv 1] [(.long (((own_f1 p0 z1).toInt64) + ((own_f1 p1 z5).toInt64))), (.long ((own_f6 (0 : Int32) ((own_f6 (0 : Int32) ((own_f6 (0 : Int32) ((10000 : Int32) - (own_f1 p0 z1))) - (own_f1 p1 z5))) - (0 : Int32))).toInt64))]))
      obtain ⟨_, _, ⟨T45, L45, k45, n45⟩, -, X45, ⟨Lc45, hQ45, l45, y45, z45⟩, st45⟩ := Jvm.LawKit.callS X43 hx (y := (⟨"com/example/grant3/grant3/condition/StepBudgetSpendPinLaw", "expected", "(J)J"⟩ : MethodName)) hown (mvT hZ (hw _ (List.mem_of_getElem? (i := 30) rfl))) (mvT hZ (hw _ (List.mem_of_getElem? (i := 31) rfl))) (mvT hZ (hw _ (List.mem_of_getElem? (i := 2) rfl))) (mvT hZ (hw _ (List.mem_of_getElem? (i := 32) rfl))) (by decide) (backOf (W := 2) (rm7 l Z aw hw [] (((own_f1 p0 z1).toInt64) + ((own_f1 p1 z5).toInt64)) T38.heap n0 Z42) hZ (hw _ (List.mem_of_getElem? (i := 32) rfl)) (hw _ (List.mem_of_getElem? (i := 2) rfl)) (by decide) (by decide)) (g := (mkF m 154 #[iv p0, iv p1, iv p2, iv (own_f1 p0 z1), iv (own_f1 p1 z5), rv b9, iv 1] [(.long (((own_f1 p0 z1).toInt64) + ((own_f1 p1 z5).toInt64))), (.long ((own_f6 (0 : Int32) ((own_f6 (0 : Int32) ((own_f6 (0 : Int32) ((10000 : Int32) - (own_f1 p0 z1))) - (own_f1 p1 z5))) - (0 : Int32))).toInt64))])) rfl (by rw [hml]; rfl) (argsL := [(.long (((own_f1 p0 z1).toInt64) + ((own_f1 p1 z5).toInt64)))]) (rest := [(.long ((own_f6 (0 : Int32) ((own_f6 (0 : Int32) ((own_f6 (0 : Int32) ((10000 : Int32) - (own_f1 p0 z1))) - (own_f1 p1 z5))) - (0 : Int32))).toInt64))]) (lenOf pd_5 rfl) rfl (by show 2 * 0 + _ ≤ _; exact Nat.le_of_eq rfl) (hb hby at_154) (fun _ _ => ⟨rfl, eh43, (by decide : 1 + 0 ≤ _), (by decide : 1 + 0 ≤ _)⟩)
      dsimp only [Pt.U, Pt.locs, Pt.cells, Pt.slots] at X45 l45 y45 z45 st45 hQ45
      subst l45 y45 z45
      obtain ⟨rfl, N45q, eh45⟩ := hQ45
      have N46 := Fr.app N44 N45q
      refine own_via (fun k => st45 _ k) ?_
      show own_Go p e below s _ _ (T45.setTop (mkF m 157 #[iv p0, iv p1, iv p2, iv (own_f1 p0 z1), iv (own_f1 p1 z5), rv b9, iv 1] [(.long (own_f7 (((own_f1 p0 z1).toInt64) + ((own_f1 p1 z5).toInt64)))), (.long ((own_f6 (0 : Int32) ((own_f6 (0 : Int32) ((own_f6 (0 : Int32) ((10000 : Int32) - (own_f1 p0 z1))) - (own_f1 p1 z5))) - (0 : Int32))).toInt64))]))
      refine own_via (fun k => XS.lcmp X45.here hx rfl (hb hby at_157) rfl k) ?_
      show own_Go p e below s _ _ (T45.setTop (mkF m 158 #[iv p0, iv p1, iv p2, iv (own_f1 p0 z1), iv (own_f1 p1 z5), rv b9, iv 1] [(.int (lcmpW ((own_f6 (0 : Int32) ((own_f6 (0 : Int32) ((own_f6 (0 : Int32) ((10000 : Int32) - (own_f1 p0 z1))) - (own_f1 p1 z5))) - (0 : Int32))).toInt64) (own_f7 (((own_f1 p0 z1).toInt64) + ((own_f1 p1 z5).toInt64)))))]))
      refine own_via (fun k => XS.ifNo X45.here hx rfl (hb hby at_158) rfl ((if0 _ _).trans (teq ((lw_eq _ _).mpr (own_l158 p0 p1 p2 z1 hz1 z5 hz5))).2) k) ?_
      show own_Go p e below s _ _ (T45.setTop (mkF m 161 #[iv p0, iv p1, iv p2, iv (own_f1 p0 z1), iv (own_f1 p1 z5), rv b9, iv 1] []))
      refine own_via (fun k => XS.iconst X45.here hx rfl (hb hby at_161) (XS.goto X45.here hx rfl (pc0 := 162) (pc' := 166) rfl (hb hby at_162) (by decide) (by decide) (XS.istore X45.here hx rfl (hb hby at_166) rfl (l' := #[iv p0, iv p1, iv p2, iv (own_f1 p0 z1), iv (own_f1 p1 z5), rv b9, iv 1]) rfl (XS.iload X45.here hx rfl (hb hby at_168) rfl  k)))) ?_
      show own_Go p e below s _ _ (T45.setTop (mkF m 170 #[iv p0, iv p1, iv p2, iv (own_f1 p0 z1), iv (own_f1 p1 z5), rv b9, iv 1] [(.int 1)]))
      exact own_retN X45 hx hlk (t := .boolean) Bd.returns (by simp) (hb hby at_170) (Q := (Q0 Z p0 p1 p2 h0 n0)) ⟨rfl, N46⟩ (by decide) (by decide)
    by_cases hc47 : (p2 &&& (2 : Int32)) = (0 : Int32)
    · refine own_via (fun k => XS.ifYes X3.here hx rfl (pc0 := 20) (pc' := 27) rfl (hb hby at_20) rfl ((if0 _ _).trans (teq hc47).1) (by decide) (by decide) k) ?_
      show own_Go p e below s _ _ (T3.setTop (mkF m 27 #[iv p0, iv p1, iv p2, iv (own_f1 p0 z1), .unset, .unset, .unset] [(.int p1)]))
      refine own_via (fun k => XS.iconst X3.here hx rfl (hb hby at_27) k) ?_
      show own_Go p e below s _ _ (T3.setTop (mkF m 28 #[iv p0, iv p1, iv p2, iv (own_f1 p0 z1), .unset, .unset, .unset] [(.int 0), (.int p1)]))
      exact J6 (0 : Int32) (((if_pos hc47).trans rfl)).symm
    · refine own_via (fun k => XS.ifNo X3.here hx rfl (hb hby at_20) rfl ((if0 _ _).trans (feq hc47).1) k) ?_
      show own_Go p e below s _ _ (T3.setTop (mkF m 23 #[iv p0, iv p1, iv p2, iv (own_f1 p0 z1), .unset, .unset, .unset] [(.int p1)]))
      refine own_via (fun k => XS.iconst X3.here hx rfl (hb hby at_23) (XS.goto X3.here hx rfl (pc0 := 24) (pc' := 28) rfl (hb hby at_24) (by decide) (by decide) k)) ?_
      show own_Go p e below s _ _ (T3.setTop (mkF m 28 #[iv p0, iv p1, iv p2, iv (own_f1 p0 z1), .unset, .unset, .unset] [(.int 1), (.int p1)]))
      exact J6 (1 : Int32) (((if_neg hc47).trans rfl)).symm
  by_cases hc48 : (p2 &&& (1 : Int32)) = (0 : Int32)
  · refine own_via (fun k => XS.ifYes X0.here hx rfl (pc0 := 4) (pc' := 11) rfl (hb hby at_4) rfl ((if0 _ _).trans (teq hc48).1) (by decide) (by decide) k) ?_
    show own_Go p e below s _ _ (s₁.setTop (mkF m 11 #[iv p0, iv p1, iv p2, .unset, .unset, .unset, .unset] [(.int p0)]))
    refine own_via (fun k => XS.iconst X0.here hx rfl (hb hby at_11) k) ?_
    show own_Go p e below s _ _ (s₁.setTop (mkF m 12 #[iv p0, iv p1, iv p2, .unset, .unset, .unset, .unset] [(.int 0), (.int p0)]))
    exact J2 (0 : Int32) (((if_pos hc48).trans rfl)).symm
  · refine own_via (fun k => XS.ifNo X0.here hx rfl (hb hby at_4) rfl ((if0 _ _).trans (feq hc48).1) k) ?_
    show own_Go p e below s _ _ (s₁.setTop (mkF m 7 #[iv p0, iv p1, iv p2, .unset, .unset, .unset, .unset] [(.int p0)]))
    refine own_via (fun k => XS.iconst X0.here hx rfl (hb hby at_7) (XS.goto X0.here hx rfl (pc0 := 8) (pc' := 12) rfl (hb hby at_8) (by decide) (by decide) k)) ?_
    show own_Go p e below s _ _ (s₁.setTop (mkF m 12 #[iv p0, iv p1, iv p2, .unset, .unset, .unset, .unset] [(.int 1), (.int p0)]))
    exact J2 (1 : Int32) (((if_neg hc48).trans rfl)).symm
set_option maxRecDepth 65536 in
set_option maxHeartbeats 40000000 in
theorem comes_1 {Post : Tables → Env → Array Value → State → Outcome → State → Prop} (hpost : ∀ tb e args s v u, (limb_1_1.after args s (.returned v) u = true ∧ limb_1_2.after args s (.returned v) u = true ∧ True) → FrameEnd s (.returned v) u (Jvm.fieldLocs frame_1_writes args s ++ Jvm.arrayLocs frame_1_arrays args s ++ Jvm.staticLocs frame_1_statics s) 16 128 → Post tb e args s (.returned v) u) :
    ArmFor flags0 classFile x code maxLocals ret World_1 tables_1 room_1 Calls_1 rest_1 Pre_1 Post := by
  intro l hfl _ _ p e ha hc hk s m args below hf hA hF happ hP
  obtain ⟨hcalls, hrest, hpre⟩ := hP
  obtain ⟨-, -, -, hnamed, -, -, -, hat⟩ := (Spec.applies_iff hf).mp happ
  obtain ⟨hg, hn⟩ := and_e (Cond.before_iff.mp (show (Jvm.Cond.and given_1 narrow_1).before args s = true from hpre))
  obtain ⟨g1, g2⟩ := and_e hg
  obtain ⟨g3, g4⟩ := and_e g2
  obtain ⟨g5, g6⟩ := and_e g4
  obtain ⟨w0, w1, w2, rfl⟩ : ∃ w0 w1 w2 : Value, args = #[w0, w1, w2] := by
    have hs : args.size = 3 := by simpa [Cond.value, given_1] using g1
    obtain ⟨L⟩ := args
    match L, hs with
    | [w0, w1, w2], _ => exact ⟨w0, w1, w2, rfl⟩
  have hw := fun d (hd : d ∈ tables_1) => atoms_spec (ws := Jvm.Cond.code x code maxLocals ret :: tables_1) hat d (List.mem_cons_of_mem _ hd)
  obtain ⟨i0, ei0⟩ := is_v g3
  obtain rfl : w0 = (.int i0) := Option.some.inj ei0
  obtain ⟨i1, ei1⟩ := is_v g5
  obtain rfl : w1 = (.int i1) := Option.some.inj ei1
  obtain ⟨i2, ei2⟩ := is_v g6
  obtain rfl : w2 = (.int i2) := Option.some.inj ei2
  obtain ⟨n, o, h1, h2, h3, _, L, rfl, ⟨rfl, N⟩, hq⟩ := rm0 l s _ hw tables_1 i0 i1 i2 s.heap s.heap.size (Nat.le_refl _) p e ha hc hk s m _ below hf ((Spec.applies_iff_loose hf).mp happ).1 ⟨rfl, State.Warmed39.refl s, rfl⟩ trivial
  refine ⟨n, _, h1, h2, h3, hpost _ _ _ _ _ _ ⟨Cond.after_iff.mpr rfl, Cond.after_iff.mpr (eq_i res_at (Term.int_eval (1)) rfl), trivial⟩ ⟨hq.1, hq.2.1, (hq.2.2.sift fun y hy => Or.inr (N y hy)).mono (by decide) (by decide)⟩⟩
theorem main_1_1 : Claimed_1_1 := comes_1 fun _ _ _ _ _ _ h hF => ⟨h.1, hF⟩
theorem main_1_2 : Claimed_1_2 := comes_1 fun _ _ _ _ _ _ h hF => ⟨h.2.1, hF⟩
end Jvm.Pilot.@@N@@
namespace Jvm.Pilot.@@N@@
open Jvm Jvm.ClassFile Sem Op Lib Jvm.Free Jvm.Stand Jvm.Pilot.@@N@@.Jvm.D
/-! MADE BY PROGRAM (witnessworld.py) out of the Statement's table words and the real class files: 10 classes; the members and pool entries that the words name. The judged class is class 1, her method 3. -/
namespace start1
open Jvm.ClassFile
def u (s : String) : CpInfo := .utf8 (stringToUtf16 s)
/-- a pool by its gaps: so many unusable entries, then the entry; so many at the end -/
def gap : Nat → List CpInfo → List CpInfo
  | 0, r => r
  | n + 1, r => .unusable :: gap n r
def poolList (es : List (Nat × CpInfo)) (last : Nat) : List CpInfo := es.foldr (fun e r => gap e.1 (e.2 :: r)) (gap last [])
def pool (es : List (Nat × CpInfo)) (last : Nat) : Array CpInfo := ⟨poolList es last⟩
def fileOf (pool : Array CpInfo) (this : Nat) (attrs : Array Attribute := #[]) (ms : Array MethodInfo := #[]) (fl : Nat := 33) (sup : Nat := 0) (ifs : Array Nat := #[]) (fds : Array FieldInfo := #[]) : ClassFile where
  minorVersion := 0
  majorVersion := 65
  constantPool := pool
  accessFlags := fl
  thisClass := this
  superClass := sup
  interfaces := ifs
  fields := fds
  methods := ms
  attributes := attrs
def plain (name : String) (sup : Option ClassId) : Class where
  name := name
  kind := .ordinary
  loader := none
  accessFlags := 33
  super := sup
  interfaces := #[]
  cf := none
  fields := #[]
  methods := #[]
  instanceTypes := #[]
  staticTypes := #[]
  resolved := #[]
  callSites := []
  init := .initialized
  statics := none
  mirror := none

def pool0 : Array CpInfo := pool [(5, u "<init>"), (0, u "()V"), (1, .class_ 10), (1, u "java/lang/Object")] 113

def k0c0 : Code := { maxStack := 0, maxLocals := 1, code := object_method_1_code, exceptionTable := #[], attributes := #[] }
def k0m0 : Method := { name := "<init>", desc := "()V", sig := { parameters := [], returnType := none }, accessFlags := 1, code := some k0c0 }
/-- java/lang/Object -/
def k0 : Class := { plain "java/lang/Object" none with
  accessFlags := 33
  interfaces := #[]
  cf := some (fileOf pool0 8 #[] #[{ accessFlags := 1, nameIndex := 5, descriptorIndex := 6, attributes := #[] }] 33 0 #[] #[])
  fields := #[]
  methods := #[k0m0]
  instanceTypes := #[]
  staticTypes := #[]
  resolved := Array.replicate 124 none
  statics := none }

def pool1 : Array CpInfo := pool [(2, .class_ 4), (0, .nameAndType 5 6), (0, u "java/lang/Object"), (0, u "<init>"), (0, u "()V"), (0, .long 10000), (1, .integer 2147483647), (0, .methodref 11 12), (0, .class_ 13), (0, .nameAndType 14 15), (0, u "com/example/grant3/grant3/condition/StepBudgetSpendPinLaw"), (0, u "draw"), (0, u "(IZ)I"), (0, .class_ 17), (0, u "com/example/grant3/grant3/condition/StepBudget"), (0, .methodref 16 3), (0, .methodref 16 20), (0, .nameAndType 21 22), (0, u "left"), (0, u "()I"), (0, .methodref 16 24), (0, .nameAndType 25 26), (0, u "spend"), (0, u "(I)V"), (0, .methodref 11 28), (0, .nameAndType 29 30), (0, u "expected"), (0, u "(J)J"), (3, u "law"), (0, u "(III)Z")] 2

def k1m0 : Method := { name := "<init>", desc := "()V", sig := { parameters := [], returnType := none }, accessFlags := 1, code := none }
def k1c1 : Code := { maxStack := 4, maxLocals := 2, code := method_2_code, exceptionTable := #[], attributes := #[] }
def k1m1 : Method := { name := "expected", desc := "(J)J", sig := { parameters := [.long], returnType := some .long }, accessFlags := 10, code := some k1c1 }
def k1c2 : Code := { maxStack := 2, maxLocals := 3, code := method_3_code, exceptionTable := #[], attributes := #[] }
def k1m2 : Method := { name := "draw", desc := "(IZ)I", sig := { parameters := [.int, .boolean], returnType := some .int }, accessFlags := 10, code := some k1c2 }
def k1c3 : Code := { maxStack := 6, maxLocals := 7, code := code, exceptionTable := #[], attributes := #[] }
def k1m3 : Method := { name := "law", desc := "(III)Z", sig := { parameters := [.int, .int, .int], returnType := some .boolean }, accessFlags := 9, code := some k1c3 }
/-- com/example/grant3/grant3/condition/StepBudgetSpendPinLaw -/
def k1 : Class := { plain "com/example/grant3/grant3/condition/StepBudgetSpendPinLaw" (some 0) with
  accessFlags := 49
  interfaces := #[]
  cf := some (fileOf pool1 11 #[] #[{ accessFlags := 1, nameIndex := 5, descriptorIndex := 6, attributes := #[] }, { accessFlags := 10, nameIndex := 29, descriptorIndex := 30, attributes := #[] }, { accessFlags := 10, nameIndex := 14, descriptorIndex := 15, attributes := #[] }, { accessFlags := 9, nameIndex := 34, descriptorIndex := 35, attributes := #[] }] 49 2 #[] #[])
  fields := #[]
  methods := #[k1m0, k1m1, k1m2, k1m3]
  instanceTypes := #[]
  staticTypes := #[]
  resolved := Array.replicate 38 none
  statics := none }

def pool2 : Array CpInfo := pool [(1, .methodref 2 3), (0, .class_ 4), (0, .nameAndType 5 6), (0, u "java/lang/Object"), (0, u "<init>"), (0, u "()V"), (0, .class_ 8), (0, u "com/example/grant3/grant3/condition/StepBudget"), (0, .fieldref 7 10), (0, .nameAndType 11 12), (0, u "left"), (0, u "I"), (0, .methodref 14 15), (0, .class_ 16), (0, .nameAndType 17 18), (0, u "java/lang/Math"), (0, u "max"), (0, u "(II)I"), (0, u "POLICY_STEPS"), (4, u "()I"), (0, u "spend"), (0, u "(I)V")] 2

def k2c0 : Code := { maxStack := 2, maxLocals := 1, code := prog_13_method_1_code, exceptionTable := #[], attributes := #[] }
def k2m0 : Method := { name := "<init>", desc := "()V", sig := { parameters := [], returnType := none }, accessFlags := 1, code := some k2c0 }
def k2c1 : Code := { maxStack := 1, maxLocals := 1, code := prog_13_method_2_code, exceptionTable := #[], attributes := #[] }
def k2m1 : Method := { name := "left", desc := "()I", sig := { parameters := [], returnType := some .int }, accessFlags := 0, code := some k2c1 }
def k2c2 : Code := { maxStack := 4, maxLocals := 2, code := prog_13_method_3_code, exceptionTable := #[], attributes := #[] }
def k2m2 : Method := { name := "spend", desc := "(I)V", sig := { parameters := [.int], returnType := none }, accessFlags := 0, code := some k2c2 }
/-- com/example/grant3/grant3/condition/StepBudget -/
def k2 : Class := { plain "com/example/grant3/grant3/condition/StepBudget" (some 0) with
  accessFlags := 49
  interfaces := #[]
  cf := some (fileOf pool2 7 #[] #[{ accessFlags := 1, nameIndex := 5, descriptorIndex := 6, attributes := #[] }, { accessFlags := 0, nameIndex := 11, descriptorIndex := 24, attributes := #[] }, { accessFlags := 0, nameIndex := 25, descriptorIndex := 26, attributes := #[] }] 49 2 #[] #[{ accessFlags := 24, nameIndex := 19, descriptorIndex := 12, attributes := #[] }, { accessFlags := 2, nameIndex := 11, descriptorIndex := 12, attributes := #[] }])
  fields := #[{ name := "POLICY_STEPS", type := .int, accessFlags := 24, slot := 0, constantValue := 0 }, { name := "left", type := .int, accessFlags := 2, slot := 0, constantValue := 0 }]
  methods := #[k2m0, k2m1, k2m2]
  instanceTypes := #[.int]
  staticTypes := #[.int]
  resolved := Array.replicate 29 none
  statics := none }

def pool3 : Array CpInfo := pool [(1, .class_ 2), (0, u "java/lang/Math"), (1, .class_ 6), (1, u "java/lang/Object"), (0, u "<init>"), (0, u "()V"), (89, .class_ 100), (1, u "java/lang/Math$RandomNumberGeneratorHolder"), (71, u "negativeZeroFloatBits"), (0, u "J"), (2, u "negativeZeroDoubleBits"), (21, u "max"), (46, u "$assertionsDisabled"), (0, u "Z"), (88, u "(II)I"), (2, u "twoToTheDoubleScaleDown"), (0, u "D"), (4, u "twoToTheDoubleScaleUp"), (9, u "E"), (3, u "PI"), (2, u "TAU"), (2, u "DEGREES_TO_RADIANS"), (0, u "RADIANS_TO_DEGREES")] 94

def k3m0 : Method := { name := "<init>", desc := "()V", sig := { parameters := [], returnType := none }, accessFlags := 2, code := none }
def k3c1 : Code := { maxStack := 2, maxLocals := 2, code := jdk_29_method_65_code, exceptionTable := #[], attributes := #[] }
def k3m1 : Method := { name := "max", desc := "(II)I", sig := { parameters := [.int, .int], returnType := some .int }, accessFlags := 9, code := some k3c1 }
/-- java/lang/Math -/
def k3 : Class := { plain "java/lang/Math" (some 0) with
  accessFlags := 49
  interfaces := #[]
  cf := some (fileOf pool3 1 #[.nestMembers #[98]] #[{ accessFlags := 2, nameIndex := 7, descriptorIndex := 8, attributes := #[] }, { accessFlags := 9, nameIndex := 198, descriptorIndex := 335, attributes := #[] }] 49 4 #[] #[{ accessFlags := 25, nameIndex := 354, descriptorIndex := 339, attributes := #[] }, { accessFlags := 25, nameIndex := 358, descriptorIndex := 339, attributes := #[] }, { accessFlags := 25, nameIndex := 361, descriptorIndex := 339, attributes := #[] }, { accessFlags := 26, nameIndex := 364, descriptorIndex := 339, attributes := #[] }, { accessFlags := 26, nameIndex := 365, descriptorIndex := 339, attributes := #[] }, { accessFlags := 26, nameIndex := 172, descriptorIndex := 173, attributes := #[] }, { accessFlags := 26, nameIndex := 176, descriptorIndex := 173, attributes := #[] }, { accessFlags := 8, nameIndex := 344, descriptorIndex := 339, attributes := #[] }, { accessFlags := 8, nameIndex := 338, descriptorIndex := 339, attributes := #[] }, { accessFlags := 4120, nameIndex := 245, descriptorIndex := 246, attributes := #[] }])
  fields := #[{ name := "E", type := .double, accessFlags := 25, slot := 0, constantValue := 0 }, { name := "PI", type := .double, accessFlags := 25, slot := 1, constantValue := 0 }, { name := "TAU", type := .double, accessFlags := 25, slot := 2, constantValue := 0 }, { name := "DEGREES_TO_RADIANS", type := .double, accessFlags := 26, slot := 3, constantValue := 0 }, { name := "RADIANS_TO_DEGREES", type := .double, accessFlags := 26, slot := 4, constantValue := 0 }, { name := "negativeZeroFloatBits", type := .long, accessFlags := 26, slot := 5, constantValue := 0 }, { name := "negativeZeroDoubleBits", type := .long, accessFlags := 26, slot := 6, constantValue := 0 }, { name := "twoToTheDoubleScaleUp", type := .double, accessFlags := 8, slot := 7, constantValue := 0 }, { name := "twoToTheDoubleScaleDown", type := .double, accessFlags := 8, slot := 8, constantValue := 0 }, { name := "$assertionsDisabled", type := .boolean, accessFlags := 4120, slot := 9, constantValue := 0 }]
  methods := #[k3m0, k3m1]
  instanceTypes := #[]
  staticTypes := #[.double, .double, .double, .double, .double, .long, .long, .double, .double, .boolean]
  resolved := Array.replicate 460 none
  statics := none }

def pool4 : Array CpInfo := pool [(1, u "java/lang/Cloneable"), (0, .class_ 1), (0, u "java/lang/Object"), (0, .class_ 3)] 3

/-- java/lang/Cloneable -/
def k4 : Class := { plain "java/lang/Cloneable" (some 0) with
  accessFlags := 1537
  interfaces := #[]
  cf := some (fileOf pool4 2 #[] #[] 1537 4 #[] #[])
  fields := #[]
  methods := #[]
  instanceTypes := #[]
  staticTypes := #[]
  resolved := Array.replicate 8 none
  statics := none }

def pool5 : Array CpInfo := pool [(1, u "java/io/Serializable"), (0, .class_ 1), (0, u "java/lang/Object"), (0, .class_ 3)] 3

/-- java/io/Serializable -/
def k5 : Class := { plain "java/io/Serializable" (some 0) with
  accessFlags := 1537
  interfaces := #[]
  cf := some (fileOf pool5 2 #[] #[] 1537 4 #[] #[])
  fields := #[]
  methods := #[]
  instanceTypes := #[]
  staticTypes := #[]
  resolved := Array.replicate 8 none
  statics := none }

/-- the primitive byte -/
def k6 : Class := { plain "byte" none with kind := .primitive 'B', accessFlags := 0x411 }
/-- [B -/
def k7 : Class := { plain "[B" (some 0) with kind := .array 6 .byte, interfaces := #[4, 5], accessFlags := 1041 }

/-- the primitive int -/
def k8 : Class := { plain "int" none with kind := .primitive 'I', accessFlags := 0x411 }
/-- [I -/
def k9 : Class := { plain "[I" (some 0) with kind := .array 8 .int, interfaces := #[4, 5], accessFlags := 1041 }

def heap : Heap := #[]
def classes : Array Class := #[k0, k1, k2, k3, k4, k5, k6, k7, k8, k9]
def interned : List (Array UInt16 × Addr) := []
def slotsUsed : Nat := 0
def theMethod : MethodId := ⟨1, 3⟩
def args0 : Array Value := #[.int 5, .int 9, .int 3]
def aboutOver (below : List Frame) : State where
  vm := { classes := classes, interned := interned.toArray }
  heap := heap
  slotsUsed := slotsUsed
  threads := #[{ frames := .invoking theMethod args0 :: below }]
def below0 : List Frame := [.native { method := ⟨0, 0⟩, args := #[] }]
def about1 : State := aboutOver below0
def p0 : Program := .bare "" "" ""
def e0 : Env := launch0.env 0 0 0
theorem w_frames : about1.frames = Frame.invoking theMethod args0 :: below0 := rfl
set_option maxRecDepth 65536 in
theorem w_args : argsFit about1.vm theMethod args0 = true := by decide +kernel
set_option maxRecDepth 65536 in
theorem w_heap : heapFits about1 = true := by decide +kernel
set_option maxRecDepth 65536 in
theorem w_runnable : about1.curStatus? = some .runnable := by decide +kernel
set_option maxRecDepth 65536 in
theorem w_alone : about1.alone = true := by decide +kernel
set_option maxRecDepth 65536 in
theorem w_named : about1.methodNamed? x = some theMethod := by decide +kernel
set_option maxRecDepth 65536 in
theorem w_hears : about1.hears theMethod below0 = true := by decide +kernel
set_option maxRecDepth 65536 in
theorem w_ripe : about1.ripe theMethod args0 below0 = true := by decide +kernel
theorem w_running : about1.status = .running := rfl
set_option maxRecDepth 65536 in
theorem w_room : about1.hasRoom e0.platform room_1 = true :=
  launch0.hasRoom_least _ room_1 (by decide +kernel) (by decide +kernel) (by decide +kernel) (by decide +kernel) (by decide +kernel) (by decide +kernel)
theorem allAtoms_all (ts : List Jvm.Cond) (a : Array Jvm.Value) (st : Jvm.State) : (allAtoms ts).before a st = ts.all (fun c => c.before a st) := by
  induction ts with
  | nil => rfl
  | cons c t ih =>
    show (Jvm.Cond.and c (allAtoms t)).before a st = _
    rw [Jvm.Cond.before_and, ih, List.all_cons]
def words1 : List Jvm.Cond := Jvm.Cond.code x code maxLocals ret :: tables_1
/-- a 'code' word, met by the world's own term for the bytes: nothing is compared byte by byte -/
theorem code_word {y : MethodName} {bytes : ByteArray} {mx : Nat} {rt : Option FieldType} {a : Array Value} {s : State} {m : MethodId} {meth : Method} {c : Code} (h1 : s.methodNamed? y = some m) (h2 : s.vm.method? m = some meth) (h3 : meth.code = some c) (h4 : c.code = bytes)
    (h5 : (c.maxLocals == mx && c.exceptionTable.isEmpty && decide (c.maxStack ≤ mostOperands) && decide (meth.sig.returnType = rt) && !meth.locks && decide (parseMethodDescriptor y.desc = some meth.sig)) = true) : (Jvm.Cond.code y bytes mx rt).before a s = true := by
  simp only [Bool.and_eq_true, beq_iff_eq, Bool.not_eq_true', decide_eq_true_eq] at h5
  obtain ⟨⟨⟨⟨⟨g1, g2⟩, g3⟩, g4⟩, g5⟩, g6⟩ := h5
  simp [Cond.before, Cond.holds, Cond.value, h1, h2, h3, h4, g1, g2, g3, g4, g5, g6]
def isCode : Jvm.Cond → Bool
  | .code _ _ _ _ => true
  | _ => false
theorem all_split {L : List Jvm.Cond} {P : Jvm.Cond → Bool} (h1 : L.all (fun c => isCode c || P c) = true) (h2 : ∀ c ∈ L.filter isCode, P c = true) : L.all P = true := by
  refine List.all_eq_true.mpr fun c hc => ?_
  have h := List.all_eq_true.mp h1 c hc
  rcases Bool.eq_false_or_eq_true (isCode c) with hi | hi
  · exact h2 c (List.mem_filter.mpr ⟨hc, hi⟩)
  · simpa [hi] using h
set_option maxRecDepth 65536 in
theorem w_c0 : (Jvm.Cond.code x code maxLocals ret).before args0 about1 = true := code_word (m := ⟨1, 3⟩) (meth := k1m3) (c := k1c3) (by decide +kernel) rfl rfl rfl (by decide +kernel)
set_option maxRecDepth 65536 in
theorem w_c1 : (Jvm.Cond.code ({ cls := "com/example/grant3/grant3/condition/StepBudgetSpendPinLaw", name := "draw", desc := "(IZ)I" } : Jvm.MethodName) method_3_code (3 : Nat) (Option.some Jvm.ClassFile.FieldType.int)).before args0 about1 = true := code_word (m := ⟨1, 2⟩) (meth := k1m2) (c := k1c2) (by decide +kernel) rfl rfl rfl (by decide +kernel)
set_option maxRecDepth 65536 in
theorem w_c2 : (Jvm.Cond.code ({ cls := "com/example/grant3/grant3/condition/StepBudget", name := "<init>", desc := "()V" } : Jvm.MethodName) prog_13_method_1_code (1 : Nat) (Option.none : Option Jvm.ClassFile.FieldType)).before args0 about1 = true := code_word (m := ⟨2, 0⟩) (meth := k2m0) (c := k2c0) (by decide +kernel) rfl rfl rfl (by decide +kernel)
set_option maxRecDepth 65536 in
theorem w_c3 : (Jvm.Cond.code ({ cls := "java/lang/Object", name := "<init>", desc := "()V" } : Jvm.MethodName) object_method_1_code (1 : Nat) (Option.none : Option Jvm.ClassFile.FieldType)).before args0 about1 = true := code_word (m := ⟨0, 0⟩) (meth := k0m0) (c := k0c0) (by decide +kernel) rfl rfl rfl (by decide +kernel)
set_option maxRecDepth 65536 in
theorem w_c4 : (Jvm.Cond.code ({ cls := "com/example/grant3/grant3/condition/StepBudget", name := "left", desc := "()I" } : Jvm.MethodName) prog_13_method_2_code (1 : Nat) (Option.some Jvm.ClassFile.FieldType.int)).before args0 about1 = true := code_word (m := ⟨2, 1⟩) (meth := k2m1) (c := k2c1) (by decide +kernel) rfl rfl rfl (by decide +kernel)
set_option maxRecDepth 65536 in
theorem w_c5 : (Jvm.Cond.code ({ cls := "com/example/grant3/grant3/condition/StepBudget", name := "spend", desc := "(I)V" } : Jvm.MethodName) prog_13_method_3_code (2 : Nat) (Option.none : Option Jvm.ClassFile.FieldType)).before args0 about1 = true := code_word (m := ⟨2, 2⟩) (meth := k2m2) (c := k2c2) (by decide +kernel) rfl rfl rfl (by decide +kernel)
set_option maxRecDepth 65536 in
theorem w_c6 : (Jvm.Cond.code ({ cls := "java/lang/Math", name := "max", desc := "(II)I" } : Jvm.MethodName) jdk_29_method_65_code (2 : Nat) (Option.some Jvm.ClassFile.FieldType.int)).before args0 about1 = true := code_word (m := ⟨3, 1⟩) (meth := k3m1) (c := k3c1) (by decide +kernel) rfl rfl rfl (by decide +kernel)
set_option maxRecDepth 65536 in
theorem w_c7 : (Jvm.Cond.code ({ cls := "com/example/grant3/grant3/condition/StepBudgetSpendPinLaw", name := "expected", desc := "(J)J" } : Jvm.MethodName) method_2_code (2 : Nat) (Option.some Jvm.ClassFile.FieldType.long)).before args0 about1 = true := code_word (m := ⟨1, 1⟩) (meth := k1m1) (c := k1c1) (by decide +kernel) rfl rfl rfl (by decide +kernel)
def codes1 : List Jvm.Cond := [Jvm.Cond.code x code maxLocals ret, Jvm.Cond.code ({ cls := "com/example/grant3/grant3/condition/StepBudgetSpendPinLaw", name := "draw", desc := "(IZ)I" } : Jvm.MethodName) method_3_code (3 : Nat) (Option.some Jvm.ClassFile.FieldType.int), Jvm.Cond.code ({ cls := "com/example/grant3/grant3/condition/StepBudget", name := "<init>", desc := "()V" } : Jvm.MethodName) prog_13_method_1_code (1 : Nat) (Option.none : Option Jvm.ClassFile.FieldType), Jvm.Cond.code ({ cls := "java/lang/Object", name := "<init>", desc := "()V" } : Jvm.MethodName) object_method_1_code (1 : Nat) (Option.none : Option Jvm.ClassFile.FieldType), Jvm.Cond.code ({ cls := "com/example/grant3/grant3/condition/StepBudget", name := "left", desc := "()I" } : Jvm.MethodName) prog_13_method_2_code (1 : Nat) (Option.some Jvm.ClassFile.FieldType.int), Jvm.Cond.code ({ cls := "com/example/grant3/grant3/condition/StepBudget", name := "spend", desc := "(I)V" } : Jvm.MethodName) prog_13_method_3_code (2 : Nat) (Option.none : Option Jvm.ClassFile.FieldType), Jvm.Cond.code ({ cls := "java/lang/Math", name := "max", desc := "(II)I" } : Jvm.MethodName) jdk_29_method_65_code (2 : Nat) (Option.some Jvm.ClassFile.FieldType.int), Jvm.Cond.code ({ cls := "com/example/grant3/grant3/condition/StepBudgetSpendPinLaw", name := "expected", desc := "(J)J" } : Jvm.MethodName) method_2_code (2 : Nat) (Option.some Jvm.ClassFile.FieldType.long)]
set_option maxRecDepth 65536 in
theorem codes_eq : words1.filter isCode = codes1 := rfl
theorem w_codes : ∀ c ∈ words1.filter isCode, c.before args0 about1 = true := by
  rw [codes_eq]
  intro c hc
  simp only [codes1, List.mem_cons, List.not_mem_nil, or_false] at hc
  rcases hc with rfl | rfl | rfl | rfl | rfl | rfl | rfl | rfl
  · exact w_c0
  · exact w_c1
  · exact w_c2
  · exact w_c3
  · exact w_c4
  · exact w_c5
  · exact w_c6
  · exact w_c7
set_option maxRecDepth 65536 in
theorem w_t1 : (words1.take 24).all (fun c => isCode c || c.before args0 about1) = true := by decide +kernel
set_option maxRecDepth 65536 in
theorem w_t2 : (words1.drop 24).all (fun c => isCode c || c.before args0 about1) = true := by decide +kernel
theorem w_tables : (allAtoms (Jvm.Cond.code x code maxLocals ret :: tables_1)).before args0 about1 = true := by
  rw [allAtoms_all]
  show words1.all (fun c => c.before args0 about1) = true
  refine all_split ?_ w_codes
  rw [← List.take_append_drop 24 words1, List.all_append, w_t1, w_t2]
  rfl
set_option maxRecDepth 65536 in
theorem w_case : (Jvm.Cond.and given_1 narrow_1).before args0 about1 = true := by decide +kernel
theorem w_applies : (headSpec (Jvm.Cond.code x code maxLocals ret :: tables_1) room_1).applies x e0.platform about1 = true :=
  (Spec.applies_iff w_frames).mpr ⟨w_running, w_runnable, w_alone, w_named, w_hears, w_ripe, w_room, w_tables⟩
theorem atStart : AtStart classFile x code maxLocals ret World_1 tables_1 room_1 Calls_1 rest_1 Pre_1 launch0 p0 e0 about1 theMethod args0 below0 :=
  ⟨lists_1, trivial, launch0.admits_env _ _ _, launch0.least_env, fairChoices_fair.cas, fairChoices_fair.clock, w_frames, w_args, w_heap, w_applies, trivial, trivial, w_case⟩
end start1
theorem witness_1 : WitnessClaimed_1 := ⟨start1.p0, start1.e0, start1.about1, start1.theMethod, start1.args0, start1.below0, start1.atStart⟩
end Jvm.Pilot.@@N@@
