import JvmDerived
import JvmDerived.Pilot.@@N@@Statement
import JvmDerived.Pilot.@@N@@Code
set_option linter.unusedVariables false
set_option linter.unusedSimpArgs false
namespace Jvm.RoadKit
open Sem ClassFile Op Lib Jvm.Stand Jvm.Free Jvm.LawKit
section New
variable {p : Program} {l : Launch} {e : Env} {R : Room} {s : State} {m : MethodId} {args : Array Value} {below : List Frame} {meth : Method} {c : Code} {T : State} {locs : List Loc} {cells slots : Nat}
theorem retI (X : Stand p l e R s m args below meth c T locs cells slots) (hx : p.tables.exec = Jvm.exec) {pc : Nat} {Ls : Array Slot} {z : Int32} {rest : List Value} (hret : meth.sig.returnType = some .int) (hd : decode c.code pc = .ok (.ireturn, 1)) {fs : List Frame}
    (hl : ∀ (f : JFrame) (acts : List Action), f.method = m → f.locked = none → f.entered = [] → (doReturn e (T.setTop f) acts (some (.int z))).1 = T.setFrames fs) : Steps p.tables e below (T.setTop (mkF m pc Ls (.int z :: rest))) (T.setFrames fs) := by
  have hm' : T.vm.method? m = some meth := X.method'
  have hn : narrow .int (.int z) = .int z := rfl
  show Steps p.tables e below (T.setTop { method := m, pc := pc, locals := Ls, stack := _ :: rest, locked := none }) _
  jvm_step X.here [X.here.top, hx, hd, hm', hret, hn]
  first | (intro acts; rw [hl _ acts rfl rfl rfl]) | rw [hl _ _ rfl rfl rfl]
  exact Steps.refl _
abbrev jv (x : Int64) : Slot := .val (.long x)
/-- from the state st the run ends as Q says -/
def own_Go (p : Program) (e : Env) (below : List Frame) (s : State) (Q : Option Value → Heap → List Loc → Prop) (CS : Nat × Nat) (st : State) : Prop :=
  ∃ s₂ o, Steps p.tables e below st s₂ ∧ s₂.status = .running ∧ Ended s₂ below o ∧ ∃ v L, o = .returned v ∧ Q v s₂.heap L ∧ FrameEnd s o s₂ L CS.1 CS.2
variable {Q : Option Value → Heap → List Loc → Prop} {CS : Nat × Nat} {st st' : State}
theorem own_via (h : ∀ {t}, Steps p.tables e below st t → Steps p.tables e below st' t) (g : own_Go p e below s Q CS st) : own_Go p e below s Q CS st' := by
  obtain ⟨s₂, o, h1, h2⟩ := g
  exact ⟨s₂, o, h h1, h2⟩
theorem own_start {g g' : JFrame} (q : g = g') (h : own_Go p e below s Q CS (T.setTop g')) : ∃ s₂ o, Steps p.tables e below (T.setTop g) s₂ ∧ s₂.status = .running ∧ Ended s₂ below o ∧ ∃ v L, o = .returned v ∧ Q v s₂.heap L ∧ FrameEnd s o s₂ L CS.1 CS.2 := q ▸ h
theorem own_retN (X : Stand p l e R s m args below meth c T locs cells slots) (hx : p.tables.exec = Jvm.exec) (hlk : meth.locks = false) {pc : Nat} {Ls : Array Slot} {z : Int32} {t : FieldType} {rest : List Value} (hret : meth.sig.returnType = some t) (ht : t = .boolean ∨ t = .byte ∨ t = .char ∨ t = .short)
    (hd : decode c.code pc = .ok (.ireturn, 1)) (hq : Q (some (.int (nar t z))) T.heap locs) (hc : cells ≤ CS.1) (hs : slots ≤ CS.2) : own_Go p e below s Q CS (T.setTop (mkF m pc Ls (.int z :: rest))) := by
  obtain ⟨fs, hr, hrun, hended, hW, hsame⟩ := X.leave (v := some (.int (nar t z))) (fun h => by rw [hret] at h; cases h) hlk
  exact ⟨_, _, retN X hx hret ht hd hr, hrun, hended, _, _, rfl, hq, ⟨_, rfl⟩, hW, hsame.mono hc hs⟩
theorem own_retI (X : Stand p l e R s m args below meth c T locs cells slots) (hx : p.tables.exec = Jvm.exec) (hlk : meth.locks = false) {pc : Nat} {Ls : Array Slot} {z : Int32} {rest : List Value} (hret : meth.sig.returnType = some .int)
    (hd : decode c.code pc = .ok (.ireturn, 1)) (hq : Q (some (.int z)) T.heap locs) (hc : cells ≤ CS.1) (hs : slots ≤ CS.2) : own_Go p e below s Q CS (T.setTop (mkF m pc Ls (.int z :: rest))) := by
  obtain ⟨fs, hr, hrun, hended, hW, hsame⟩ := X.leave (v := some (.int z)) (fun h => by rw [hret] at h; cases h) hlk
  exact ⟨_, _, retI X hx hret hd hr, hrun, hended, _, _, rfl, hq, ⟨_, rfl⟩, hW, hsame.mono hc hs⟩
theorem own_retL (X : Stand p l e R s m args below meth c T locs cells slots) (hx : p.tables.exec = Jvm.exec) (hlk : meth.locks = false) {pc : Nat} {Ls : Array Slot} {z : Int64} (hret : meth.sig.returnType = some .long)
    (hd : decode c.code pc = .ok (.lreturn, 1)) (hq : Q (some (.long z)) T.heap locs) (hc : cells ≤ CS.1) (hs : slots ≤ CS.2) : own_Go p e below s Q CS (T.setTop (mkF m pc Ls [.long z])) := by
  obtain ⟨fs, hr, hrun, hended, hW, hsame⟩ := X.leave (v := some (.long z)) (fun h => by rw [hret] at h; cases h) hlk
  exact ⟨_, _, X.lreturnOut hx hret hd hr, hrun, hended, _, _, rfl, hq, ⟨_, rfl⟩, hW, hsame.mono hc hs⟩
theorem own_retA (X : Stand p l e R s m args below meth c T locs cells slots) (hx : p.tables.exec = Jvm.exec) (hlk : meth.locks = false) {pc : Nat} {Ls : Array Slot} {w : Value} (hw : w.isRef = true) {t : FieldType} (hret : meth.sig.returnType = some t) (ht : t.isReference = true)
    (hd : decode c.code pc = .ok (.areturn, 1)) (hq : Q (some w) T.heap locs) (hc : cells ≤ CS.1) (hs : slots ≤ CS.2) : own_Go p e below s Q CS (T.setTop (mkF m pc Ls [w])) := by
  obtain ⟨fs, hr, hrun, hended, hW, hsame⟩ := X.leave (v := some w) (fun h => by rw [hret] at h; cases h) hlk
  exact ⟨_, _, X.areturnOut hx hw hret ht hd hr, hrun, hended, _, _, rfl, hq, ⟨_, rfl⟩, hW, hsame.mono hc hs⟩
theorem own_ret0 (X : Stand p l e R s m args below meth c T locs cells slots) (hx : p.tables.exec = Jvm.exec) (hlk : meth.locks = false) {pc : Nat} {Ls : Array Slot} (hret : meth.sig.returnType = none)
    (hd : decode c.code pc = .ok (.return_, 1)) (hq : Q none T.heap locs) (hc : cells ≤ CS.1) (hs : slots ≤ CS.2) : own_Go p e below s Q CS (T.setTop (mkF m pc Ls [])) := by
  obtain ⟨fs, hr, hrun, hended, hW, hsame⟩ := X.leave (v := none) (fun _ => rfl) hlk
  exact ⟨_, _, X.returnOut hx hret hd hr, hrun, hended, _, _, rfl, hq, ⟨_, rfl⟩, hW, hsame.mono hc hs⟩
theorem own_fldI {Z : State} {h : Heap} {a : Addr} {C n d : String} {v w : Int32} (q : v = w) (F : Fld Z h a C n d (.int v)) : Fld Z h a C n d (.int w) := q ▸ F
theorem own_fldJ {Z : State} {h : Heap} {a : Addr} {C n d : String} {v w : Int64} (q : v = w) (F : Fld Z h a C n d (.long v)) : Fld Z h a C n d (.long w) := q ▸ F
theorem own_arv {Z : State} {h : Heap} {a : Addr} {k : ClassId} {ty : FieldType} {n : Int32} {vs vs' : List Value} {d : Value} (q : vs = vs') (F : Arv Z h a k ty n vs d) : Arv Z h a k ty n vs' d := q ▸ F
theorem own_fits {t : FieldType} {v w : Int32} (q : v = w) (F : fits t (.int v) = true) : fits t (.int w) = true := q ▸ F
end New
end Jvm.RoadKit
namespace Jvm.Pilot.@@N@@
open Jvm Jvm.ClassFile Sem Op Lib Jvm.Free Jvm.Stand Jvm.LawKit Jvm.RoadKit Bundle Jvm.Pilot.@@N@@.Jvm.D
theorem own_l32 {x y : Int32} : x < y ↔ x.toInt < y.toInt := Int32.lt_iff_toInt_lt
theorem own_e32 {x y : Int32} : x = y ↔ x.toInt = y.toInt := Int32.toInt_inj.symm
theorem own_l64 {x y : Int64} : x < y ↔ x.toInt < y.toInt := Int64.lt_iff_toInt_lt
theorem own_e64 {x y : Int64} : x = y ↔ x.toInt = y.toInt := Int64.toInt_inj.symm
theorem own_all8 {P : Int8 → Prop} (h : ∀ n : Fin 256, P (Int8.ofBitVec (BitVec.ofFin n))) (i : Int8) : P i := h i.toBitVec.toFin
theorem d2_0 : decode jdk_30_method_1_code 0 = .ok (.aload_n 0, 1) := by decide +kernel
theorem d2_1 : decode jdk_30_method_1_code 1 = .ok (.invokespecial 1, 3) := by decide +kernel
theorem d2_4 : decode jdk_30_method_1_code 4 = .ok (.return_, 1) := by decide +kernel
theorem pn_2 : plainName "java/lang/Record" = true := by first | (simp [plainName, overriddenIn]; done) | decide +kernel
theorem ef_2 (m : MethodId) (x0 : Addr) : entryFrame m #[(.ref x0)] 1 = mkF m 0 #[rv x0] [] := by first | (simp [entryFrame, mkF, argsToLocals, Value.category]; done) | rfl
def Q2 (Z : State) (a0 : Addr) (h0 : Heap) (n0 : Nat) (v : Option Value) (h : Heap) (L : List Loc) : Prop := v = none ∧ Fr n0 L ∧ h = h0
set_option maxRecDepth 65536 in
set_option maxHeartbeats 40000000 in
theorem rm2 (l : Launch) (Z : State) (aw : Array Value) (hw : ∀ d ∈ tables_1, d.before aw Z = true) (ws : List Jvm.Cond) (a0 : Addr) (h0 : Heap) (n0 : Nat) (Z0 : n0 ≤ h0.size)  :
    MetFree l (⟨"java/lang/Record", "<init>", "()V"⟩ : MethodName) (head1 (Jvm.Cond.code (⟨"java/lang/Record", "<init>", "()V"⟩ : MethodName) jdk_30_method_1_code 1 none :: ws) ({ frames := 1, cells := 0, slots := 0, locals := 12 } : Room)) (fun a U => a = #[(.ref a0)] ∧ Z.Warmed39 U.vm ∧ U.heap = h0) (fun _ _ _ _ _ => True) (fun _ U o U' => ∃ v L, o = .returned v ∧ Q2 Z a0 h0 n0 v U'.heap L ∧ FrameEnd U o U' L ({ frames := 1, cells := 0, slots := 0, locals := 12 } : Room).cells ({ frames := 1, cells := 0, slots := 0, locals := 12 } : Room).slots) := by
  refine MetFree.of_bodySF (plainFor_of_name pn_2) hisR ?_
  intro p e s m args below meth c s₁ Bd hml0 hP hK
  obtain ⟨rfl, hZ, hh⟩ := hP
  have hx := Bd.exec
  have hby := Bd.bytes
  have hml : c.maxLocals = 1 := hml0
  have hown : s.vm.findClass "java/lang/Record" = some m.cls := findClass_of_methodNamed Bd.named
  have hnm := (name_of_methodNamed Bd.named Bd.method).1
  have hlk : meth.locks = false := by first | exact BodyLoose.notSynchronized (by assumption) | exact Body.notSynchronized (by assumption)
  have X0 : Stand p l e ({ frames := 1, cells := 0, slots := 0, locals := 12 } : Room) s m #[(.ref a0)] below meth c s₁ [] 0 0 := Stand.of_body Bd
  have e0 : s₁.heap = h0 := by rw [← hh, Bd.state]; rfl
  have N0 := Fr.nil n0
  have K0 : Keep h0 h0 [] := Keep.refl _ _
  refine own_start (CS := (0, 0)) (Q := (Q2 Z a0 h0 n0)) (ef_2 m a0) ?_
  show own_Go p e below s _ _ (s₁.setTop (mkF m 0 #[rv a0] []))
  refine own_via (fun k => XS.aloadN X0.here hx rfl (hb hby d2_0) rfl rfl  k) ?_
  show own_Go p e below s _ _ (s₁.setTop (mkF m 1 #[rv a0] [(.ref a0)]))
  obtain ⟨T1, X1, e1, st1⟩ := initO X0 hx hZ hown (hw _ (List.mem_of_getElem? (i := 11) rfl)) (hw _ (List.mem_of_getElem? (i := 12) rfl)) (hw _ (List.mem_of_getElem? (i := 13) rfl)) e0 (g := (mkF m 1 #[rv a0] [(.ref a0)])) rfl (by rw [hml]; rfl) rfl (hb hby d2_1) (by decide) (W := 0) (by show 2 * 0 + _ ≤ _; exact Nat.le_of_eq rfl) (by decide)
  refine own_via (fun k => st1 _ k) ?_
  show own_Go p e below s _ _ (T1.setTop (mkF m 4 #[rv a0] []))
  exact own_ret0 X1 hx hlk Bd.returns (hb hby d2_4) (Q := (Q2 Z a0 h0 n0)) ⟨rfl, N0, e1⟩ (by decide) (by decide)
theorem d1_0 : decode prog_24_method_1_code 0 = .ok (.aload_n 0, 1) := by decide +kernel
theorem d1_1 : decode prog_24_method_1_code 1 = .ok (.invokespecial 1, 3) := by decide +kernel
theorem d1_4 : decode prog_24_method_1_code 4 = .ok (.aload_n 0, 1) := by decide +kernel
theorem d1_5 : decode prog_24_method_1_code 5 = .ok (.iload_n 1, 1) := by decide +kernel
theorem d1_6 : decode prog_24_method_1_code 6 = .ok (.putfield 7, 3) := by decide +kernel
theorem d1_9 : decode prog_24_method_1_code 9 = .ok (.aload_n 0, 1) := by decide +kernel
theorem d1_10 : decode prog_24_method_1_code 10 = .ok (.lload_n 2, 1) := by decide +kernel
theorem d1_11 : decode prog_24_method_1_code 11 = .ok (.putfield 13, 3) := by decide +kernel
theorem d1_14 : decode prog_24_method_1_code 14 = .ok (.aload_n 0, 1) := by decide +kernel
theorem d1_15 : decode prog_24_method_1_code 15 = .ok (.iload 4, 2) := by decide +kernel
theorem d1_17 : decode prog_24_method_1_code 17 = .ok (.putfield 17, 3) := by decide +kernel
theorem d1_20 : decode prog_24_method_1_code 20 = .ok (.aload_n 0, 1) := by decide +kernel
theorem d1_21 : decode prog_24_method_1_code 21 = .ok (.lload 5, 2) := by decide +kernel
theorem d1_23 : decode prog_24_method_1_code 23 = .ok (.putfield 20, 3) := by decide +kernel
theorem d1_26 : decode prog_24_method_1_code 26 = .ok (.aload_n 0, 1) := by decide +kernel
theorem d1_27 : decode prog_24_method_1_code 27 = .ok (.lload 7, 2) := by decide +kernel
theorem d1_29 : decode prog_24_method_1_code 29 = .ok (.putfield 23, 3) := by decide +kernel
theorem d1_32 : decode prog_24_method_1_code 32 = .ok (.aload_n 0, 1) := by decide +kernel
theorem d1_33 : decode prog_24_method_1_code 33 = .ok (.lload 9, 2) := by decide +kernel
theorem d1_35 : decode prog_24_method_1_code 35 = .ok (.putfield 26, 3) := by decide +kernel
theorem d1_38 : decode prog_24_method_1_code 38 = .ok (.aload_n 0, 1) := by decide +kernel
theorem d1_39 : decode prog_24_method_1_code 39 = .ok (.lload 11, 2) := by decide +kernel
theorem d1_41 : decode prog_24_method_1_code 41 = .ok (.putfield 29, 3) := by decide +kernel
theorem d1_44 : decode prog_24_method_1_code 44 = .ok (.aload_n 0, 1) := by decide +kernel
theorem d1_45 : decode prog_24_method_1_code 45 = .ok (.lload 13, 2) := by decide +kernel
theorem d1_47 : decode prog_24_method_1_code 47 = .ok (.putfield 32, 3) := by decide +kernel
theorem d1_50 : decode prog_24_method_1_code 50 = .ok (.aload_n 0, 1) := by decide +kernel
theorem d1_51 : decode prog_24_method_1_code 51 = .ok (.lload 15, 2) := by decide +kernel
theorem d1_53 : decode prog_24_method_1_code 53 = .ok (.putfield 35, 3) := by decide +kernel
theorem d1_56 : decode prog_24_method_1_code 56 = .ok (.aload_n 0, 1) := by decide +kernel
theorem d1_57 : decode prog_24_method_1_code 57 = .ok (.lload 17, 2) := by decide +kernel
theorem d1_59 : decode prog_24_method_1_code 59 = .ok (.putfield 38, 3) := by decide +kernel
theorem d1_62 : decode prog_24_method_1_code 62 = .ok (.aload_n 0, 1) := by decide +kernel
theorem d1_63 : decode prog_24_method_1_code 63 = .ok (.lload 19, 2) := by decide +kernel
theorem d1_65 : decode prog_24_method_1_code 65 = .ok (.putfield 41, 3) := by decide +kernel
theorem d1_68 : decode prog_24_method_1_code 68 = .ok (.return_, 1) := by decide +kernel
theorem pn_1 : plainName "com/example/waveslot/waveslot/core/DecompositionReport" = true := by first | (simp [plainName, overriddenIn]; done) | decide +kernel
theorem pd_1 : parseMethodDescriptor "()V" = some ⟨[], none⟩ := by decide +kernel
theorem ef_1 (m : MethodId) (x0 : Addr) (x1 : Int32) (x2 : Int64) (x3 : Int32) (x4 : Int64) (x5 : Int64) (x6 : Int64) (x7 : Int64) (x8 : Int64) (x9 : Int64) (x10 : Int64) (x11 : Int64) : entryFrame m #[(.ref x0), (.int x1), (.long x2), (.int x3), (.long x4), (.long x5), (.long x6), (.long x7), (.long x8), (.long x9), (.long x10), (.long x11)] 21 = mkF m 0 #[rv x0, iv x1, jv x2, .second, iv x3, jv x4, .second, jv x5, .second, jv x6, .second, jv x7, .second, jv x8, .second, jv x9, .second, jv x10, .second, jv x11, .second] [] := by first | (simp [entryFrame, mkF, argsToLocals, Value.category]; done) | rfl
def Q1 (Z : State) (a0 : Addr) (p1 : Int32) (q2 : Int64) (p3 : Int32) (q4 : Int64) (q5 : Int64) (q6 : Int64) (q7 : Int64) (q8 : Int64) (q9 : Int64) (q10 : Int64) (q11 : Int64) (h0 : Heap) (n0 : Nat) (v : Option Value) (h : Heap) (L : List Loc) : Prop := v = none ∧ Fr n0 L ∧ Keep h0 h [a0] ∧ Fld Z h a0 "com/example/waveslot/waveslot/core/DecompositionReport" "uncovered" "J" (.long q6) ∧ Fld Z h a0 "com/example/waveslot/waveslot/core/DecompositionReport" "repeatedInputs" "J" (.long q7) ∧ Fld Z h a0 "com/example/waveslot/waveslot/core/DecompositionReport" "missingInputs" "J" (.long q8) ∧ Fld Z h a0 "com/example/waveslot/waveslot/core/DecompositionReport" "sharedOutputs" "J" (.long q9) ∧ Fld Z h a0 "com/example/waveslot/waveslot/core/DecompositionReport" "mixedWeights" "J" (.long q10) ∧ Fld Z h a0 "com/example/waveslot/waveslot/core/DecompositionReport" "outOfRange" "J" (.long q11)
set_option maxRecDepth 65536 in
set_option maxHeartbeats 40000000 in
theorem rm1 (l : Launch) (Z : State) (aw : Array Value) (hw : ∀ d ∈ tables_1, d.before aw Z = true) (ws : List Jvm.Cond) (a0 : Addr) (p1 : Int32) (q2 : Int64) (p3 : Int32) (q4 : Int64) (q5 : Int64) (q6 : Int64) (q7 : Int64) (q8 : Int64) (q9 : Int64) (q10 : Int64) (q11 : Int64) (h0 : Heap) (n0 : Nat) (Z0 : n0 ≤ h0.size) (P0 : Fld Z h0 a0 "com/example/waveslot/waveslot/core/DecompositionReport" "ports" "I" (.int 0)) (P1 : Fld Z h0 a0 "com/example/waveslot/waveslot/core/DecompositionReport" "maxLineSum" "J" (.long 0)) (P2 : Fld Z h0 a0 "com/example/waveslot/waveslot/core/DecompositionReport" "configurations" "I" (.int 0)) (P3 : Fld Z h0 a0 "com/example/waveslot/waveslot/core/DecompositionReport" "weightSum" "J" (.long 0)) (P4 : Fld Z h0 a0 "com/example/waveslot/waveslot/core/DecompositionReport" "overlaps" "J" (.long 0)) (P5 : Fld Z h0 a0 "com/example/waveslot/waveslot/core/DecompositionReport" "uncovered" "J" (.long 0)) (P6 : Fld Z h0 a0 "com/example/waveslot/waveslot/core/DecompositionReport" "repeatedInputs" "J" (.long 0)) (P7 : Fld Z h0 a0 "com/example/waveslot/waveslot/core/DecompositionReport" "missingInputs" "J" (.long 0)) (P8 : Fld Z h0 a0 "com/example/waveslot/waveslot/core/DecompositionReport" "sharedOutputs" "J" (.long 0)) (P9 : Fld Z h0 a0 "com/example/waveslot/waveslot/core/DecompositionReport" "mixedWeights" "J" (.long 0)) (P10 : Fld Z h0 a0 "com/example/waveslot/waveslot/core/DecompositionReport" "outOfRange" "J" (.long 0)) (P11 : Exa Z h0 a0 "com/example/waveslot/waveslot/core/DecompositionReport") (ge0 : n0 ≤ a0) :
    MetFree l (⟨"com/example/waveslot/waveslot/core/DecompositionReport", "<init>", "(IJIJJJJJJJJ)V"⟩ : MethodName) (head1 (Jvm.Cond.code (⟨"com/example/waveslot/waveslot/core/DecompositionReport", "<init>", "(IJIJJJJJJJJ)V"⟩ : MethodName) prog_24_method_1_code 21 none :: ws) ({ frames := 2, cells := 0, slots := 0, locals := 24 } : Room)) (fun a U => a = #[(.ref a0), (.int p1), (.long q2), (.int p3), (.long q4), (.long q5), (.long q6), (.long q7), (.long q8), (.long q9), (.long q10), (.long q11)] ∧ Z.Warmed39 U.vm ∧ U.heap = h0) (fun _ _ _ _ _ => True) (fun _ U o U' => ∃ v L, o = .returned v ∧ Q1 Z a0 p1 q2 p3 q4 q5 q6 q7 q8 q9 q10 q11 h0 n0 v U'.heap L ∧ FrameEnd U o U' L ({ frames := 2, cells := 0, slots := 0, locals := 24 } : Room).cells ({ frames := 2, cells := 0, slots := 0, locals := 24 } : Room).slots) := by
  refine MetFree.of_bodySF (plainFor_of_name pn_1) hisR ?_
  intro p e s m args below meth c s₁ Bd hml0 hP hK
  obtain ⟨rfl, hZ, hh⟩ := hP
  have hx := Bd.exec
  have hby := Bd.bytes
  have hml : c.maxLocals = 21 := hml0
  have hown : s.vm.findClass "com/example/waveslot/waveslot/core/DecompositionReport" = some m.cls := findClass_of_methodNamed Bd.named
  have hnm := (name_of_methodNamed Bd.named Bd.method).1
  have hlk : meth.locks = false := by first | exact BodyLoose.notSynchronized (by assumption) | exact Body.notSynchronized (by assumption)
  have X0 : Stand p l e ({ frames := 2, cells := 0, slots := 0, locals := 24 } : Room) s m #[(.ref a0), (.int p1), (.long q2), (.int p3), (.long q4), (.long q5), (.long q6), (.long q7), (.long q8), (.long q9), (.long q10), (.long q11)] below meth c s₁ [] 0 0 := Stand.of_body Bd
  have e0 : s₁.heap = h0 := by rw [← hh, Bd.state]; rfl
  have N0 := Fr.nil n0
  have K0 : Keep h0 h0 [a0] := Keep.refl _ _
  refine own_start (CS := (0, 0)) (Q := (Q1 Z a0 p1 q2 p3 q4 q5 q6 q7 q8 q9 q10 q11 h0 n0)) (ef_1 m a0 p1 q2 p3 q4 q5 q6 q7 q8 q9 q10 q11) ?_
  show own_Go p e below s _ _ (s₁.setTop (mkF m 0 #[rv a0, iv p1, jv q2, .second, iv p3, jv q4, .second, jv q5, .second, jv q6, .second, jv q7, .second, jv q8, .second, jv q9, .second, jv q10, .second, jv q11, .second] []))
  refine own_via (fun k => XS.aloadN X0.here hx rfl (hb hby d1_0) rfl rfl  k) ?_
  show own_Go p e below s _ _ (s₁.setTop (mkF m 1 #[rv a0, iv p1, jv q2, .second, iv p3, jv q4, .second, jv q5, .second, jv q6, .second, jv q7, .second, jv q8, .second, jv q9, .second, jv q10, .second, jv q11, .second] [(.ref a0)]))
  obtain ⟨_, _, ⟨T1, L1, k1, n1⟩, -, X1, ⟨Lc1, hQ1, l1, y1, z1⟩, st1⟩ := X0.specialBack hx (y := (⟨"java/lang/Record", "<init>", "()V"⟩ : MethodName)) rfl hown (mvT hZ (hw _ (List.mem_of_getElem? (i := 6) rfl))) (mvT hZ (hw _ (List.mem_of_getElem? (i := 7) rfl))) (mvT hZ (hw _ (List.mem_of_getElem? (i := 10) rfl))) (by decide) (backOf (W := 0) (rm2 l Z aw hw [] a0 h0 n0 Z0) hZ (hw _ (List.mem_of_getElem? (i := 10) rfl)) (hw _ (List.mem_of_getElem? (i := 9) rfl)) (by decide) (by decide)) (g := (mkF m 1 #[rv a0, iv p1, jv q2, .second, iv p3, jv q4, .second, jv q5, .second, jv q6, .second, jv q7, .second, jv q8, .second, jv q9, .second, jv q10, .second, jv q11, .second] [(.ref a0)])) rfl (by rw [hml]; rfl) (Steps.refl _) (a := a0) (argsL := []) (rest := []) (lenOf pd_1 rfl) rfl (by show 2 * 0 + _ ≤ _; exact Nat.le_of_eq rfl) (hb hby d1_1) (fun _ _ => ⟨rfl, e0, (by decide : 0 + 0 ≤ _), (by decide : 0 + 0 ≤ _)⟩)
  dsimp only [Pt.U, Pt.locs, Pt.cells, Pt.slots] at X1 l1 y1 z1 st1 hQ1
  subst l1 y1 z1
  obtain ⟨rfl, N1q, eh1⟩ := hQ1
  have N2 := Fr.app N0 N1q
  refine own_via (fun k => st1.trans k) ?_
  show own_Go p e below s _ _ (T1.setTop (mkF m 4 #[rv a0, iv p1, jv q2, .second, iv p3, jv q4, .second, jv q5, .second, jv q6, .second, jv q7, .second, jv q8, .second, jv q9, .second, jv q10, .second, jv q11, .second] []))
  refine own_via (fun k => XS.aloadN X1.here hx rfl (hb hby d1_4) rfl rfl  (XS.iloadN X1.here hx rfl (hb hby d1_5) rfl  k)) ?_
  show own_Go p e below s _ _ (T1.setTop (mkF m 6 #[rv a0, iv p1, jv q2, .second, iv p3, jv q4, .second, jv q5, .second, jv q6, .second, jv q7, .second, jv q8, .second, jv q9, .second, jv q10, .second, jv q11, .second] [(.int p1), (.ref a0)]))
  obtain ⟨T3, h3, X3, e3, W3, st3⟩ := putF X1 hx hZ hown (host := "") (Or.inl (hw _ (List.mem_of_getElem? (i := 14) rfl))) Via.refl eh1 P0 P11 (Or.inr ⟨(hw _ (List.mem_of_getElem? (i := 15) rfl)), rfl, hnm⟩) (hw _ (List.mem_of_getElem? (i := 1) rfl)) (ty := .int) (by decide) rfl rfl (g := (mkF m 6 #[rv a0, iv p1, jv q2, .second, iv p3, jv q4, .second, jv q5, .second, jv q6, .second, jv q7, .second, jv q8, .second, jv q9, .second, jv q10, .second, jv q11, .second] [(.int p1), (.ref a0)])) rfl rfl (hb hby d1_6)
  refine own_via (fun k => st3 _ k) ?_
  show own_Go p e below s _ _ (T3.setTop (mkF m 9 #[rv a0, iv p1, jv q2, .second, iv p3, jv q4, .second, jv q5, .second, jv q6, .second, jv q7, .second, jv q8, .second, jv q9, .second, jv q10, .second, jv q11, .second] []))
  have B4 := P1.other W3 (Or.inr (slot_ne (Or.inr (hw _ (List.mem_of_getElem? (i := 17) rfl))) (Or.inr (hw _ (List.mem_of_getElem? (i := 15) rfl))) (by decide) (t := .long) (t' := .int) (by decide) (by decide)))
  have B5 := P2.other W3 (Or.inr (slot_ne (Or.inr (hw _ (List.mem_of_getElem? (i := 19) rfl))) (Or.inr (hw _ (List.mem_of_getElem? (i := 15) rfl))) (by decide) (t := .int) (t' := .int) (by decide) (by decide)))
  have B6 := P3.other W3 (Or.inr (slot_ne (Or.inr (hw _ (List.mem_of_getElem? (i := 21) rfl))) (Or.inr (hw _ (List.mem_of_getElem? (i := 15) rfl))) (by decide) (t := .long) (t' := .int) (by decide) (by decide)))
  have B7 := P4.other W3 (Or.inr (slot_ne (Or.inr (hw _ (List.mem_of_getElem? (i := 23) rfl))) (Or.inr (hw _ (List.mem_of_getElem? (i := 15) rfl))) (by decide) (t := .long) (t' := .int) (by decide) (by decide)))
  have B8 := P5.other W3 (Or.inr (slot_ne (Or.inr (hw _ (List.mem_of_getElem? (i := 25) rfl))) (Or.inr (hw _ (List.mem_of_getElem? (i := 15) rfl))) (by decide) (t := .long) (t' := .int) (by decide) (by decide)))
  have B9 := P6.other W3 (Or.inr (slot_ne (Or.inr (hw _ (List.mem_of_getElem? (i := 27) rfl))) (Or.inr (hw _ (List.mem_of_getElem? (i := 15) rfl))) (by decide) (t := .long) (t' := .int) (by decide) (by decide)))
  have B10 := P7.other W3 (Or.inr (slot_ne (Or.inr (hw _ (List.mem_of_getElem? (i := 29) rfl))) (Or.inr (hw _ (List.mem_of_getElem? (i := 15) rfl))) (by decide) (t := .long) (t' := .int) (by decide) (by decide)))
  have B11 := P8.other W3 (Or.inr (slot_ne (Or.inr (hw _ (List.mem_of_getElem? (i := 31) rfl))) (Or.inr (hw _ (List.mem_of_getElem? (i := 15) rfl))) (by decide) (t := .long) (t' := .int) (by decide) (by decide)))
  have B12 := P9.other W3 (Or.inr (slot_ne (Or.inr (hw _ (List.mem_of_getElem? (i := 33) rfl))) (Or.inr (hw _ (List.mem_of_getElem? (i := 15) rfl))) (by decide) (t := .long) (t' := .int) (by decide) (by decide)))
  have B13 := P10.other W3 (Or.inr (slot_ne (Or.inr (hw _ (List.mem_of_getElem? (i := 35) rfl))) (Or.inr (hw _ (List.mem_of_getElem? (i := 15) rfl))) (by decide) (t := .long) (t' := .int) (by decide) (by decide)))
  have B14 := P11.wr W3
  have B15 : Fld Z h3 a0 "com/example/waveslot/waveslot/core/DecompositionReport" "ports" "I" (.int p1) := P0.same W3
  have N16 := Fr.snoc X3 N2 ge0
  have K17 : Keep h0 h3 [a0] := K0.wr W3 (Or.inl (List.mem_of_getElem? (i := 0) rfl))
  have Z18 : n0 ≤ h3.size := Nat.le_trans Z0 (Keep.of_wr W3).1
  refine own_via (fun k => XS.aloadN X3.here hx rfl (hb hby d1_9) rfl rfl  (XS.lloadN X3.here hx rfl (hb hby d1_10) rfl  k)) ?_
  show own_Go p e below s _ _ (T3.setTop (mkF m 11 #[rv a0, iv p1, jv q2, .second, iv p3, jv q4, .second, jv q5, .second, jv q6, .second, jv q7, .second, jv q8, .second, jv q9, .second, jv q10, .second, jv q11, .second] [(.long q2), (.ref a0)]))
  obtain ⟨T19, h19, X19, e19, W19, st19⟩ := putF X3 hx hZ hown (host := "") (Or.inl (hw _ (List.mem_of_getElem? (i := 16) rfl))) Via.refl e3 B4 B14 (Or.inr ⟨(hw _ (List.mem_of_getElem? (i := 17) rfl)), rfl, hnm⟩) (hw _ (List.mem_of_getElem? (i := 1) rfl)) (ty := .long) (by decide) rfl rfl (g := (mkF m 11 #[rv a0, iv p1, jv q2, .second, iv p3, jv q4, .second, jv q5, .second, jv q6, .second, jv q7, .second, jv q8, .second, jv q9, .second, jv q10, .second, jv q11, .second] [(.long q2), (.ref a0)])) rfl rfl (hb hby d1_11)
  refine own_via (fun k => st19 _ k) ?_
  show own_Go p e below s _ _ (T19.setTop (mkF m 14 #[rv a0, iv p1, jv q2, .second, iv p3, jv q4, .second, jv q5, .second, jv q6, .second, jv q7, .second, jv q8, .second, jv q9, .second, jv q10, .second, jv q11, .second] []))
  have B20 := B5.other W19 (Or.inr (slot_ne (Or.inr (hw _ (List.mem_of_getElem? (i := 19) rfl))) (Or.inr (hw _ (List.mem_of_getElem? (i := 17) rfl))) (by decide) (t := .int) (t' := .long) (by decide) (by decide)))
  have B21 := B6.other W19 (Or.inr (slot_ne (Or.inr (hw _ (List.mem_of_getElem? (i := 21) rfl))) (Or.inr (hw _ (List.mem_of_getElem? (i := 17) rfl))) (by decide) (t := .long) (t' := .long) (by decide) (by decide)))
  have B22 := B7.other W19 (Or.inr (slot_ne (Or.inr (hw _ (List.mem_of_getElem? (i := 23) rfl))) (Or.inr (hw _ (List.mem_of_getElem? (i := 17) rfl))) (by decide) (t := .long) (t' := .long) (by decide) (by decide)))
  have B23 := B8.other W19 (Or.inr (slot_ne (Or.inr (hw _ (List.mem_of_getElem? (i := 25) rfl))) (Or.inr (hw _ (List.mem_of_getElem? (i := 17) rfl))) (by decide) (t := .long) (t' := .long) (by decide) (by decide)))
  have B24 := B9.other W19 (Or.inr (slot_ne (Or.inr (hw _ (List.mem_of_getElem? (i := 27) rfl))) (Or.inr (hw _ (List.mem_of_getElem? (i := 17) rfl))) (by decide) (t := .long) (t' := .long) (by decide) (by decide)))
  have B25 := B10.other W19 (Or.inr (slot_ne (Or.inr (hw _ (List.mem_of_getElem? (i := 29) rfl))) (Or.inr (hw _ (List.mem_of_getElem? (i := 17) rfl))) (by decide) (t := .long) (t' := .long) (by decide) (by decide)))
  have B26 := B11.other W19 (Or.inr (slot_ne (Or.inr (hw _ (List.mem_of_getElem? (i := 31) rfl))) (Or.inr (hw _ (List.mem_of_getElem? (i := 17) rfl))) (by decide) (t := .long) (t' := .long) (by decide) (by decide)))
  have B27 := B12.other W19 (Or.inr (slot_ne (Or.inr (hw _ (List.mem_of_getElem? (i := 33) rfl))) (Or.inr (hw _ (List.mem_of_getElem? (i := 17) rfl))) (by decide) (t := .long) (t' := .long) (by decide) (by decide)))
  have B28 := B13.other W19 (Or.inr (slot_ne (Or.inr (hw _ (List.mem_of_getElem? (i := 35) rfl))) (Or.inr (hw _ (List.mem_of_getElem? (i := 17) rfl))) (by decide) (t := .long) (t' := .long) (by decide) (by decide)))
  have B29 := B14.wr W19
  have B30 := B15.other W19 (Or.inr (slot_ne (Or.inr (hw _ (List.mem_of_getElem? (i := 15) rfl))) (Or.inr (hw _ (List.mem_of_getElem? (i := 17) rfl))) (by decide) (t := .int) (t' := .long) (by decide) (by decide)))
  have B31 : Fld Z h19 a0 "com/example/waveslot/waveslot/core/DecompositionReport" "maxLineSum" "J" (.long q2) := B4.same W19
  have N32 := Fr.snoc X19 N16 ge0
  have K33 : Keep h0 h19 [a0] := K17.wr W19 (Or.inl (List.mem_of_getElem? (i := 0) rfl))
  have Z34 : n0 ≤ h19.size := Nat.le_trans Z18 (Keep.of_wr W19).1
  refine own_via (fun k => XS.aloadN X19.here hx rfl (hb hby d1_14) rfl rfl  (XS.iload X19.here hx rfl (hb hby d1_15) rfl  k)) ?_
  show own_Go p e below s _ _ (T19.setTop (mkF m 17 #[rv a0, iv p1, jv q2, .second, iv p3, jv q4, .second, jv q5, .second, jv q6, .second, jv q7, .second, jv q8, .second, jv q9, .second, jv q10, .second, jv q11, .second] [(.int p3), (.ref a0)]))
  obtain ⟨T35, h35, X35, e35, W35, st35⟩ := putF X19 hx hZ hown (host := "") (Or.inl (hw _ (List.mem_of_getElem? (i := 18) rfl))) Via.refl e19 B20 B29 (Or.inr ⟨(hw _ (List.mem_of_getElem? (i := 19) rfl)), rfl, hnm⟩) (hw _ (List.mem_of_getElem? (i := 1) rfl)) (ty := .int) (by decide) rfl rfl (g := (mkF m 17 #[rv a0, iv p1, jv q2, .second, iv p3, jv q4, .second, jv q5, .second, jv q6, .second, jv q7, .second, jv q8, .second, jv q9, .second, jv q10, .second, jv q11, .second] [(.int p3), (.ref a0)])) rfl rfl (hb hby d1_17)
  refine own_via (fun k => st35 _ k) ?_
  show own_Go p e below s _ _ (T35.setTop (mkF m 20 #[rv a0, iv p1, jv q2, .second, iv p3, jv q4, .second, jv q5, .second, jv q6, .second, jv q7, .second, jv q8, .second, jv q9, .second, jv q10, .second, jv q11, .second] []))
  have B36 := B21.other W35 (Or.inr (slot_ne (Or.inr (hw _ (List.mem_of_getElem? (i := 21) rfl))) (Or.inr (hw _ (List.mem_of_getElem? (i := 19) rfl))) (by decide) (t := .long) (t' := .int) (by decide) (by decide)))
  have B37 := B22.other W35 (Or.inr (slot_ne (Or.inr (hw _ (List.mem_of_getElem? (i := 23) rfl))) (Or.inr (hw _ (List.mem_of_getElem? (i := 19) rfl))) (by decide) (t := .long) (t' := .int) (by decide) (by decide)))
  have B38 := B23.other W35 (Or.inr (slot_ne (Or.inr (hw _ (List.mem_of_getElem? (i := 25) rfl))) (Or.inr (hw _ (List.mem_of_getElem? (i := 19) rfl))) (by decide) (t := .long) (t' := .int) (by decide) (by decide)))
  have B39 := B24.other W35 (Or.inr (slot_ne (Or.inr (hw _ (List.mem_of_getElem? (i := 27) rfl))) (Or.inr (hw _ (List.mem_of_getElem? (i := 19) rfl))) (by decide) (t := .long) (t' := .int) (by decide) (by decide)))
  have B40 := B25.other W35 (Or.inr (slot_ne (Or.inr (hw _ (List.mem_of_getElem? (i := 29) rfl))) (Or.inr (hw _ (List.mem_of_getElem? (i := 19) rfl))) (by decide) (t := .long) (t' := .int) (by decide) (by decide)))
  have B41 := B26.other W35 (Or.inr (slot_ne (Or.inr (hw _ (List.mem_of_getElem? (i := 31) rfl))) (Or.inr (hw _ (List.mem_of_getElem? (i := 19) rfl))) (by decide) (t := .long) (t' := .int) (by decide) (by decide)))
  have B42 := B27.other W35 (Or.inr (slot_ne (Or.inr (hw _ (List.mem_of_getElem? (i := 33) rfl))) (Or.inr (hw _ (List.mem_of_getElem? (i := 19) rfl))) (by decide) (t := .long) (t' := .int) (by decide) (by decide)))
  have B43 := B28.other W35 (Or.inr (slot_ne (Or.inr (hw _ (List.mem_of_getElem? (i := 35) rfl))) (Or.inr (hw _ (List.mem_of_getElem? (i := 19) rfl))) (by decide) (t := .long) (t' := .int) (by decide) (by decide)))
  have B44 := B29.wr W35
  have B45 := B30.other W35 (Or.inr (slot_ne (Or.inr (hw _ (List.mem_of_getElem? (i := 15) rfl))) (Or.inr (hw _ (List.mem_of_getElem? (i := 19) rfl))) (by decide) (t := .int) (t' := .int) (by decide) (by decide)))
  have B46 := B31.other W35 (Or.inr (slot_ne (Or.inr (hw _ (List.mem_of_getElem? (i := 17) rfl))) (Or.inr (hw _ (List.mem_of_getElem? (i := 19) rfl))) (by decide) (t := .long) (t' := .int) (by decide) (by decide)))
  have B47 : Fld Z h35 a0 "com/example/waveslot/waveslot/core/DecompositionReport" "configurations" "I" (.int p3) := B20.same W35
  have N48 := Fr.snoc X35 N32 ge0
  have K49 : Keep h0 h35 [a0] := K33.wr W35 (Or.inl (List.mem_of_getElem? (i := 0) rfl))
  have Z50 : n0 ≤ h35.size := Nat.le_trans Z34 (Keep.of_wr W35).1
  refine own_via (fun k => XS.aloadN X35.here hx rfl (hb hby d1_20) rfl rfl  (XS.lload X35.here hx rfl (hb hby d1_21) rfl  k)) ?_
  show own_Go p e below s _ _ (T35.setTop (mkF m 23 #[rv a0, iv p1, jv q2, .second, iv p3, jv q4, .second, jv q5, .second, jv q6, .second, jv q7, .second, jv q8, .second, jv q9, .second, jv q10, .second, jv q11, .second] [(.long q4), (.ref a0)]))
  obtain ⟨T51, h51, X51, e51, W51, st51⟩ := putF X35 hx hZ hown (host := "") (Or.inl (hw _ (List.mem_of_getElem? (i := 20) rfl))) Via.refl e35 B36 B44 (Or.inr ⟨(hw _ (List.mem_of_getElem? (i := 21) rfl)), rfl, hnm⟩) (hw _ (List.mem_of_getElem? (i := 1) rfl)) (ty := .long) (by decide) rfl rfl (g := (mkF m 23 #[rv a0, iv p1, jv q2, .second, iv p3, jv q4, .second, jv q5, .second, jv q6, .second, jv q7, .second, jv q8, .second, jv q9, .second, jv q10, .second, jv q11, .second] [(.long q4), (.ref a0)])) rfl rfl (hb hby d1_23)
  refine own_via (fun k => st51 _ k) ?_
  show own_Go p e below s _ _ (T51.setTop (mkF m 26 #[rv a0, iv p1, jv q2, .second, iv p3, jv q4, .second, jv q5, .second, jv q6, .second, jv q7, .second, jv q8, .second, jv q9, .second, jv q10, .second, jv q11, .second] []))
  have B52 := B37.other W51 (Or.inr (slot_ne (Or.inr (hw _ (List.mem_of_getElem? (i := 23) rfl))) (Or.inr (hw _ (List.mem_of_getElem? (i := 21) rfl))) (by decide) (t := .long) (t' := .long) (by decide) (by decide)))
  have B53 := B38.other W51 (Or.inr (slot_ne (Or.inr (hw _ (List.mem_of_getElem? (i := 25) rfl))) (Or.inr (hw _ (List.mem_of_getElem? (i := 21) rfl))) (by decide) (t := .long) (t' := .long) (by decide) (by decide)))
  have B54 := B39.other W51 (Or.inr (slot_ne (Or.inr (hw _ (List.mem_of_getElem? (i := 27) rfl))) (Or.inr (hw _ (List.mem_of_getElem? (i := 21) rfl))) (by decide) (t := .long) (t' := .long) (by decide) (by decide)))
  have B55 := B40.other W51 (Or.inr (slot_ne (Or.inr (hw _ (List.mem_of_getElem? (i := 29) rfl))) (Or.inr (hw _ (List.mem_of_getElem? (i := 21) rfl))) (by decide) (t := .long) (t' := .long) (by decide) (by decide)))
  have B56 := B41.other W51 (Or.inr (slot_ne (Or.inr (hw _ (List.mem_of_getElem? (i := 31) rfl))) (Or.inr (hw _ (List.mem_of_getElem? (i := 21) rfl))) (by decide) (t := .long) (t' := .long) (by decide) (by decide)))
  have B57 := B42.other W51 (Or.inr (slot_ne (Or.inr (hw _ (List.mem_of_getElem? (i := 33) rfl))) (Or.inr (hw _ (List.mem_of_getElem? (i := 21) rfl))) (by decide) (t := .long) (t' := .long) (by decide) (by decide)))
  have B58 := B43.other W51 (Or.inr (slot_ne (Or.inr (hw _ (List.mem_of_getElem? (i := 35) rfl))) (Or.inr (hw _ (List.mem_of_getElem? (i := 21) rfl))) (by decide) (t := .long) (t' := .long) (by decide) (by decide)))
  have B59 := B44.wr W51
  have B60 := B45.other W51 (Or.inr (slot_ne (Or.inr (hw _ (List.mem_of_getElem? (i := 15) rfl))) (Or.inr (hw _ (List.mem_of_getElem? (i := 21) rfl))) (by decide) (t := .int) (t' := .long) (by decide) (by decide)))
  have B61 := B46.other W51 (Or.inr (slot_ne (Or.inr (hw _ (List.mem_of_getElem? (i := 17) rfl))) (Or.inr (hw _ (List.mem_of_getElem? (i := 21) rfl))) (by decide) (t := .long) (t' := .long) (by decide) (by decide)))
  have B62 := B47.other W51 (Or.inr (slot_ne (Or.inr (hw _ (List.mem_of_getElem? (i := 19) rfl))) (Or.inr (hw _ (List.mem_of_getElem? (i := 21) rfl))) (by decide) (t := .int) (t' := .long) (by decide) (by decide)))
  have B63 : Fld Z h51 a0 "com/example/waveslot/waveslot/core/DecompositionReport" "weightSum" "J" (.long q4) := B36.same W51
  have N64 := Fr.snoc X51 N48 ge0
  have K65 : Keep h0 h51 [a0] := K49.wr W51 (Or.inl (List.mem_of_getElem? (i := 0) rfl))
  have Z66 : n0 ≤ h51.size := Nat.le_trans Z50 (Keep.of_wr W51).1
  refine own_via (fun k => XS.aloadN X51.here hx rfl (hb hby d1_26) rfl rfl  (XS.lload X51.here hx rfl (hb hby d1_27) rfl  k)) ?_
  show own_Go p e below s _ _ (T51.setTop (mkF m 29 #[rv a0, iv p1, jv q2, .second, iv p3, jv q4, .second, jv q5, .second, jv q6, .second, jv q7, .second, jv q8, .second, jv q9, .second, jv q10, .second, jv q11, .second] [(.long q5), (.ref a0)]))
  obtain ⟨T67, h67, X67, e67, W67, st67⟩ := putF X51 hx hZ hown (host := "") (Or.inl (hw _ (List.mem_of_getElem? (i := 22) rfl))) Via.refl e51 B52 B59 (Or.inr ⟨(hw _ (List.mem_of_getElem? (i := 23) rfl)), rfl, hnm⟩) (hw _ (List.mem_of_getElem? (i := 1) rfl)) (ty := .long) (by decide) rfl rfl (g := (mkF m 29 #[rv a0, iv p1, jv q2, .second, iv p3, jv q4, .second, jv q5, .second, jv q6, .second, jv q7, .second, jv q8, .second, jv q9, .second, jv q10, .second, jv q11, .second] [(.long q5), (.ref a0)])) rfl rfl (hb hby d1_29)
  refine own_via (fun k => st67 _ k) ?_
  show own_Go p e below s _ _ (T67.setTop (mkF m 32 #[rv a0, iv p1, jv q2, .second, iv p3, jv q4, .second, jv q5, .second, jv q6, .second, jv q7, .second, jv q8, .second, jv q9, .second, jv q10, .second, jv q11, .second] []))
  have B68 := B53.other W67 (Or.inr (slot_ne (Or.inr (hw _ (List.mem_of_getElem? (i := 25) rfl))) (Or.inr (hw _ (List.mem_of_getElem? (i := 23) rfl))) (by decide) (t := .long) (t' := .long) (by decide) (by decide)))
  have B69 := B54.other W67 (Or.inr (slot_ne (Or.inr (hw _ (List.mem_of_getElem? (i := 27) rfl))) (Or.inr (hw _ (List.mem_of_getElem? (i := 23) rfl))) (by decide) (t := .long) (t' := .long) (by decide) (by decide)))
  have B70 := B55.other W67 (Or.inr (slot_ne (Or.inr (hw _ (List.mem_of_getElem? (i := 29) rfl))) (Or.inr (hw _ (List.mem_of_getElem? (i := 23) rfl))) (by decide) (t := .long) (t' := .long) (by decide) (by decide)))
  have B71 := B56.other W67 (Or.inr (slot_ne (Or.inr (hw _ (List.mem_of_getElem? (i := 31) rfl))) (Or.inr (hw _ (List.mem_of_getElem? (i := 23) rfl))) (by decide) (t := .long) (t' := .long) (by decide) (by decide)))
  have B72 := B57.other W67 (Or.inr (slot_ne (Or.inr (hw _ (List.mem_of_getElem? (i := 33) rfl))) (Or.inr (hw _ (List.mem_of_getElem? (i := 23) rfl))) (by decide) (t := .long) (t' := .long) (by decide) (by decide)))
  have B73 := B58.other W67 (Or.inr (slot_ne (Or.inr (hw _ (List.mem_of_getElem? (i := 35) rfl))) (Or.inr (hw _ (List.mem_of_getElem? (i := 23) rfl))) (by decide) (t := .long) (t' := .long) (by decide) (by decide)))
  have B74 := B59.wr W67
  have B75 := B60.other W67 (Or.inr (slot_ne (Or.inr (hw _ (List.mem_of_getElem? (i := 15) rfl))) (Or.inr (hw _ (List.mem_of_getElem? (i := 23) rfl))) (by decide) (t := .int) (t' := .long) (by decide) (by decide)))
  have B76 := B61.other W67 (Or.inr (slot_ne (Or.inr (hw _ (List.mem_of_getElem? (i := 17) rfl))) (Or.inr (hw _ (List.mem_of_getElem? (i := 23) rfl))) (by decide) (t := .long) (t' := .long) (by decide) (by decide)))
  have B77 := B62.other W67 (Or.inr (slot_ne (Or.inr (hw _ (List.mem_of_getElem? (i := 19) rfl))) (Or.inr (hw _ (List.mem_of_getElem? (i := 23) rfl))) (by decide) (t := .int) (t' := .long) (by decide) (by decide)))
  have B78 := B63.other W67 (Or.inr (slot_ne (Or.inr (hw _ (List.mem_of_getElem? (i := 21) rfl))) (Or.inr (hw _ (List.mem_of_getElem? (i := 23) rfl))) (by decide) (t := .long) (t' := .long) (by decide) (by decide)))
  have B79 : Fld Z h67 a0 "com/example/waveslot/waveslot/core/DecompositionReport" "overlaps" "J" (.long q5) := B52.same W67
  have N80 := Fr.snoc X67 N64 ge0
  have K81 : Keep h0 h67 [a0] := K65.wr W67 (Or.inl (List.mem_of_getElem? (i := 0) rfl))
  have Z82 : n0 ≤ h67.size := Nat.le_trans Z66 (Keep.of_wr W67).1
  refine own_via (fun k => XS.aloadN X67.here hx rfl (hb hby d1_32) rfl rfl  (XS.lload X67.here hx rfl (hb hby d1_33) rfl  k)) ?_
  show own_Go p e below s _ _ (T67.setTop (mkF m 35 #[rv a0, iv p1, jv q2, .second, iv p3, jv q4, .second, jv q5, .second, jv q6, .second, jv q7, .second, jv q8, .second, jv q9, .second, jv q10, .second, jv q11, .second] [(.long q6), (.ref a0)]))
  obtain ⟨T83, h83, X83, e83, W83, st83⟩ := putF X67 hx hZ hown (host := "") (Or.inl (hw _ (List.mem_of_getElem? (i := 24) rfl))) Via.refl e67 B68 B74 (Or.inr ⟨(hw _ (List.mem_of_getElem? (i := 25) rfl)), rfl, hnm⟩) (hw _ (List.mem_of_getElem? (i := 1) rfl)) (ty := .long) (by decide) rfl rfl (g := (mkF m 35 #[rv a0, iv p1, jv q2, .second, iv p3, jv q4, .second, jv q5, .second, jv q6, .second, jv q7, .second, jv q8, .second, jv q9, .second, jv q10, .second, jv q11, .second] [(.long q6), (.ref a0)])) rfl rfl (hb hby d1_35)
  refine own_via (fun k => st83 _ k) ?_
  show own_Go p e below s _ _ (T83.setTop (mkF m 38 #[rv a0, iv p1, jv q2, .second, iv p3, jv q4, .second, jv q5, .second, jv q6, .second, jv q7, .second, jv q8, .second, jv q9, .second, jv q10, .second, jv q11, .second] []))
  have B84 := B69.other W83 (Or.inr (slot_ne (Or.inr (hw _ (List.mem_of_getElem? (i := 27) rfl))) (Or.inr (hw _ (List.mem_of_getElem? (i := 25) rfl))) (by decide) (t := .long) (t' := .long) (by decide) (by decide)))
  have B85 := B70.other W83 (Or.inr (slot_ne (Or.inr (hw _ (List.mem_of_getElem? (i := 29) rfl))) (Or.inr (hw _ (List.mem_of_getElem? (i := 25) rfl))) (by decide) (t := .long) (t' := .long) (by decide) (by decide)))
  have B86 := B71.other W83 (Or.inr (slot_ne (Or.inr (hw _ (List.mem_of_getElem? (i := 31) rfl))) (Or.inr (hw _ (List.mem_of_getElem? (i := 25) rfl))) (by decide) (t := .long) (t' := .long) (by decide) (by decide)))
  have B87 := B72.other W83 (Or.inr (slot_ne (Or.inr (hw _ (List.mem_of_getElem? (i := 33) rfl))) (Or.inr (hw _ (List.mem_of_getElem? (i := 25) rfl))) (by decide) (t := .long) (t' := .long) (by decide) (by decide)))
  have B88 := B73.other W83 (Or.inr (slot_ne (Or.inr (hw _ (List.mem_of_getElem? (i := 35) rfl))) (Or.inr (hw _ (List.mem_of_getElem? (i := 25) rfl))) (by decide) (t := .long) (t' := .long) (by decide) (by decide)))
  have B89 := B74.wr W83
  have B90 := B75.other W83 (Or.inr (slot_ne (Or.inr (hw _ (List.mem_of_getElem? (i := 15) rfl))) (Or.inr (hw _ (List.mem_of_getElem? (i := 25) rfl))) (by decide) (t := .int) (t' := .long) (by decide) (by decide)))
  have B91 := B76.other W83 (Or.inr (slot_ne (Or.inr (hw _ (List.mem_of_getElem? (i := 17) rfl))) (Or.inr (hw _ (List.mem_of_getElem? (i := 25) rfl))) (by decide) (t := .long) (t' := .long) (by decide) (by decide)))
  have B92 := B77.other W83 (Or.inr (slot_ne (Or.inr (hw _ (List.mem_of_getElem? (i := 19) rfl))) (Or.inr (hw _ (List.mem_of_getElem? (i := 25) rfl))) (by decide) (t := .int) (t' := .long) (by decide) (by decide)))
  have B93 := B78.other W83 (Or.inr (slot_ne (Or.inr (hw _ (List.mem_of_getElem? (i := 21) rfl))) (Or.inr (hw _ (List.mem_of_getElem? (i := 25) rfl))) (by decide) (t := .long) (t' := .long) (by decide) (by decide)))
  have B94 := B79.other W83 (Or.inr (slot_ne (Or.inr (hw _ (List.mem_of_getElem? (i := 23) rfl))) (Or.inr (hw _ (List.mem_of_getElem? (i := 25) rfl))) (by decide) (t := .long) (t' := .long) (by decide) (by decide)))
  have B95 : Fld Z h83 a0 "com/example/waveslot/waveslot/core/DecompositionReport" "uncovered" "J" (.long q6) := B68.same W83
  have N96 := Fr.snoc X83 N80 ge0
  have K97 : Keep h0 h83 [a0] := K81.wr W83 (Or.inl (List.mem_of_getElem? (i := 0) rfl))
  have Z98 : n0 ≤ h83.size := Nat.le_trans Z82 (Keep.of_wr W83).1
  refine own_via (fun k => XS.aloadN X83.here hx rfl (hb hby d1_38) rfl rfl  (XS.lload X83.here hx rfl (hb hby d1_39) rfl  k)) ?_
  show own_Go p e below s _ _ (T83.setTop (mkF m 41 #[rv a0, iv p1, jv q2, .second, iv p3, jv q4, .second, jv q5, .second, jv q6, .second, jv q7, .second, jv q8, .second, jv q9, .second, jv q10, .second, jv q11, .second] [(.long q7), (.ref a0)]))
  obtain ⟨T99, h99, X99, e99, W99, st99⟩ := putF X83 hx hZ hown (host := "") (Or.inl (hw _ (List.mem_of_getElem? (i := 26) rfl))) Via.refl e83 B84 B89 (Or.inr ⟨(hw _ (List.mem_of_getElem? (i := 27) rfl)), rfl, hnm⟩) (hw _ (List.mem_of_getElem? (i := 1) rfl)) (ty := .long) (by decide) rfl rfl (g := (mkF m 41 #[rv a0, iv p1, jv q2, .second, iv p3, jv q4, .second, jv q5, .second, jv q6, .second, jv q7, .second, jv q8, .second, jv q9, .second, jv q10, .second, jv q11, .second] [(.long q7), (.ref a0)])) rfl rfl (hb hby d1_41)
  refine own_via (fun k => st99 _ k) ?_
  show own_Go p e below s _ _ (T99.setTop (mkF m 44 #[rv a0, iv p1, jv q2, .second, iv p3, jv q4, .second, jv q5, .second, jv q6, .second, jv q7, .second, jv q8, .second, jv q9, .second, jv q10, .second, jv q11, .second] []))
  have B100 := B85.other W99 (Or.inr (slot_ne (Or.inr (hw _ (List.mem_of_getElem? (i := 29) rfl))) (Or.inr (hw _ (List.mem_of_getElem? (i := 27) rfl))) (by decide) (t := .long) (t' := .long) (by decide) (by decide)))
  have B101 := B86.other W99 (Or.inr (slot_ne (Or.inr (hw _ (List.mem_of_getElem? (i := 31) rfl))) (Or.inr (hw _ (List.mem_of_getElem? (i := 27) rfl))) (by decide) (t := .long) (t' := .long) (by decide) (by decide)))
  have B102 := B87.other W99 (Or.inr (slot_ne (Or.inr (hw _ (List.mem_of_getElem? (i := 33) rfl))) (Or.inr (hw _ (List.mem_of_getElem? (i := 27) rfl))) (by decide) (t := .long) (t' := .long) (by decide) (by decide)))
  have B103 := B88.other W99 (Or.inr (slot_ne (Or.inr (hw _ (List.mem_of_getElem? (i := 35) rfl))) (Or.inr (hw _ (List.mem_of_getElem? (i := 27) rfl))) (by decide) (t := .long) (t' := .long) (by decide) (by decide)))
  have B104 := B89.wr W99
  have B105 := B90.other W99 (Or.inr (slot_ne (Or.inr (hw _ (List.mem_of_getElem? (i := 15) rfl))) (Or.inr (hw _ (List.mem_of_getElem? (i := 27) rfl))) (by decide) (t := .int) (t' := .long) (by decide) (by decide)))
  have B106 := B91.other W99 (Or.inr (slot_ne (Or.inr (hw _ (List.mem_of_getElem? (i := 17) rfl))) (Or.inr (hw _ (List.mem_of_getElem? (i := 27) rfl))) (by decide) (t := .long) (t' := .long) (by decide) (by decide)))
  have B107 := B92.other W99 (Or.inr (slot_ne (Or.inr (hw _ (List.mem_of_getElem? (i := 19) rfl))) (Or.inr (hw _ (List.mem_of_getElem? (i := 27) rfl))) (by decide) (t := .int) (t' := .long) (by decide) (by decide)))
  have B108 := B93.other W99 (Or.inr (slot_ne (Or.inr (hw _ (List.mem_of_getElem? (i := 21) rfl))) (Or.inr (hw _ (List.mem_of_getElem? (i := 27) rfl))) (by decide) (t := .long) (t' := .long) (by decide) (by decide)))
  have B109 := B94.other W99 (Or.inr (slot_ne (Or.inr (hw _ (List.mem_of_getElem? (i := 23) rfl))) (Or.inr (hw _ (List.mem_of_getElem? (i := 27) rfl))) (by decide) (t := .long) (t' := .long) (by decide) (by decide)))
  have B110 := B95.other W99 (Or.inr (slot_ne (Or.inr (hw _ (List.mem_of_getElem? (i := 25) rfl))) (Or.inr (hw _ (List.mem_of_getElem? (i := 27) rfl))) (by decide) (t := .long) (t' := .long) (by decide) (by decide)))
  have B111 : Fld Z h99 a0 "com/example/waveslot/waveslot/core/DecompositionReport" "repeatedInputs" "J" (.long q7) := B84.same W99
  have N112 := Fr.snoc X99 N96 ge0
  have K113 : Keep h0 h99 [a0] := K97.wr W99 (Or.inl (List.mem_of_getElem? (i := 0) rfl))
  have Z114 : n0 ≤ h99.size := Nat.le_trans Z98 (Keep.of_wr W99).1
  refine own_via (fun k => XS.aloadN X99.here hx rfl (hb hby d1_44) rfl rfl  (XS.lload X99.here hx rfl (hb hby d1_45) rfl  k)) ?_
  show own_Go p e below s _ _ (T99.setTop (mkF m 47 #[rv a0, iv p1, jv q2, .second, iv p3, jv q4, .second, jv q5, .second, jv q6, .second, jv q7, .second, jv q8, .second, jv q9, .second, jv q10, .second, jv q11, .second] [(.long q8), (.ref a0)]))
  obtain ⟨T115, h115, X115, e115, W115, st115⟩ := putF X99 hx hZ hown (host := "") (Or.inl (hw _ (List.mem_of_getElem? (i := 28) rfl))) Via.refl e99 B100 B104 (Or.inr ⟨(hw _ (List.mem_of_getElem? (i := 29) rfl)), rfl, hnm⟩) (hw _ (List.mem_of_getElem? (i := 1) rfl)) (ty := .long) (by decide) rfl rfl (g := (mkF m 47 #[rv a0, iv p1, jv q2, .second, iv p3, jv q4, .second, jv q5, .second, jv q6, .second, jv q7, .second, jv q8, .second, jv q9, .second, jv q10, .second, jv q11, .second] [(.long q8), (.ref a0)])) rfl rfl (hb hby d1_47)
  refine own_via (fun k => st115 _ k) ?_
  show own_Go p e below s _ _ (T115.setTop (mkF m 50 #[rv a0, iv p1, jv q2, .second, iv p3, jv q4, .second, jv q5, .second, jv q6, .second, jv q7, .second, jv q8, .second, jv q9, .second, jv q10, .second, jv q11, .second] []))
  have B116 := B101.other W115 (Or.inr (slot_ne (Or.inr (hw _ (List.mem_of_getElem? (i := 31) rfl))) (Or.inr (hw _ (List.mem_of_getElem? (i := 29) rfl))) (by decide) (t := .long) (t' := .long) (by decide) (by decide)))
  have B117 := B102.other W115 (Or.inr (slot_ne (Or.inr (hw _ (List.mem_of_getElem? (i := 33) rfl))) (Or.inr (hw _ (List.mem_of_getElem? (i := 29) rfl))) (by decide) (t := .long) (t' := .long) (by decide) (by decide)))
  have B118 := B103.other W115 (Or.inr (slot_ne (Or.inr (hw _ (List.mem_of_getElem? (i := 35) rfl))) (Or.inr (hw _ (List.mem_of_getElem? (i := 29) rfl))) (by decide) (t := .long) (t' := .long) (by decide) (by decide)))
  have B119 := B104.wr W115
  have B120 := B105.other W115 (Or.inr (slot_ne (Or.inr (hw _ (List.mem_of_getElem? (i := 15) rfl))) (Or.inr (hw _ (List.mem_of_getElem? (i := 29) rfl))) (by decide) (t := .int) (t' := .long) (by decide) (by decide)))
  have B121 := B106.other W115 (Or.inr (slot_ne (Or.inr (hw _ (List.mem_of_getElem? (i := 17) rfl))) (Or.inr (hw _ (List.mem_of_getElem? (i := 29) rfl))) (by decide) (t := .long) (t' := .long) (by decide) (by decide)))
  have B122 := B107.other W115 (Or.inr (slot_ne (Or.inr (hw _ (List.mem_of_getElem? (i := 19) rfl))) (Or.inr (hw _ (List.mem_of_getElem? (i := 29) rfl))) (by decide) (t := .int) (t' := .long) (by decide) (by decide)))
  have B123 := B108.other W115 (Or.inr (slot_ne (Or.inr (hw _ (List.mem_of_getElem? (i := 21) rfl))) (Or.inr (hw _ (List.mem_of_getElem? (i := 29) rfl))) (by decide) (t := .long) (t' := .long) (by decide) (by decide)))
  have B124 := B109.other W115 (Or.inr (slot_ne (Or.inr (hw _ (List.mem_of_getElem? (i := 23) rfl))) (Or.inr (hw _ (List.mem_of_getElem? (i := 29) rfl))) (by decide) (t := .long) (t' := .long) (by decide) (by decide)))
  have B125 := B110.other W115 (Or.inr (slot_ne (Or.inr (hw _ (List.mem_of_getElem? (i := 25) rfl))) (Or.inr (hw _ (List.mem_of_getElem? (i := 29) rfl))) (by decide) (t := .long) (t' := .long) (by decide) (by decide)))
  have B126 := B111.other W115 (Or.inr (slot_ne (Or.inr (hw _ (List.mem_of_getElem? (i := 27) rfl))) (Or.inr (hw _ (List.mem_of_getElem? (i := 29) rfl))) (by decide) (t := .long) (t' := .long) (by decide) (by decide)))
  have B127 : Fld Z h115 a0 "com/example/waveslot/waveslot/core/DecompositionReport" "missingInputs" "J" (.long q8) := B100.same W115
  have N128 := Fr.snoc X115 N112 ge0
  have K129 : Keep h0 h115 [a0] := K113.wr W115 (Or.inl (List.mem_of_getElem? (i := 0) rfl))
  have Z130 : n0 ≤ h115.size := Nat.le_trans Z114 (Keep.of_wr W115).1
  refine own_via (fun k => XS.aloadN X115.here hx rfl (hb hby d1_50) rfl rfl  (XS.lload X115.here hx rfl (hb hby d1_51) rfl  k)) ?_
  show own_Go p e below s _ _ (T115.setTop (mkF m 53 #[rv a0, iv p1, jv q2, .second, iv p3, jv q4, .second, jv q5, .second, jv q6, .second, jv q7, .second, jv q8, .second, jv q9, .second, jv q10, .second, jv q11, .second] [(.long q9), (.ref a0)]))
  obtain ⟨T131, h131, X131, e131, W131, st131⟩ := putF X115 hx hZ hown (host := "") (Or.inl (hw _ (List.mem_of_getElem? (i := 30) rfl))) Via.refl e115 B116 B119 (Or.inr ⟨(hw _ (List.mem_of_getElem? (i := 31) rfl)), rfl, hnm⟩) (hw _ (List.mem_of_getElem? (i := 1) rfl)) (ty := .long) (by decide) rfl rfl (g := (mkF m 53 #[rv a0, iv p1, jv q2, .second, iv p3, jv q4, .second, jv q5, .second, jv q6, .second, jv q7, .second, jv q8, .second, jv q9, .second, jv q10, .second, jv q11, .second] [(.long q9), (.ref a0)])) rfl rfl (hb hby d1_53)
  refine own_via (fun k => st131 _ k) ?_
  show own_Go p e below s _ _ (T131.setTop (mkF m 56 #[rv a0, iv p1, jv q2, .second, iv p3, jv q4, .second, jv q5, .second, jv q6, .second, jv q7, .second, jv q8, .second, jv q9, .second, jv q10, .second, jv q11, .second] []))
  have B132 := B117.other W131 (Or.inr (slot_ne (Or.inr (hw _ (List.mem_of_getElem? (i := 33) rfl))) (Or.inr (hw _ (List.mem_of_getElem? (i := 31) rfl))) (by decide) (t := .long) (t' := .long) (by decide) (by decide)))
  have B133 := B118.other W131 (Or.inr (slot_ne (Or.inr (hw _ (List.mem_of_getElem? (i := 35) rfl))) (Or.inr (hw _ (List.mem_of_getElem? (i := 31) rfl))) (by decide) (t := .long) (t' := .long) (by decide) (by decide)))
  have B134 := B119.wr W131
  have B135 := B120.other W131 (Or.inr (slot_ne (Or.inr (hw _ (List.mem_of_getElem? (i := 15) rfl))) (Or.inr (hw _ (List.mem_of_getElem? (i := 31) rfl))) (by decide) (t := .int) (t' := .long) (by decide) (by decide)))
  have B136 := B121.other W131 (Or.inr (slot_ne (Or.inr (hw _ (List.mem_of_getElem? (i := 17) rfl))) (Or.inr (hw _ (List.mem_of_getElem? (i := 31) rfl))) (by decide) (t := .long) (t' := .long) (by decide) (by decide)))
  have B137 := B122.other W131 (Or.inr (slot_ne (Or.inr (hw _ (List.mem_of_getElem? (i := 19) rfl))) (Or.inr (hw _ (List.mem_of_getElem? (i := 31) rfl))) (by decide) (t := .int) (t' := .long) (by decide) (by decide)))
  have B138 := B123.other W131 (Or.inr (slot_ne (Or.inr (hw _ (List.mem_of_getElem? (i := 21) rfl))) (Or.inr (hw _ (List.mem_of_getElem? (i := 31) rfl))) (by decide) (t := .long) (t' := .long) (by decide) (by decide)))
  have B139 := B124.other W131 (Or.inr (slot_ne (Or.inr (hw _ (List.mem_of_getElem? (i := 23) rfl))) (Or.inr (hw _ (List.mem_of_getElem? (i := 31) rfl))) (by decide) (t := .long) (t' := .long) (by decide) (by decide)))
  have B140 := B125.other W131 (Or.inr (slot_ne (Or.inr (hw _ (List.mem_of_getElem? (i := 25) rfl))) (Or.inr (hw _ (List.mem_of_getElem? (i := 31) rfl))) (by decide) (t := .long) (t' := .long) (by decide) (by decide)))
  have B141 := B126.other W131 (Or.inr (slot_ne (Or.inr (hw _ (List.mem_of_getElem? (i := 27) rfl))) (Or.inr (hw _ (List.mem_of_getElem? (i := 31) rfl))) (by decide) (t := .long) (t' := .long) (by decide) (by decide)))
  have B142 := B127.other W131 (Or.inr (slot_ne (Or.inr (hw _ (List.mem_of_getElem? (i := 29) rfl))) (Or.inr (hw _ (List.mem_of_getElem? (i := 31) rfl))) (by decide) (t := .long) (t' := .long) (by decide) (by decide)))
  have B143 : Fld Z h131 a0 "com/example/waveslot/waveslot/core/DecompositionReport" "sharedOutputs" "J" (.long q9) := B116.same W131
  have N144 := Fr.snoc X131 N128 ge0
  have K145 : Keep h0 h131 [a0] := K129.wr W131 (Or.inl (List.mem_of_getElem? (i := 0) rfl))
  have Z146 : n0 ≤ h131.size := Nat.le_trans Z130 (Keep.of_wr W131).1
  refine own_via (fun k => XS.aloadN X131.here hx rfl (hb hby d1_56) rfl rfl  (XS.lload X131.here hx rfl (hb hby d1_57) rfl  k)) ?_
  show own_Go p e below s _ _ (T131.setTop (mkF m 59 #[rv a0, iv p1, jv q2, .second, iv p3, jv q4, .second, jv q5, .second, jv q6, .second, jv q7, .second, jv q8, .second, jv q9, .second, jv q10, .second, jv q11, .second] [(.long q10), (.ref a0)]))
  obtain ⟨T147, h147, X147, e147, W147, st147⟩ := putF X131 hx hZ hown (host := "") (Or.inl (hw _ (List.mem_of_getElem? (i := 32) rfl))) Via.refl e131 B132 B134 (Or.inr ⟨(hw _ (List.mem_of_getElem? (i := 33) rfl)), rfl, hnm⟩) (hw _ (List.mem_of_getElem? (i := 1) rfl)) (ty := .long) (by decide) rfl rfl (g := (mkF m 59 #[rv a0, iv p1, jv q2, .second, iv p3, jv q4, .second, jv q5, .second, jv q6, .second, jv q7, .second, jv q8, .second, jv q9, .second, jv q10, .second, jv q11, .second] [(.long q10), (.ref a0)])) rfl rfl (hb hby d1_59)
  refine own_via (fun k => st147 _ k) ?_
  show own_Go p e below s _ _ (T147.setTop (mkF m 62 #[rv a0, iv p1, jv q2, .second, iv p3, jv q4, .second, jv q5, .second, jv q6, .second, jv q7, .second, jv q8, .second, jv q9, .second, jv q10, .second, jv q11, .second] []))
  have B148 := B133.other W147 (Or.inr (slot_ne (Or.inr (hw _ (List.mem_of_getElem? (i := 35) rfl))) (Or.inr (hw _ (List.mem_of_getElem? (i := 33) rfl))) (by decide) (t := .long) (t' := .long) (by decide) (by decide)))
  have B149 := B134.wr W147
  have B150 := B135.other W147 (Or.inr (slot_ne (Or.inr (hw _ (List.mem_of_getElem? (i := 15) rfl))) (Or.inr (hw _ (List.mem_of_getElem? (i := 33) rfl))) (by decide) (t := .int) (t' := .long) (by decide) (by decide)))
  have B151 := B136.other W147 (Or.inr (slot_ne (Or.inr (hw _ (List.mem_of_getElem? (i := 17) rfl))) (Or.inr (hw _ (List.mem_of_getElem? (i := 33) rfl))) (by decide) (t := .long) (t' := .long) (by decide) (by decide)))
  have B152 := B137.other W147 (Or.inr (slot_ne (Or.inr (hw _ (List.mem_of_getElem? (i := 19) rfl))) (Or.inr (hw _ (List.mem_of_getElem? (i := 33) rfl))) (by decide) (t := .int) (t' := .long) (by decide) (by decide)))
  have B153 := B138.other W147 (Or.inr (slot_ne (Or.inr (hw _ (List.mem_of_getElem? (i := 21) rfl))) (Or.inr (hw _ (List.mem_of_getElem? (i := 33) rfl))) (by decide) (t := .long) (t' := .long) (by decide) (by decide)))
  have B154 := B139.other W147 (Or.inr (slot_ne (Or.inr (hw _ (List.mem_of_getElem? (i := 23) rfl))) (Or.inr (hw _ (List.mem_of_getElem? (i := 33) rfl))) (by decide) (t := .long) (t' := .long) (by decide) (by decide)))
  have B155 := B140.other W147 (Or.inr (slot_ne (Or.inr (hw _ (List.mem_of_getElem? (i := 25) rfl))) (Or.inr (hw _ (List.mem_of_getElem? (i := 33) rfl))) (by decide) (t := .long) (t' := .long) (by decide) (by decide)))
  have B156 := B141.other W147 (Or.inr (slot_ne (Or.inr (hw _ (List.mem_of_getElem? (i := 27) rfl))) (Or.inr (hw _ (List.mem_of_getElem? (i := 33) rfl))) (by decide) (t := .long) (t' := .long) (by decide) (by decide)))
  have B157 := B142.other W147 (Or.inr (slot_ne (Or.inr (hw _ (List.mem_of_getElem? (i := 29) rfl))) (Or.inr (hw _ (List.mem_of_getElem? (i := 33) rfl))) (by decide) (t := .long) (t' := .long) (by decide) (by decide)))
  have B158 := B143.other W147 (Or.inr (slot_ne (Or.inr (hw _ (List.mem_of_getElem? (i := 31) rfl))) (Or.inr (hw _ (List.mem_of_getElem? (i := 33) rfl))) (by decide) (t := .long) (t' := .long) (by decide) (by decide)))
  have B159 : Fld Z h147 a0 "com/example/waveslot/waveslot/core/DecompositionReport" "mixedWeights" "J" (.long q10) := B132.same W147
  have N160 := Fr.snoc X147 N144 ge0
  have K161 : Keep h0 h147 [a0] := K145.wr W147 (Or.inl (List.mem_of_getElem? (i := 0) rfl))
  have Z162 : n0 ≤ h147.size := Nat.le_trans Z146 (Keep.of_wr W147).1
  refine own_via (fun k => XS.aloadN X147.here hx rfl (hb hby d1_62) rfl rfl  (XS.lload X147.here hx rfl (hb hby d1_63) rfl  k)) ?_
  show own_Go p e below s _ _ (T147.setTop (mkF m 65 #[rv a0, iv p1, jv q2, .second, iv p3, jv q4, .second, jv q5, .second, jv q6, .second, jv q7, .second, jv q8, .second, jv q9, .second, jv q10, .second, jv q11, .second] [(.long q11), (.ref a0)]))
  obtain ⟨T163, h163, X163, e163, W163, st163⟩ := putF X147 hx hZ hown (host := "") (Or.inl (hw _ (List.mem_of_getElem? (i := 34) rfl))) Via.refl e147 B148 B149 (Or.inr ⟨(hw _ (List.mem_of_getElem? (i := 35) rfl)), rfl, hnm⟩) (hw _ (List.mem_of_getElem? (i := 1) rfl)) (ty := .long) (by decide) rfl rfl (g := (mkF m 65 #[rv a0, iv p1, jv q2, .second, iv p3, jv q4, .second, jv q5, .second, jv q6, .second, jv q7, .second, jv q8, .second, jv q9, .second, jv q10, .second, jv q11, .second] [(.long q11), (.ref a0)])) rfl rfl (hb hby d1_65)
  refine own_via (fun k => st163 _ k) ?_
  show own_Go p e below s _ _ (T163.setTop (mkF m 68 #[rv a0, iv p1, jv q2, .second, iv p3, jv q4, .second, jv q5, .second, jv q6, .second, jv q7, .second, jv q8, .second, jv q9, .second, jv q10, .second, jv q11, .second] []))
  have B164 := B149.wr W163
  have B165 := B150.other W163 (Or.inr (slot_ne (Or.inr (hw _ (List.mem_of_getElem? (i := 15) rfl))) (Or.inr (hw _ (List.mem_of_getElem? (i := 35) rfl))) (by decide) (t := .int) (t' := .long) (by decide) (by decide)))
  have B166 := B151.other W163 (Or.inr (slot_ne (Or.inr (hw _ (List.mem_of_getElem? (i := 17) rfl))) (Or.inr (hw _ (List.mem_of_getElem? (i := 35) rfl))) (by decide) (t := .long) (t' := .long) (by decide) (by decide)))
  have B167 := B152.other W163 (Or.inr (slot_ne (Or.inr (hw _ (List.mem_of_getElem? (i := 19) rfl))) (Or.inr (hw _ (List.mem_of_getElem? (i := 35) rfl))) (by decide) (t := .int) (t' := .long) (by decide) (by decide)))
  have B168 := B153.other W163 (Or.inr (slot_ne (Or.inr (hw _ (List.mem_of_getElem? (i := 21) rfl))) (Or.inr (hw _ (List.mem_of_getElem? (i := 35) rfl))) (by decide) (t := .long) (t' := .long) (by decide) (by decide)))
  have B169 := B154.other W163 (Or.inr (slot_ne (Or.inr (hw _ (List.mem_of_getElem? (i := 23) rfl))) (Or.inr (hw _ (List.mem_of_getElem? (i := 35) rfl))) (by decide) (t := .long) (t' := .long) (by decide) (by decide)))
  have B170 := B155.other W163 (Or.inr (slot_ne (Or.inr (hw _ (List.mem_of_getElem? (i := 25) rfl))) (Or.inr (hw _ (List.mem_of_getElem? (i := 35) rfl))) (by decide) (t := .long) (t' := .long) (by decide) (by decide)))
  have B171 := B156.other W163 (Or.inr (slot_ne (Or.inr (hw _ (List.mem_of_getElem? (i := 27) rfl))) (Or.inr (hw _ (List.mem_of_getElem? (i := 35) rfl))) (by decide) (t := .long) (t' := .long) (by decide) (by decide)))
  have B172 := B157.other W163 (Or.inr (slot_ne (Or.inr (hw _ (List.mem_of_getElem? (i := 29) rfl))) (Or.inr (hw _ (List.mem_of_getElem? (i := 35) rfl))) (by decide) (t := .long) (t' := .long) (by decide) (by decide)))
  have B173 := B158.other W163 (Or.inr (slot_ne (Or.inr (hw _ (List.mem_of_getElem? (i := 31) rfl))) (Or.inr (hw _ (List.mem_of_getElem? (i := 35) rfl))) (by decide) (t := .long) (t' := .long) (by decide) (by decide)))
  have B174 := B159.other W163 (Or.inr (slot_ne (Or.inr (hw _ (List.mem_of_getElem? (i := 33) rfl))) (Or.inr (hw _ (List.mem_of_getElem? (i := 35) rfl))) (by decide) (t := .long) (t' := .long) (by decide) (by decide)))
  have B175 : Fld Z h163 a0 "com/example/waveslot/waveslot/core/DecompositionReport" "outOfRange" "J" (.long q11) := B148.same W163
  have N176 := Fr.snoc X163 N160 ge0
  have K177 : Keep h0 h163 [a0] := K161.wr W163 (Or.inl (List.mem_of_getElem? (i := 0) rfl))
  have Z178 : n0 ≤ h163.size := Nat.le_trans Z162 (Keep.of_wr W163).1
  exact own_ret0 X163 hx hlk Bd.returns (hb hby d1_68) (Q := (Q1 Z a0 p1 q2 p3 q4 q5 q6 q7 q8 q9 q10 q11 h0 n0)) ⟨rfl, N176, (by rw [e163]; exact K177), (by rw [e163]; exact B170), (by rw [e163]; exact B171), (by rw [e163]; exact B172), (by rw [e163]; exact B173), (by rw [e163]; exact B174), (by rw [e163]; exact B175)⟩ (by decide) (by decide)
theorem d4_0 : decode prog_24_method_3_code 0 = .ok (.aload_n 0, 1) := by decide +kernel
theorem d4_1 : decode prog_24_method_3_code 1 = .ok (.getfield 26, 3) := by decide +kernel
theorem d4_4 : decode prog_24_method_3_code 4 = .ok (.lconst 0, 1) := by decide +kernel
theorem d4_5 : decode prog_24_method_3_code 5 = .ok (.lcmp, 1) := by decide +kernel
theorem d4_6 : decode prog_24_method_3_code 6 = .ok (.ifCond .ne 52, 3) := by decide +kernel
theorem d4_9 : decode prog_24_method_3_code 9 = .ok (.aload_n 0, 1) := by decide +kernel
theorem d4_10 : decode prog_24_method_3_code 10 = .ok (.getfield 29, 3) := by decide +kernel
theorem d4_13 : decode prog_24_method_3_code 13 = .ok (.lconst 0, 1) := by decide +kernel
theorem d4_14 : decode prog_24_method_3_code 14 = .ok (.lcmp, 1) := by decide +kernel
theorem d4_15 : decode prog_24_method_3_code 15 = .ok (.ifCond .ne 43, 3) := by decide +kernel
theorem d4_18 : decode prog_24_method_3_code 18 = .ok (.aload_n 0, 1) := by decide +kernel
theorem d4_19 : decode prog_24_method_3_code 19 = .ok (.getfield 32, 3) := by decide +kernel
theorem d4_22 : decode prog_24_method_3_code 22 = .ok (.lconst 0, 1) := by decide +kernel
theorem d4_23 : decode prog_24_method_3_code 23 = .ok (.lcmp, 1) := by decide +kernel
theorem d4_24 : decode prog_24_method_3_code 24 = .ok (.ifCond .ne 34, 3) := by decide +kernel
theorem d4_27 : decode prog_24_method_3_code 27 = .ok (.aload_n 0, 1) := by decide +kernel
theorem d4_28 : decode prog_24_method_3_code 28 = .ok (.getfield 35, 3) := by decide +kernel
theorem d4_31 : decode prog_24_method_3_code 31 = .ok (.lconst 0, 1) := by decide +kernel
theorem d4_32 : decode prog_24_method_3_code 32 = .ok (.lcmp, 1) := by decide +kernel
theorem d4_33 : decode prog_24_method_3_code 33 = .ok (.ifCond .ne 25, 3) := by decide +kernel
theorem d4_36 : decode prog_24_method_3_code 36 = .ok (.aload_n 0, 1) := by decide +kernel
theorem d4_37 : decode prog_24_method_3_code 37 = .ok (.getfield 38, 3) := by decide +kernel
theorem d4_40 : decode prog_24_method_3_code 40 = .ok (.lconst 0, 1) := by decide +kernel
theorem d4_41 : decode prog_24_method_3_code 41 = .ok (.lcmp, 1) := by decide +kernel
theorem d4_42 : decode prog_24_method_3_code 42 = .ok (.ifCond .ne 16, 3) := by decide +kernel
theorem d4_45 : decode prog_24_method_3_code 45 = .ok (.aload_n 0, 1) := by decide +kernel
theorem d4_46 : decode prog_24_method_3_code 46 = .ok (.getfield 41, 3) := by decide +kernel
theorem d4_49 : decode prog_24_method_3_code 49 = .ok (.lconst 0, 1) := by decide +kernel
theorem d4_50 : decode prog_24_method_3_code 50 = .ok (.lcmp, 1) := by decide +kernel
theorem d4_51 : decode prog_24_method_3_code 51 = .ok (.ifCond .ne 7, 3) := by decide +kernel
theorem d4_54 : decode prog_24_method_3_code 54 = .ok (.iconst 1, 1) := by decide +kernel
theorem d4_55 : decode prog_24_method_3_code 55 = .ok (.goto 4, 3) := by decide +kernel
theorem d4_58 : decode prog_24_method_3_code 58 = .ok (.iconst 0, 1) := by decide +kernel
theorem d4_59 : decode prog_24_method_3_code 59 = .ok (.ireturn, 1) := by decide +kernel
theorem pn_4 : plainName "com/example/waveslot/waveslot/core/DecompositionReport" = true := by first | (simp [plainName, overriddenIn]; done) | decide +kernel
theorem ef_4 (m : MethodId) (x0 : Addr) : entryFrame m #[(.ref x0)] 1 = mkF m 0 #[rv x0] [] := by first | (simp [entryFrame, mkF, argsToLocals, Value.category]; done) | rfl
def own_f4 (w0 : Int64) (w1 : Int64) (w2 : Int64) (w3 : Int64) (w4 : Int64) (w5 : Int64) : Int32 := (if w0 = (0 : Int64) then (if w1 = (0 : Int64) then (if w2 = (0 : Int64) then (if w3 = (0 : Int64) then (if w4 = (0 : Int64) then (if w5 = (0 : Int64) then (1 : Int32) else (0 : Int32)) else (0 : Int32)) else (0 : Int32)) else (0 : Int32)) else (0 : Int32)) else (0 : Int32))
def Q4 (Z : State) (a0 : Addr) (w0 : Int64) (w1 : Int64) (w2 : Int64) (w3 : Int64) (w4 : Int64) (w5 : Int64) (h0 : Heap) (n0 : Nat) (v : Option Value) (h : Heap) (L : List Loc) : Prop := v = some (.int (own_f4 w0 w1 w2 w3 w4 w5)) ∧ Fr n0 L ∧ h = h0
set_option maxRecDepth 65536 in
set_option maxHeartbeats 40000000 in
theorem rm4 (l : Launch) (Z : State) (aw : Array Value) (hw : ∀ d ∈ tables_1, d.before aw Z = true) (ws : List Jvm.Cond) (a0 : Addr) (w0 : Int64) (w1 : Int64) (w2 : Int64) (w3 : Int64) (w4 : Int64) (w5 : Int64) (h0 : Heap) (n0 : Nat) (Z0 : n0 ≤ h0.size) (P0 : Fld Z h0 a0 "com/example/waveslot/waveslot/core/DecompositionReport" "uncovered" "J" (.long w0)) (P1 : Fld Z h0 a0 "com/example/waveslot/waveslot/core/DecompositionReport" "repeatedInputs" "J" (.long w1)) (P2 : Fld Z h0 a0 "com/example/waveslot/waveslot/core/DecompositionReport" "missingInputs" "J" (.long w2)) (P3 : Fld Z h0 a0 "com/example/waveslot/waveslot/core/DecompositionReport" "sharedOutputs" "J" (.long w3)) (P4 : Fld Z h0 a0 "com/example/waveslot/waveslot/core/DecompositionReport" "mixedWeights" "J" (.long w4)) (P5 : Fld Z h0 a0 "com/example/waveslot/waveslot/core/DecompositionReport" "outOfRange" "J" (.long w5)) :
    MetFree l (⟨"com/example/waveslot/waveslot/core/DecompositionReport", "valid", "()Z"⟩ : MethodName) (head1 (Jvm.Cond.code (⟨"com/example/waveslot/waveslot/core/DecompositionReport", "valid", "()Z"⟩ : MethodName) prog_24_method_3_code 1 (some .boolean) :: ws) ({ frames := 0, cells := 0, slots := 0, locals := 0 } : Room)) (fun a U => a = #[(.ref a0)] ∧ Z.Warmed39 U.vm ∧ U.heap = h0) (fun _ _ _ _ _ => True) (fun _ U o U' => ∃ v L, o = .returned v ∧ Q4 Z a0 w0 w1 w2 w3 w4 w5 h0 n0 v U'.heap L ∧ FrameEnd U o U' L ({ frames := 0, cells := 0, slots := 0, locals := 0 } : Room).cells ({ frames := 0, cells := 0, slots := 0, locals := 0 } : Room).slots) := by
  refine MetFree.of_bodySF (plainFor_of_name pn_4) hisR ?_
  intro p e s m args below meth c s₁ Bd hml0 hP hK
  obtain ⟨rfl, hZ, hh⟩ := hP
  have hx := Bd.exec
  have hby := Bd.bytes
  have hml : c.maxLocals = 1 := hml0
  have hown : s.vm.findClass "com/example/waveslot/waveslot/core/DecompositionReport" = some m.cls := findClass_of_methodNamed Bd.named
  have hnm := (name_of_methodNamed Bd.named Bd.method).1
  have hlk : meth.locks = false := by first | exact BodyLoose.notSynchronized (by assumption) | exact Body.notSynchronized (by assumption)
  have X0 : Stand p l e ({ frames := 0, cells := 0, slots := 0, locals := 0 } : Room) s m #[(.ref a0)] below meth c s₁ [] 0 0 := Stand.of_body Bd
  have e0 : s₁.heap = h0 := by rw [← hh, Bd.state]; rfl
  have N0 := Fr.nil n0
  have K0 : Keep h0 h0 [] := Keep.refl _ _
  refine own_start (CS := (0, 0)) (Q := (Q4 Z a0 w0 w1 w2 w3 w4 w5 h0 n0)) (ef_4 m a0) ?_
  show own_Go p e below s _ _ (s₁.setTop (mkF m 0 #[rv a0] []))
  refine own_via (fun k => XS.aloadN X0.here hx rfl (hb hby d4_0) rfl rfl  k) ?_
  show own_Go p e below s _ _ (s₁.setTop (mkF m 1 #[rv a0] [(.ref a0)]))
  obtain ⟨T1, X1, e1, st1⟩ := getF X0 hx hZ hown (host := "") (Or.inl (hw _ (List.mem_of_getElem? (i := 24) rfl))) Via.refl e0 P0 (g := (mkF m 1 #[rv a0] [(.ref a0)])) rfl rfl (hb hby d4_1)
  refine own_via (fun k => st1 _ k) ?_
  show own_Go p e below s _ _ (T1.setTop (mkF m 4 #[rv a0] [(.long w0)]))
  refine own_via (fun k => XS.lconst X1.here hx rfl (hb hby d4_4) (XS.lcmp X1.here hx rfl (hb hby d4_5) rfl k)) ?_
  show own_Go p e below s _ _ (T1.setTop (mkF m 6 #[rv a0] [(.int (lcmpW w0 (0 : Int64)))]))
  by_cases hc2 : w0 = (0 : Int64)
  · refine own_via (fun k => XS.ifNo X1.here hx rfl (hb hby d4_6) rfl ((if0 _ _).trans (teq ((lw_eq _ _).mpr hc2)).2) k) ?_
    show own_Go p e below s _ _ (T1.setTop (mkF m 9 #[rv a0] []))
    refine own_via (fun k => XS.aloadN X1.here hx rfl (hb hby d4_9) rfl rfl  k) ?_
    show own_Go p e below s _ _ (T1.setTop (mkF m 10 #[rv a0] [(.ref a0)]))
    obtain ⟨T3, X3, e3, st3⟩ := getF X1 hx hZ hown (host := "") (Or.inl (hw _ (List.mem_of_getElem? (i := 26) rfl))) Via.refl e1 P1 (g := (mkF m 10 #[rv a0] [(.ref a0)])) rfl rfl (hb hby d4_10)
    refine own_via (fun k => st3 _ k) ?_
    show own_Go p e below s _ _ (T3.setTop (mkF m 13 #[rv a0] [(.long w1)]))
    refine own_via (fun k => XS.lconst X3.here hx rfl (hb hby d4_13) (XS.lcmp X3.here hx rfl (hb hby d4_14) rfl k)) ?_
    show own_Go p e below s _ _ (T3.setTop (mkF m 15 #[rv a0] [(.int (lcmpW w1 (0 : Int64)))]))
    by_cases hc4 : w1 = (0 : Int64)
    · refine own_via (fun k => XS.ifNo X3.here hx rfl (hb hby d4_15) rfl ((if0 _ _).trans (teq ((lw_eq _ _).mpr hc4)).2) k) ?_
      show own_Go p e below s _ _ (T3.setTop (mkF m 18 #[rv a0] []))
      refine own_via (fun k => XS.aloadN X3.here hx rfl (hb hby d4_18) rfl rfl  k) ?_
      show own_Go p e below s _ _ (T3.setTop (mkF m 19 #[rv a0] [(.ref a0)]))
      obtain ⟨T5, X5, e5, st5⟩ := getF X3 hx hZ hown (host := "") (Or.inl (hw _ (List.mem_of_getElem? (i := 28) rfl))) Via.refl e3 P2 (g := (mkF m 19 #[rv a0] [(.ref a0)])) rfl rfl (hb hby d4_19)
      refine own_via (fun k => st5 _ k) ?_
      show own_Go p e below s _ _ (T5.setTop (mkF m 22 #[rv a0] [(.long w2)]))
      refine own_via (fun k => XS.lconst X5.here hx rfl (hb hby d4_22) (XS.lcmp X5.here hx rfl (hb hby d4_23) rfl k)) ?_
      show own_Go p e below s _ _ (T5.setTop (mkF m 24 #[rv a0] [(.int (lcmpW w2 (0 : Int64)))]))
      by_cases hc6 : w2 = (0 : Int64)
      · refine own_via (fun k => XS.ifNo X5.here hx rfl (hb hby d4_24) rfl ((if0 _ _).trans (teq ((lw_eq _ _).mpr hc6)).2) k) ?_
        show own_Go p e below s _ _ (T5.setTop (mkF m 27 #[rv a0] []))
        refine own_via (fun k => XS.aloadN X5.here hx rfl (hb hby d4_27) rfl rfl  k) ?_
        show own_Go p e below s _ _ (T5.setTop (mkF m 28 #[rv a0] [(.ref a0)]))
        obtain ⟨T7, X7, e7, st7⟩ := getF X5 hx hZ hown (host := "") (Or.inl (hw _ (List.mem_of_getElem? (i := 30) rfl))) Via.refl e5 P3 (g := (mkF m 28 #[rv a0] [(.ref a0)])) rfl rfl (hb hby d4_28)
        refine own_via (fun k => st7 _ k) ?_
        show own_Go p e below s _ _ (T7.setTop (mkF m 31 #[rv a0] [(.long w3)]))
        refine own_via (fun k => XS.lconst X7.here hx rfl (hb hby d4_31) (XS.lcmp X7.here hx rfl (hb hby d4_32) rfl k)) ?_
        show own_Go p e below s _ _ (T7.setTop (mkF m 33 #[rv a0] [(.int (lcmpW w3 (0 : Int64)))]))
        by_cases hc8 : w3 = (0 : Int64)
        · refine own_via (fun k => XS.ifNo X7.here hx rfl (hb hby d4_33) rfl ((if0 _ _).trans (teq ((lw_eq _ _).mpr hc8)).2) k) ?_
          show own_Go p e below s _ _ (T7.setTop (mkF m 36 #[rv a0] []))
          refine own_via (fun k => XS.aloadN X7.here hx rfl (hb hby d4_36) rfl rfl  k) ?_
          show own_Go p e below s _ _ (T7.setTop (mkF m 37 #[rv a0] [(.ref a0)]))
          obtain ⟨T9, X9, e9, st9⟩ := getF X7 hx hZ hown (host := "") (Or.inl (hw _ (List.mem_of_getElem? (i := 32) rfl))) Via.refl e7 P4 (g := (mkF m 37 #[rv a0] [(.ref a0)])) rfl rfl (hb hby d4_37)
          refine own_via (fun k => st9 _ k) ?_
          show own_Go p e below s _ _ (T9.setTop (mkF m 40 #[rv a0] [(.long w4)]))
          refine own_via (fun k => XS.lconst X9.here hx rfl (hb hby d4_40) (XS.lcmp X9.here hx rfl (hb hby d4_41) rfl k)) ?_
          show own_Go p e below s _ _ (T9.setTop (mkF m 42 #[rv a0] [(.int (lcmpW w4 (0 : Int64)))]))
          by_cases hc10 : w4 = (0 : Int64)
          · refine own_via (fun k => XS.ifNo X9.here hx rfl (hb hby d4_42) rfl ((if0 _ _).trans (teq ((lw_eq _ _).mpr hc10)).2) k) ?_
            show own_Go p e below s _ _ (T9.setTop (mkF m 45 #[rv a0] []))
            refine own_via (fun k => XS.aloadN X9.here hx rfl (hb hby d4_45) rfl rfl  k) ?_
            show own_Go p e below s _ _ (T9.setTop (mkF m 46 #[rv a0] [(.ref a0)]))
            obtain ⟨T11, X11, e11, st11⟩ := getF X9 hx hZ hown (host := "") (Or.inl (hw _ (List.mem_of_getElem? (i := 34) rfl))) Via.refl e9 P5 (g := (mkF m 46 #[rv a0] [(.ref a0)])) rfl rfl (hb hby d4_46)
            refine own_via (fun k => st11 _ k) ?_
            show own_Go p e below s _ _ (T11.setTop (mkF m 49 #[rv a0] [(.long w5)]))
            refine own_via (fun k => XS.lconst X11.here hx rfl (hb hby d4_49) (XS.lcmp X11.here hx rfl (hb hby d4_50) rfl k)) ?_
            show own_Go p e below s _ _ (T11.setTop (mkF m 51 #[rv a0] [(.int (lcmpW w5 (0 : Int64)))]))
            by_cases hc12 : w5 = (0 : Int64)
            · refine own_via (fun k => XS.ifNo X11.here hx rfl (hb hby d4_51) rfl ((if0 _ _).trans (teq ((lw_eq _ _).mpr hc12)).2) k) ?_
              show own_Go p e below s _ _ (T11.setTop (mkF m 54 #[rv a0] []))
              refine own_via (fun k => XS.iconst X11.here hx rfl (hb hby d4_54) (XS.goto X11.here hx rfl (pc0 := 55) (pc' := 59) rfl (hb hby d4_55) (by decide) (by decide) k)) ?_
              show own_Go p e below s _ _ (T11.setTop (mkF m 59 #[rv a0] [(.int 1)]))
              exact own_retN X11 hx hlk (t := .boolean) Bd.returns (by simp) (hb hby d4_59) (Q := (Q4 Z a0 w0 w1 w2 w3 w4 w5 h0 n0)) ⟨(congrArg (fun z => some (Value.int z)) (show (1 : Int32) = (own_f4 w0 w1 w2 w3 w4 w5) from (by unfold own_f4; exact ((if_pos hc2).trans ((if_pos hc4).trans ((if_pos hc6).trans ((if_pos hc8).trans ((if_pos hc10).trans ((if_pos hc12).trans rfl)))))).symm))), N0, e11⟩ (by decide) (by decide)
            · refine own_via (fun k => XS.ifYes X11.here hx rfl (pc0 := 51) (pc' := 58) rfl (hb hby d4_51) rfl ((if0 _ _).trans (feq (mt (lw_eq _ _).mp hc12)).2) (by decide) (by decide) k) ?_
              show own_Go p e below s _ _ (T11.setTop (mkF m 58 #[rv a0] []))
              refine own_via (fun k => XS.iconst X11.here hx rfl (hb hby d4_58) k) ?_
              show own_Go p e below s _ _ (T11.setTop (mkF m 59 #[rv a0] [(.int 0)]))
              exact own_retN X11 hx hlk (t := .boolean) Bd.returns (by simp) (hb hby d4_59) (Q := (Q4 Z a0 w0 w1 w2 w3 w4 w5 h0 n0)) ⟨(congrArg (fun z => some (Value.int z)) (show (0 : Int32) = (own_f4 w0 w1 w2 w3 w4 w5) from (by unfold own_f4; exact ((if_pos hc2).trans ((if_pos hc4).trans ((if_pos hc6).trans ((if_pos hc8).trans ((if_pos hc10).trans ((if_neg hc12).trans rfl)))))).symm))), N0, e11⟩ (by decide) (by decide)
          · refine own_via (fun k => XS.ifYes X9.here hx rfl (pc0 := 42) (pc' := 58) rfl (hb hby d4_42) rfl ((if0 _ _).trans (feq (mt (lw_eq _ _).mp hc10)).2) (by decide) (by decide) k) ?_
            show own_Go p e below s _ _ (T9.setTop (mkF m 58 #[rv a0] []))
            refine own_via (fun k => XS.iconst X9.here hx rfl (hb hby d4_58) k) ?_
            show own_Go p e below s _ _ (T9.setTop (mkF m 59 #[rv a0] [(.int 0)]))
            exact own_retN X9 hx hlk (t := .boolean) Bd.returns (by simp) (hb hby d4_59) (Q := (Q4 Z a0 w0 w1 w2 w3 w4 w5 h0 n0)) ⟨(congrArg (fun z => some (Value.int z)) (show (0 : Int32) = (own_f4 w0 w1 w2 w3 w4 w5) from (by unfold own_f4; exact ((if_pos hc2).trans ((if_pos hc4).trans ((if_pos hc6).trans ((if_pos hc8).trans ((if_neg hc10).trans rfl))))).symm))), N0, e9⟩ (by decide) (by decide)
        · refine own_via (fun k => XS.ifYes X7.here hx rfl (pc0 := 33) (pc' := 58) rfl (hb hby d4_33) rfl ((if0 _ _).trans (feq (mt (lw_eq _ _).mp hc8)).2) (by decide) (by decide) k) ?_
          show own_Go p e below s _ _ (T7.setTop (mkF m 58 #[rv a0] []))
          refine own_via (fun k => XS.iconst X7.here hx rfl (hb hby d4_58) k) ?_
          show own_Go p e below s _ _ (T7.setTop (mkF m 59 #[rv a0] [(.int 0)]))
          exact own_retN X7 hx hlk (t := .boolean) Bd.returns (by simp) (hb hby d4_59) (Q := (Q4 Z a0 w0 w1 w2 w3 w4 w5 h0 n0)) ⟨(congrArg (fun z => some (Value.int z)) (show (0 : Int32) = (own_f4 w0 w1 w2 w3 w4 w5) from (by unfold own_f4; exact ((if_pos hc2).trans ((if_pos hc4).trans ((if_pos hc6).trans ((if_neg hc8).trans rfl)))).symm))), N0, e7⟩ (by decide) (by decide)
      · refine own_via (fun k => XS.ifYes X5.here hx rfl (pc0 := 24) (pc' := 58) rfl (hb hby d4_24) rfl ((if0 _ _).trans (feq (mt (lw_eq _ _).mp hc6)).2) (by decide) (by decide) k) ?_
        show own_Go p e below s _ _ (T5.setTop (mkF m 58 #[rv a0] []))
        refine own_via (fun k => XS.iconst X5.here hx rfl (hb hby d4_58) k) ?_
        show own_Go p e below s _ _ (T5.setTop (mkF m 59 #[rv a0] [(.int 0)]))
        exact own_retN X5 hx hlk (t := .boolean) Bd.returns (by simp) (hb hby d4_59) (Q := (Q4 Z a0 w0 w1 w2 w3 w4 w5 h0 n0)) ⟨(congrArg (fun z => some (Value.int z)) (show (0 : Int32) = (own_f4 w0 w1 w2 w3 w4 w5) from (by unfold own_f4; exact ((if_pos hc2).trans ((if_pos hc4).trans ((if_neg hc6).trans rfl))).symm))), N0, e5⟩ (by decide) (by decide)
    · refine own_via (fun k => XS.ifYes X3.here hx rfl (pc0 := 15) (pc' := 58) rfl (hb hby d4_15) rfl ((if0 _ _).trans (feq (mt (lw_eq _ _).mp hc4)).2) (by decide) (by decide) k) ?_
      show own_Go p e below s _ _ (T3.setTop (mkF m 58 #[rv a0] []))
      refine own_via (fun k => XS.iconst X3.here hx rfl (hb hby d4_58) k) ?_
      show own_Go p e below s _ _ (T3.setTop (mkF m 59 #[rv a0] [(.int 0)]))
      exact own_retN X3 hx hlk (t := .boolean) Bd.returns (by simp) (hb hby d4_59) (Q := (Q4 Z a0 w0 w1 w2 w3 w4 w5 h0 n0)) ⟨(congrArg (fun z => some (Value.int z)) (show (0 : Int32) = (own_f4 w0 w1 w2 w3 w4 w5) from (by unfold own_f4; exact ((if_pos hc2).trans ((if_neg hc4).trans rfl)).symm))), N0, e3⟩ (by decide) (by decide)
  · refine own_via (fun k => XS.ifYes X1.here hx rfl (pc0 := 6) (pc' := 58) rfl (hb hby d4_6) rfl ((if0 _ _).trans (feq (mt (lw_eq _ _).mp hc2)).2) (by decide) (by decide) k) ?_
    show own_Go p e below s _ _ (T1.setTop (mkF m 58 #[rv a0] []))
    refine own_via (fun k => XS.iconst X1.here hx rfl (hb hby d4_58) k) ?_
    show own_Go p e below s _ _ (T1.setTop (mkF m 59 #[rv a0] [(.int 0)]))
    exact own_retN X1 hx hlk (t := .boolean) Bd.returns (by simp) (hb hby d4_59) (Q := (Q4 Z a0 w0 w1 w2 w3 w4 w5 h0 n0)) ⟨(congrArg (fun z => some (Value.int z)) (show (0 : Int32) = (own_f4 w0 w1 w2 w3 w4 w5) from (by unfold own_f4; exact ((if_neg hc2).trans rfl).symm))), N0, e1⟩ (by decide) (by decide)
theorem pn_0 : plainName "com/example/waveslot/waveslot/core/DecompositionReportValidPinLaw" = true := by first | (simp [plainName, overriddenIn]; done) | decide +kernel
theorem pd_0 : parseMethodDescriptor "(IJIJJJJJJJJ)V" = some ⟨[.int, .long, .int, .long, .long, .long, .long, .long, .long, .long, .long], none⟩ := by decide +kernel
theorem pd_2 : parseMethodDescriptor "()Z" = some ⟨[], some .boolean⟩ := by decide +kernel
theorem ef_0 (m : MethodId) (x0 : Int32) (x1 : Int64) (x2 : Int64) (x3 : Int64) (x4 : Int64) (x5 : Int64) : entryFrame m #[(.int x0), (.long x1), (.long x2), (.long x3), (.long x4), (.long x5)] maxLocals = mkF m 0 #[iv x0, jv x1, .second, jv x2, .second, jv x3, .second, jv x4, .second, jv x5, .second, .unset, .unset, .unset, .unset, .unset, .unset, .unset, .unset, .unset, .unset, .unset, .unset, .unset, .unset, .unset] [] := by first | (simp [entryFrame, mkF, argsToLocals, Value.category, maxLocals]; done) | rfl
theorem own_or0 (a b : Int64) : (a ||| b) = 0 ↔ a = 0 ∧ b = 0 := by
  rw [← Int64.toBitVec_inj, ← Int64.toBitVec_inj, ← Int64.toBitVec_inj (a := b), Int64.toBitVec_or]; exact BitVec.or_eq_zero_iff
theorem own_law (p0 : Int32) (q1 : Int64) (q2 : Int64) (q3 : Int64) (q4 : Int64) (q5 : Int64) (z1 : Int64) (hz1 : z1 = (if (p0 &&& (1 : Int32)) = (0 : Int32) then (0 : Int64) else q1)) (z3 : Int64) (hz3 : z3 = (if (p0 &&& (2 : Int32)) = (0 : Int32) then (0 : Int64) else q2)) (z5 : Int64) (hz5 : z5 = (if (p0 &&& (4 : Int32)) = (0 : Int32) then (0 : Int64) else q3)) (z7 : Int64) (hz7 : z7 = (if (p0 &&& (8 : Int32)) = (0 : Int32) then (0 : Int64) else q4)) (z9 : Int64) (hz9 : z9 = (if (p0 &&& (16 : Int32)) = (0 : Int32) then (0 : Int64) else q5)) (z11 : Int64) (hz11 : z11 = (if (p0 &&& (32 : Int32)) = (0 : Int32) then (0 : Int64) else (q1 ^^^ q5))) (z37 : Int32) (hz37 : z37 = (if (((((z1 ||| z3) ||| z5) ||| z7) ||| z9) ||| z11) = (0 : Int64) then (1 : Int32) else (0 : Int32))) : (own_f4 z1 z3 z5 z7 z9 z11) = z37 := by
  subst hz37
  simp only [own_f4, own_or0]
  by_cases h0 : z1 = 0 <;> by_cases h1 : z3 = 0 <;> by_cases h2 : z5 = 0 <;> by_cases h3 : z7 = 0 <;> by_cases h4 : z9 = 0 <;> by_cases h5 : z11 = 0 <;> simp [h0, h1, h2, h3, h4, h5]
def Q0 (Z : State) (p0 : Int32) (q1 : Int64) (q2 : Int64) (q3 : Int64) (q4 : Int64) (q5 : Int64) (h0 : Heap) (n0 : Nat) (v : Option Value) (h : Heap) (L : List Loc) : Prop := v = some (.int 1) ∧ Fr n0 L
set_option maxRecDepth 65536 in
set_option maxHeartbeats 40000000 in
theorem rm0 (l : Launch) (Z : State) (aw : Array Value) (hw : ∀ d ∈ tables_1, d.before aw Z = true) (ws : List Jvm.Cond) (p0 : Int32) (q1 : Int64) (q2 : Int64) (q3 : Int64) (q4 : Int64) (q5 : Int64) (h0 : Heap) (n0 : Nat) (Z0 : n0 ≤ h0.size)  :
    MetFree l x (head1 (Jvm.Cond.code x code maxLocals ret :: ws) room_1) (fun a U => a = #[(.int p0), (.long q1), (.long q2), (.long q3), (.long q4), (.long q5)] ∧ Z.Warmed39 U.vm ∧ U.heap = h0) (fun _ _ _ _ _ => True) (fun _ U o U' => ∃ v L, o = .returned v ∧ Q0 Z p0 q1 q2 q3 q4 q5 h0 n0 v U'.heap L ∧ FrameEnd U o U' L room_1.cells room_1.slots) := by
  refine MetFree.of_bodySF (plainFor_of_name pn_0) hisR ?_
  intro p e s m args below meth c s₁ Bd hml0 hP hK
  obtain ⟨rfl, hZ, hh⟩ := hP
  have hx := Bd.exec
  have hby := Bd.bytes
  have hml : c.maxLocals = 26 := hml0
  have hown : s.vm.findClass "com/example/waveslot/waveslot/core/DecompositionReportValidPinLaw" = some m.cls := findClass_of_methodNamed Bd.named
  have hnm := (name_of_methodNamed Bd.named Bd.method).1
  have hlk : meth.locks = false := by first | exact BodyLoose.notSynchronized (by assumption) | exact Body.notSynchronized (by assumption)
  have X0 : Stand p l e room_1 s m #[(.int p0), (.long q1), (.long q2), (.long q3), (.long q4), (.long q5)] below meth c s₁ [] 0 0 := Stand.of_body Bd
  have e0 : s₁.heap = h0 := by rw [← hh, Bd.state]; rfl
  have N0 := Fr.nil n0
  refine own_start (CS := (room_1.cells, room_1.slots)) (Q := (Q0 Z p0 q1 q2 q3 q4 q5 h0 n0)) (ef_0 m p0 q1 q2 q3 q4 q5) ?_
  show own_Go p e below s _ _ (s₁.setTop (mkF m 0 #[iv p0, jv q1, .second, jv q2, .second, jv q3, .second, jv q4, .second, jv q5, .second, .unset, .unset, .unset, .unset, .unset, .unset, .unset, .unset, .unset, .unset, .unset, .unset, .unset, .unset, .unset] []))
  refine own_via (fun k => XS.iloadN X0.here hx rfl (hb hby at_0) rfl  (XS.iconst X0.here hx rfl (hb hby at_1) (XS.iand X0.here hx rfl (hb hby at_2) rfl k))) ?_
  show own_Go p e below s _ _ (s₁.setTop (mkF m 3 #[iv p0, jv q1, .second, jv q2, .second, jv q3, .second, jv q4, .second, jv q5, .second, .unset, .unset, .unset, .unset, .unset, .unset, .unset, .unset, .unset, .unset, .unset, .unset, .unset, .unset, .unset] [(.int (p0 &&& (1 : Int32)))]))
  have J2 : ∀ (z1 : Int64), z1 = (if (p0 &&& (1 : Int32)) = (0 : Int32) then (0 : Int64) else q1) → own_Go p e below s (Q0 Z p0 q1 q2 q3 q4 q5 h0 n0) (room_1.cells, room_1.slots) (s₁.setTop (mkF m 11 #[iv p0, jv q1, .second, jv q2, .second, jv q3, .second, jv q4, .second, jv q5, .second, .unset, .unset, .unset, .unset, .unset, .unset, .unset, .unset, .unset, .unset, .unset, .unset, .unset, .unset, .unset] [(.long z1)])) := by
    intro z1 hz1
    refine own_via (fun k => XS.lstore X0.here hx rfl (hb hby at_11) rfl (l' := #[iv p0, jv q1, .second, jv q2, .second, jv q3, .second, jv q4, .second, jv q5, .second, jv z1, .second, .unset, .unset, .unset, .unset, .unset, .unset, .unset, .unset, .unset, .unset, .unset, .unset, .unset]) rfl (XS.iloadN X0.here hx rfl (hb hby at_13) rfl  (XS.iconst X0.here hx rfl (hb hby at_14) (XS.iand X0.here hx rfl (hb hby at_15) rfl k)))) ?_
    show own_Go p e below s _ _ (s₁.setTop (mkF m 16 #[iv p0, jv q1, .second, jv q2, .second, jv q3, .second, jv q4, .second, jv q5, .second, jv z1, .second, .unset, .unset, .unset, .unset, .unset, .unset, .unset, .unset, .unset, .unset, .unset, .unset, .unset] [(.int (p0 &&& (2 : Int32)))]))
    have J4 : ∀ (z3 : Int64), z3 = (if (p0 &&& (2 : Int32)) = (0 : Int32) then (0 : Int64) else q2) → own_Go p e below s (Q0 Z p0 q1 q2 q3 q4 q5 h0 n0) (room_1.cells, room_1.slots) (s₁.setTop (mkF m 24 #[iv p0, jv q1, .second, jv q2, .second, jv q3, .second, jv q4, .second, jv q5, .second, jv z1, .second, .unset, .unset, .unset, .unset, .unset, .unset, .unset, .unset, .unset, .unset, .unset, .unset, .unset] [(.long z3)])) := by
      intro z3 hz3
      refine own_via (fun k => XS.lstore X0.here hx rfl (hb hby at_24) rfl (l' := #[iv p0, jv q1, .second, jv q2, .second, jv q3, .second, jv q4, .second, jv q5, .second, jv z1, .second, jv z3, .second, .unset, .unset, .unset, .unset, .unset, .unset, .unset, .unset, .unset, .unset, .unset]) rfl (XS.iloadN X0.here hx rfl (hb hby at_26) rfl  (XS.iconst X0.here hx rfl (hb hby at_27) (XS.iand X0.here hx rfl (hb hby at_28) rfl k)))) ?_
      show own_Go p e below s _ _ (s₁.setTop (mkF m 29 #[iv p0, jv q1, .second, jv q2, .second, jv q3, .second, jv q4, .second, jv q5, .second, jv z1, .second, jv z3, .second, .unset, .unset, .unset, .unset, .unset, .unset, .unset, .unset, .unset, .unset, .unset] [(.int (p0 &&& (4 : Int32)))]))
      have J6 : ∀ (z5 : Int64), z5 = (if (p0 &&& (4 : Int32)) = (0 : Int32) then (0 : Int64) else q3) → own_Go p e below s (Q0 Z p0 q1 q2 q3 q4 q5 h0 n0) (room_1.cells, room_1.slots) (s₁.setTop (mkF m 38 #[iv p0, jv q1, .second, jv q2, .second, jv q3, .second, jv q4, .second, jv q5, .second, jv z1, .second, jv z3, .second, .unset, .unset, .unset, .unset, .unset, .unset, .unset, .unset, .unset, .unset, .unset] [(.long z5)])) := by
        intro z5 hz5
        refine own_via (fun k => XS.lstore X0.here hx rfl (hb hby at_38) rfl (l' := #[iv p0, jv q1, .second, jv q2, .second, jv q3, .second, jv q4, .second, jv q5, .second, jv z1, .second, jv z3, .second, jv z5, .second, .unset, .unset, .unset, .unset, .unset, .unset, .unset, .unset, .unset]) rfl (XS.iloadN X0.here hx rfl (hb hby at_40) rfl  (XS.bipush X0.here hx rfl (hb hby at_41) (XS.iand X0.here hx rfl (hb hby at_43) rfl k)))) ?_
        show own_Go p e below s _ _ (s₁.setTop (mkF m 44 #[iv p0, jv q1, .second, jv q2, .second, jv q3, .second, jv q4, .second, jv q5, .second, jv z1, .second, jv z3, .second, jv z5, .second, .unset, .unset, .unset, .unset, .unset, .unset, .unset, .unset, .unset] [(.int (p0 &&& (8 : Int32)))]))
        have J8 : ∀ (z7 : Int64), z7 = (if (p0 &&& (8 : Int32)) = (0 : Int32) then (0 : Int64) else q4) → own_Go p e below s (Q0 Z p0 q1 q2 q3 q4 q5 h0 n0) (room_1.cells, room_1.slots) (s₁.setTop (mkF m 53 #[iv p0, jv q1, .second, jv q2, .second, jv q3, .second, jv q4, .second, jv q5, .second, jv z1, .second, jv z3, .second, jv z5, .second, .unset, .unset, .unset, .unset, .unset, .unset, .unset, .unset, .unset] [(.long z7)])) := by
          intro z7 hz7
          refine own_via (fun k => XS.lstore X0.here hx rfl (hb hby at_53) rfl (l' := #[iv p0, jv q1, .second, jv q2, .second, jv q3, .second, jv q4, .second, jv q5, .second, jv z1, .second, jv z3, .second, jv z5, .second, jv z7, .second, .unset, .unset, .unset, .unset, .unset, .unset, .unset]) rfl (XS.iloadN X0.here hx rfl (hb hby at_55) rfl  (XS.bipush X0.here hx rfl (hb hby at_56) (XS.iand X0.here hx rfl (hb hby at_58) rfl k)))) ?_
          show own_Go p e below s _ _ (s₁.setTop (mkF m 59 #[iv p0, jv q1, .second, jv q2, .second, jv q3, .second, jv q4, .second, jv q5, .second, jv z1, .second, jv z3, .second, jv z5, .second, jv z7, .second, .unset, .unset, .unset, .unset, .unset, .unset, .unset] [(.int (p0 &&& (16 : Int32)))]))
          have J10 : ∀ (z9 : Int64), z9 = (if (p0 &&& (16 : Int32)) = (0 : Int32) then (0 : Int64) else q5) → own_Go p e below s (Q0 Z p0 q1 q2 q3 q4 q5 h0 n0) (room_1.cells, room_1.slots) (s₁.setTop (mkF m 68 #[iv p0, jv q1, .second, jv q2, .second, jv q3, .second, jv q4, .second, jv q5, .second, jv z1, .second, jv z3, .second, jv z5, .second, jv z7, .second, .unset, .unset, .unset, .unset, .unset, .unset, .unset] [(.long z9)])) := by
            intro z9 hz9
            refine own_via (fun k => XS.lstore X0.here hx rfl (hb hby at_68) rfl (l' := #[iv p0, jv q1, .second, jv q2, .second, jv q3, .second, jv q4, .second, jv q5, .second, jv z1, .second, jv z3, .second, jv z5, .second, jv z7, .second, jv z9, .second, .unset, .unset, .unset, .unset, .unset]) rfl (XS.iloadN X0.here hx rfl (hb hby at_70) rfl  (XS.bipush X0.here hx rfl (hb hby at_71) (XS.iand X0.here hx rfl (hb hby at_73) rfl k)))) ?_
            show own_Go p e below s _ _ (s₁.setTop (mkF m 74 #[iv p0, jv q1, .second, jv q2, .second, jv q3, .second, jv q4, .second, jv q5, .second, jv z1, .second, jv z3, .second, jv z5, .second, jv z7, .second, jv z9, .second, .unset, .unset, .unset, .unset, .unset] [(.int (p0 &&& (32 : Int32)))]))
            have J12 : ∀ (z11 : Int64), z11 = (if (p0 &&& (32 : Int32)) = (0 : Int32) then (0 : Int64) else (q1 ^^^ q5)) → own_Go p e below s (Q0 Z p0 q1 q2 q3 q4 q5 h0 n0) (room_1.cells, room_1.slots) (s₁.setTop (mkF m 85 #[iv p0, jv q1, .second, jv q2, .second, jv q3, .second, jv q4, .second, jv q5, .second, jv z1, .second, jv z3, .second, jv z5, .second, jv z7, .second, jv z9, .second, .unset, .unset, .unset, .unset, .unset] [(.long z11)])) := by
              intro z11 hz11
              refine own_via (fun k => XS.lstore X0.here hx rfl (hb hby at_85) rfl (l' := #[iv p0, jv q1, .second, jv q2, .second, jv q3, .second, jv q4, .second, jv q5, .second, jv z1, .second, jv z3, .second, jv z5, .second, jv z7, .second, jv z9, .second, jv z11, .second, .unset, .unset, .unset]) rfl (XS.iloadN X0.here hx rfl (hb hby at_87) rfl  (XS.bipush X0.here hx rfl (hb hby at_88) (XS.ishr X0.here hx rfl (hb hby at_90) rfl k)))) ?_
              show own_Go p e below s _ _ (s₁.setTop (mkF m 91 #[iv p0, jv q1, .second, jv q2, .second, jv q3, .second, jv q4, .second, jv q5, .second, jv z1, .second, jv z3, .second, jv z5, .second, jv z7, .second, jv z9, .second, jv z11, .second, .unset, .unset, .unset] [(.int (p0 >>> ((6 : Int32) &&& 31)))]))
              refine own_via (fun k => XS.istore X0.here hx rfl (hb hby at_91) rfl (l' := #[iv p0, jv q1, .second, jv q2, .second, jv q3, .second, jv q4, .second, jv q5, .second, jv z1, .second, jv z3, .second, jv z5, .second, jv z7, .second, jv z9, .second, jv z11, .second, iv (p0 >>> ((6 : Int32) &&& 31)), .unset, .unset]) rfl k) ?_
              show own_Go p e below s _ _ (s₁.setTop (mkF m 93 #[iv p0, jv q1, .second, jv q2, .second, jv q3, .second, jv q4, .second, jv q5, .second, jv z1, .second, jv z3, .second, jv z5, .second, jv z7, .second, jv z9, .second, jv z11, .second, iv (p0 >>> ((6 : Int32) &&& 31)), .unset, .unset] []))
              obtain ⟨T13, h13, X13, e13, E13, A13, D13, -, st13⟩ := newO X0 hx hZ hown (hw _ (List.mem_of_getElem? (i := 0) rfl)) (hw _ (List.mem_of_getElem? (i := 1) rfl)) (hw _ (List.mem_of_getElem? (i := 2) rfl)) e0 (g := (mkF m 93 #[iv p0, jv q1, .second, jv q2, .second, jv q3, .second, jv q4, .second, jv q5, .second, jv z1, .second, jv z3, .second, jv z5, .second, jv z7, .second, jv z9, .second, jv z11, .second, iv (p0 >>> ((6 : Int32) &&& 31)), .unset, .unset] [])) rfl (hb hby at_93) (by decide) (by decide)
              obtain ⟨b13, g13⟩ : ∃ z, z = h0.size := ⟨_, rfl⟩
              rw [← g13] at A13 D13 st13
              refine own_via (fun k => st13 _ k) ?_
              show own_Go p e below s _ _ (T13.setTop (mkF m 96 #[iv p0, jv q1, .second, jv q2, .second, jv q3, .second, jv q4, .second, jv q5, .second, jv z1, .second, jv z3, .second, jv z5, .second, jv z7, .second, jv z9, .second, jv z11, .second, iv (p0 >>> ((6 : Int32) &&& 31)), .unset, .unset] [(.ref b13)]))
              have g14 : n0 ≤ b13 := Nat.le_trans Z0 (Nat.le_of_eq g13.symm)
              have Z15 : n0 ≤ h13.size := Nat.le_trans Z0 E13.1
              have B16 : Fld Z h13 b13 "com/example/waveslot/waveslot/core/DecompositionReport" "ports" "I" (.int 0) := D13 (Or.inr (hw _ (List.mem_of_getElem? (i := 15) rfl))) (ty := .int) (by decide)
              have B17 : Fld Z h13 b13 "com/example/waveslot/waveslot/core/DecompositionReport" "maxLineSum" "J" (.long 0) := D13 (Or.inr (hw _ (List.mem_of_getElem? (i := 17) rfl))) (ty := .long) (by decide)
              have B18 : Fld Z h13 b13 "com/example/waveslot/waveslot/core/DecompositionReport" "configurations" "I" (.int 0) := D13 (Or.inr (hw _ (List.mem_of_getElem? (i := 19) rfl))) (ty := .int) (by decide)
              have B19 : Fld Z h13 b13 "com/example/waveslot/waveslot/core/DecompositionReport" "weightSum" "J" (.long 0) := D13 (Or.inr (hw _ (List.mem_of_getElem? (i := 21) rfl))) (ty := .long) (by decide)
              have B20 : Fld Z h13 b13 "com/example/waveslot/waveslot/core/DecompositionReport" "overlaps" "J" (.long 0) := D13 (Or.inr (hw _ (List.mem_of_getElem? (i := 23) rfl))) (ty := .long) (by decide)
              have B21 : Fld Z h13 b13 "com/example/waveslot/waveslot/core/DecompositionReport" "uncovered" "J" (.long 0) := D13 (Or.inr (hw _ (List.mem_of_getElem? (i := 25) rfl))) (ty := .long) (by decide)
              have B22 : Fld Z h13 b13 "com/example/waveslot/waveslot/core/DecompositionReport" "repeatedInputs" "J" (.long 0) := D13 (Or.inr (hw _ (List.mem_of_getElem? (i := 27) rfl))) (ty := .long) (by decide)
              have B23 : Fld Z h13 b13 "com/example/waveslot/waveslot/core/DecompositionReport" "missingInputs" "J" (.long 0) := D13 (Or.inr (hw _ (List.mem_of_getElem? (i := 29) rfl))) (ty := .long) (by decide)
              have B24 : Fld Z h13 b13 "com/example/waveslot/waveslot/core/DecompositionReport" "sharedOutputs" "J" (.long 0) := D13 (Or.inr (hw _ (List.mem_of_getElem? (i := 31) rfl))) (ty := .long) (by decide)
              have B25 : Fld Z h13 b13 "com/example/waveslot/waveslot/core/DecompositionReport" "mixedWeights" "J" (.long 0) := D13 (Or.inr (hw _ (List.mem_of_getElem? (i := 33) rfl))) (ty := .long) (by decide)
              have B26 : Fld Z h13 b13 "com/example/waveslot/waveslot/core/DecompositionReport" "outOfRange" "J" (.long 0) := D13 (Or.inr (hw _ (List.mem_of_getElem? (i := 35) rfl))) (ty := .long) (by decide)
              refine own_via (fun k => XS.dup X13.here hx rfl (hb hby at_96) rfl rfl (XS.iload X13.here hx rfl (hb hby at_97) rfl  (XS.lloadN X13.here hx rfl (hb hby at_99) rfl  (XS.lload X13.here hx rfl (hb hby at_100) rfl  k)))) ?_
              show own_Go p e below s _ _ (T13.setTop (mkF m 102 #[iv p0, jv q1, .second, jv q2, .second, jv q3, .second, jv q4, .second, jv q5, .second, jv z1, .second, jv z3, .second, jv z5, .second, jv z7, .second, jv z9, .second, jv z11, .second, iv (p0 >>> ((6 : Int32) &&& 31)), .unset, .unset] [(.long q3), (.long q2), (.int (p0 >>> ((6 : Int32) &&& 31))), (.ref b13), (.ref b13)]))
              refine own_via (fun k => XS.l2i X13.here hx rfl (hb hby at_102) rfl (XS.lload X13.here hx rfl (hb hby at_103) rfl  (XS.lload X13.here hx rfl (hb hby at_105) rfl  (XS.lload X13.here hx rfl (hb hby at_107) rfl  k)))) ?_
              show own_Go p e below s _ _ (T13.setTop (mkF m 109 #[iv p0, jv q1, .second, jv q2, .second, jv q3, .second, jv q4, .second, jv q5, .second, jv z1, .second, jv z3, .second, jv z5, .second, jv z7, .second, jv z9, .second, jv z11, .second, iv (p0 >>> ((6 : Int32) &&& 31)), .unset, .unset] [(.long z1), (.long q5), (.long q4), (.int (q3.toInt32)), (.long q2), (.int (p0 >>> ((6 : Int32) &&& 31))), (.ref b13), (.ref b13)]))
              refine own_via (fun k => XS.lload X13.here hx rfl (hb hby at_109) rfl  (XS.lload X13.here hx rfl (hb hby at_111) rfl  (XS.lload X13.here hx rfl (hb hby at_113) rfl  (XS.lload X13.here hx rfl (hb hby at_115) rfl  k)))) ?_
              show own_Go p e below s _ _ (T13.setTop (mkF m 117 #[iv p0, jv q1, .second, jv q2, .second, jv q3, .second, jv q4, .second, jv q5, .second, jv z1, .second, jv z3, .second, jv z5, .second, jv z7, .second, jv z9, .second, jv z11, .second, iv (p0 >>> ((6 : Int32) &&& 31)), .unset, .unset] [(.long z9), (.long z7), (.long z5), (.long z3), (.long z1), (.long q5), (.long q4), (.int (q3.toInt32)), (.long q2), (.int (p0 >>> ((6 : Int32) &&& 31))), (.ref b13), (.ref b13)]))
              refine own_via (fun k => XS.lload X13.here hx rfl (hb hby at_117) rfl  k) ?_
              show own_Go p e below s _ _ (T13.setTop (mkF m 119 #[iv p0, jv q1, .second, jv q2, .second, jv q3, .second, jv q4, .second, jv q5, .second, jv z1, .second, jv z3, .second, jv z5, .second, jv z7, .second, jv z9, .second, jv z11, .second, iv (p0 >>> ((6 : Int32) &&& 31)), .unset, .unset] [(.long z11), (.long z9), (.long z7), (.long z5), (.long z3), (.long z1), (.long q5), (.long q4), (.int (q3.toInt32)), (.long q2), (.int (p0 >>> ((6 : Int32) &&& 31))), (.ref b13), (.ref b13)]))
              obtain ⟨_, _, ⟨T27, L27, k27, n27⟩, -, X27, ⟨Lc27, hQ27, l27, y27, z27⟩, st27⟩ := X13.specialBack hx (y := (⟨"com/example/waveslot/waveslot/core/DecompositionReport", "<init>", "(IJIJJJJJJJJ)V"⟩ : MethodName)) rfl hown (mvT hZ (hw _ (List.mem_of_getElem? (i := 3) rfl))) (mvT hZ (hw _ (List.mem_of_getElem? (i := 4) rfl))) (mvT hZ (hw _ (List.mem_of_getElem? (i := 5) rfl))) (by decide) (backOf (W := 1) (rm1 l Z aw hw [] b13 (p0 >>> ((6 : Int32) &&& 31)) q2 (q3.toInt32) q4 q5 z1 z3 z5 z7 z9 z11 h13 n0 Z15 B16 B17 B18 B19 B20 B21 B22 B23 B24 B25 B26 A13 g14) hZ (hw _ (List.mem_of_getElem? (i := 5) rfl)) (hw _ (List.mem_of_getElem? (i := 2) rfl)) (by decide) (by decide)) (g := (mkF m 119 #[iv p0, jv q1, .second, jv q2, .second, jv q3, .second, jv q4, .second, jv q5, .second, jv z1, .second, jv z3, .second, jv z5, .second, jv z7, .second, jv z9, .second, jv z11, .second, iv (p0 >>> ((6 : Int32) &&& 31)), .unset, .unset] [(.long z11), (.long z9), (.long z7), (.long z5), (.long z3), (.long z1), (.long q5), (.long q4), (.int (q3.toInt32)), (.long q2), (.int (p0 >>> ((6 : Int32) &&& 31))), (.ref b13), (.ref b13)])) rfl (by rw [hml]; rfl) (Steps.refl _) (a := b13) (argsL := [(.int (p0 >>> ((6 : Int32) &&& 31))), (.long q2), (.int (q3.toInt32)), (.long q4), (.long q5), (.long z1), (.long z3), (.long z5), (.long z7), (.long z9), (.long z11)]) (rest := [(.ref b13)]) (lenOf pd_0 rfl) rfl (by show 2 * 0 + _ ≤ _; exact Nat.le_of_eq rfl) (hb hby at_119) (fun _ _ => ⟨rfl, e13, (by decide : 1 + 0 ≤ _), (by decide : 11 + 0 ≤ _)⟩)
              dsimp only [Pt.U, Pt.locs, Pt.cells, Pt.slots] at X27 l27 y27 z27 st27 hQ27
              subst l27 y27 z27
              obtain ⟨rfl, N27q, K27, B28, B29, B30, B31, B32, B33⟩ := hQ27
              have N34 := Fr.app N0 N27q
              have B35 := A13.keep K27
              have Z36 : n0 ≤ T27.heap.size := Nat.le_trans Z15 K27.1
              refine own_via (fun k => st27.trans k) ?_
              show own_Go p e below s _ _ (T27.setTop (mkF m 122 #[iv p0, jv q1, .second, jv q2, .second, jv q3, .second, jv q4, .second, jv q5, .second, jv z1, .second, jv z3, .second, jv z5, .second, jv z7, .second, jv z9, .second, jv z11, .second, iv (p0 >>> ((6 : Int32) &&& 31)), .unset, .unset] [(.ref b13)]))
              refine own_via (fun k => XS.astore X27.here hx rfl (hb hby at_122) rfl rfl (l' := #[iv p0, jv q1, .second, jv q2, .second, jv q3, .second, jv q4, .second, jv q5, .second, jv z1, .second, jv z3, .second, jv z5, .second, jv z7, .second, jv z9, .second, jv z11, .second, iv (p0 >>> ((6 : Int32) &&& 31)), rv b13, .unset]) rfl (XS.lload X27.here hx rfl (hb hby at_124) rfl  (XS.lload X27.here hx rfl (hb hby at_126) rfl  (XS.lor X27.here hx rfl (hb hby at_128) rfl k)))) ?_
              show own_Go p e below s _ _ (T27.setTop (mkF m 129 #[iv p0, jv q1, .second, jv q2, .second, jv q3, .second, jv q4, .second, jv q5, .second, jv z1, .second, jv z3, .second, jv z5, .second, jv z7, .second, jv z9, .second, jv z11, .second, iv (p0 >>> ((6 : Int32) &&& 31)), rv b13, .unset] [(.long (z1 ||| z3))]))
              refine own_via (fun k => XS.lload X27.here hx rfl (hb hby at_129) rfl  (XS.lor X27.here hx rfl (hb hby at_131) rfl (XS.lload X27.here hx rfl (hb hby at_132) rfl  (XS.lor X27.here hx rfl (hb hby at_134) rfl k)))) ?_
              show own_Go p e below s _ _ (T27.setTop (mkF m 135 #[iv p0, jv q1, .second, jv q2, .second, jv q3, .second, jv q4, .second, jv q5, .second, jv z1, .second, jv z3, .second, jv z5, .second, jv z7, .second, jv z9, .second, jv z11, .second, iv (p0 >>> ((6 : Int32) &&& 31)), rv b13, .unset] [(.long (((z1 ||| z3) ||| z5) ||| z7))]))
              refine own_via (fun k => XS.lload X27.here hx rfl (hb hby at_135) rfl  (XS.lor X27.here hx rfl (hb hby at_137) rfl (XS.lload X27.here hx rfl (hb hby at_138) rfl  (XS.lor X27.here hx rfl (hb hby at_140) rfl k)))) ?_
              show own_Go p e below s _ _ (T27.setTop (mkF m 141 #[iv p0, jv q1, .second, jv q2, .second, jv q3, .second, jv q4, .second, jv q5, .second, jv z1, .second, jv z3, .second, jv z5, .second, jv z7, .second, jv z9, .second, jv z11, .second, iv (p0 >>> ((6 : Int32) &&& 31)), rv b13, .unset] [(.long (((((z1 ||| z3) ||| z5) ||| z7) ||| z9) ||| z11))]))
              refine own_via (fun k => XS.lconst X27.here hx rfl (hb hby at_141) (XS.lcmp X27.here hx rfl (hb hby at_142) rfl k)) ?_
              show own_Go p e below s _ _ (T27.setTop (mkF m 143 #[iv p0, jv q1, .second, jv q2, .second, jv q3, .second, jv q4, .second, jv q5, .second, jv z1, .second, jv z3, .second, jv z5, .second, jv z7, .second, jv z9, .second, jv z11, .second, iv (p0 >>> ((6 : Int32) &&& 31)), rv b13, .unset] [(.int (lcmpW (((((z1 ||| z3) ||| z5) ||| z7) ||| z9) ||| z11) (0 : Int64)))]))
              have J38 : ∀ (z37 : Int32), z37 = (if (((((z1 ||| z3) ||| z5) ||| z7) ||| z9) ||| z11) = (0 : Int64) then (1 : Int32) else (0 : Int32)) → own_Go p e below s (Q0 Z p0 q1 q2 q3 q4 q5 h0 n0) (room_1.cells, room_1.slots) (T27.setTop (mkF m 151 #[iv p0, jv q1, .second, jv q2, .second, jv q3, .second, jv q4, .second, jv q5, .second, jv z1, .second, jv z3, .second, jv z5, .second, jv z7, .second, jv z9, .second, jv z11, .second, iv (p0 >>> ((6 : Int32) &&& 31)), rv b13, .unset] [(.int z37)])) := by
                intro z37 hz37
                refine own_via (fun k => XS.istore X27.here hx rfl (hb hby at_151) rfl (l' := #[iv p0, jv q1, .second, jv q2, .second, jv q3, .second, jv q4, .second, jv q5, .second, jv z1, .second, jv z3, .second, jv z5, .second, jv z7, .second, jv z9, .second, jv z11, .second, iv (p0 >>> ((6 : Int32) &&& 31)), rv b13, iv z37]) rfl (XS.aload X27.here hx rfl (hb hby at_153) rfl rfl  k)) ?_
                show own_Go p e below s _ _ (T27.setTop (mkF m 155 #[iv p0, jv q1, .second, jv q2, .second, jv q3, .second, jv q4, .second, jv q5, .second, jv z1, .second, jv z3, .second, jv z5, .second, jv z7, .second, jv z9, .second, jv z11, .second, iv (p0 >>> ((6 : Int32) &&& 31)), rv b13, iv z37] [(.ref b13)]))
                obtain ⟨cq39, kq39, q39a, q39b, q39c⟩ := isOf hZ rfl B35
                obtain ⟨_, _, ⟨T39, L39, k39, n39⟩, -, X39, ⟨Lc39, hQ39, l39, y39, z39⟩, st39⟩ := X27.virtualBack hx (y := (⟨"com/example/waveslot/waveslot/core/DecompositionReport", "valid", "()Z"⟩ : MethodName)) (z := (⟨"com/example/waveslot/waveslot/core/DecompositionReport", "valid", "()Z"⟩ : MethodName)) hown (mvT hZ (hw _ (List.mem_of_getElem? (i := 36) rfl))) (mvT hZ (hw _ (List.mem_of_getElem? (i := 37) rfl))) (notFace_of_selects (args := #[]) (mvT hZ (hw _ (List.mem_of_getElem? (i := 39) rfl)))) (mvT hZ (hw _ (List.mem_of_getElem? (i := 39) rfl))) (mvT hZ (hw _ (List.mem_of_getElem? (i := 38) rfl))) (by decide) (backOf (W := 0) (rm4 l Z aw hw [] b13 z1 z3 z5 z7 z9 z11 T27.heap n0 Z36 B28 B29 B30 B31 B32 B33) hZ (hw _ (List.mem_of_getElem? (i := 40) rfl)) (hw _ (List.mem_of_getElem? (i := 2) rfl)) (by decide) (by decide)) q39a q39c (g := (mkF m 155 #[iv p0, jv q1, .second, jv q2, .second, jv q3, .second, jv q4, .second, jv q5, .second, jv z1, .second, jv z3, .second, jv z5, .second, jv z7, .second, jv z9, .second, jv z11, .second, iv (p0 >>> ((6 : Int32) &&& 31)), rv b13, iv z37] [(.ref b13)])) rfl (by rw [hml]; rfl) (Steps.refl _) (argsL := []) (rest := []) (lenOf pd_2 rfl) rfl (by show 2 * 0 + _ ≤ _; exact Nat.le_of_eq rfl) (hb hby at_155) (fun _ _ => ⟨rfl, rfl, (by decide : 1 + 0 ≤ _), (by decide : 11 + 0 ≤ _)⟩)
                dsimp only [Pt.U, Pt.locs, Pt.cells, Pt.slots] at X39 l39 y39 z39 st39 hQ39
                subst l39 y39 z39
                obtain ⟨rfl, N39q, eh39⟩ := hQ39
                have N40 := Fr.app N34 N39q
                refine own_via (fun k => st39.trans k) ?_
                show own_Go p e below s _ _ (T39.setTop (mkF m 158 #[iv p0, jv q1, .second, jv q2, .second, jv q3, .second, jv q4, .second, jv q5, .second, jv z1, .second, jv z3, .second, jv z5, .second, jv z7, .second, jv z9, .second, jv z11, .second, iv (p0 >>> ((6 : Int32) &&& 31)), rv b13, iv z37] [(.int (own_f4 z1 z3 z5 z7 z9 z11))]))
                refine own_via (fun k => XS.iload X39.here hx rfl (hb hby at_158) rfl  k) ?_
                show own_Go p e below s _ _ (T39.setTop (mkF m 160 #[iv p0, jv q1, .second, jv q2, .second, jv q3, .second, jv q4, .second, jv q5, .second, jv z1, .second, jv z3, .second, jv z5, .second, jv z7, .second, jv z9, .second, jv z11, .second, iv (p0 >>> ((6 : Int32) &&& 31)), rv b13, iv z37] [(.int z37), (.int (own_f4 z1 z3 z5 z7 z9 z11))]))
                refine own_via (fun k => XS.icmpNo X39.here hx rfl (hb hby at_160) rfl (teq (own_law p0 q1 q2 q3 q4 q5 z1 hz1 z3 hz3 z5 hz5 z7 hz7 z9 hz9 z11 hz11 z37 hz37)).2 k) ?_
                show own_Go p e below s _ _ (T39.setTop (mkF m 163 #[iv p0, jv q1, .second, jv q2, .second, jv q3, .second, jv q4, .second, jv q5, .second, jv z1, .second, jv z3, .second, jv z5, .second, jv z7, .second, jv z9, .second, jv z11, .second, iv (p0 >>> ((6 : Int32) &&& 31)), rv b13, iv z37] []))
                refine own_via (fun k => XS.iconst X39.here hx rfl (hb hby at_163) (XS.goto X39.here hx rfl (pc0 := 164) (pc' := 168) rfl (hb hby at_164) (by decide) (by decide) k)) ?_
                show own_Go p e below s _ _ (T39.setTop (mkF m 168 #[iv p0, jv q1, .second, jv q2, .second, jv q3, .second, jv q4, .second, jv q5, .second, jv z1, .second, jv z3, .second, jv z5, .second, jv z7, .second, jv z9, .second, jv z11, .second, iv (p0 >>> ((6 : Int32) &&& 31)), rv b13, iv z37] [(.int 1)]))
                exact own_retN X39 hx hlk (t := .boolean) Bd.returns (by simp) (hb hby at_168) (Q := (Q0 Z p0 q1 q2 q3 q4 q5 h0 n0)) ⟨rfl, N40⟩ (by decide) (by decide)
              by_cases hc41 : (((((z1 ||| z3) ||| z5) ||| z7) ||| z9) ||| z11) = (0 : Int64)
              · refine own_via (fun k => XS.ifNo X27.here hx rfl (hb hby at_143) rfl ((if0 _ _).trans (teq ((lw_eq _ _).mpr hc41)).2) k) ?_
                show own_Go p e below s _ _ (T27.setTop (mkF m 146 #[iv p0, jv q1, .second, jv q2, .second, jv q3, .second, jv q4, .second, jv q5, .second, jv z1, .second, jv z3, .second, jv z5, .second, jv z7, .second, jv z9, .second, jv z11, .second, iv (p0 >>> ((6 : Int32) &&& 31)), rv b13, .unset] []))
                refine own_via (fun k => XS.iconst X27.here hx rfl (hb hby at_146) (XS.goto X27.here hx rfl (pc0 := 147) (pc' := 151) rfl (hb hby at_147) (by decide) (by decide) k)) ?_
                show own_Go p e below s _ _ (T27.setTop (mkF m 151 #[iv p0, jv q1, .second, jv q2, .second, jv q3, .second, jv q4, .second, jv q5, .second, jv z1, .second, jv z3, .second, jv z5, .second, jv z7, .second, jv z9, .second, jv z11, .second, iv (p0 >>> ((6 : Int32) &&& 31)), rv b13, .unset] [(.int 1)]))
                exact J38 (1 : Int32) (((if_pos hc41).trans rfl)).symm
              · refine own_via (fun k => XS.ifYes X27.here hx rfl (pc0 := 143) (pc' := 150) rfl (hb hby at_143) rfl ((if0 _ _).trans (feq (mt (lw_eq _ _).mp hc41)).2) (by decide) (by decide) k) ?_
                show own_Go p e below s _ _ (T27.setTop (mkF m 150 #[iv p0, jv q1, .second, jv q2, .second, jv q3, .second, jv q4, .second, jv q5, .second, jv z1, .second, jv z3, .second, jv z5, .second, jv z7, .second, jv z9, .second, jv z11, .second, iv (p0 >>> ((6 : Int32) &&& 31)), rv b13, .unset] []))
                refine own_via (fun k => XS.iconst X27.here hx rfl (hb hby at_150) k) ?_
                show own_Go p e below s _ _ (T27.setTop (mkF m 151 #[iv p0, jv q1, .second, jv q2, .second, jv q3, .second, jv q4, .second, jv q5, .second, jv z1, .second, jv z3, .second, jv z5, .second, jv z7, .second, jv z9, .second, jv z11, .second, iv (p0 >>> ((6 : Int32) &&& 31)), rv b13, .unset] [(.int 0)]))
                exact J38 (0 : Int32) (((if_neg hc41).trans rfl)).symm
            by_cases hc42 : (p0 &&& (32 : Int32)) = (0 : Int32)
            · refine own_via (fun k => XS.ifYes X0.here hx rfl (pc0 := 74) (pc' := 84) rfl (hb hby at_74) rfl ((if0 _ _).trans (teq hc42).1) (by decide) (by decide) k) ?_
              show own_Go p e below s _ _ (s₁.setTop (mkF m 84 #[iv p0, jv q1, .second, jv q2, .second, jv q3, .second, jv q4, .second, jv q5, .second, jv z1, .second, jv z3, .second, jv z5, .second, jv z7, .second, jv z9, .second, .unset, .unset, .unset, .unset, .unset] []))
              refine own_via (fun k => XS.lconst X0.here hx rfl (hb hby at_84) k) ?_
              show own_Go p e below s _ _ (s₁.setTop (mkF m 85 #[iv p0, jv q1, .second, jv q2, .second, jv q3, .second, jv q4, .second, jv q5, .second, jv z1, .second, jv z3, .second, jv z5, .second, jv z7, .second, jv z9, .second, .unset, .unset, .unset, .unset, .unset] [(.long 0)]))
              exact J12 (0 : Int64) (((if_pos hc42).trans rfl)).symm
            · refine own_via (fun k => XS.ifNo X0.here hx rfl (hb hby at_74) rfl ((if0 _ _).trans (feq hc42).1) k) ?_
              show own_Go p e below s _ _ (s₁.setTop (mkF m 77 #[iv p0, jv q1, .second, jv q2, .second, jv q3, .second, jv q4, .second, jv q5, .second, jv z1, .second, jv z3, .second, jv z5, .second, jv z7, .second, jv z9, .second, .unset, .unset, .unset, .unset, .unset] []))
              refine own_via (fun k => XS.lloadN X0.here hx rfl (hb hby at_77) rfl  (XS.lload X0.here hx rfl (hb hby at_78) rfl  (XS.lxor X0.here hx rfl (hb hby at_80) rfl (XS.goto X0.here hx rfl (pc0 := 81) (pc' := 85) rfl (hb hby at_81) (by decide) (by decide) k)))) ?_
              show own_Go p e below s _ _ (s₁.setTop (mkF m 85 #[iv p0, jv q1, .second, jv q2, .second, jv q3, .second, jv q4, .second, jv q5, .second, jv z1, .second, jv z3, .second, jv z5, .second, jv z7, .second, jv z9, .second, .unset, .unset, .unset, .unset, .unset] [(.long (q1 ^^^ q5))]))
              exact J12 (q1 ^^^ q5) (((if_neg hc42).trans rfl)).symm
          by_cases hc43 : (p0 &&& (16 : Int32)) = (0 : Int32)
          · refine own_via (fun k => XS.ifYes X0.here hx rfl (pc0 := 59) (pc' := 67) rfl (hb hby at_59) rfl ((if0 _ _).trans (teq hc43).1) (by decide) (by decide) k) ?_
            show own_Go p e below s _ _ (s₁.setTop (mkF m 67 #[iv p0, jv q1, .second, jv q2, .second, jv q3, .second, jv q4, .second, jv q5, .second, jv z1, .second, jv z3, .second, jv z5, .second, jv z7, .second, .unset, .unset, .unset, .unset, .unset, .unset, .unset] []))
            refine own_via (fun k => XS.lconst X0.here hx rfl (hb hby at_67) k) ?_
            show own_Go p e below s _ _ (s₁.setTop (mkF m 68 #[iv p0, jv q1, .second, jv q2, .second, jv q3, .second, jv q4, .second, jv q5, .second, jv z1, .second, jv z3, .second, jv z5, .second, jv z7, .second, .unset, .unset, .unset, .unset, .unset, .unset, .unset] [(.long 0)]))
            exact J10 (0 : Int64) (((if_pos hc43).trans rfl)).symm
          · refine own_via (fun k => XS.ifNo X0.here hx rfl (hb hby at_59) rfl ((if0 _ _).trans (feq hc43).1) k) ?_
            show own_Go p e below s _ _ (s₁.setTop (mkF m 62 #[iv p0, jv q1, .second, jv q2, .second, jv q3, .second, jv q4, .second, jv q5, .second, jv z1, .second, jv z3, .second, jv z5, .second, jv z7, .second, .unset, .unset, .unset, .unset, .unset, .unset, .unset] []))
            refine own_via (fun k => XS.lload X0.here hx rfl (hb hby at_62) rfl  (XS.goto X0.here hx rfl (pc0 := 64) (pc' := 68) rfl (hb hby at_64) (by decide) (by decide) k)) ?_
            show own_Go p e below s _ _ (s₁.setTop (mkF m 68 #[iv p0, jv q1, .second, jv q2, .second, jv q3, .second, jv q4, .second, jv q5, .second, jv z1, .second, jv z3, .second, jv z5, .second, jv z7, .second, .unset, .unset, .unset, .unset, .unset, .unset, .unset] [(.long q5)]))
            exact J10 q5 (((if_neg hc43).trans rfl)).symm
        by_cases hc44 : (p0 &&& (8 : Int32)) = (0 : Int32)
        · refine own_via (fun k => XS.ifYes X0.here hx rfl (pc0 := 44) (pc' := 52) rfl (hb hby at_44) rfl ((if0 _ _).trans (teq hc44).1) (by decide) (by decide) k) ?_
          show own_Go p e below s _ _ (s₁.setTop (mkF m 52 #[iv p0, jv q1, .second, jv q2, .second, jv q3, .second, jv q4, .second, jv q5, .second, jv z1, .second, jv z3, .second, jv z5, .second, .unset, .unset, .unset, .unset, .unset, .unset, .unset, .unset, .unset] []))
          refine own_via (fun k => XS.lconst X0.here hx rfl (hb hby at_52) k) ?_
          show own_Go p e below s _ _ (s₁.setTop (mkF m 53 #[iv p0, jv q1, .second, jv q2, .second, jv q3, .second, jv q4, .second, jv q5, .second, jv z1, .second, jv z3, .second, jv z5, .second, .unset, .unset, .unset, .unset, .unset, .unset, .unset, .unset, .unset] [(.long 0)]))
          exact J8 (0 : Int64) (((if_pos hc44).trans rfl)).symm
        · refine own_via (fun k => XS.ifNo X0.here hx rfl (hb hby at_44) rfl ((if0 _ _).trans (feq hc44).1) k) ?_
          show own_Go p e below s _ _ (s₁.setTop (mkF m 47 #[iv p0, jv q1, .second, jv q2, .second, jv q3, .second, jv q4, .second, jv q5, .second, jv z1, .second, jv z3, .second, jv z5, .second, .unset, .unset, .unset, .unset, .unset, .unset, .unset, .unset, .unset] []))
          refine own_via (fun k => XS.lload X0.here hx rfl (hb hby at_47) rfl  (XS.goto X0.here hx rfl (pc0 := 49) (pc' := 53) rfl (hb hby at_49) (by decide) (by decide) k)) ?_
          show own_Go p e below s _ _ (s₁.setTop (mkF m 53 #[iv p0, jv q1, .second, jv q2, .second, jv q3, .second, jv q4, .second, jv q5, .second, jv z1, .second, jv z3, .second, jv z5, .second, .unset, .unset, .unset, .unset, .unset, .unset, .unset, .unset, .unset] [(.long q4)]))
          exact J8 q4 (((if_neg hc44).trans rfl)).symm
      by_cases hc45 : (p0 &&& (4 : Int32)) = (0 : Int32)
      · refine own_via (fun k => XS.ifYes X0.here hx rfl (pc0 := 29) (pc' := 37) rfl (hb hby at_29) rfl ((if0 _ _).trans (teq hc45).1) (by decide) (by decide) k) ?_
        show own_Go p e below s _ _ (s₁.setTop (mkF m 37 #[iv p0, jv q1, .second, jv q2, .second, jv q3, .second, jv q4, .second, jv q5, .second, jv z1, .second, jv z3, .second, .unset, .unset, .unset, .unset, .unset, .unset, .unset, .unset, .unset, .unset, .unset] []))
        refine own_via (fun k => XS.lconst X0.here hx rfl (hb hby at_37) k) ?_
        show own_Go p e below s _ _ (s₁.setTop (mkF m 38 #[iv p0, jv q1, .second, jv q2, .second, jv q3, .second, jv q4, .second, jv q5, .second, jv z1, .second, jv z3, .second, .unset, .unset, .unset, .unset, .unset, .unset, .unset, .unset, .unset, .unset, .unset] [(.long 0)]))
        exact J6 (0 : Int64) (((if_pos hc45).trans rfl)).symm
      · refine own_via (fun k => XS.ifNo X0.here hx rfl (hb hby at_29) rfl ((if0 _ _).trans (feq hc45).1) k) ?_
        show own_Go p e below s _ _ (s₁.setTop (mkF m 32 #[iv p0, jv q1, .second, jv q2, .second, jv q3, .second, jv q4, .second, jv q5, .second, jv z1, .second, jv z3, .second, .unset, .unset, .unset, .unset, .unset, .unset, .unset, .unset, .unset, .unset, .unset] []))
        refine own_via (fun k => XS.lload X0.here hx rfl (hb hby at_32) rfl  (XS.goto X0.here hx rfl (pc0 := 34) (pc' := 38) rfl (hb hby at_34) (by decide) (by decide) k)) ?_
        show own_Go p e below s _ _ (s₁.setTop (mkF m 38 #[iv p0, jv q1, .second, jv q2, .second, jv q3, .second, jv q4, .second, jv q5, .second, jv z1, .second, jv z3, .second, .unset, .unset, .unset, .unset, .unset, .unset, .unset, .unset, .unset, .unset, .unset] [(.long q3)]))
        exact J6 q3 (((if_neg hc45).trans rfl)).symm
    by_cases hc46 : (p0 &&& (2 : Int32)) = (0 : Int32)
    · refine own_via (fun k => XS.ifYes X0.here hx rfl (pc0 := 16) (pc' := 23) rfl (hb hby at_16) rfl ((if0 _ _).trans (teq hc46).1) (by decide) (by decide) k) ?_
      show own_Go p e below s _ _ (s₁.setTop (mkF m 23 #[iv p0, jv q1, .second, jv q2, .second, jv q3, .second, jv q4, .second, jv q5, .second, jv z1, .second, .unset, .unset, .unset, .unset, .unset, .unset, .unset, .unset, .unset, .unset, .unset, .unset, .unset] []))
      refine own_via (fun k => XS.lconst X0.here hx rfl (hb hby at_23) k) ?_
      show own_Go p e below s _ _ (s₁.setTop (mkF m 24 #[iv p0, jv q1, .second, jv q2, .second, jv q3, .second, jv q4, .second, jv q5, .second, jv z1, .second, .unset, .unset, .unset, .unset, .unset, .unset, .unset, .unset, .unset, .unset, .unset, .unset, .unset] [(.long 0)]))
      exact J4 (0 : Int64) (((if_pos hc46).trans rfl)).symm
    · refine own_via (fun k => XS.ifNo X0.here hx rfl (hb hby at_16) rfl ((if0 _ _).trans (feq hc46).1) k) ?_
      show own_Go p e below s _ _ (s₁.setTop (mkF m 19 #[iv p0, jv q1, .second, jv q2, .second, jv q3, .second, jv q4, .second, jv q5, .second, jv z1, .second, .unset, .unset, .unset, .unset, .unset, .unset, .unset, .unset, .unset, .unset, .unset, .unset, .unset] []))
      refine own_via (fun k => XS.lloadN X0.here hx rfl (hb hby at_19) rfl  (XS.goto X0.here hx rfl (pc0 := 20) (pc' := 24) rfl (hb hby at_20) (by decide) (by decide) k)) ?_
      show own_Go p e below s _ _ (s₁.setTop (mkF m 24 #[iv p0, jv q1, .second, jv q2, .second, jv q3, .second, jv q4, .second, jv q5, .second, jv z1, .second, .unset, .unset, .unset, .unset, .unset, .unset, .unset, .unset, .unset, .unset, .unset, .unset, .unset] [(.long q2)]))
      exact J4 q2 (((if_neg hc46).trans rfl)).symm
  by_cases hc47 : (p0 &&& (1 : Int32)) = (0 : Int32)
  · refine own_via (fun k => XS.ifYes X0.here hx rfl (pc0 := 3) (pc' := 10) rfl (hb hby at_3) rfl ((if0 _ _).trans (teq hc47).1) (by decide) (by decide) k) ?_
    show own_Go p e below s _ _ (s₁.setTop (mkF m 10 #[iv p0, jv q1, .second, jv q2, .second, jv q3, .second, jv q4, .second, jv q5, .second, .unset, .unset, .unset, .unset, .unset, .unset, .unset, .unset, .unset, .unset, .unset, .unset, .unset, .unset, .unset] []))
    refine own_via (fun k => XS.lconst X0.here hx rfl (hb hby at_10) k) ?_
    show own_Go p e below s _ _ (s₁.setTop (mkF m 11 #[iv p0, jv q1, .second, jv q2, .second, jv q3, .second, jv q4, .second, jv q5, .second, .unset, .unset, .unset, .unset, .unset, .unset, .unset, .unset, .unset, .unset, .unset, .unset, .unset, .unset, .unset] [(.long 0)]))
    exact J2 (0 : Int64) (((if_pos hc47).trans rfl)).symm
  · refine own_via (fun k => XS.ifNo X0.here hx rfl (hb hby at_3) rfl ((if0 _ _).trans (feq hc47).1) k) ?_
    show own_Go p e below s _ _ (s₁.setTop (mkF m 6 #[iv p0, jv q1, .second, jv q2, .second, jv q3, .second, jv q4, .second, jv q5, .second, .unset, .unset, .unset, .unset, .unset, .unset, .unset, .unset, .unset, .unset, .unset, .unset, .unset, .unset, .unset] []))
    refine own_via (fun k => XS.lloadN X0.here hx rfl (hb hby at_6) rfl  (XS.goto X0.here hx rfl (pc0 := 7) (pc' := 11) rfl (hb hby at_7) (by decide) (by decide) k)) ?_
    show own_Go p e below s _ _ (s₁.setTop (mkF m 11 #[iv p0, jv q1, .second, jv q2, .second, jv q3, .second, jv q4, .second, jv q5, .second, .unset, .unset, .unset, .unset, .unset, .unset, .unset, .unset, .unset, .unset, .unset, .unset, .unset, .unset, .unset] [(.long q1)]))
    exact J2 q1 (((if_neg hc47).trans rfl)).symm
set_option maxRecDepth 65536 in
set_option maxHeartbeats 40000000 in
theorem comes_1 {Post : Tables → Env → Array Value → State → Outcome → State → Prop} (hpost : ∀ tb e args s v u, (limb_1_1.after args s (.returned v) u = true ∧ limb_1_2.after args s (.returned v) u = true ∧ True) → FrameEnd s (.returned v) u (Jvm.fieldLocs frame_1_writes args s ++ Jvm.arrayLocs frame_1_arrays args s ++ Jvm.staticLocs frame_1_statics s) 16 128 → Post tb e args s (.returned v) u) :
    ArmFor flags0 classFile x code maxLocals ret World_1 tables_1 room_1 Calls_1 rest_1 Pre_1 Post := by
  intro l hfl _ _ p e ha hc hk s m args below hf hA hF happ hP
  obtain ⟨hcalls, hrest, hpre⟩ := hP
  obtain ⟨-, -, -, hnamed, -, -, -, hat⟩ := (Spec.applies_iff hf).mp happ
  obtain ⟨hg, hn⟩ := and_e (Cond.before_iff.mp (show (Jvm.Cond.and given_1 narrow_1).before args s = true from hpre))
  obtain ⟨g1, g2⟩ := and_e hg
  obtain ⟨g3, g4⟩ := and_e g2
  obtain ⟨g5, g6⟩ := and_e g4
  obtain ⟨g7, g8⟩ := and_e g6
  obtain ⟨g9, g10⟩ := and_e g8
  obtain ⟨g11, g12⟩ := and_e g10
  obtain ⟨w0, w1, w2, w3, w4, w5, rfl⟩ : ∃ w0 w1 w2 w3 w4 w5 : Value, args = #[w0, w1, w2, w3, w4, w5] := by
    have hs : args.size = 6 := by simpa [Cond.value, given_1] using g1
    obtain ⟨L⟩ := args
    match L, hs with
    | [w0, w1, w2, w3, w4, w5], _ => exact ⟨w0, w1, w2, w3, w4, w5, rfl⟩
  have hw := fun d (hd : d ∈ tables_1) => atoms_spec (ws := Jvm.Cond.code x code maxLocals ret :: tables_1) hat d (List.mem_cons_of_mem _ hd)
  obtain ⟨i0, ei0⟩ := is_v g3
  obtain rfl : w0 = (.int i0) := Option.some.inj ei0
  obtain ⟨i1, ei1⟩ := isL_v g5
  obtain rfl : w1 = (.long i1) := Option.some.inj ei1
  obtain ⟨i2, ei2⟩ := isL_v g7
  obtain rfl : w2 = (.long i2) := Option.some.inj ei2
  obtain ⟨i3, ei3⟩ := isL_v g9
  obtain rfl : w3 = (.long i3) := Option.some.inj ei3
  obtain ⟨i4, ei4⟩ := isL_v g11
  obtain rfl : w4 = (.long i4) := Option.some.inj ei4
  obtain ⟨i5, ei5⟩ := isL_v g12
  obtain rfl : w5 = (.long i5) := Option.some.inj ei5
  obtain ⟨n, o, h1, h2, h3, _, L, rfl, ⟨rfl, N⟩, hq⟩ := rm0 l s _ hw tables_1 i0 i1 i2 i3 i4 i5 s.heap s.heap.size (Nat.le_refl _) p e ha hc hk s m _ below hf ((Spec.applies_iff_loose hf).mp happ).1 ⟨rfl, State.Warmed39.refl s, rfl⟩ trivial
  refine ⟨n, _, h1, h2, h3, hpost _ _ _ _ _ _ ⟨Cond.after_iff.mpr rfl, Cond.after_iff.mpr (eq_i res_at (Term.int_eval (1)) rfl), trivial⟩ ⟨hq.1, hq.2.1, (hq.2.2.sift fun y hy => Or.inr (N y hy)).mono (by decide) (by decide)⟩⟩
theorem main_1_1 : Claimed_1_1 := comes_1 fun _ _ _ _ _ _ h hF => ⟨h.1, hF⟩
theorem main_1_2 : Claimed_1_2 := comes_1 fun _ _ _ _ _ _ h hF => ⟨h.2.1, hF⟩
end Jvm.Pilot.@@N@@
namespace Jvm.Pilot.@@N@@
open Jvm Jvm.ClassFile Sem Op Lib Jvm.Free Jvm.Stand Jvm.Pilot.@@N@@.Jvm.D
/-! MADE BY PROGRAM (witnessworld.py) out of the Statement's table words and the real class files: 10 classes; the members and pool entries that the words name. The judged class is class 1, her method 1. -/
namespace start1
open Jvm.ClassFile
def u (s : String) : CpInfo := .utf8 (stringToUtf16 s)
/-- a pool by its gaps: so many unusable entries, then the entry; so many at the end -/
def gap : Nat → List CpInfo → List CpInfo
  | 0, r => r
  | n + 1, r => .unusable :: gap n r
def poolList (es : List (Nat × CpInfo)) (last : Nat) : List CpInfo := es.foldr (fun e r => gap e.1 (e.2 :: r)) (gap last [])
def pool (es : List (Nat × CpInfo)) (last : Nat) : Array CpInfo := ⟨poolList es last⟩
def fileOf (pool : Array CpInfo) (this : Nat) (attrs : Array Attribute := #[]) (ms : Array MethodInfo := #[]) (fl : Nat := 33) (sup : Nat := 0) (ifs : Array Nat := #[]) (fds : Array FieldInfo := #[]) : ClassFile where
  minorVersion := 0
  majorVersion := 65
  constantPool := pool
  accessFlags := fl
  thisClass := this
  superClass := sup
  interfaces := ifs
  fields := fds
  methods := ms
  attributes := attrs
def plain (name : String) (sup : Option ClassId) : Class where
  name := name
  kind := .ordinary
  loader := none
  accessFlags := 33
  super := sup
  interfaces := #[]
  cf := none
  fields := #[]
  methods := #[]
  instanceTypes := #[]
  staticTypes := #[]
  resolved := #[]
  callSites := []
  init := .initialized
  statics := none
  mirror := none

def pool0 : Array CpInfo := pool [(5, u "<init>"), (0, u "()V"), (1, .class_ 10), (1, u "java/lang/Object")] 113

def k0c0 : Code := { maxStack := 0, maxLocals := 1, code := object_method_1_code, exceptionTable := #[], attributes := #[] }
def k0m0 : Method := { name := "<init>", desc := "()V", sig := { parameters := [], returnType := none }, accessFlags := 1, code := some k0c0 }
/-- java/lang/Object -/
def k0 : Class := { plain "java/lang/Object" none with
  accessFlags := 33
  interfaces := #[]
  cf := some (fileOf pool0 8 #[] #[{ accessFlags := 1, nameIndex := 5, descriptorIndex := 6, attributes := #[] }] 33 0 #[] #[])
  fields := #[]
  methods := #[k0m0]
  instanceTypes := #[]
  staticTypes := #[]
  resolved := Array.replicate 124 none
  statics := none }

def pool1 : Array CpInfo := pool [(2, .class_ 4), (1, u "java/lang/Object"), (0, u "<init>"), (0, u "()V"), (0, .class_ 8), (0, u "com/example/waveslot/waveslot/core/DecompositionReport"), (0, .methodref 7 10), (0, .nameAndType 5 11), (0, u "(IJIJJJJJJJJ)V"), (0, .methodref 7 13), (0, .nameAndType 14 15), (0, u "valid"), (0, u "()Z"), (0, .class_ 17), (0, u "com/example/waveslot/waveslot/core/DecompositionReportValidPinLaw"), (2, u "law"), (0, u "(IJJJJJ)Z")] 3

def k1m0 : Method := { name := "<init>", desc := "()V", sig := { parameters := [], returnType := none }, accessFlags := 1, code := none }
def k1c1 : Code := { maxStack := 22, maxLocals := 26, code := code, exceptionTable := #[], attributes := #[] }
def k1m1 : Method := { name := "law", desc := "(IJJJJJ)Z", sig := { parameters := [.int, .long, .long, .long, .long, .long], returnType := some .boolean }, accessFlags := 9, code := some k1c1 }
/-- com/example/waveslot/waveslot/core/DecompositionReportValidPinLaw -/
def k1 : Class := { plain "com/example/waveslot/waveslot/core/DecompositionReportValidPinLaw" (some 0) with
  accessFlags := 49
  interfaces := #[]
  cf := some (fileOf pool1 16 #[] #[{ accessFlags := 1, nameIndex := 5, descriptorIndex := 6, attributes := #[] }, { accessFlags := 9, nameIndex := 20, descriptorIndex := 21, attributes := #[] }] 49 2 #[] #[])
  fields := #[]
  methods := #[k1m0, k1m1]
  instanceTypes := #[]
  staticTypes := #[]
  resolved := Array.replicate 25 none
  statics := none }

def pool2 : Array CpInfo := pool [(1, .methodref 2 3), (0, .class_ 4), (0, .nameAndType 5 6), (0, u "java/lang/Object"), (0, u "<init>"), (0, u "()V"), (0, .class_ 8), (0, u "java/lang/Record")] 13

def k2c0 : Code := { maxStack := 1, maxLocals := 1, code := jdk_30_method_1_code, exceptionTable := #[], attributes := #[] }
def k2m0 : Method := { name := "<init>", desc := "()V", sig := { parameters := [], returnType := none }, accessFlags := 4, code := some k2c0 }
/-- java/lang/Record -/
def k2 : Class := { plain "java/lang/Record" (some 0) with
  accessFlags := 1057
  interfaces := #[]
  cf := some (fileOf pool2 7 #[] #[{ accessFlags := 4, nameIndex := 5, descriptorIndex := 6, attributes := #[] }] 1057 2 #[] #[])
  fields := #[]
  methods := #[k2m0]
  instanceTypes := #[]
  staticTypes := #[]
  resolved := Array.replicate 22 none
  statics := none }

def pool3 : Array CpInfo := pool [(1, .methodref 2 3), (0, .class_ 4), (0, .nameAndType 5 6), (0, u "java/lang/Record"), (0, u "<init>"), (0, u "()V"), (0, .fieldref 8 9), (0, .class_ 10), (0, .nameAndType 11 12), (0, u "com/example/waveslot/waveslot/core/DecompositionReport"), (0, u "ports"), (0, u "I"), (0, .fieldref 8 14), (0, .nameAndType 15 16), (0, u "maxLineSum"), (0, u "J"), (0, .fieldref 8 18), (0, .nameAndType 19 12), (0, u "configurations"), (0, .fieldref 8 21), (0, .nameAndType 22 16), (0, u "weightSum"), (0, .fieldref 8 24), (0, .nameAndType 25 16), (0, u "overlaps"), (0, .fieldref 8 27), (0, .nameAndType 28 16), (0, u "uncovered"), (0, .fieldref 8 30), (0, .nameAndType 31 16), (0, u "repeatedInputs"), (0, .fieldref 8 33), (0, .nameAndType 34 16), (0, u "missingInputs"), (0, .fieldref 8 36), (0, .nameAndType 37 16), (0, u "sharedOutputs"), (0, .fieldref 8 39), (0, .nameAndType 40 16), (0, u "mixedWeights"), (0, .fieldref 8 42), (0, .nameAndType 43 16), (0, u "outOfRange"), (27, u "(IJIJJJJJJJJ)V"), (7, u "valid"), (0, u "()Z")] 34

def k3c0 : Code := { maxStack := 3, maxLocals := 21, code := prog_24_method_1_code, exceptionTable := #[], attributes := #[] }
def k3m0 : Method := { name := "<init>", desc := "(IJIJJJJJJJJ)V", sig := { parameters := [.int, .long, .int, .long, .long, .long, .long, .long, .long, .long, .long], returnType := none }, accessFlags := 1, code := some k3c0 }
def k3c1 : Code := { maxStack := 4, maxLocals := 1, code := prog_24_method_3_code, exceptionTable := #[], attributes := #[] }
def k3m1 : Method := { name := "valid", desc := "()Z", sig := { parameters := [], returnType := some .boolean }, accessFlags := 1, code := some k3c1 }
/-- com/example/waveslot/waveslot/core/DecompositionReport -/
def k3 : Class := { plain "com/example/waveslot/waveslot/core/DecompositionReport" (some 2) with
  accessFlags := 49
  interfaces := #[]
  cf := some (fileOf pool3 8 #[] #[{ accessFlags := 1, nameIndex := 5, descriptorIndex := 71, attributes := #[] }, { accessFlags := 1, nameIndex := 79, descriptorIndex := 80, attributes := #[] }] 49 2 #[] #[{ accessFlags := 18, nameIndex := 11, descriptorIndex := 12, attributes := #[] }, { accessFlags := 18, nameIndex := 15, descriptorIndex := 16, attributes := #[] }, { accessFlags := 18, nameIndex := 19, descriptorIndex := 12, attributes := #[] }, { accessFlags := 18, nameIndex := 22, descriptorIndex := 16, attributes := #[] }, { accessFlags := 18, nameIndex := 25, descriptorIndex := 16, attributes := #[] }, { accessFlags := 18, nameIndex := 28, descriptorIndex := 16, attributes := #[] }, { accessFlags := 18, nameIndex := 31, descriptorIndex := 16, attributes := #[] }, { accessFlags := 18, nameIndex := 34, descriptorIndex := 16, attributes := #[] }, { accessFlags := 18, nameIndex := 37, descriptorIndex := 16, attributes := #[] }, { accessFlags := 18, nameIndex := 40, descriptorIndex := 16, attributes := #[] }, { accessFlags := 18, nameIndex := 43, descriptorIndex := 16, attributes := #[] }])
  fields := #[{ name := "ports", type := .int, accessFlags := 18, slot := 0, constantValue := 0 }, { name := "maxLineSum", type := .long, accessFlags := 18, slot := 1, constantValue := 0 }, { name := "configurations", type := .int, accessFlags := 18, slot := 2, constantValue := 0 }, { name := "weightSum", type := .long, accessFlags := 18, slot := 3, constantValue := 0 }, { name := "overlaps", type := .long, accessFlags := 18, slot := 4, constantValue := 0 }, { name := "uncovered", type := .long, accessFlags := 18, slot := 5, constantValue := 0 }, { name := "repeatedInputs", type := .long, accessFlags := 18, slot := 6, constantValue := 0 }, { name := "missingInputs", type := .long, accessFlags := 18, slot := 7, constantValue := 0 }, { name := "sharedOutputs", type := .long, accessFlags := 18, slot := 8, constantValue := 0 }, { name := "mixedWeights", type := .long, accessFlags := 18, slot := 9, constantValue := 0 }, { name := "outOfRange", type := .long, accessFlags := 18, slot := 10, constantValue := 0 }]
  methods := #[k3m0, k3m1]
  instanceTypes := #[.int, .long, .int, .long, .long, .long, .long, .long, .long, .long, .long]
  staticTypes := #[]
  resolved := Array.replicate 115 none
  statics := none }

def pool4 : Array CpInfo := pool [(1, u "java/lang/Cloneable"), (0, .class_ 1), (0, u "java/lang/Object"), (0, .class_ 3)] 3

/-- java/lang/Cloneable -/
def k4 : Class := { plain "java/lang/Cloneable" (some 0) with
  accessFlags := 1537
  interfaces := #[]
  cf := some (fileOf pool4 2 #[] #[] 1537 4 #[] #[])
  fields := #[]
  methods := #[]
  instanceTypes := #[]
  staticTypes := #[]
  resolved := Array.replicate 8 none
  statics := none }

def pool5 : Array CpInfo := pool [(1, u "java/io/Serializable"), (0, .class_ 1), (0, u "java/lang/Object"), (0, .class_ 3)] 3

/-- java/io/Serializable -/
def k5 : Class := { plain "java/io/Serializable" (some 0) with
  accessFlags := 1537
  interfaces := #[]
  cf := some (fileOf pool5 2 #[] #[] 1537 4 #[] #[])
  fields := #[]
  methods := #[]
  instanceTypes := #[]
  staticTypes := #[]
  resolved := Array.replicate 8 none
  statics := none }

/-- the primitive byte -/
def k6 : Class := { plain "byte" none with kind := .primitive 'B', accessFlags := 0x411 }
/-- [B -/
def k7 : Class := { plain "[B" (some 0) with kind := .array 6 .byte, interfaces := #[4, 5], accessFlags := 1041 }

/-- the primitive int -/
def k8 : Class := { plain "int" none with kind := .primitive 'I', accessFlags := 0x411 }
/-- [I -/
def k9 : Class := { plain "[I" (some 0) with kind := .array 8 .int, interfaces := #[4, 5], accessFlags := 1041 }

def heap : Heap := #[]
def classes : Array Class := #[k0, k1, k2, k3, k4, k5, k6, k7, k8, k9]
def interned : List (Array UInt16 × Addr) := []
def slotsUsed : Nat := 0
def theMethod : MethodId := ⟨1, 1⟩
def args0 : Array Value := #[.int 5, .long 9, .long 3, .long 1, .long 0, .long 2]
def aboutOver (below : List Frame) : State where
  vm := { classes := classes, interned := interned.toArray }
  heap := heap
  slotsUsed := slotsUsed
  threads := #[{ frames := .invoking theMethod args0 :: below }]
def below0 : List Frame := [.native { method := ⟨0, 0⟩, args := #[] }]
def about1 : State := aboutOver below0
def p0 : Program := .bare "" "" ""
def e0 : Env := launch0.env 0 0 0
theorem w_frames : about1.frames = Frame.invoking theMethod args0 :: below0 := rfl
set_option maxRecDepth 65536 in
theorem w_args : argsFit about1.vm theMethod args0 = true := by decide +kernel
set_option maxRecDepth 65536 in
theorem w_heap : heapFits about1 = true := by decide +kernel
set_option maxRecDepth 65536 in
theorem w_runnable : about1.curStatus? = some .runnable := by decide +kernel
set_option maxRecDepth 65536 in
theorem w_alone : about1.alone = true := by decide +kernel
set_option maxRecDepth 65536 in
theorem w_named : about1.methodNamed? x = some theMethod := by decide +kernel
set_option maxRecDepth 65536 in
theorem w_hears : about1.hears theMethod below0 = true := by decide +kernel
set_option maxRecDepth 65536 in
theorem w_ripe : about1.ripe theMethod args0 below0 = true := by decide +kernel
theorem w_running : about1.status = .running := rfl
set_option maxRecDepth 65536 in
theorem w_room : about1.hasRoom e0.platform room_1 = true :=
  launch0.hasRoom_least _ room_1 (by decide +kernel) (by decide +kernel) (by decide +kernel) (by decide +kernel) (by decide +kernel) (by decide +kernel)
theorem allAtoms_all (ts : List Jvm.Cond) (a : Array Jvm.Value) (st : Jvm.State) : (allAtoms ts).before a st = ts.all (fun c => c.before a st) := by
  induction ts with
  | nil => rfl
  | cons c t ih =>
    show (Jvm.Cond.and c (allAtoms t)).before a st = _
    rw [Jvm.Cond.before_and, ih, List.all_cons]
def words1 : List Jvm.Cond := Jvm.Cond.code x code maxLocals ret :: tables_1
/-- a 'code' word, met by the world's own term for the bytes: nothing is compared byte by byte -/
theorem code_word {y : MethodName} {bytes : ByteArray} {mx : Nat} {rt : Option FieldType} {a : Array Value} {s : State} {m : MethodId} {meth : Method} {c : Code} (h1 : s.methodNamed? y = some m) (h2 : s.vm.method? m = some meth) (h3 : meth.code = some c) (h4 : c.code = bytes)
    (h5 : (c.maxLocals == mx && c.exceptionTable.isEmpty && decide (c.maxStack ≤ mostOperands) && decide (meth.sig.returnType = rt) && !meth.locks && decide (parseMethodDescriptor y.desc = some meth.sig)) = true) : (Jvm.Cond.code y bytes mx rt).before a s = true := by
  simp only [Bool.and_eq_true, beq_iff_eq, Bool.not_eq_true', decide_eq_true_eq] at h5
  obtain ⟨⟨⟨⟨⟨g1, g2⟩, g3⟩, g4⟩, g5⟩, g6⟩ := h5
  simp [Cond.before, Cond.holds, Cond.value, h1, h2, h3, h4, g1, g2, g3, g4, g5, g6]
def isCode : Jvm.Cond → Bool
  | .code _ _ _ _ => true
  | _ => false
theorem all_split {L : List Jvm.Cond} {P : Jvm.Cond → Bool} (h1 : L.all (fun c => isCode c || P c) = true) (h2 : ∀ c ∈ L.filter isCode, P c = true) : L.all P = true := by
  refine List.all_eq_true.mpr fun c hc => ?_
  have h := List.all_eq_true.mp h1 c hc
  rcases Bool.eq_false_or_eq_true (isCode c) with hi | hi
  · exact h2 c (List.mem_filter.mpr ⟨hc, hi⟩)
  · simpa [hi] using h
set_option maxRecDepth 65536 in
theorem w_c0 : (Jvm.Cond.code x code maxLocals ret).before args0 about1 = true := code_word (m := ⟨1, 1⟩) (meth := k1m1) (c := k1c1) (by decide +kernel) rfl rfl rfl (by decide +kernel)
set_option maxRecDepth 65536 in
theorem w_c1 : (Jvm.Cond.code ({ cls := "com/example/waveslot/waveslot/core/DecompositionReport", name := "<init>", desc := "(IJIJJJJJJJJ)V" } : Jvm.MethodName) prog_24_method_1_code (21 : Nat) (Option.none : Option Jvm.ClassFile.FieldType)).before args0 about1 = true := code_word (m := ⟨3, 0⟩) (meth := k3m0) (c := k3c0) (by decide +kernel) rfl rfl rfl (by decide +kernel)
set_option maxRecDepth 65536 in
theorem w_c2 : (Jvm.Cond.code ({ cls := "java/lang/Record", name := "<init>", desc := "()V" } : Jvm.MethodName) jdk_30_method_1_code (1 : Nat) (Option.none : Option Jvm.ClassFile.FieldType)).before args0 about1 = true := code_word (m := ⟨2, 0⟩) (meth := k2m0) (c := k2c0) (by decide +kernel) rfl rfl rfl (by decide +kernel)
set_option maxRecDepth 65536 in
theorem w_c3 : (Jvm.Cond.code ({ cls := "java/lang/Object", name := "<init>", desc := "()V" } : Jvm.MethodName) object_method_1_code (1 : Nat) (Option.none : Option Jvm.ClassFile.FieldType)).before args0 about1 = true := code_word (m := ⟨0, 0⟩) (meth := k0m0) (c := k0c0) (by decide +kernel) rfl rfl rfl (by decide +kernel)
set_option maxRecDepth 65536 in
theorem w_c4 : (Jvm.Cond.code ({ cls := "com/example/waveslot/waveslot/core/DecompositionReport", name := "valid", desc := "()Z" } : Jvm.MethodName) prog_24_method_3_code (1 : Nat) (Option.some Jvm.ClassFile.FieldType.boolean)).before args0 about1 = true := code_word (m := ⟨3, 1⟩) (meth := k3m1) (c := k3c1) (by decide +kernel) rfl rfl rfl (by decide +kernel)
def codes1 : List Jvm.Cond := [Jvm.Cond.code x code maxLocals ret, Jvm.Cond.code ({ cls := "com/example/waveslot/waveslot/core/DecompositionReport", name := "<init>", desc := "(IJIJJJJJJJJ)V" } : Jvm.MethodName) prog_24_method_1_code (21 : Nat) (Option.none : Option Jvm.ClassFile.FieldType), Jvm.Cond.code ({ cls := "java/lang/Record", name := "<init>", desc := "()V" } : Jvm.MethodName) jdk_30_method_1_code (1 : Nat) (Option.none : Option Jvm.ClassFile.FieldType), Jvm.Cond.code ({ cls := "java/lang/Object", name := "<init>", desc := "()V" } : Jvm.MethodName) object_method_1_code (1 : Nat) (Option.none : Option Jvm.ClassFile.FieldType), Jvm.Cond.code ({ cls := "com/example/waveslot/waveslot/core/DecompositionReport", name := "valid", desc := "()Z" } : Jvm.MethodName) prog_24_method_3_code (1 : Nat) (Option.some Jvm.ClassFile.FieldType.boolean)]
set_option maxRecDepth 65536 in
theorem codes_eq : words1.filter isCode = codes1 := rfl
theorem w_codes : ∀ c ∈ words1.filter isCode, c.before args0 about1 = true := by
  rw [codes_eq]
  intro c hc
  simp only [codes1, List.mem_cons, List.not_mem_nil, or_false] at hc
  rcases hc with rfl | rfl | rfl | rfl | rfl
  · exact w_c0
  · exact w_c1
  · exact w_c2
  · exact w_c3
  · exact w_c4
set_option maxRecDepth 65536 in
theorem w_t1 : (words1.take 24).all (fun c => isCode c || c.before args0 about1) = true := by decide +kernel
set_option maxRecDepth 65536 in
theorem w_t2 : (words1.drop 24).all (fun c => isCode c || c.before args0 about1) = true := by decide +kernel
theorem w_tables : (allAtoms (Jvm.Cond.code x code maxLocals ret :: tables_1)).before args0 about1 = true := by
  rw [allAtoms_all]
  show words1.all (fun c => c.before args0 about1) = true
  refine all_split ?_ w_codes
  rw [← List.take_append_drop 24 words1, List.all_append, w_t1, w_t2]
  rfl
set_option maxRecDepth 65536 in
theorem w_case : (Jvm.Cond.and given_1 narrow_1).before args0 about1 = true := by decide +kernel
theorem w_applies : (headSpec (Jvm.Cond.code x code maxLocals ret :: tables_1) room_1).applies x e0.platform about1 = true :=
  (Spec.applies_iff w_frames).mpr ⟨w_running, w_runnable, w_alone, w_named, w_hears, w_ripe, w_room, w_tables⟩
theorem atStart : AtStart classFile x code maxLocals ret World_1 tables_1 room_1 Calls_1 rest_1 Pre_1 launch0 p0 e0 about1 theMethod args0 below0 :=
  ⟨lists_1, trivial, launch0.admits_env _ _ _, launch0.least_env, fairChoices_fair.cas, fairChoices_fair.clock, w_frames, w_args, w_heap, w_applies, trivial, trivial, w_case⟩
end start1
theorem witness_1 : WitnessClaimed_1 := ⟨start1.p0, start1.e0, start1.about1, start1.theMethod, start1.args0, start1.below0, start1.atStart⟩
end Jvm.Pilot.@@N@@
