import JvmDerived
import JvmDerived.Pilot.@@N@@Statement
import JvmDerived.Pilot.@@N@@Code
set_option linter.unusedVariables false
set_option linter.unusedSimpArgs false
namespace Jvm.RoadKit
open Sem ClassFile Op Lib Jvm.Stand Jvm.Free Jvm.LawKit
section New
variable {p : Program} {l : Launch} {e : Env} {R : Room} {s : State} {m : MethodId} {args : Array Value} {below : List Frame} {meth : Method} {c : Code} {T : State} {locs : List Loc} {cells slots : Nat}
theorem retI (X : Stand p l e R s m args below meth c T locs cells slots) (hx : p.tables.exec = Jvm.exec) {pc : Nat} {Ls : Array Slot} {z : Int32} {rest : List Value} (hret : meth.sig.returnType = some .int) (hd : decode c.code pc = .ok (.ireturn, 1)) {fs : List Frame}
    (hl : ∀ (f : JFrame) (acts : List Action), f.method = m → f.locked = none → f.entered = [] → (doReturn e (T.setTop f) acts (some (.int z))).1 = T.setFrames fs) : Steps p.tables e below (T.setTop (mkF m pc Ls (.int z :: rest))) (T.setFrames fs) := by
  have hm' : T.vm.method? m = some meth := X.method'
  have hn : narrow .int (.int z) = .int z := rfl
  show Steps p.tables e below (T.setTop { method := m, pc := pc, locals := Ls, stack := _ :: rest, locked := none }) _
  jvm_step X.here [X.here.top, hx, hd, hm', hret, hn]
  first | (intro acts; rw [hl _ acts rfl rfl rfl]) | rw [hl _ _ rfl rfl rfl]
  exact Steps.refl _
abbrev jv (x : Int64) : Slot := .val (.long x)
/-- from the state st the run ends as Q says -/
def own_Go (p : Program) (e : Env) (below : List Frame) (s : State) (Q : Option Value → Heap → List Loc → Prop) (CS : Nat × Nat) (st : State) : Prop :=
  ∃ s₂ o, Steps p.tables e below st s₂ ∧ s₂.status = .running ∧ Ended s₂ below o ∧ ∃ v L, o = .returned v ∧ Q v s₂.heap L ∧ FrameEnd s o s₂ L CS.1 CS.2
variable {Q : Option Value → Heap → List Loc → Prop} {CS : Nat × Nat} {st st' : State}
theorem own_via (h : ∀ {t}, Steps p.tables e below st t → Steps p.tables e below st' t) (g : own_Go p e below s Q CS st) : own_Go p e below s Q CS st' := by
  obtain ⟨s₂, o, h1, h2⟩ := g
  exact ⟨s₂, o, h h1, h2⟩
theorem own_start {g g' : JFrame} (q : g = g') (h : own_Go p e below s Q CS (T.setTop g')) : ∃ s₂ o, Steps p.tables e below (T.setTop g) s₂ ∧ s₂.status = .running ∧ Ended s₂ below o ∧ ∃ v L, o = .returned v ∧ Q v s₂.heap L ∧ FrameEnd s o s₂ L CS.1 CS.2 := q ▸ h
theorem own_retN (X : Stand p l e R s m args below meth c T locs cells slots) (hx : p.tables.exec = Jvm.exec) (hlk : meth.locks = false) {pc : Nat} {Ls : Array Slot} {z : Int32} {t : FieldType} {rest : List Value} (hret : meth.sig.returnType = some t) (ht : t = .boolean ∨ t = .byte ∨ t = .char ∨ t = .short)
    (hd : decode c.code pc = .ok (.ireturn, 1)) (hq : Q (some (.int (nar t z))) T.heap locs) (hc : cells ≤ CS.1) (hs : slots ≤ CS.2) : own_Go p e below s Q CS (T.setTop (mkF m pc Ls (.int z :: rest))) := by
  obtain ⟨fs, hr, hrun, hended, hW, hsame⟩ := X.leave (v := some (.int (nar t z))) (fun h => by rw [hret] at h; cases h) hlk
  exact ⟨_, _, retN X hx hret ht hd hr, hrun, hended, _, _, rfl, hq, ⟨_, rfl⟩, hW, hsame.mono hc hs⟩
theorem own_retI (X : Stand p l e R s m args below meth c T locs cells slots) (hx : p.tables.exec = Jvm.exec) (hlk : meth.locks = false) {pc : Nat} {Ls : Array Slot} {z : Int32} {rest : List Value} (hret : meth.sig.returnType = some .int)
    (hd : decode c.code pc = .ok (.ireturn, 1)) (hq : Q (some (.int z)) T.heap locs) (hc : cells ≤ CS.1) (hs : slots ≤ CS.2) : own_Go p e below s Q CS (T.setTop (mkF m pc Ls (.int z :: rest))) := by
  obtain ⟨fs, hr, hrun, hended, hW, hsame⟩ := X.leave (v := some (.int z)) (fun h => by rw [hret] at h; cases h) hlk
  exact ⟨_, _, retI X hx hret hd hr, hrun, hended, _, _, rfl, hq, ⟨_, rfl⟩, hW, hsame.mono hc hs⟩
theorem own_retL (X : Stand p l e R s m args below meth c T locs cells slots) (hx : p.tables.exec = Jvm.exec) (hlk : meth.locks = false) {pc : Nat} {Ls : Array Slot} {z : Int64} (hret : meth.sig.returnType = some .long)
    (hd : decode c.code pc = .ok (.lreturn, 1)) (hq : Q (some (.long z)) T.heap locs) (hc : cells ≤ CS.1) (hs : slots ≤ CS.2) : own_Go p e below s Q CS (T.setTop (mkF m pc Ls [.long z])) := by
  obtain ⟨fs, hr, hrun, hended, hW, hsame⟩ := X.leave (v := some (.long z)) (fun h => by rw [hret] at h; cases h) hlk
  exact ⟨_, _, X.lreturnOut hx hret hd hr, hrun, hended, _, _, rfl, hq, ⟨_, rfl⟩, hW, hsame.mono hc hs⟩
theorem own_retA (X : Stand p l e R s m args below meth c T locs cells slots) (hx : p.tables.exec = Jvm.exec) (hlk : meth.locks = false) {pc : Nat} {Ls : Array Slot} {w : Value} (hw : w.isRef = true) {t : FieldType} (hret : meth.sig.returnType = some t) (ht : t.isReference = true)
    (hd : decode c.code pc = .ok (.areturn, 1)) (hq : Q (some w) T.heap locs) (hc : cells ≤ CS.1) (hs : slots ≤ CS.2) : own_Go p e below s Q CS (T.setTop (mkF m pc Ls [w])) := by
  obtain ⟨fs, hr, hrun, hended, hW, hsame⟩ := X.leave (v := some w) (fun h => by rw [hret] at h; cases h) hlk
  exact ⟨_, _, X.areturnOut hx hw hret ht hd hr, hrun, hended, _, _, rfl, hq, ⟨_, rfl⟩, hW, hsame.mono hc hs⟩
theorem own_ret0 (X : Stand p l e R s m args below meth c T locs cells slots) (hx : p.tables.exec = Jvm.exec) (hlk : meth.locks = false) {pc : Nat} {Ls : Array Slot} (hret : meth.sig.returnType = none)
    (hd : decode c.code pc = .ok (.return_, 1)) (hq : Q none T.heap locs) (hc : cells ≤ CS.1) (hs : slots ≤ CS.2) : own_Go p e below s Q CS (T.setTop (mkF m pc Ls [])) := by
  obtain ⟨fs, hr, hrun, hended, hW, hsame⟩ := X.leave (v := none) (fun _ => rfl) hlk
  exact ⟨_, _, X.returnOut hx hret hd hr, hrun, hended, _, _, rfl, hq, ⟨_, rfl⟩, hW, hsame.mono hc hs⟩
theorem own_fldI {Z : State} {h : Heap} {a : Addr} {C n d : String} {v w : Int32} (q : v = w) (F : Fld Z h a C n d (.int v)) : Fld Z h a C n d (.int w) := q ▸ F
theorem own_fldJ {Z : State} {h : Heap} {a : Addr} {C n d : String} {v w : Int64} (q : v = w) (F : Fld Z h a C n d (.long v)) : Fld Z h a C n d (.long w) := q ▸ F
theorem own_arv {Z : State} {h : Heap} {a : Addr} {k : ClassId} {ty : FieldType} {n : Int32} {vs vs' : List Value} {d : Value} (q : vs = vs') (F : Arv Z h a k ty n vs d) : Arv Z h a k ty n vs' d := q ▸ F
theorem own_fits {t : FieldType} {v w : Int32} (q : v = w) (F : fits t (.int v) = true) : fits t (.int w) = true := q ▸ F
end New
end Jvm.RoadKit
namespace Jvm.Pilot.@@N@@
open Jvm Jvm.ClassFile Sem Op Lib Jvm.Free Jvm.Stand Jvm.LawKit Jvm.RoadKit Bundle Jvm.Pilot.@@N@@.Jvm.D
theorem own_l32 {x y : Int32} : x < y ↔ x.toInt < y.toInt := Int32.lt_iff_toInt_lt
theorem own_e32 {x y : Int32} : x = y ↔ x.toInt = y.toInt := Int32.toInt_inj.symm
theorem own_l64 {x y : Int64} : x < y ↔ x.toInt < y.toInt := Int64.lt_iff_toInt_lt
theorem own_e64 {x y : Int64} : x = y ↔ x.toInt = y.toInt := Int64.toInt_inj.symm
theorem own_all8 {P : Int8 → Prop} (h : ∀ n : Fin 256, P (Int8.ofBitVec (BitVec.ofFin n))) (i : Int8) : P i := h i.toBitVec.toFin
theorem d2_0 : decode jdk_30_method_1_code 0 = .ok (.aload_n 0, 1) := by decide +kernel
theorem d2_1 : decode jdk_30_method_1_code 1 = .ok (.invokespecial 1, 3) := by decide +kernel
theorem d2_4 : decode jdk_30_method_1_code 4 = .ok (.return_, 1) := by decide +kernel
theorem pn_2 : plainName "java/lang/Record" = true := by first | (simp [plainName, overriddenIn]; done) | decide +kernel
theorem ef_2 (m : MethodId) (x0 : Addr) : entryFrame m #[(.ref x0)] 1 = mkF m 0 #[rv x0] [] := by first | (simp [entryFrame, mkF, argsToLocals, Value.category]; done) | rfl
def Q2 (Z : State) (a0 : Addr) (h0 : Heap) (n0 : Nat) (v : Option Value) (h : Heap) (L : List Loc) : Prop := v = none ∧ Fr n0 L ∧ h = h0
set_option maxRecDepth 65536 in
set_option maxHeartbeats 40000000 in
theorem rm2 (l : Launch) (Z : State) (aw : Array Value) (hw : ∀ d ∈ tables_1, d.before aw Z = true) (ws : List Jvm.Cond) (a0 : Addr) (h0 : Heap) (n0 : Nat) (Z0 : n0 ≤ h0.size)  :
    MetFree l (⟨"java/lang/Record", "<init>", "()V"⟩ : MethodName) (head1 (Jvm.Cond.code (⟨"java/lang/Record", "<init>", "()V"⟩ : MethodName) jdk_30_method_1_code 1 none :: ws) ({ frames := 1, cells := 0, slots := 0, locals := 12 } : Room)) (fun a U => a = #[(.ref a0)] ∧ Z.Warmed39 U.vm ∧ U.heap = h0) (fun _ _ _ _ _ => True) (fun _ U o U' => ∃ v L, o = .returned v ∧ Q2 Z a0 h0 n0 v U'.heap L ∧ FrameEnd U o U' L ({ frames := 1, cells := 0, slots := 0, locals := 12 } : Room).cells ({ frames := 1, cells := 0, slots := 0, locals := 12 } : Room).slots) := by
  refine MetFree.of_bodySF (plainFor_of_name pn_2) hisR ?_
  intro p e s m args below meth c s₁ Bd hml0 hP hK
  obtain ⟨rfl, hZ, hh⟩ := hP
  have hx := Bd.exec
  have hby := Bd.bytes
  have hml : c.maxLocals = 1 := hml0
  have hown : s.vm.findClass "java/lang/Record" = some m.cls := findClass_of_methodNamed Bd.named
  have hnm := (name_of_methodNamed Bd.named Bd.method).1
  have hlk : meth.locks = false := by first | exact BodyLoose.notSynchronized (by assumption) | exact Body.notSynchronized (by assumption)
  have X0 : Stand p l e ({ frames := 1, cells := 0, slots := 0, locals := 12 } : Room) s m #[(.ref a0)] below meth c s₁ [] 0 0 := Stand.of_body Bd
  have e0 : s₁.heap = h0 := by rw [← hh, Bd.state]; rfl
  have N0 := Fr.nil n0
  have K0 : Keep h0 h0 [] := Keep.refl _ _
  refine own_start (CS := (0, 0)) (Q := (Q2 Z a0 h0 n0)) (ef_2 m a0) ?_
  show own_Go p e below s _ _ (s₁.setTop (mkF m 0 #[rv a0] []))
  refine own_via (fun k => XS.aloadN X0.here hx rfl (hb hby d2_0) rfl rfl  k) ?_
  show own_Go p e below s _ _ (s₁.setTop (mkF m 1 #[rv a0] [(.ref a0)]))
  obtain ⟨T1, X1, e1, st1⟩ := initO X0 hx hZ hown (hw _ (List.mem_of_getElem? (i := 11) rfl)) (hw _ (List.mem_of_getElem? (i := 12) rfl)) (hw _ (List.mem_of_getElem? (i := 13) rfl)) e0 (g := (mkF m 1 #[rv a0] [(.ref a0)])) rfl (by rw [hml]; rfl) rfl (hb hby d2_1) (by decide) (W := 0) (by show 2 * 0 + _ ≤ _; exact Nat.le_of_eq rfl) (by decide)
  refine own_via (fun k => st1 _ k) ?_
  show own_Go p e below s _ _ (T1.setTop (mkF m 4 #[rv a0] []))
  exact own_ret0 X1 hx hlk Bd.returns (hb hby d2_4) (Q := (Q2 Z a0 h0 n0)) ⟨rfl, N0, e1⟩ (by decide) (by decide)
theorem d1_0 : decode prog_73_method_1_code 0 = .ok (.aload_n 0, 1) := by decide +kernel
theorem d1_1 : decode prog_73_method_1_code 1 = .ok (.invokespecial 1, 3) := by decide +kernel
theorem d1_4 : decode prog_73_method_1_code 4 = .ok (.aload_n 0, 1) := by decide +kernel
theorem d1_5 : decode prog_73_method_1_code 5 = .ok (.iload_n 1, 1) := by decide +kernel
theorem d1_6 : decode prog_73_method_1_code 6 = .ok (.putfield 7, 3) := by decide +kernel
theorem d1_9 : decode prog_73_method_1_code 9 = .ok (.aload_n 0, 1) := by decide +kernel
theorem d1_10 : decode prog_73_method_1_code 10 = .ok (.iload_n 2, 1) := by decide +kernel
theorem d1_11 : decode prog_73_method_1_code 11 = .ok (.putfield 13, 3) := by decide +kernel
theorem d1_14 : decode prog_73_method_1_code 14 = .ok (.aload_n 0, 1) := by decide +kernel
theorem d1_15 : decode prog_73_method_1_code 15 = .ok (.iload_n 3, 1) := by decide +kernel
theorem d1_16 : decode prog_73_method_1_code 16 = .ok (.putfield 16, 3) := by decide +kernel
theorem d1_19 : decode prog_73_method_1_code 19 = .ok (.aload_n 0, 1) := by decide +kernel
theorem d1_20 : decode prog_73_method_1_code 20 = .ok (.iload 4, 2) := by decide +kernel
theorem d1_22 : decode prog_73_method_1_code 22 = .ok (.putfield 19, 3) := by decide +kernel
theorem d1_25 : decode prog_73_method_1_code 25 = .ok (.aload_n 0, 1) := by decide +kernel
theorem d1_26 : decode prog_73_method_1_code 26 = .ok (.lload 5, 2) := by decide +kernel
theorem d1_28 : decode prog_73_method_1_code 28 = .ok (.putfield 22, 3) := by decide +kernel
theorem d1_31 : decode prog_73_method_1_code 31 = .ok (.aload_n 0, 1) := by decide +kernel
theorem d1_32 : decode prog_73_method_1_code 32 = .ok (.lload 7, 2) := by decide +kernel
theorem d1_34 : decode prog_73_method_1_code 34 = .ok (.putfield 26, 3) := by decide +kernel
theorem d1_37 : decode prog_73_method_1_code 37 = .ok (.aload_n 0, 1) := by decide +kernel
theorem d1_38 : decode prog_73_method_1_code 38 = .ok (.lload 9, 2) := by decide +kernel
theorem d1_40 : decode prog_73_method_1_code 40 = .ok (.putfield 29, 3) := by decide +kernel
theorem d1_43 : decode prog_73_method_1_code 43 = .ok (.aload_n 0, 1) := by decide +kernel
theorem d1_44 : decode prog_73_method_1_code 44 = .ok (.lload 11, 2) := by decide +kernel
theorem d1_46 : decode prog_73_method_1_code 46 = .ok (.putfield 32, 3) := by decide +kernel
theorem d1_49 : decode prog_73_method_1_code 49 = .ok (.aload_n 0, 1) := by decide +kernel
theorem d1_50 : decode prog_73_method_1_code 50 = .ok (.lload 13, 2) := by decide +kernel
theorem d1_52 : decode prog_73_method_1_code 52 = .ok (.putfield 35, 3) := by decide +kernel
theorem d1_55 : decode prog_73_method_1_code 55 = .ok (.aload_n 0, 1) := by decide +kernel
theorem d1_56 : decode prog_73_method_1_code 56 = .ok (.lload 15, 2) := by decide +kernel
theorem d1_58 : decode prog_73_method_1_code 58 = .ok (.putfield 38, 3) := by decide +kernel
theorem d1_61 : decode prog_73_method_1_code 61 = .ok (.aload_n 0, 1) := by decide +kernel
theorem d1_62 : decode prog_73_method_1_code 62 = .ok (.lload 17, 2) := by decide +kernel
theorem d1_64 : decode prog_73_method_1_code 64 = .ok (.putfield 41, 3) := by decide +kernel
theorem d1_67 : decode prog_73_method_1_code 67 = .ok (.aload_n 0, 1) := by decide +kernel
theorem d1_68 : decode prog_73_method_1_code 68 = .ok (.lload 19, 2) := by decide +kernel
theorem d1_70 : decode prog_73_method_1_code 70 = .ok (.putfield 44, 3) := by decide +kernel
theorem d1_73 : decode prog_73_method_1_code 73 = .ok (.return_, 1) := by decide +kernel
theorem pn_1 : plainName "com/example/waveslot/waveslot/core/TdmReport" = true := by first | (simp [plainName, overriddenIn]; done) | decide +kernel
theorem pd_1 : parseMethodDescriptor "()V" = some ⟨[], none⟩ := by decide +kernel
theorem ef_1 (m : MethodId) (x0 : Addr) (x1 : Int32) (x2 : Int32) (x3 : Int32) (x4 : Int32) (x5 : Int64) (x6 : Int64) (x7 : Int64) (x8 : Int64) (x9 : Int64) (x10 : Int64) (x11 : Int64) (x12 : Int64) : entryFrame m #[(.ref x0), (.int x1), (.int x2), (.int x3), (.int x4), (.long x5), (.long x6), (.long x7), (.long x8), (.long x9), (.long x10), (.long x11), (.long x12)] 21 = mkF m 0 #[rv x0, iv x1, iv x2, iv x3, iv x4, jv x5, .second, jv x6, .second, jv x7, .second, jv x8, .second, jv x9, .second, jv x10, .second, jv x11, .second, jv x12, .second] [] := by first | (simp [entryFrame, mkF, argsToLocals, Value.category]; done) | rfl
def Q1 (Z : State) (a0 : Addr) (p1 : Int32) (p2 : Int32) (p3 : Int32) (p4 : Int32) (q5 : Int64) (q6 : Int64) (q7 : Int64) (q8 : Int64) (q9 : Int64) (q10 : Int64) (q11 : Int64) (q12 : Int64) (h0 : Heap) (n0 : Nat) (v : Option Value) (h : Heap) (L : List Loc) : Prop := v = none ∧ Fr n0 L ∧ Keep h0 h [a0] ∧ Fld Z h a0 "com/example/waveslot/waveslot/core/TdmReport" "collisions" "J" (.long q7) ∧ Fld Z h a0 "com/example/waveslot/waveslot/core/TdmReport" "tuningViolations" "J" (.long q8) ∧ Fld Z h a0 "com/example/waveslot/waveslot/core/TdmReport" "missing" "J" (.long q9) ∧ Fld Z h a0 "com/example/waveslot/waveslot/core/TdmReport" "unexpected" "J" (.long q10) ∧ Fld Z h a0 "com/example/waveslot/waveslot/core/TdmReport" "wrongLength" "J" (.long q11) ∧ Fld Z h a0 "com/example/waveslot/waveslot/core/TdmReport" "outOfRange" "J" (.long q12)
set_option maxRecDepth 65536 in
set_option maxHeartbeats 40000000 in
theorem rm1 (l : Launch) (Z : State) (aw : Array Value) (hw : ∀ d ∈ tables_1, d.before aw Z = true) (ws : List Jvm.Cond) (a0 : Addr) (p1 : Int32) (p2 : Int32) (p3 : Int32) (p4 : Int32) (q5 : Int64) (q6 : Int64) (q7 : Int64) (q8 : Int64) (q9 : Int64) (q10 : Int64) (q11 : Int64) (q12 : Int64) (h0 : Heap) (n0 : Nat) (Z0 : n0 ≤ h0.size) (P0 : Fld Z h0 a0 "com/example/waveslot/waveslot/core/TdmReport" "stations" "I" (.int 0)) (P1 : Fld Z h0 a0 "com/example/waveslot/waveslot/core/TdmReport" "channels" "I" (.int 0)) (P2 : Fld Z h0 a0 "com/example/waveslot/waveslot/core/TdmReport" "tuning" "I" (.int 0)) (P3 : Fld Z h0 a0 "com/example/waveslot/waveslot/core/TdmReport" "length" "I" (.int 0)) (P4 : Fld Z h0 a0 "com/example/waveslot/waveslot/core/TdmReport" "bandwidthBound" "J" (.long 0)) (P5 : Fld Z h0 a0 "com/example/waveslot/waveslot/core/TdmReport" "tuningBound" "J" (.long 0)) (P6 : Fld Z h0 a0 "com/example/waveslot/waveslot/core/TdmReport" "collisions" "J" (.long 0)) (P7 : Fld Z h0 a0 "com/example/waveslot/waveslot/core/TdmReport" "tuningViolations" "J" (.long 0)) (P8 : Fld Z h0 a0 "com/example/waveslot/waveslot/core/TdmReport" "missing" "J" (.long 0)) (P9 : Fld Z h0 a0 "com/example/waveslot/waveslot/core/TdmReport" "unexpected" "J" (.long 0)) (P10 : Fld Z h0 a0 "com/example/waveslot/waveslot/core/TdmReport" "wrongLength" "J" (.long 0)) (P11 : Fld Z h0 a0 "com/example/waveslot/waveslot/core/TdmReport" "outOfRange" "J" (.long 0)) (P12 : Exa Z h0 a0 "com/example/waveslot/waveslot/core/TdmReport") (ge0 : n0 ≤ a0) :
    MetFree l (⟨"com/example/waveslot/waveslot/core/TdmReport", "<init>", "(IIIIJJJJJJJJ)V"⟩ : MethodName) (head1 (Jvm.Cond.code (⟨"com/example/waveslot/waveslot/core/TdmReport", "<init>", "(IIIIJJJJJJJJ)V"⟩ : MethodName) prog_73_method_1_code 21 none :: ws) ({ frames := 2, cells := 0, slots := 0, locals := 24 } : Room)) (fun a U => a = #[(.ref a0), (.int p1), (.int p2), (.int p3), (.int p4), (.long q5), (.long q6), (.long q7), (.long q8), (.long q9), (.long q10), (.long q11), (.long q12)] ∧ Z.Warmed39 U.vm ∧ U.heap = h0) (fun _ _ _ _ _ => True) (fun _ U o U' => ∃ v L, o = .returned v ∧ Q1 Z a0 p1 p2 p3 p4 q5 q6 q7 q8 q9 q10 q11 q12 h0 n0 v U'.heap L ∧ FrameEnd U o U' L ({ frames := 2, cells := 0, slots := 0, locals := 24 } : Room).cells ({ frames := 2, cells := 0, slots := 0, locals := 24 } : Room).slots) := by
  refine MetFree.of_bodySF (plainFor_of_name pn_1) hisR ?_
  intro p e s m args below meth c s₁ Bd hml0 hP hK
  obtain ⟨rfl, hZ, hh⟩ := hP
  have hx := Bd.exec
  have hby := Bd.bytes
  have hml : c.maxLocals = 21 := hml0
  have hown : s.vm.findClass "com/example/waveslot/waveslot/core/TdmReport" = some m.cls := findClass_of_methodNamed Bd.named
  have hnm := (name_of_methodNamed Bd.named Bd.method).1
  have hlk : meth.locks = false := by first | exact BodyLoose.notSynchronized (by assumption) | exact Body.notSynchronized (by assumption)
  have X0 : Stand p l e ({ frames := 2, cells := 0, slots := 0, locals := 24 } : Room) s m #[(.ref a0), (.int p1), (.int p2), (.int p3), (.int p4), (.long q5), (.long q6), (.long q7), (.long q8), (.long q9), (.long q10), (.long q11), (.long q12)] below meth c s₁ [] 0 0 := Stand.of_body Bd
  have e0 : s₁.heap = h0 := by rw [← hh, Bd.state]; rfl
  have N0 := Fr.nil n0
  have K0 : Keep h0 h0 [a0] := Keep.refl _ _
  refine own_start (CS := (0, 0)) (Q := (Q1 Z a0 p1 p2 p3 p4 q5 q6 q7 q8 q9 q10 q11 q12 h0 n0)) (ef_1 m a0 p1 p2 p3 p4 q5 q6 q7 q8 q9 q10 q11 q12) ?_
  show own_Go p e below s _ _ (s₁.setTop (mkF m 0 #[rv a0, iv p1, iv p2, iv p3, iv p4, jv q5, .second, jv q6, .second, jv q7, .second, jv q8, .second, jv q9, .second, jv q10, .second, jv q11, .second, jv q12, .second] []))
  refine own_via (fun k => XS.aloadN X0.here hx rfl (hb hby d1_0) rfl rfl  k) ?_
  show own_Go p e below s _ _ (s₁.setTop (mkF m 1 #[rv a0, iv p1, iv p2, iv p3, iv p4, jv q5, .second, jv q6, .second, jv q7, .second, jv q8, .second, jv q9, .second, jv q10, .second, jv q11, .second, jv q12, .second] [(.ref a0)]))
  obtain ⟨_, _, ⟨T1, L1, k1, n1⟩, -, X1, ⟨Lc1, hQ1, l1, y1, z1⟩, st1⟩ := X0.specialBack hx (y := (⟨"java/lang/Record", "<init>", "()V"⟩ : MethodName)) rfl hown (mvT hZ (hw _ (List.mem_of_getElem? (i := 6) rfl))) (mvT hZ (hw _ (List.mem_of_getElem? (i := 7) rfl))) (mvT hZ (hw _ (List.mem_of_getElem? (i := 10) rfl))) (by decide) (backOf (W := 0) (rm2 l Z aw hw [] a0 h0 n0 Z0) hZ (hw _ (List.mem_of_getElem? (i := 10) rfl)) (hw _ (List.mem_of_getElem? (i := 9) rfl)) (by decide) (by decide)) (g := (mkF m 1 #[rv a0, iv p1, iv p2, iv p3, iv p4, jv q5, .second, jv q6, .second, jv q7, .second, jv q8, .second, jv q9, .second, jv q10, .second, jv q11, .second, jv q12, .second] [(.ref a0)])) rfl (by rw [hml]; rfl) (Steps.refl _) (a := a0) (argsL := []) (rest := []) (lenOf pd_1 rfl) rfl (by show 2 * 0 + _ ≤ _; exact Nat.le_of_eq rfl) (hb hby d1_1) (fun _ _ => ⟨rfl, e0, (by decide : 0 + 0 ≤ _), (by decide : 0 + 0 ≤ _)⟩)
  dsimp only [Pt.U, Pt.locs, Pt.cells, Pt.slots] at X1 l1 y1 z1 st1 hQ1
  subst l1 y1 z1
  obtain ⟨rfl, N1q, eh1⟩ := hQ1
  have N2 := Fr.app N0 N1q
  refine own_via (fun k => st1.trans k) ?_
  show own_Go p e below s _ _ (T1.setTop (mkF m 4 #[rv a0, iv p1, iv p2, iv p3, iv p4, jv q5, .second, jv q6, .second, jv q7, .second, jv q8, .second, jv q9, .second, jv q10, .second, jv q11, .second, jv q12, .second] []))
  refine own_via (fun k => XS.aloadN X1.here hx rfl (hb hby d1_4) rfl rfl  (XS.iloadN X1.here hx rfl (hb hby d1_5) rfl  k)) ?_
  show own_Go p e below s _ _ (T1.setTop (mkF m 6 #[rv a0, iv p1, iv p2, iv p3, iv p4, jv q5, .second, jv q6, .second, jv q7, .second, jv q8, .second, jv q9, .second, jv q10, .second, jv q11, .second, jv q12, .second] [(.int p1), (.ref a0)]))
  obtain ⟨T3, h3, X3, e3, W3, st3⟩ := putF X1 hx hZ hown (host := "") (Or.inl (hw _ (List.mem_of_getElem? (i := 14) rfl))) Via.refl eh1 P0 P12 (Or.inr ⟨(hw _ (List.mem_of_getElem? (i := 15) rfl)), rfl, hnm⟩) (hw _ (List.mem_of_getElem? (i := 1) rfl)) (ty := .int) (by decide) rfl rfl (g := (mkF m 6 #[rv a0, iv p1, iv p2, iv p3, iv p4, jv q5, .second, jv q6, .second, jv q7, .second, jv q8, .second, jv q9, .second, jv q10, .second, jv q11, .second, jv q12, .second] [(.int p1), (.ref a0)])) rfl rfl (hb hby d1_6)
  refine own_via (fun k => st3 _ k) ?_
  show own_Go p e below s _ _ (T3.setTop (mkF m 9 #[rv a0, iv p1, iv p2, iv p3, iv p4, jv q5, .second, jv q6, .second, jv q7, .second, jv q8, .second, jv q9, .second, jv q10, .second, jv q11, .second, jv q12, .second] []))
  have B4 := P1.other W3 (Or.inr (slot_ne (Or.inr (hw _ (List.mem_of_getElem? (i := 17) rfl))) (Or.inr (hw _ (List.mem_of_getElem? (i := 15) rfl))) (by decide) (t := .int) (t' := .int) (by decide) (by decide)))
  have B5 := P2.other W3 (Or.inr (slot_ne (Or.inr (hw _ (List.mem_of_getElem? (i := 19) rfl))) (Or.inr (hw _ (List.mem_of_getElem? (i := 15) rfl))) (by decide) (t := .int) (t' := .int) (by decide) (by decide)))
  have B6 := P3.other W3 (Or.inr (slot_ne (Or.inr (hw _ (List.mem_of_getElem? (i := 21) rfl))) (Or.inr (hw _ (List.mem_of_getElem? (i := 15) rfl))) (by decide) (t := .int) (t' := .int) (by decide) (by decide)))
  have B7 := P4.other W3 (Or.inr (slot_ne (Or.inr (hw _ (List.mem_of_getElem? (i := 23) rfl))) (Or.inr (hw _ (List.mem_of_getElem? (i := 15) rfl))) (by decide) (t := .long) (t' := .int) (by decide) (by decide)))
  have B8 := P5.other W3 (Or.inr (slot_ne (Or.inr (hw _ (List.mem_of_getElem? (i := 25) rfl))) (Or.inr (hw _ (List.mem_of_getElem? (i := 15) rfl))) (by decide) (t := .long) (t' := .int) (by decide) (by decide)))
  have B9 := P6.other W3 (Or.inr (slot_ne (Or.inr (hw _ (List.mem_of_getElem? (i := 27) rfl))) (Or.inr (hw _ (List.mem_of_getElem? (i := 15) rfl))) (by decide) (t := .long) (t' := .int) (by decide) (by decide)))
  have B10 := P7.other W3 (Or.inr (slot_ne (Or.inr (hw _ (List.mem_of_getElem? (i := 29) rfl))) (Or.inr (hw _ (List.mem_of_getElem? (i := 15) rfl))) (by decide) (t := .long) (t' := .int) (by decide) (by decide)))
  have B11 := P8.other W3 (Or.inr (slot_ne (Or.inr (hw _ (List.mem_of_getElem? (i := 31) rfl))) (Or.inr (hw _ (List.mem_of_getElem? (i := 15) rfl))) (by decide) (t := .long) (t' := .int) (by decide) (by decide)))
  have B12 := P9.other W3 (Or.inr (slot_ne (Or.inr (hw _ (List.mem_of_getElem? (i := 33) rfl))) (Or.inr (hw _ (List.mem_of_getElem? (i := 15) rfl))) (by decide) (t := .long) (t' := .int) (by decide) (by decide)))
  have B13 := P10.other W3 (Or.inr (slot_ne (Or.inr (hw _ (List.mem_of_getElem? (i := 35) rfl))) (Or.inr (hw _ (List.mem_of_getElem? (i := 15) rfl))) (by decide) (t := .long) (t' := .int) (by decide) (by decide)))
  have B14 := P11.other W3 (Or.inr (slot_ne (Or.inr (hw _ (List.mem_of_getElem? (i := 37) rfl))) (Or.inr (hw _ (List.mem_of_getElem? (i := 15) rfl))) (by decide) (t := .long) (t' := .int) (by decide) (by decide)))
  have B15 := P12.wr W3
  have B16 : Fld Z h3 a0 "com/example/waveslot/waveslot/core/TdmReport" "stations" "I" (.int p1) := P0.same W3
  have N17 := Fr.snoc X3 N2 ge0
  have K18 : Keep h0 h3 [a0] := K0.wr W3 (Or.inl (List.mem_of_getElem? (i := 0) rfl))
  have Z19 : n0 ≤ h3.size := Nat.le_trans Z0 (Keep.of_wr W3).1
  refine own_via (fun k => XS.aloadN X3.here hx rfl (hb hby d1_9) rfl rfl  (XS.iloadN X3.here hx rfl (hb hby d1_10) rfl  k)) ?_
  show own_Go p e below s _ _ (T3.setTop (mkF m 11 #[rv a0, iv p1, iv p2, iv p3, iv p4, jv q5, .second, jv q6, .second, jv q7, .second, jv q8, .second, jv q9, .second, jv q10, .second, jv q11, .second, jv q12, .second] [(.int p2), (.ref a0)]))
  obtain ⟨T20, h20, X20, e20, W20, st20⟩ := putF X3 hx hZ hown (host := "") (Or.inl (hw _ (List.mem_of_getElem? (i := 16) rfl))) Via.refl e3 B4 B15 (Or.inr ⟨(hw _ (List.mem_of_getElem? (i := 17) rfl)), rfl, hnm⟩) (hw _ (List.mem_of_getElem? (i := 1) rfl)) (ty := .int) (by decide) rfl rfl (g := (mkF m 11 #[rv a0, iv p1, iv p2, iv p3, iv p4, jv q5, .second, jv q6, .second, jv q7, .second, jv q8, .second, jv q9, .second, jv q10, .second, jv q11, .second, jv q12, .second] [(.int p2), (.ref a0)])) rfl rfl (hb hby d1_11)
  refine own_via (fun k => st20 _ k) ?_
  show own_Go p e below s _ _ (T20.setTop (mkF m 14 #[rv a0, iv p1, iv p2, iv p3, iv p4, jv q5, .second, jv q6, .second, jv q7, .second, jv q8, .second, jv q9, .second, jv q10, .second, jv q11, .second, jv q12, .second] []))
  have B21 := B5.other W20 (Or.inr (slot_ne (Or.inr (hw _ (List.mem_of_getElem? (i := 19) rfl))) (Or.inr (hw _ (List.mem_of_getElem? (i := 17) rfl))) (by decide) (t := .int) (t' := .int) (by decide) (by decide)))
  have B22 := B6.other W20 (Or.inr (slot_ne (Or.inr (hw _ (List.mem_of_getElem? (i := 21) rfl))) (Or.inr (hw _ (List.mem_of_getElem? (i := 17) rfl))) (by decide) (t := .int) (t' := .int) (by decide) (by decide)))
  have B23 := B7.other W20 (Or.inr (slot_ne (Or.inr (hw _ (List.mem_of_getElem? (i := 23) rfl))) (Or.inr (hw _ (List.mem_of_getElem? (i := 17) rfl))) (by decide) (t := .long) (t' := .int) (by decide) (by decide)))
  have B24 := B8.other W20 (Or.inr (slot_ne (Or.inr (hw _ (List.mem_of_getElem? (i := 25) rfl))) (Or.inr (hw _ (List.mem_of_getElem? (i := 17) rfl))) (by decide) (t := .long) (t' := .int) (by decide) (by decide)))
  have B25 := B9.other W20 (Or.inr (slot_ne (Or.inr (hw _ (List.mem_of_getElem? (i := 27) rfl))) (Or.inr (hw _ (List.mem_of_getElem? (i := 17) rfl))) (by decide) (t := .long) (t' := .int) (by decide) (by decide)))
  have B26 := B10.other W20 (Or.inr (slot_ne (Or.inr (hw _ (List.mem_of_getElem? (i := 29) rfl))) (Or.inr (hw _ (List.mem_of_getElem? (i := 17) rfl))) (by decide) (t := .long) (t' := .int) (by decide) (by decide)))
  have B27 := B11.other W20 (Or.inr (slot_ne (Or.inr (hw _ (List.mem_of_getElem? (i := 31) rfl))) (Or.inr (hw _ (List.mem_of_getElem? (i := 17) rfl))) (by decide) (t := .long) (t' := .int) (by decide) (by decide)))
  have B28 := B12.other W20 (Or.inr (slot_ne (Or.inr (hw _ (List.mem_of_getElem? (i := 33) rfl))) (Or.inr (hw _ (List.mem_of_getElem? (i := 17) rfl))) (by decide) (t := .long) (t' := .int) (by decide) (by decide)))
  have B29 := B13.other W20 (Or.inr (slot_ne (Or.inr (hw _ (List.mem_of_getElem? (i := 35) rfl))) (Or.inr (hw _ (List.mem_of_getElem? (i := 17) rfl))) (by decide) (t := .long) (t' := .int) (by decide) (by decide)))
  have B30 := B14.other W20 (Or.inr (slot_ne (Or.inr (hw _ (List.mem_of_getElem? (i := 37) rfl))) (Or.inr (hw _ (List.mem_of_getElem? (i := 17) rfl))) (by decide) (t := .long) (t' := .int) (by decide) (by decide)))
  have B31 := B15.wr W20
  have B32 := B16.other W20 (Or.inr (slot_ne (Or.inr (hw _ (List.mem_of_getElem? (i := 15) rfl))) (Or.inr (hw _ (List.mem_of_getElem? (i := 17) rfl))) (by decide) (t := .int) (t' := .int) (by decide) (by decide)))
  have B33 : Fld Z h20 a0 "com/example/waveslot/waveslot/core/TdmReport" "channels" "I" (.int p2) := B4.same W20
  have N34 := Fr.snoc X20 N17 ge0
  have K35 : Keep h0 h20 [a0] := K18.wr W20 (Or.inl (List.mem_of_getElem? (i := 0) rfl))
  have Z36 : n0 ≤ h20.size := Nat.le_trans Z19 (Keep.of_wr W20).1
  refine own_via (fun k => XS.aloadN X20.here hx rfl (hb hby d1_14) rfl rfl  (XS.iloadN X20.here hx rfl (hb hby d1_15) rfl  k)) ?_
  show own_Go p e below s _ _ (T20.setTop (mkF m 16 #[rv a0, iv p1, iv p2, iv p3, iv p4, jv q5, .second, jv q6, .second, jv q7, .second, jv q8, .second, jv q9, .second, jv q10, .second, jv q11, .second, jv q12, .second] [(.int p3), (.ref a0)]))
  obtain ⟨T37, h37, X37, e37, W37, st37⟩ := putF X20 hx hZ hown (host := "") (Or.inl (hw _ (List.mem_of_getElem? (i := 18) rfl))) Via.refl e20 B21 B31 (Or.inr ⟨(hw _ (List.mem_of_getElem? (i := 19) rfl)), rfl, hnm⟩) (hw _ (List.mem_of_getElem? (i := 1) rfl)) (ty := .int) (by decide) rfl rfl (g := (mkF m 16 #[rv a0, iv p1, iv p2, iv p3, iv p4, jv q5, .second, jv q6, .second, jv q7, .second, jv q8, .second, jv q9, .second, jv q10, .second, jv q11, .second, jv q12, .second] [(.int p3), (.ref a0)])) rfl rfl (hb hby d1_16)
  refine own_via (fun k => st37 _ k) ?_
  show own_Go p e below s _ _ (T37.setTop (mkF m 19 #[rv a0, iv p1, iv p2, iv p3, iv p4, jv q5, .second, jv q6, .second, jv q7, .second, jv q8, .second, jv q9, .second, jv q10, .second, jv q11, .second, jv q12, .second] []))
  have B38 := B22.other W37 (Or.inr (slot_ne (Or.inr (hw _ (List.mem_of_getElem? (i := 21) rfl))) (Or.inr (hw _ (List.mem_of_getElem? (i := 19) rfl))) (by decide) (t := .int) (t' := .int) (by decide) (by decide)))
  have B39 := B23.other W37 (Or.inr (slot_ne (Or.inr (hw _ (List.mem_of_getElem? (i := 23) rfl))) (Or.inr (hw _ (List.mem_of_getElem? (i := 19) rfl))) (by decide) (t := .long) (t' := .int) (by decide) (by decide)))
  have B40 := B24.other W37 (Or.inr (slot_ne (Or.inr (hw _ (List.mem_of_getElem? (i := 25) rfl))) (Or.inr (hw _ (List.mem_of_getElem? (i := 19) rfl))) (by decide) (t := .long) (t' := .int) (by decide) (by decide)))
  have B41 := B25.other W37 (Or.inr (slot_ne (Or.inr (hw _ (List.mem_of_getElem? (i := 27) rfl))) (Or.inr (hw _ (List.mem_of_getElem? (i := 19) rfl))) (by decide) (t := .long) (t' := .int) (by decide) (by decide)))
  have B42 := B26.other W37 (Or.inr (slot_ne (Or.inr (hw _ (List.mem_of_getElem? (i := 29) rfl))) (Or.inr (hw _ (List.mem_of_getElem? (i := 19) rfl))) (by decide) (t := .long) (t' := .int) (by decide) (by decide)))
  have B43 := B27.other W37 (Or.inr (slot_ne (Or.inr (hw _ (List.mem_of_getElem? (i := 31) rfl))) (Or.inr (hw _ (List.mem_of_getElem? (i := 19) rfl))) (by decide) (t := .long) (t' := .int) (by decide) (by decide)))
  have B44 := B28.other W37 (Or.inr (slot_ne (Or.inr (hw _ (List.mem_of_getElem? (i := 33) rfl))) (Or.inr (hw _ (List.mem_of_getElem? (i := 19) rfl))) (by decide) (t := .long) (t' := .int) (by decide) (by decide)))
  have B45 := B29.other W37 (Or.inr (slot_ne (Or.inr (hw _ (List.mem_of_getElem? (i := 35) rfl))) (Or.inr (hw _ (List.mem_of_getElem? (i := 19) rfl))) (by decide) (t := .long) (t' := .int) (by decide) (by decide)))
  have B46 := B30.other W37 (Or.inr (slot_ne (Or.inr (hw _ (List.mem_of_getElem? (i := 37) rfl))) (Or.inr (hw _ (List.mem_of_getElem? (i := 19) rfl))) (by decide) (t := .long) (t' := .int) (by decide) (by decide)))
  have B47 := B31.wr W37
  have B48 := B32.other W37 (Or.inr (slot_ne (Or.inr (hw _ (List.mem_of_getElem? (i := 15) rfl))) (Or.inr (hw _ (List.mem_of_getElem? (i := 19) rfl))) (by decide) (t := .int) (t' := .int) (by decide) (by decide)))
  have B49 := B33.other W37 (Or.inr (slot_ne (Or.inr (hw _ (List.mem_of_getElem? (i := 17) rfl))) (Or.inr (hw _ (List.mem_of_getElem? (i := 19) rfl))) (by decide) (t := .int) (t' := .int) (by decide) (by decide)))
  have B50 : Fld Z h37 a0 "com/example/waveslot/waveslot/core/TdmReport" "tuning" "I" (.int p3) := B21.same W37
  have N51 := Fr.snoc X37 N34 ge0
  have K52 : Keep h0 h37 [a0] := K35.wr W37 (Or.inl (List.mem_of_getElem? (i := 0) rfl))
  have Z53 : n0 ≤ h37.size := Nat.le_trans Z36 (Keep.of_wr W37).1
  refine own_via (fun k => XS.aloadN X37.here hx rfl (hb hby d1_19) rfl rfl  (XS.iload X37.here hx rfl (hb hby d1_20) rfl  k)) ?_
  show own_Go p e below s _ _ (T37.setTop (mkF m 22 #[rv a0, iv p1, iv p2, iv p3, iv p4, jv q5, .second, jv q6, .second, jv q7, .second, jv q8, .second, jv q9, .second, jv q10, .second, jv q11, .second, jv q12, .second] [(.int p4), (.ref a0)]))
  obtain ⟨T54, h54, X54, e54, W54, st54⟩ := putF X37 hx hZ hown (host := "") (Or.inl (hw _ (List.mem_of_getElem? (i := 20) rfl))) Via.refl e37 B38 B47 (Or.inr ⟨(hw _ (List.mem_of_getElem? (i := 21) rfl)), rfl, hnm⟩) (hw _ (List.mem_of_getElem? (i := 1) rfl)) (ty := .int) (by decide) rfl rfl (g := (mkF m 22 #[rv a0, iv p1, iv p2, iv p3, iv p4, jv q5, .second, jv q6, .second, jv q7, .second, jv q8, .second, jv q9, .second, jv q10, .second, jv q11, .second, jv q12, .second] [(.int p4), (.ref a0)])) rfl rfl (hb hby d1_22)
  refine own_via (fun k => st54 _ k) ?_
  show own_Go p e below s _ _ (T54.setTop (mkF m 25 #[rv a0, iv p1, iv p2, iv p3, iv p4, jv q5, .second, jv q6, .second, jv q7, .second, jv q8, .second, jv q9, .second, jv q10, .second, jv q11, .second, jv q12, .second] []))
  have B55 := B39.other W54 (Or.inr (slot_ne (Or.inr (hw _ (List.mem_of_getElem? (i := 23) rfl))) (Or.inr (hw _ (List.mem_of_getElem? (i := 21) rfl))) (by decide) (t := .long) (t' := .int) (by decide) (by decide)))
  have B56 := B40.other W54 (Or.inr (slot_ne (Or.inr (hw _ (List.mem_of_getElem? (i := 25) rfl))) (Or.inr (hw _ (List.mem_of_getElem? (i := 21) rfl))) (by decide) (t := .long) (t' := .int) (by decide) (by decide)))
  have B57 := B41.other W54 (Or.inr (slot_ne (Or.inr (hw _ (List.mem_of_getElem? (i := 27) rfl))) (Or.inr (hw _ (List.mem_of_getElem? (i := 21) rfl))) (by decide) (t := .long) (t' := .int) (by decide) (by decide)))
  have B58 := B42.other W54 (Or.inr (slot_ne (Or.inr (hw _ (List.mem_of_getElem? (i := 29) rfl))) (Or.inr (hw _ (List.mem_of_getElem? (i := 21) rfl))) (by decide) (t := .long) (t' := .int) (by decide) (by decide)))
  have B59 := B43.other W54 (Or.inr (slot_ne (Or.inr (hw _ (List.mem_of_getElem? (i := 31) rfl))) (Or.inr (hw _ (List.mem_of_getElem? (i := 21) rfl))) (by decide) (t := .long) (t' := .int) (by decide) (by decide)))
  have B60 := B44.other W54 (Or.inr (slot_ne (Or.inr (hw _ (List.mem_of_getElem? (i := 33) rfl))) (Or.inr (hw _ (List.mem_of_getElem? (i := 21) rfl))) (by decide) (t := .long) (t' := .int) (by decide) (by decide)))
  have B61 := B45.other W54 (Or.inr (slot_ne (Or.inr (hw _ (List.mem_of_getElem? (i := 35) rfl))) (Or.inr (hw _ (List.mem_of_getElem? (i := 21) rfl))) (by decide) (t := .long) (t' := .int) (by decide) (by decide)))
  have B62 := B46.other W54 (Or.inr (slot_ne (Or.inr (hw _ (List.mem_of_getElem? (i := 37) rfl))) (Or.inr (hw _ (List.mem_of_getElem? (i := 21) rfl))) (by decide) (t := .long) (t' := .int) (by decide) (by decide)))
  have B63 := B47.wr W54
  have B64 := B48.other W54 (Or.inr (slot_ne (Or.inr (hw _ (List.mem_of_getElem? (i := 15) rfl))) (Or.inr (hw _ (List.mem_of_getElem? (i := 21) rfl))) (by decide) (t := .int) (t' := .int) (by decide) (by decide)))
  have B65 := B49.other W54 (Or.inr (slot_ne (Or.inr (hw _ (List.mem_of_getElem? (i := 17) rfl))) (Or.inr (hw _ (List.mem_of_getElem? (i := 21) rfl))) (by decide) (t := .int) (t' := .int) (by decide) (by decide)))
  have B66 := B50.other W54 (Or.inr (slot_ne (Or.inr (hw _ (List.mem_of_getElem? (i := 19) rfl))) (Or.inr (hw _ (List.mem_of_getElem? (i := 21) rfl))) (by decide) (t := .int) (t' := .int) (by decide) (by decide)))
  have B67 : Fld Z h54 a0 "com/example/waveslot/waveslot/core/TdmReport" "length" "I" (.int p4) := B38.same W54
  have N68 := Fr.snoc X54 N51 ge0
  have K69 : Keep h0 h54 [a0] := K52.wr W54 (Or.inl (List.mem_of_getElem? (i := 0) rfl))
  have Z70 : n0 ≤ h54.size := Nat.le_trans Z53 (Keep.of_wr W54).1
  refine own_via (fun k => XS.aloadN X54.here hx rfl (hb hby d1_25) rfl rfl  (XS.lload X54.here hx rfl (hb hby d1_26) rfl  k)) ?_
  show own_Go p e below s _ _ (T54.setTop (mkF m 28 #[rv a0, iv p1, iv p2, iv p3, iv p4, jv q5, .second, jv q6, .second, jv q7, .second, jv q8, .second, jv q9, .second, jv q10, .second, jv q11, .second, jv q12, .second] [(.long q5), (.ref a0)]))
  obtain ⟨T71, h71, X71, e71, W71, st71⟩ := putF X54 hx hZ hown (host := "") (Or.inl (hw _ (List.mem_of_getElem? (i := 22) rfl))) Via.refl e54 B55 B63 (Or.inr ⟨(hw _ (List.mem_of_getElem? (i := 23) rfl)), rfl, hnm⟩) (hw _ (List.mem_of_getElem? (i := 1) rfl)) (ty := .long) (by decide) rfl rfl (g := (mkF m 28 #[rv a0, iv p1, iv p2, iv p3, iv p4, jv q5, .second, jv q6, .second, jv q7, .second, jv q8, .second, jv q9, .second, jv q10, .second, jv q11, .second, jv q12, .second] [(.long q5), (.ref a0)])) rfl rfl (hb hby d1_28)
  refine own_via (fun k => st71 _ k) ?_
  show own_Go p e below s _ _ (T71.setTop (mkF m 31 #[rv a0, iv p1, iv p2, iv p3, iv p4, jv q5, .second, jv q6, .second, jv q7, .second, jv q8, .second, jv q9, .second, jv q10, .second, jv q11, .second, jv q12, .second] []))
  have B72 := B56.other W71 (Or.inr (slot_ne (Or.inr (hw _ (List.mem_of_getElem? (i := 25) rfl))) (Or.inr (hw _ (List.mem_of_getElem? (i := 23) rfl))) (by decide) (t := .long) (t' := .long) (by decide) (by decide)))
  have B73 := B57.other W71 (Or.inr (slot_ne (Or.inr (hw _ (List.mem_of_getElem? (i := 27) rfl))) (Or.inr (hw _ (List.mem_of_getElem? (i := 23) rfl))) (by decide) (t := .long) (t' := .long) (by decide) (by decide)))
  have B74 := B58.other W71 (Or.inr (slot_ne (Or.inr (hw _ (List.mem_of_getElem? (i := 29) rfl))) (Or.inr (hw _ (List.mem_of_getElem? (i := 23) rfl))) (by decide) (t := .long) (t' := .long) (by decide) (by decide)))
  have B75 := B59.other W71 (Or.inr (slot_ne (Or.inr (hw _ (List.mem_of_getElem? (i := 31) rfl))) (Or.inr (hw _ (List.mem_of_getElem? (i := 23) rfl))) (by decide) (t := .long) (t' := .long) (by decide) (by decide)))
  have B76 := B60.other W71 (Or.inr (slot_ne (Or.inr (hw _ (List.mem_of_getElem? (i := 33) rfl))) (Or.inr (hw _ (List.mem_of_getElem? (i := 23) rfl))) (by decide) (t := .long) (t' := .long) (by decide) (by decide)))
  have B77 := B61.other W71 (Or.inr (slot_ne (Or.inr (hw _ (List.mem_of_getElem? (i := 35) rfl))) (Or.inr (hw _ (List.mem_of_getElem? (i := 23) rfl))) (by decide) (t := .long) (t' := .long) (by decide) (by decide)))
  have B78 := B62.other W71 (Or.inr (slot_ne (Or.inr (hw _ (List.mem_of_getElem? (i := 37) rfl))) (Or.inr (hw _ (List.mem_of_getElem? (i := 23) rfl))) (by decide) (t := .long) (t' := .long) (by decide) (by decide)))
  have B79 := B63.wr W71
  have B80 := B64.other W71 (Or.inr (slot_ne (Or.inr (hw _ (List.mem_of_getElem? (i := 15) rfl))) (Or.inr (hw _ (List.mem_of_getElem? (i := 23) rfl))) (by decide) (t := .int) (t' := .long) (by decide) (by decide)))
  have B81 := B65.other W71 (Or.inr (slot_ne (Or.inr (hw _ (List.mem_of_getElem? (i := 17) rfl))) (Or.inr (hw _ (List.mem_of_getElem? (i := 23) rfl))) (by decide) (t := .int) (t' := .long) (by decide) (by decide)))
  have B82 := B66.other W71 (Or.inr (slot_ne (Or.inr (hw _ (List.mem_of_getElem? (i := 19) rfl))) (Or.inr (hw _ (List.mem_of_getElem? (i := 23) rfl))) (by decide) (t := .int) (t' := .long) (by decide) (by decide)))
  have B83 := B67.other W71 (Or.inr (slot_ne (Or.inr (hw _ (List.mem_of_getElem? (i := 21) rfl))) (Or.inr (hw _ (List.mem_of_getElem? (i := 23) rfl))) (by decide) (t := .int) (t' := .long) (by decide) (by decide)))
  have B84 : Fld Z h71 a0 "com/example/waveslot/waveslot/core/TdmReport" "bandwidthBound" "J" (.long q5) := B55.same W71
  have N85 := Fr.snoc X71 N68 ge0
  have K86 : Keep h0 h71 [a0] := K69.wr W71 (Or.inl (List.mem_of_getElem? (i := 0) rfl))
  have Z87 : n0 ≤ h71.size := Nat.le_trans Z70 (Keep.of_wr W71).1
  refine own_via (fun k => XS.aloadN X71.here hx rfl (hb hby d1_31) rfl rfl  (XS.lload X71.here hx rfl (hb hby d1_32) rfl  k)) ?_
  show own_Go p e below s _ _ (T71.setTop (mkF m 34 #[rv a0, iv p1, iv p2, iv p3, iv p4, jv q5, .second, jv q6, .second, jv q7, .second, jv q8, .second, jv q9, .second, jv q10, .second, jv q11, .second, jv q12, .second] [(.long q6), (.ref a0)]))
  obtain ⟨T88, h88, X88, e88, W88, st88⟩ := putF X71 hx hZ hown (host := "") (Or.inl (hw _ (List.mem_of_getElem? (i := 24) rfl))) Via.refl e71 B72 B79 (Or.inr ⟨(hw _ (List.mem_of_getElem? (i := 25) rfl)), rfl, hnm⟩) (hw _ (List.mem_of_getElem? (i := 1) rfl)) (ty := .long) (by decide) rfl rfl (g := (mkF m 34 #[rv a0, iv p1, iv p2, iv p3, iv p4, jv q5, .second, jv q6, .second, jv q7, .second, jv q8, .second, jv q9, .second, jv q10, .second, jv q11, .second, jv q12, .second] [(.long q6), (.ref a0)])) rfl rfl (hb hby d1_34)
  refine own_via (fun k => st88 _ k) ?_
  show own_Go p e below s _ _ (T88.setTop (mkF m 37 #[rv a0, iv p1, iv p2, iv p3, iv p4, jv q5, .second, jv q6, .second, jv q7, .second, jv q8, .second, jv q9, .second, jv q10, .second, jv q11, .second, jv q12, .second] []))
  have B89 := B73.other W88 (Or.inr (slot_ne (Or.inr (hw _ (List.mem_of_getElem? (i := 27) rfl))) (Or.inr (hw _ (List.mem_of_getElem? (i := 25) rfl))) (by decide) (t := .long) (t' := .long) (by decide) (by decide)))
  have B90 := B74.other W88 (Or.inr (slot_ne (Or.inr (hw _ (List.mem_of_getElem? (i := 29) rfl))) (Or.inr (hw _ (List.mem_of_getElem? (i := 25) rfl))) (by decide) (t := .long) (t' := .long) (by decide) (by decide)))
  have B91 := B75.other W88 (Or.inr (slot_ne (Or.inr (hw _ (List.mem_of_getElem? (i := 31) rfl))) (Or.inr (hw _ (List.mem_of_getElem? (i := 25) rfl))) (by decide) (t := .long) (t' := .long) (by decide) (by decide)))
  have B92 := B76.other W88 (Or.inr (slot_ne (Or.inr (hw _ (List.mem_of_getElem? (i := 33) rfl))) (Or.inr (hw _ (List.mem_of_getElem? (i := 25) rfl))) (by decide) (t := .long) (t' := .long) (by decide) (by decide)))
  have B93 := B77.other W88 (Or.inr (slot_ne (Or.inr (hw _ (List.mem_of_getElem? (i := 35) rfl))) (Or.inr (hw _ (List.mem_of_getElem? (i := 25) rfl))) (by decide) (t := .long) (t' := .long) (by decide) (by decide)))
  have B94 := B78.other W88 (Or.inr (slot_ne (Or.inr (hw _ (List.mem_of_getElem? (i := 37) rfl))) (Or.inr (hw _ (List.mem_of_getElem? (i := 25) rfl))) (by decide) (t := .long) (t' := .long) (by decide) (by decide)))
  have B95 := B79.wr W88
  have B96 := B80.other W88 (Or.inr (slot_ne (Or.inr (hw _ (List.mem_of_getElem? (i := 15) rfl))) (Or.inr (hw _ (List.mem_of_getElem? (i := 25) rfl))) (by decide) (t := .int) (t' := .long) (by decide) (by decide)))
  have B97 := B81.other W88 (Or.inr (slot_ne (Or.inr (hw _ (List.mem_of_getElem? (i := 17) rfl))) (Or.inr (hw _ (List.mem_of_getElem? (i := 25) rfl))) (by decide) (t := .int) (t' := .long) (by decide) (by decide)))
  have B98 := B82.other W88 (Or.inr (slot_ne (Or.inr (hw _ (List.mem_of_getElem? (i := 19) rfl))) (Or.inr (hw _ (List.mem_of_getElem? (i := 25) rfl))) (by decide) (t := .int) (t' := .long) (by decide) (by decide)))
  have B99 := B83.other W88 (Or.inr (slot_ne (Or.inr (hw _ (List.mem_of_getElem? (i := 21) rfl))) (Or.inr (hw _ (List.mem_of_getElem? (i := 25) rfl))) (by decide) (t := .int) (t' := .long) (by decide) (by decide)))
  have B100 := B84.other W88 (Or.inr (slot_ne (Or.inr (hw _ (List.mem_of_getElem? (i := 23) rfl))) (Or.inr (hw _ (List.mem_of_getElem? (i := 25) rfl))) (by decide) (t := .long) (t' := .long) (by decide) (by decide)))
  have B101 : Fld Z h88 a0 "com/example/waveslot/waveslot/core/TdmReport" "tuningBound" "J" (.long q6) := B72.same W88
  have N102 := Fr.snoc X88 N85 ge0
  have K103 : Keep h0 h88 [a0] := K86.wr W88 (Or.inl (List.mem_of_getElem? (i := 0) rfl))
  have Z104 : n0 ≤ h88.size := Nat.le_trans Z87 (Keep.of_wr W88).1
  refine own_via (fun k => XS.aloadN X88.here hx rfl (hb hby d1_37) rfl rfl  (XS.lload X88.here hx rfl (hb hby d1_38) rfl  k)) ?_
  show own_Go p e below s _ _ (T88.setTop (mkF m 40 #[rv a0, iv p1, iv p2, iv p3, iv p4, jv q5, .second, jv q6, .second, jv q7, .second, jv q8, .second, jv q9, .second, jv q10, .second, jv q11, .second, jv q12, .second] [(.long q7), (.ref a0)]))
  obtain ⟨T105, h105, X105, e105, W105, st105⟩ := putF X88 hx hZ hown (host := "") (Or.inl (hw _ (List.mem_of_getElem? (i := 26) rfl))) Via.refl e88 B89 B95 (Or.inr ⟨(hw _ (List.mem_of_getElem? (i := 27) rfl)), rfl, hnm⟩) (hw _ (List.mem_of_getElem? (i := 1) rfl)) (ty := .long) (by decide) rfl rfl (g := (mkF m 40 #[rv a0, iv p1, iv p2, iv p3, iv p4, jv q5, .second, jv q6, .second, jv q7, .second, jv q8, .second, jv q9, .second, jv q10, .second, jv q11, .second, jv q12, .second] [(.long q7), (.ref a0)])) rfl rfl (hb hby d1_40)
  refine own_via (fun k => st105 _ k) ?_
  show own_Go p e below s _ _ (T105.setTop (mkF m 43 #[rv a0, iv p1, iv p2, iv p3, iv p4, jv q5, .second, jv q6, .second, jv q7, .second, jv q8, .second, jv q9, .second, jv q10, .second, jv q11, .second, jv q12, .second] []))
  have B106 := B90.other W105 (Or.inr (slot_ne (Or.inr (hw _ (List.mem_of_getElem? (i := 29) rfl))) (Or.inr (hw _ (List.mem_of_getElem? (i := 27) rfl))) (by decide) (t := .long) (t' := .long) (by decide) (by decide)))
  have B107 := B91.other W105 (Or.inr (slot_ne (Or.inr (hw _ (List.mem_of_getElem? (i := 31) rfl))) (Or.inr (hw _ (List.mem_of_getElem? (i := 27) rfl))) (by decide) (t := .long) (t' := .long) (by decide) (by decide)))
  have B108 := B92.other W105 (Or.inr (slot_ne (Or.inr (hw _ (List.mem_of_getElem? (i := 33) rfl))) (Or.inr (hw _ (List.mem_of_getElem? (i := 27) rfl))) (by decide) (t := .long) (t' := .long) (by decide) (by decide)))
  have B109 := B93.other W105 (Or.inr (slot_ne (Or.inr (hw _ (List.mem_of_getElem? (i := 35) rfl))) (Or.inr (hw _ (List.mem_of_getElem? (i := 27) rfl))) (by decide) (t := .long) (t' := .long) (by decide) (by decide)))
  have B110 := B94.other W105 (Or.inr (slot_ne (Or.inr (hw _ (List.mem_of_getElem? (i := 37) rfl))) (Or.inr (hw _ (List.mem_of_getElem? (i := 27) rfl))) (by decide) (t := .long) (t' := .long) (by decide) (by decide)))
  have B111 := B95.wr W105
  have B112 := B96.other W105 (Or.inr (slot_ne (Or.inr (hw _ (List.mem_of_getElem? (i := 15) rfl))) (Or.inr (hw _ (List.mem_of_getElem? (i := 27) rfl))) (by decide) (t := .int) (t' := .long) (by decide) (by decide)))
  have B113 := B97.other W105 (Or.inr (slot_ne (Or.inr (hw _ (List.mem_of_getElem? (i := 17) rfl))) (Or.inr (hw _ (List.mem_of_getElem? (i := 27) rfl))) (by decide) (t := .int) (t' := .long) (by decide) (by decide)))
  have B114 := B98.other W105 (Or.inr (slot_ne (Or.inr (hw _ (List.mem_of_getElem? (i := 19) rfl))) (Or.inr (hw _ (List.mem_of_getElem? (i := 27) rfl))) (by decide) (t := .int) (t' := .long) (by decide) (by decide)))
  have B115 := B99.other W105 (Or.inr (slot_ne (Or.inr (hw _ (List.mem_of_getElem? (i := 21) rfl))) (Or.inr (hw _ (List.mem_of_getElem? (i := 27) rfl))) (by decide) (t := .int) (t' := .long) (by decide) (by decide)))
  have B116 := B100.other W105 (Or.inr (slot_ne (Or.inr (hw _ (List.mem_of_getElem? (i := 23) rfl))) (Or.inr (hw _ (List.mem_of_getElem? (i := 27) rfl))) (by decide) (t := .long) (t' := .long) (by decide) (by decide)))
  have B117 := B101.other W105 (Or.inr (slot_ne (Or.inr (hw _ (List.mem_of_getElem? (i := 25) rfl))) (Or.inr (hw _ (List.mem_of_getElem? (i := 27) rfl))) (by decide) (t := .long) (t' := .long) (by decide) (by decide)))
  have B118 : Fld Z h105 a0 "com/example/waveslot/waveslot/core/TdmReport" "collisions" "J" (.long q7) := B89.same W105
  have N119 := Fr.snoc X105 N102 ge0
  have K120 : Keep h0 h105 [a0] := K103.wr W105 (Or.inl (List.mem_of_getElem? (i := 0) rfl))
  have Z121 : n0 ≤ h105.size := Nat.le_trans Z104 (Keep.of_wr W105).1
  refine own_via (fun k => XS.aloadN X105.here hx rfl (hb hby d1_43) rfl rfl  (XS.lload X105.here hx rfl (hb hby d1_44) rfl  k)) ?_
  show own_Go p e below s _ _ (T105.setTop (mkF m 46 #[rv a0, iv p1, iv p2, iv p3, iv p4, jv q5, .second, jv q6, .second, jv q7, .second, jv q8, .second, jv q9, .second, jv q10, .second, jv q11, .second, jv q12, .second] [(.long q8), (.ref a0)]))
  obtain ⟨T122, h122, X122, e122, W122, st122⟩ := putF X105 hx hZ hown (host := "") (Or.inl (hw _ (List.mem_of_getElem? (i := 28) rfl))) Via.refl e105 B106 B111 (Or.inr ⟨(hw _ (List.mem_of_getElem? (i := 29) rfl)), rfl, hnm⟩) (hw _ (List.mem_of_getElem? (i := 1) rfl)) (ty := .long) (by decide) rfl rfl (g := (mkF m 46 #[rv a0, iv p1, iv p2, iv p3, iv p4, jv q5, .second, jv q6, .second, jv q7, .second, jv q8, .second, jv q9, .second, jv q10, .second, jv q11, .second, jv q12, .second] [(.long q8), (.ref a0)])) rfl rfl (hb hby d1_46)
  refine own_via (fun k => st122 _ k) ?_
  show own_Go p e below s _ _ (T122.setTop (mkF m 49 #[rv a0, iv p1, iv p2, iv p3, iv p4, jv q5, .second, jv q6, .second, jv q7, .second, jv q8, .second, jv q9, .second, jv q10, .second, jv q11, .second, jv q12, .second] []))
  have B123 := B107.other W122 (Or.inr (slot_ne (Or.inr (hw _ (List.mem_of_getElem? (i := 31) rfl))) (Or.inr (hw _ (List.mem_of_getElem? (i := 29) rfl))) (by decide) (t := .long) (t' := .long) (by decide) (by decide)))
  have B124 := B108.other W122 (Or.inr (slot_ne (Or.inr (hw _ (List.mem_of_getElem? (i := 33) rfl))) (Or.inr (hw _ (List.mem_of_getElem? (i := 29) rfl))) (by decide) (t := .long) (t' := .long) (by decide) (by decide)))
  have B125 := B109.other W122 (Or.inr (slot_ne (Or.inr (hw _ (List.mem_of_getElem? (i := 35) rfl))) (Or.inr (hw _ (List.mem_of_getElem? (i := 29) rfl))) (by decide) (t := .long) (t' := .long) (by decide) (by decide)))
  have B126 := B110.other W122 (Or.inr (slot_ne (Or.inr (hw _ (List.mem_of_getElem? (i := 37) rfl))) (Or.inr (hw _ (List.mem_of_getElem? (i := 29) rfl))) (by decide) (t := .long) (t' := .long) (by decide) (by decide)))
  have B127 := B111.wr W122
  have B128 := B112.other W122 (Or.inr (slot_ne (Or.inr (hw _ (List.mem_of_getElem? (i := 15) rfl))) (Or.inr (hw _ (List.mem_of_getElem? (i := 29) rfl))) (by decide) (t := .int) (t' := .long) (by decide) (by decide)))
  have B129 := B113.other W122 (Or.inr (slot_ne (Or.inr (hw _ (List.mem_of_getElem? (i := 17) rfl))) (Or.inr (hw _ (List.mem_of_getElem? (i := 29) rfl))) (by decide) (t := .int) (t' := .long) (by decide) (by decide)))
  have B130 := B114.other W122 (Or.inr (slot_ne (Or.inr (hw _ (List.mem_of_getElem? (i := 19) rfl))) (Or.inr (hw _ (List.mem_of_getElem? (i := 29) rfl))) (by decide) (t := .int) (t' := .long) (by decide) (by decide)))
  have B131 := B115.other W122 (Or.inr (slot_ne (Or.inr (hw _ (List.mem_of_getElem? (i := 21) rfl))) (Or.inr (hw _ (List.mem_of_getElem? (i := 29) rfl))) (by decide) (t := .int) (t' := .long) (by decide) (by decide)))
  have B132 := B116.other W122 (Or.inr (slot_ne (Or.inr (hw _ (List.mem_of_getElem? (i := 23) rfl))) (Or.inr (hw _ (List.mem_of_getElem? (i := 29) rfl))) (by decide) (t := .long) (t' := .long) (by decide) (by decide)))
  have B133 := B117.other W122 (Or.inr (slot_ne (Or.inr (hw _ (List.mem_of_getElem? (i := 25) rfl))) (Or.inr (hw _ (List.mem_of_getElem? (i := 29) rfl))) (by decide) (t := .long) (t' := .long) (by decide) (by decide)))
  have B134 := B118.other W122 (Or.inr (slot_ne (Or.inr (hw _ (List.mem_of_getElem? (i := 27) rfl))) (Or.inr (hw _ (List.mem_of_getElem? (i := 29) rfl))) (by decide) (t := .long) (t' := .long) (by decide) (by decide)))
  have B135 : Fld Z h122 a0 "com/example/waveslot/waveslot/core/TdmReport" "tuningViolations" "J" (.long q8) := B106.same W122
  have N136 := Fr.snoc X122 N119 ge0
  have K137 : Keep h0 h122 [a0] := K120.wr W122 (Or.inl (List.mem_of_getElem? (i := 0) rfl))
  have Z138 : n0 ≤ h122.size := Nat.le_trans Z121 (Keep.of_wr W122).1
  refine own_via (fun k => XS.aloadN X122.here hx rfl (hb hby d1_49) rfl rfl  (XS.lload X122.here hx rfl (hb hby d1_50) rfl  k)) ?_
  show own_Go p e below s _ _ (T122.setTop (mkF m 52 #[rv a0, iv p1, iv p2, iv p3, iv p4, jv q5, .second, jv q6, .second, jv q7, .second, jv q8, .second, jv q9, .second, jv q10, .second, jv q11, .second, jv q12, .second] [(.long q9), (.ref a0)]))
  obtain ⟨T139, h139, X139, e139, W139, st139⟩ := putF X122 hx hZ hown (host := "") (Or.inl (hw _ (List.mem_of_getElem? (i := 30) rfl))) Via.refl e122 B123 B127 (Or.inr ⟨(hw _ (List.mem_of_getElem? (i := 31) rfl)), rfl, hnm⟩) (hw _ (List.mem_of_getElem? (i := 1) rfl)) (ty := .long) (by decide) rfl rfl (g := (mkF m 52 #[rv a0, iv p1, iv p2, iv p3, iv p4, jv q5, .second, jv q6, .second, jv q7, .second, jv q8, .second, jv q9, .second, jv q10, .second, jv q11, .second, jv q12, .second] [(.long q9), (.ref a0)])) rfl rfl (hb hby d1_52)
  refine own_via (fun k => st139 _ k) ?_
  show own_Go p e below s _ _ (T139.setTop (mkF m 55 #[rv a0, iv p1, iv p2, iv p3, iv p4, jv q5, .second, jv q6, .second, jv q7, .second, jv q8, .second, jv q9, .second, jv q10, .second, jv q11, .second, jv q12, .second] []))
  have B140 := B124.other W139 (Or.inr (slot_ne (Or.inr (hw _ (List.mem_of_getElem? (i := 33) rfl))) (Or.inr (hw _ (List.mem_of_getElem? (i := 31) rfl))) (by decide) (t := .long) (t' := .long) (by decide) (by decide)))
  have B141 := B125.other W139 (Or.inr (slot_ne (Or.inr (hw _ (List.mem_of_getElem? (i := 35) rfl))) (Or.inr (hw _ (List.mem_of_getElem? (i := 31) rfl))) (by decide) (t := .long) (t' := .long) (by decide) (by decide)))
  have B142 := B126.other W139 (Or.inr (slot_ne (Or.inr (hw _ (List.mem_of_getElem? (i := 37) rfl))) (Or.inr (hw _ (List.mem_of_getElem? (i := 31) rfl))) (by decide) (t := .long) (t' := .long) (by decide) (by decide)))
  have B143 := B127.wr W139
  have B144 := B128.other W139 (Or.inr (slot_ne (Or.inr (hw _ (List.mem_of_getElem? (i := 15) rfl))) (Or.inr (hw _ (List.mem_of_getElem? (i := 31) rfl))) (by decide) (t := .int) (t' := .long) (by decide) (by decide)))
  have B145 := B129.other W139 (Or.inr (slot_ne (Or.inr (hw _ (List.mem_of_getElem? (i := 17) rfl))) (Or.inr (hw _ (List.mem_of_getElem? (i := 31) rfl))) (by decide) (t := .int) (t' := .long) (by decide) (by decide)))
  have B146 := B130.other W139 (Or.inr (slot_ne (Or.inr (hw _ (List.mem_of_getElem? (i := 19) rfl))) (Or.inr (hw _ (List.mem_of_getElem? (i := 31) rfl))) (by decide) (t := .int) (t' := .long) (by decide) (by decide)))
  have B147 := B131.other W139 (Or.inr (slot_ne (Or.inr (hw _ (List.mem_of_getElem? (i := 21) rfl))) (Or.inr (hw _ (List.mem_of_getElem? (i := 31) rfl))) (by decide) (t := .int) (t' := .long) (by decide) (by decide)))
  have B148 := B132.other W139 (Or.inr (slot_ne (Or.inr (hw _ (List.mem_of_getElem? (i := 23) rfl))) (Or.inr (hw _ (List.mem_of_getElem? (i := 31) rfl))) (by decide) (t := .long) (t' := .long) (by decide) (by decide)))
  have B149 := B133.other W139 (Or.inr (slot_ne (Or.inr (hw _ (List.mem_of_getElem? (i := 25) rfl))) (Or.inr (hw _ (List.mem_of_getElem? (i := 31) rfl))) (by decide) (t := .long) (t' := .long) (by decide) (by decide)))
  have B150 := B134.other W139 (Or.inr (slot_ne (Or.inr (hw _ (List.mem_of_getElem? (i := 27) rfl))) (Or.inr (hw _ (List.mem_of_getElem? (i := 31) rfl))) (by decide) (t := .long) (t' := .long) (by decide) (by decide)))
  have B151 := B135.other W139 (Or.inr (slot_ne (Or.inr (hw _ (List.mem_of_getElem? (i := 29) rfl))) (Or.inr (hw _ (List.mem_of_getElem? (i := 31) rfl))) (by decide) (t := .long) (t' := .long) (by decide) (by decide)))
  have B152 : Fld Z h139 a0 "com/example/waveslot/waveslot/core/TdmReport" "missing" "J" (.long q9) := B123.same W139
  have N153 := Fr.snoc X139 N136 ge0
  have K154 : Keep h0 h139 [a0] := K137.wr W139 (Or.inl (List.mem_of_getElem? (i := 0) rfl))
  have Z155 : n0 ≤ h139.size := Nat.le_trans Z138 (Keep.of_wr W139).1
  refine own_via (fun k => XS.aloadN X139.here hx rfl (hb hby d1_55) rfl rfl  (XS.lload X139.here hx rfl (hb hby d1_56) rfl  k)) ?_
  show own_Go p e below s _ _ (T139.setTop (mkF m 58 #[rv a0, iv p1, iv p2, iv p3, iv p4, jv q5, .second, jv q6, .second, jv q7, .second, jv q8, .second, jv q9, .second, jv q10, .second, jv q11, .second, jv q12, .second] [(.long q10), (.ref a0)]))
  obtain ⟨T156, h156, X156, e156, W156, st156⟩ := putF X139 hx hZ hown (host := "") (Or.inl (hw _ (List.mem_of_getElem? (i := 32) rfl))) Via.refl e139 B140 B143 (Or.inr ⟨(hw _ (List.mem_of_getElem? (i := 33) rfl)), rfl, hnm⟩) (hw _ (List.mem_of_getElem? (i := 1) rfl)) (ty := .long) (by decide) rfl rfl (g := (mkF m 58 #[rv a0, iv p1, iv p2, iv p3, iv p4, jv q5, .second, jv q6, .second, jv q7, .second, jv q8, .second, jv q9, .second, jv q10, .second, jv q11, .second, jv q12, .second] [(.long q10), (.ref a0)])) rfl rfl (hb hby d1_58)
  refine own_via (fun k => st156 _ k) ?_
  show own_Go p e below s _ _ (T156.setTop (mkF m 61 #[rv a0, iv p1, iv p2, iv p3, iv p4, jv q5, .second, jv q6, .second, jv q7, .second, jv q8, .second, jv q9, .second, jv q10, .second, jv q11, .second, jv q12, .second] []))
  have B157 := B141.other W156 (Or.inr (slot_ne (Or.inr (hw _ (List.mem_of_getElem? (i := 35) rfl))) (Or.inr (hw _ (List.mem_of_getElem? (i := 33) rfl))) (by decide) (t := .long) (t' := .long) (by decide) (by decide)))
  have B158 := B142.other W156 (Or.inr (slot_ne (Or.inr (hw _ (List.mem_of_getElem? (i := 37) rfl))) (Or.inr (hw _ (List.mem_of_getElem? (i := 33) rfl))) (by decide) (t := .long) (t' := .long) (by decide) (by decide)))
  have B159 := B143.wr W156
  have B160 := B144.other W156 (Or.inr (slot_ne (Or.inr (hw _ (List.mem_of_getElem? (i := 15) rfl))) (Or.inr (hw _ (List.mem_of_getElem? (i := 33) rfl))) (by decide) (t := .int) (t' := .long) (by decide) (by decide)))
  have B161 := B145.other W156 (Or.inr (slot_ne (Or.inr (hw _ (List.mem_of_getElem? (i := 17) rfl))) (Or.inr (hw _ (List.mem_of_getElem? (i := 33) rfl))) (by decide) (t := .int) (t' := .long) (by decide) (by decide)))
  have B162 := B146.other W156 (Or.inr (slot_ne (Or.inr (hw _ (List.mem_of_getElem? (i := 19) rfl))) (Or.inr (hw _ (List.mem_of_getElem? (i := 33) rfl))) (by decide) (t := .int) (t' := .long) (by decide) (by decide)))
  have B163 := B147.other W156 (Or.inr (slot_ne (Or.inr (hw _ (List.mem_of_getElem? (i := 21) rfl))) (Or.inr (hw _ (List.mem_of_getElem? (i := 33) rfl))) (by decide) (t := .int) (t' := .long) (by decide) (by decide)))
  have B164 := B148.other W156 (Or.inr (slot_ne (Or.inr (hw _ (List.mem_of_getElem? (i := 23) rfl))) (Or.inr (hw _ (List.mem_of_getElem? (i := 33) rfl))) (by decide) (t := .long) (t' := .long) (by decide) (by decide)))
  have B165 := B149.other W156 (Or.inr (slot_ne (Or.inr (hw _ (List.mem_of_getElem? (i := 25) rfl))) (Or.inr (hw _ (List.mem_of_getElem? (i := 33) rfl))) (by decide) (t := .long) (t' := .long) (by decide) (by decide)))
  have B166 := B150.other W156 (Or.inr (slot_ne (Or.inr (hw _ (List.mem_of_getElem? (i := 27) rfl))) (Or.inr (hw _ (List.mem_of_getElem? (i := 33) rfl))) (by decide) (t := .long) (t' := .long) (by decide) (by decide)))
  have B167 := B151.other W156 (Or.inr (slot_ne (Or.inr (hw _ (List.mem_of_getElem? (i := 29) rfl))) (Or.inr (hw _ (List.mem_of_getElem? (i := 33) rfl))) (by decide) (t := .long) (t' := .long) (by decide) (by decide)))
  have B168 := B152.other W156 (Or.inr (slot_ne (Or.inr (hw _ (List.mem_of_getElem? (i := 31) rfl))) (Or.inr (hw _ (List.mem_of_getElem? (i := 33) rfl))) (by decide) (t := .long) (t' := .long) (by decide) (by decide)))
  have B169 : Fld Z h156 a0 "com/example/waveslot/waveslot/core/TdmReport" "unexpected" "J" (.long q10) := B140.same W156
  have N170 := Fr.snoc X156 N153 ge0
  have K171 : Keep h0 h156 [a0] := K154.wr W156 (Or.inl (List.mem_of_getElem? (i := 0) rfl))
  have Z172 : n0 ≤ h156.size := Nat.le_trans Z155 (Keep.of_wr W156).1
  refine own_via (fun k => XS.aloadN X156.here hx rfl (hb hby d1_61) rfl rfl  (XS.lload X156.here hx rfl (hb hby d1_62) rfl  k)) ?_
  show own_Go p e below s _ _ (T156.setTop (mkF m 64 #[rv a0, iv p1, iv p2, iv p3, iv p4, jv q5, .second, jv q6, .second, jv q7, .second, jv q8, .second, jv q9, .second, jv q10, .second, jv q11, .second, jv q12, .second] [(.long q11), (.ref a0)]))
  obtain ⟨T173, h173, X173, e173, W173, st173⟩ := putF X156 hx hZ hown (host := "") (Or.inl (hw _ (List.mem_of_getElem? (i := 34) rfl))) Via.refl e156 B157 B159 (Or.inr ⟨(hw _ (List.mem_of_getElem? (i := 35) rfl)), rfl, hnm⟩) (hw _ (List.mem_of_getElem? (i := 1) rfl)) (ty := .long) (by decide) rfl rfl (g := (mkF m 64 #[rv a0, iv p1, iv p2, iv p3, iv p4, jv q5, .second, jv q6, .second, jv q7, .second, jv q8, .second, jv q9, .second, jv q10, .second, jv q11, .second, jv q12, .second] [(.long q11), (.ref a0)])) rfl rfl (hb hby d1_64)
  refine own_via (fun k => st173 _ k) ?_
  show own_Go p e below s _ _ (T173.setTop (mkF m 67 #[rv a0, iv p1, iv p2, iv p3, iv p4, jv q5, .second, jv q6, .second, jv q7, .second, jv q8, .second, jv q9, .second, jv q10, .second, jv q11, .second, jv q12, .second] []))
  have B174 := B158.other W173 (Or.inr (slot_ne (Or.inr (hw _ (List.mem_of_getElem? (i := 37) rfl))) (Or.inr (hw _ (List.mem_of_getElem? (i := 35) rfl))) (by decide) (t := .long) (t' := .long) (by decide) (by decide)))
  have B175 := B159.wr W173
  have B176 := B160.other W173 (Or.inr (slot_ne (Or.inr (hw _ (List.mem_of_getElem? (i := 15) rfl))) (Or.inr (hw _ (List.mem_of_getElem? (i := 35) rfl))) (by decide) (t := .int) (t' := .long) (by decide) (by decide)))
  have B177 := B161.other W173 (Or.inr (slot_ne (Or.inr (hw _ (List.mem_of_getElem? (i := 17) rfl))) (Or.inr (hw _ (List.mem_of_getElem? (i := 35) rfl))) (by decide) (t := .int) (t' := .long) (by decide) (by decide)))
  have B178 := B162.other W173 (Or.inr (slot_ne (Or.inr (hw _ (List.mem_of_getElem? (i := 19) rfl))) (Or.inr (hw _ (List.mem_of_getElem? (i := 35) rfl))) (by decide) (t := .int) (t' := .long) (by decide) (by decide)))
  have B179 := B163.other W173 (Or.inr (slot_ne (Or.inr (hw _ (List.mem_of_getElem? (i := 21) rfl))) (Or.inr (hw _ (List.mem_of_getElem? (i := 35) rfl))) (by decide) (t := .int) (t' := .long) (by decide) (by decide)))
  have B180 := B164.other W173 (Or.inr (slot_ne (Or.inr (hw _ (List.mem_of_getElem? (i := 23) rfl))) (Or.inr (hw _ (List.mem_of_getElem? (i := 35) rfl))) (by decide) (t := .long) (t' := .long) (by decide) (by decide)))
  have B181 := B165.other W173 (Or.inr (slot_ne (Or.inr (hw _ (List.mem_of_getElem? (i := 25) rfl))) (Or.inr (hw _ (List.mem_of_getElem? (i := 35) rfl))) (by decide) (t := .long) (t' := .long) (by decide) (by decide)))
  have B182 := B166.other W173 (Or.inr (slot_ne (Or.inr (hw _ (List.mem_of_getElem? (i := 27) rfl))) (Or.inr (hw _ (List.mem_of_getElem? (i := 35) rfl))) (by decide) (t := .long) (t' := .long) (by decide) (by decide)))
  have B183 := B167.other W173 (Or.inr (slot_ne (Or.inr (hw _ (List.mem_of_getElem? (i := 29) rfl))) (Or.inr (hw _ (List.mem_of_getElem? (i := 35) rfl))) (by decide) (t := .long) (t' := .long) (by decide) (by decide)))
  have B184 := B168.other W173 (Or.inr (slot_ne (Or.inr (hw _ (List.mem_of_getElem? (i := 31) rfl))) (Or.inr (hw _ (List.mem_of_getElem? (i := 35) rfl))) (by decide) (t := .long) (t' := .long) (by decide) (by decide)))
  have B185 := B169.other W173 (Or.inr (slot_ne (Or.inr (hw _ (List.mem_of_getElem? (i := 33) rfl))) (Or.inr (hw _ (List.mem_of_getElem? (i := 35) rfl))) (by decide) (t := .long) (t' := .long) (by decide) (by decide)))
  have B186 : Fld Z h173 a0 "com/example/waveslot/waveslot/core/TdmReport" "wrongLength" "J" (.long q11) := B157.same W173
  have N187 := Fr.snoc X173 N170 ge0
  have K188 : Keep h0 h173 [a0] := K171.wr W173 (Or.inl (List.mem_of_getElem? (i := 0) rfl))
  have Z189 : n0 ≤ h173.size := Nat.le_trans Z172 (Keep.of_wr W173).1
  refine own_via (fun k => XS.aloadN X173.here hx rfl (hb hby d1_67) rfl rfl  (XS.lload X173.here hx rfl (hb hby d1_68) rfl  k)) ?_
  show own_Go p e below s _ _ (T173.setTop (mkF m 70 #[rv a0, iv p1, iv p2, iv p3, iv p4, jv q5, .second, jv q6, .second, jv q7, .second, jv q8, .second, jv q9, .second, jv q10, .second, jv q11, .second, jv q12, .second] [(.long q12), (.ref a0)]))
  obtain ⟨T190, h190, X190, e190, W190, st190⟩ := putF X173 hx hZ hown (host := "") (Or.inl (hw _ (List.mem_of_getElem? (i := 36) rfl))) Via.refl e173 B174 B175 (Or.inr ⟨(hw _ (List.mem_of_getElem? (i := 37) rfl)), rfl, hnm⟩) (hw _ (List.mem_of_getElem? (i := 1) rfl)) (ty := .long) (by decide) rfl rfl (g := (mkF m 70 #[rv a0, iv p1, iv p2, iv p3, iv p4, jv q5, .second, jv q6, .second, jv q7, .second, jv q8, .second, jv q9, .second, jv q10, .second, jv q11, .second, jv q12, .second] [(.long q12), (.ref a0)])) rfl rfl (hb hby d1_70)
  refine own_via (fun k => st190 _ k) ?_
  show own_Go p e below s _ _ (T190.setTop (mkF m 73 #[rv a0, iv p1, iv p2, iv p3, iv p4, jv q5, .second, jv q6, .second, jv q7, .second, jv q8, .second, jv q9, .second, jv q10, .second, jv q11, .second, jv q12, .second] []))
  have B191 := B175.wr W190
  have B192 := B176.other W190 (Or.inr (slot_ne (Or.inr (hw _ (List.mem_of_getElem? (i := 15) rfl))) (Or.inr (hw _ (List.mem_of_getElem? (i := 37) rfl))) (by decide) (t := .int) (t' := .long) (by decide) (by decide)))
  have B193 := B177.other W190 (Or.inr (slot_ne (Or.inr (hw _ (List.mem_of_getElem? (i := 17) rfl))) (Or.inr (hw _ (List.mem_of_getElem? (i := 37) rfl))) (by decide) (t := .int) (t' := .long) (by decide) (by decide)))
  have B194 := B178.other W190 (Or.inr (slot_ne (Or.inr (hw _ (List.mem_of_getElem? (i := 19) rfl))) (Or.inr (hw _ (List.mem_of_getElem? (i := 37) rfl))) (by decide) (t := .int) (t' := .long) (by decide) (by decide)))
  have B195 := B179.other W190 (Or.inr (slot_ne (Or.inr (hw _ (List.mem_of_getElem? (i := 21) rfl))) (Or.inr (hw _ (List.mem_of_getElem? (i := 37) rfl))) (by decide) (t := .int) (t' := .long) (by decide) (by decide)))
  have B196 := B180.other W190 (Or.inr (slot_ne (Or.inr (hw _ (List.mem_of_getElem? (i := 23) rfl))) (Or.inr (hw _ (List.mem_of_getElem? (i := 37) rfl))) (by decide) (t := .long) (t' := .long) (by decide) (by decide)))
  have B197 := B181.other W190 (Or.inr (slot_ne (Or.inr (hw _ (List.mem_of_getElem? (i := 25) rfl))) (Or.inr (hw _ (List.mem_of_getElem? (i := 37) rfl))) (by decide) (t := .long) (t' := .long) (by decide) (by decide)))
  have B198 := B182.other W190 (Or.inr (slot_ne (Or.inr (hw _ (List.mem_of_getElem? (i := 27) rfl))) (Or.inr (hw _ (List.mem_of_getElem? (i := 37) rfl))) (by decide) (t := .long) (t' := .long) (by decide) (by decide)))
  have B199 := B183.other W190 (Or.inr (slot_ne (Or.inr (hw _ (List.mem_of_getElem? (i := 29) rfl))) (Or.inr (hw _ (List.mem_of_getElem? (i := 37) rfl))) (by decide) (t := .long) (t' := .long) (by decide) (by decide)))
  have B200 := B184.other W190 (Or.inr (slot_ne (Or.inr (hw _ (List.mem_of_getElem? (i := 31) rfl))) (Or.inr (hw _ (List.mem_of_getElem? (i := 37) rfl))) (by decide) (t := .long) (t' := .long) (by decide) (by decide)))
  have B201 := B185.other W190 (Or.inr (slot_ne (Or.inr (hw _ (List.mem_of_getElem? (i := 33) rfl))) (Or.inr (hw _ (List.mem_of_getElem? (i := 37) rfl))) (by decide) (t := .long) (t' := .long) (by decide) (by decide)))
  have B202 := B186.other W190 (Or.inr (slot_ne (Or.inr (hw _ (List.mem_of_getElem? (i := 35) rfl))) (Or.inr (hw _ (List.mem_of_getElem? (i := 37) rfl))) (by decide) (t := .long) (t' := .long) (by decide) (by decide)))
  have B203 : Fld Z h190 a0 "com/example/waveslot/waveslot/core/TdmReport" "outOfRange" "J" (.long q12) := B174.same W190
  have N204 := Fr.snoc X190 N187 ge0
  have K205 : Keep h0 h190 [a0] := K188.wr W190 (Or.inl (List.mem_of_getElem? (i := 0) rfl))
  have Z206 : n0 ≤ h190.size := Nat.le_trans Z189 (Keep.of_wr W190).1
  exact own_ret0 X190 hx hlk Bd.returns (hb hby d1_73) (Q := (Q1 Z a0 p1 p2 p3 p4 q5 q6 q7 q8 q9 q10 q11 q12 h0 n0)) ⟨rfl, N204, (by rw [e190]; exact K205), (by rw [e190]; exact B198), (by rw [e190]; exact B199), (by rw [e190]; exact B200), (by rw [e190]; exact B201), (by rw [e190]; exact B202), (by rw [e190]; exact B203)⟩ (by decide) (by decide)
theorem d4_0 : decode prog_73_method_3_code 0 = .ok (.aload_n 0, 1) := by decide +kernel
theorem d4_1 : decode prog_73_method_3_code 1 = .ok (.getfield 29, 3) := by decide +kernel
theorem d4_4 : decode prog_73_method_3_code 4 = .ok (.lconst 0, 1) := by decide +kernel
theorem d4_5 : decode prog_73_method_3_code 5 = .ok (.lcmp, 1) := by decide +kernel
theorem d4_6 : decode prog_73_method_3_code 6 = .ok (.ifCond .ne 52, 3) := by decide +kernel
theorem d4_9 : decode prog_73_method_3_code 9 = .ok (.aload_n 0, 1) := by decide +kernel
theorem d4_10 : decode prog_73_method_3_code 10 = .ok (.getfield 32, 3) := by decide +kernel
theorem d4_13 : decode prog_73_method_3_code 13 = .ok (.lconst 0, 1) := by decide +kernel
theorem d4_14 : decode prog_73_method_3_code 14 = .ok (.lcmp, 1) := by decide +kernel
theorem d4_15 : decode prog_73_method_3_code 15 = .ok (.ifCond .ne 43, 3) := by decide +kernel
theorem d4_18 : decode prog_73_method_3_code 18 = .ok (.aload_n 0, 1) := by decide +kernel
theorem d4_19 : decode prog_73_method_3_code 19 = .ok (.getfield 35, 3) := by decide +kernel
theorem d4_22 : decode prog_73_method_3_code 22 = .ok (.lconst 0, 1) := by decide +kernel
theorem d4_23 : decode prog_73_method_3_code 23 = .ok (.lcmp, 1) := by decide +kernel
theorem d4_24 : decode prog_73_method_3_code 24 = .ok (.ifCond .ne 34, 3) := by decide +kernel
theorem d4_27 : decode prog_73_method_3_code 27 = .ok (.aload_n 0, 1) := by decide +kernel
theorem d4_28 : decode prog_73_method_3_code 28 = .ok (.getfield 38, 3) := by decide +kernel
theorem d4_31 : decode prog_73_method_3_code 31 = .ok (.lconst 0, 1) := by decide +kernel
theorem d4_32 : decode prog_73_method_3_code 32 = .ok (.lcmp, 1) := by decide +kernel
theorem d4_33 : decode prog_73_method_3_code 33 = .ok (.ifCond .ne 25, 3) := by decide +kernel
theorem d4_36 : decode prog_73_method_3_code 36 = .ok (.aload_n 0, 1) := by decide +kernel
theorem d4_37 : decode prog_73_method_3_code 37 = .ok (.getfield 41, 3) := by decide +kernel
theorem d4_40 : decode prog_73_method_3_code 40 = .ok (.lconst 0, 1) := by decide +kernel
theorem d4_41 : decode prog_73_method_3_code 41 = .ok (.lcmp, 1) := by decide +kernel
theorem d4_42 : decode prog_73_method_3_code 42 = .ok (.ifCond .ne 16, 3) := by decide +kernel
theorem d4_45 : decode prog_73_method_3_code 45 = .ok (.aload_n 0, 1) := by decide +kernel
theorem d4_46 : decode prog_73_method_3_code 46 = .ok (.getfield 44, 3) := by decide +kernel
theorem d4_49 : decode prog_73_method_3_code 49 = .ok (.lconst 0, 1) := by decide +kernel
theorem d4_50 : decode prog_73_method_3_code 50 = .ok (.lcmp, 1) := by decide +kernel
theorem d4_51 : decode prog_73_method_3_code 51 = .ok (.ifCond .ne 7, 3) := by decide +kernel
theorem d4_54 : decode prog_73_method_3_code 54 = .ok (.iconst 1, 1) := by decide +kernel
theorem d4_55 : decode prog_73_method_3_code 55 = .ok (.goto 4, 3) := by decide +kernel
theorem d4_58 : decode prog_73_method_3_code 58 = .ok (.iconst 0, 1) := by decide +kernel
theorem d4_59 : decode prog_73_method_3_code 59 = .ok (.ireturn, 1) := by decide +kernel
theorem pn_4 : plainName "com/example/waveslot/waveslot/core/TdmReport" = true := by first | (simp [plainName, overriddenIn]; done) | decide +kernel
theorem ef_4 (m : MethodId) (x0 : Addr) : entryFrame m #[(.ref x0)] 1 = mkF m 0 #[rv x0] [] := by first | (simp [entryFrame, mkF, argsToLocals, Value.category]; done) | rfl
def own_f4 (w0 : Int64) (w1 : Int64) (w2 : Int64) (w3 : Int64) (w4 : Int64) (w5 : Int64) : Int32 := (if w0 = (0 : Int64) then (if w1 = (0 : Int64) then (if w2 = (0 : Int64) then (if w3 = (0 : Int64) then (if w4 = (0 : Int64) then (if w5 = (0 : Int64) then (1 : Int32) else (0 : Int32)) else (0 : Int32)) else (0 : Int32)) else (0 : Int32)) else (0 : Int32)) else (0 : Int32))
def Q4 (Z : State) (a0 : Addr) (w0 : Int64) (w1 : Int64) (w2 : Int64) (w3 : Int64) (w4 : Int64) (w5 : Int64) (h0 : Heap) (n0 : Nat) (v : Option Value) (h : Heap) (L : List Loc) : Prop := v = some (.int (own_f4 w0 w1 w2 w3 w4 w5)) ∧ Fr n0 L ∧ h = h0
set_option maxRecDepth 65536 in
set_option maxHeartbeats 40000000 in
theorem rm4 (l : Launch) (Z : State) (aw : Array Value) (hw : ∀ d ∈ tables_1, d.before aw Z = true) (ws : List Jvm.Cond) (a0 : Addr) (w0 : Int64) (w1 : Int64) (w2 : Int64) (w3 : Int64) (w4 : Int64) (w5 : Int64) (h0 : Heap) (n0 : Nat) (Z0 : n0 ≤ h0.size) (P0 : Fld Z h0 a0 "com/example/waveslot/waveslot/core/TdmReport" "collisions" "J" (.long w0)) (P1 : Fld Z h0 a0 "com/example/waveslot/waveslot/core/TdmReport" "tuningViolations" "J" (.long w1)) (P2 : Fld Z h0 a0 "com/example/waveslot/waveslot/core/TdmReport" "missing" "J" (.long w2)) (P3 : Fld Z h0 a0 "com/example/waveslot/waveslot/core/TdmReport" "unexpected" "J" (.long w3)) (P4 : Fld Z h0 a0 "com/example/waveslot/waveslot/core/TdmReport" "wrongLength" "J" (.long w4)) (P5 : Fld Z h0 a0 "com/example/waveslot/waveslot/core/TdmReport" "outOfRange" "J" (.long w5)) :
    MetFree l (⟨"com/example/waveslot/waveslot/core/TdmReport", "valid", "()Z"⟩ : MethodName) (head1 (Jvm.Cond.code (⟨"com/example/waveslot/waveslot/core/TdmReport", "valid", "()Z"⟩ : MethodName) prog_73_method_3_code 1 (some .boolean) :: ws) ({ frames := 0, cells := 0, slots := 0, locals := 0 } : Room)) (fun a U => a = #[(.ref a0)] ∧ Z.Warmed39 U.vm ∧ U.heap = h0) (fun _ _ _ _ _ => True) (fun _ U o U' => ∃ v L, o = .returned v ∧ Q4 Z a0 w0 w1 w2 w3 w4 w5 h0 n0 v U'.heap L ∧ FrameEnd U o U' L ({ frames := 0, cells := 0, slots := 0, locals := 0 } : Room).cells ({ frames := 0, cells := 0, slots := 0, locals := 0 } : Room).slots) := by
  refine MetFree.of_bodySF (plainFor_of_name pn_4) hisR ?_
  intro p e s m args below meth c s₁ Bd hml0 hP hK
  obtain ⟨rfl, hZ, hh⟩ := hP
  have hx := Bd.exec
  have hby := Bd.bytes
  have hml : c.maxLocals = 1 := hml0
  have hown : s.vm.findClass "com/example/waveslot/waveslot/core/TdmReport" = some m.cls := findClass_of_methodNamed Bd.named
  have hnm := (name_of_methodNamed Bd.named Bd.method).1
  have hlk : meth.locks = false := by first | exact BodyLoose.notSynchronized (by assumption) | exact Body.notSynchronized (by assumption)
  have X0 : Stand p l e ({ frames := 0, cells := 0, slots := 0, locals := 0 } : Room) s m #[(.ref a0)] below meth c s₁ [] 0 0 := Stand.of_body Bd
  have e0 : s₁.heap = h0 := by rw [← hh, Bd.state]; rfl
  have N0 := Fr.nil n0
  have K0 : Keep h0 h0 [] := Keep.refl _ _
  refine own_start (CS := (0, 0)) (Q := (Q4 Z a0 w0 w1 w2 w3 w4 w5 h0 n0)) (ef_4 m a0) ?_
  show own_Go p e below s _ _ (s₁.setTop (mkF m 0 #[rv a0] []))
  refine own_via (fun k => XS.aloadN X0.here hx rfl (hb hby d4_0) rfl rfl  k) ?_
  show own_Go p e below s _ _ (s₁.setTop (mkF m 1 #[rv a0] [(.ref a0)]))
  obtain ⟨T1, X1, e1, st1⟩ := getF X0 hx hZ hown (host := "") (Or.inl (hw _ (List.mem_of_getElem? (i := 26) rfl))) Via.refl e0 P0 (g := (mkF m 1 #[rv a0] [(.ref a0)])) rfl rfl (hb hby d4_1)
  refine own_via (fun k => st1 _ k) ?_
  show own_Go p e below s _ _ (T1.setTop (mkF m 4 #[rv a0] [(.long w0)]))
  refine own_via (fun k => XS.lconst X1.here hx rfl (hb hby d4_4) (XS.lcmp X1.here hx rfl (hb hby d4_5) rfl k)) ?_
  show own_Go p e below s _ _ (T1.setTop (mkF m 6 #[rv a0] [(.int (lcmpW w0 (0 : Int64)))]))
  by_cases hc2 : w0 = (0 : Int64)
  · refine own_via (fun k => XS.ifNo X1.here hx rfl (hb hby d4_6) rfl ((if0 _ _).trans (teq ((lw_eq _ _).mpr hc2)).2) k) ?_
    show own_Go p e below s _ _ (T1.setTop (mkF m 9 #[rv a0] []))
    refine own_via (fun k => XS.aloadN X1.here hx rfl (hb hby d4_9) rfl rfl  k) ?_
    show own_Go p e below s _ _ (T1.setTop (mkF m 10 #[rv a0] [(.ref a0)]))
    obtain ⟨T3, X3, e3, st3⟩ := getF X1 hx hZ hown (host := "") (Or.inl (hw _ (List.mem_of_getElem? (i := 28) rfl))) Via.refl e1 P1 (g := (mkF m 10 #[rv a0] [(.ref a0)])) rfl rfl (hb hby d4_10)
    refine own_via (fun k => st3 _ k) ?_
    show own_Go p e below s _ _ (T3.setTop (mkF m 13 #[rv a0] [(.long w1)]))
    refine own_via (fun k => XS.lconst X3.here hx rfl (hb hby d4_13) (XS.lcmp X3.here hx rfl (hb hby d4_14) rfl k)) ?_
    show own_Go p e below s _ _ (T3.setTop (mkF m 15 #[rv a0] [(.int (lcmpW w1 (0 : Int64)))]))
    by_cases hc4 : w1 = (0 : Int64)
    · refine own_via (fun k => XS.ifNo X3.here hx rfl (hb hby d4_15) rfl ((if0 _ _).trans (teq ((lw_eq _ _).mpr hc4)).2) k) ?_
      show own_Go p e below s _ _ (T3.setTop (mkF m 18 #[rv a0] []))
      refine own_via (fun k => XS.aloadN X3.here hx rfl (hb hby d4_18) rfl rfl  k) ?_
      show own_Go p e below s _ _ (T3.setTop (mkF m 19 #[rv a0] [(.ref a0)]))
      obtain ⟨T5, X5, e5, st5⟩ := getF X3 hx hZ hown (host := "") (Or.inl (hw _ (List.mem_of_getElem? (i := 30) rfl))) Via.refl e3 P2 (g := (mkF m 19 #[rv a0] [(.ref a0)])) rfl rfl (hb hby d4_19)
      refine own_via (fun k => st5 _ k) ?_
      show own_Go p e below s _ _ (T5.setTop (mkF m 22 #[rv a0] [(.long w2)]))
      refine own_via (fun k => XS.lconst X5.here hx rfl (hb hby d4_22) (XS.lcmp X5.here hx rfl (hb hby d4_23) rfl k)) ?_
      show own_Go p e below s _ _ (T5.setTop (mkF m 24 #[rv a0] [(.int (lcmpW w2 (0 : Int64)))]))
      by_cases hc6 : w2 = (0 : Int64)
      · refine own_via (fun k => XS.ifNo X5.here hx rfl (hb hby d4_24) rfl ((if0 _ _).trans (teq ((lw_eq _ _).mpr hc6)).2) k) ?_
        show own_Go p e below s _ _ (T5.setTop (mkF m 27 #[rv a0] []))
        refine own_via (fun k => XS.aloadN X5.here hx rfl (hb hby d4_27) rfl rfl  k) ?_
        show own_Go p e below s _ _ (T5.setTop (mkF m 28 #[rv a0] [(.ref a0)]))
        obtain ⟨T7, X7, e7, st7⟩ := getF X5 hx hZ hown (host := "") (Or.inl (hw _ (List.mem_of_getElem? (i := 32) rfl))) Via.refl e5 P3 (g := (mkF m 28 #[rv a0] [(.ref a0)])) rfl rfl (hb hby d4_28)
        refine own_via (fun k => st7 _ k) ?_
        show own_Go p e below s _ _ (T7.setTop (mkF m 31 #[rv a0] [(.long w3)]))
        refine own_via (fun k => XS.lconst X7.here hx rfl (hb hby d4_31) (XS.lcmp X7.here hx rfl (hb hby d4_32) rfl k)) ?_
        show own_Go p e below s _ _ (T7.setTop (mkF m 33 #[rv a0] [(.int (lcmpW w3 (0 : Int64)))]))
        by_cases hc8 : w3 = (0 : Int64)
        · refine own_via (fun k => XS.ifNo X7.here hx rfl (hb hby d4_33) rfl ((if0 _ _).trans (teq ((lw_eq _ _).mpr hc8)).2) k) ?_
          show own_Go p e below s _ _ (T7.setTop (mkF m 36 #[rv a0] []))
          refine own_via (fun k => XS.aloadN X7.here hx rfl (hb hby d4_36) rfl rfl  k) ?_
          show own_Go p e below s _ _ (T7.setTop (mkF m 37 #[rv a0] [(.ref a0)]))
          obtain ⟨T9, X9, e9, st9⟩ := getF X7 hx hZ hown (host := "") (Or.inl (hw _ (List.mem_of_getElem? (i := 34) rfl))) Via.refl e7 P4 (g := (mkF m 37 #[rv a0] [(.ref a0)])) rfl rfl (hb hby d4_37)
          refine own_via (fun k => st9 _ k) ?_
          show own_Go p e below s _ _ (T9.setTop (mkF m 40 #[rv a0] [(.long w4)]))
          refine own_via (fun k => XS.lconst X9.here hx rfl (hb hby d4_40) (XS.lcmp X9.here hx rfl (hb hby d4_41) rfl k)) ?_
          show own_Go p e below s _ _ (T9.setTop (mkF m 42 #[rv a0] [(.int (lcmpW w4 (0 : Int64)))]))
          by_cases hc10 : w4 = (0 : Int64)
          · refine own_via (fun k => XS.ifNo X9.here hx rfl (hb hby d4_42) rfl ((if0 _ _).trans (teq ((lw_eq _ _).mpr hc10)).2) k) ?_
            show own_Go p e below s _ _ (T9.setTop (mkF m 45 #[rv a0] []))
            refine own_via (fun k => XS.aloadN X9.here hx rfl (hb hby d4_45) rfl rfl  k) ?_
            show own_Go p e below s _ _ (T9.setTop (mkF m 46 #[rv a0] [(.ref a0)]))
            obtain ⟨T11, X11, e11, st11⟩ := getF X9 hx hZ hown (host := "") (Or.inl (hw _ (List.mem_of_getElem? (i := 36) rfl))) Via.refl e9 P5 (g := (mkF m 46 #[rv a0] [(.ref a0)])) rfl rfl (hb hby d4_46)
            refine own_via (fun k => st11 _ k) ?_
            show own_Go p e below s _ _ (T11.setTop (mkF m 49 #[rv a0] [(.long w5)]))
            refine own_via (fun k => XS.lconst X11.here hx rfl (hb hby d4_49) (XS.lcmp X11.here hx rfl (hb hby d4_50) rfl k)) ?_
            show own_Go p e below s _ _ (T11.setTop (mkF m 51 #[rv a0] [(.int (lcmpW w5 (0 : Int64)))]))
            by_cases hc12 : w5 = (0 : Int64)
            · refine own_via (fun k => XS.ifNo X11.here hx rfl (hb hby d4_51) rfl ((if0 _ _).trans (teq ((lw_eq _ _).mpr hc12)).2) k) ?_
              show own_Go p e below s _ _ (T11.setTop (mkF m 54 #[rv a0] []))
              refine own_via (fun k => XS.iconst X11.here hx rfl (hb hby d4_54) (XS.goto X11.here hx rfl (pc0 := 55) (pc' := 59) rfl (hb hby d4_55) (by decide) (by decide) k)) ?_
              show own_Go p e below s _ _ (T11.setTop (mkF m 59 #[rv a0] [(.int 1)]))
              exact own_retN X11 hx hlk (t := .boolean) Bd.returns (by simp) (hb hby d4_59) (Q := (Q4 Z a0 w0 w1 w2 w3 w4 w5 h0 n0)) ⟨(congrArg (fun z => some (Value.int z)) (show (1 : Int32) = (own_f4 w0 w1 w2 w3 w4 w5) from (by unfold own_f4; exact ((if_pos hc2).trans ((if_pos hc4).trans ((if_pos hc6).trans ((if_pos hc8).trans ((if_pos hc10).trans ((if_pos hc12).trans rfl)))))).symm))), N0, e11⟩ (by decide) (by decide)
            · refine own_via (fun k => XS.ifYes X11.here hx rfl (pc0 := 51) (pc' := 58) rfl (hb hby d4_51) rfl ((if0 _ _).trans (feq (mt (lw_eq _ _).mp hc12)).2) (by decide) (by decide) k) ?_
              show own_Go p e below s _ _ (T11.setTop (mkF m 58 #[rv a0] []))
              refine own_via (fun k => XS.iconst X11.here hx rfl (hb hby d4_58) k) ?_
              show own_Go p e below s _ _ (T11.setTop (mkF m 59 #[rv a0] [(.int 0)]))
              exact own_retN X11 hx hlk (t := .boolean) Bd.returns (by simp) (hb hby d4_59) (Q := (Q4 Z a0 w0 w1 w2 w3 w4 w5 h0 n0)) ⟨(congrArg (fun z => some (Value.int z)) (show (0 : Int32) = (own_f4 w0 w1 w2 w3 w4 w5) from (by unfold own_f4; exact ((if_pos hc2).trans ((if_pos hc4).trans ((if_pos hc6).trans ((if_pos hc8).trans ((if_pos hc10).trans ((if_neg hc12).trans rfl)))))).symm))), N0, e11⟩ (by decide) (by decide)
          · refine own_via (fun k => XS.ifYes X9.here hx rfl (pc0 := 42) (pc' := 58) rfl (hb hby d4_42) rfl ((if0 _ _).trans (feq (mt (lw_eq _ _).mp hc10)).2) (by decide) (by decide) k) ?_
            show own_Go p e below s _ _ (T9.setTop (mkF m 58 #[rv a0] []))
            refine own_via (fun k => XS.iconst X9.here hx rfl (hb hby d4_58) k) ?_
            show own_Go p e below s _ _ (T9.setTop (mkF m 59 #[rv a0] [(.int 0)]))
            exact own_retN X9 hx hlk (t := .boolean) Bd.returns (by simp) (hb hby d4_59) (Q := (Q4 Z a0 w0 w1 w2 w3 w4 w5 h0 n0)) ⟨(congrArg (fun z => some (Value.int z)) (show (0 : Int32) = (own_f4 w0 w1 w2 w3 w4 w5) from (by unfold own_f4; exact ((if_pos hc2).trans ((if_pos hc4).trans ((if_pos hc6).trans ((if_pos hc8).trans ((if_neg hc10).trans rfl))))).symm))), N0, e9⟩ (by decide) (by decide)
        · refine own_via (fun k => XS.ifYes X7.here hx rfl (pc0 := 33) (pc' := 58) rfl (hb hby d4_33) rfl ((if0 _ _).trans (feq (mt (lw_eq _ _).mp hc8)).2) (by decide) (by decide) k) ?_
          show own_Go p e below s _ _ (T7.setTop (mkF m 58 #[rv a0] []))
          refine own_via (fun k => XS.iconst X7.here hx rfl (hb hby d4_58) k) ?_
          show own_Go p e below s _ _ (T7.setTop (mkF m 59 #[rv a0] [(.int 0)]))
          exact own_retN X7 hx hlk (t := .boolean) Bd.returns (by simp) (hb hby d4_59) (Q := (Q4 Z a0 w0 w1 w2 w3 w4 w5 h0 n0)) ⟨(congrArg (fun z => some (Value.int z)) (show (0 : Int32) = (own_f4 w0 w1 w2 w3 w4 w5) from (by unfold own_f4; exact ((if_pos hc2).trans ((if_pos hc4).trans ((if_pos hc6).trans ((if_neg hc8).trans rfl)))).symm))), N0, e7⟩ (by decide) (by decide)
      · refine own_via (fun k => XS.ifYes X5.here hx rfl (pc0 := 24) (pc' := 58) rfl (hb hby d4_24) rfl ((if0 _ _).trans (feq (mt (lw_eq _ _).mp hc6)).2) (by decide) (by decide) k) ?_
        show own_Go p e below s _ _ (T5.setTop (mkF m 58 #[rv a0] []))
        refine own_via (fun k => XS.iconst X5.here hx rfl (hb hby d4_58) k) ?_
        show own_Go p e below s _ _ (T5.setTop (mkF m 59 #[rv a0] [(.int 0)]))
        exact own_retN X5 hx hlk (t := .boolean) Bd.returns (by simp) (hb hby d4_59) (Q := (Q4 Z a0 w0 w1 w2 w3 w4 w5 h0 n0)) ⟨(congrArg (fun z => some (Value.int z)) (show (0 : Int32) = (own_f4 w0 w1 w2 w3 w4 w5) from (by unfold own_f4; exact ((if_pos hc2).trans ((if_pos hc4).trans ((if_neg hc6).trans rfl))).symm))), N0, e5⟩ (by decide) (by decide)
    · refine own_via (fun k => XS.ifYes X3.here hx rfl (pc0 := 15) (pc' := 58) rfl (hb hby d4_15) rfl ((if0 _ _).trans (feq (mt (lw_eq _ _).mp hc4)).2) (by decide) (by decide) k) ?_
      show own_Go p e below s _ _ (T3.setTop (mkF m 58 #[rv a0] []))
      refine own_via (fun k => XS.iconst X3.here hx rfl (hb hby d4_58) k) ?_
      show own_Go p e below s _ _ (T3.setTop (mkF m 59 #[rv a0] [(.int 0)]))
      exact own_retN X3 hx hlk (t := .boolean) Bd.returns (by simp) (hb hby d4_59) (Q := (Q4 Z a0 w0 w1 w2 w3 w4 w5 h0 n0)) ⟨(congrArg (fun z => some (Value.int z)) (show (0 : Int32) = (own_f4 w0 w1 w2 w3 w4 w5) from (by unfold own_f4; exact ((if_pos hc2).trans ((if_neg hc4).trans rfl)).symm))), N0, e3⟩ (by decide) (by decide)
  · refine own_via (fun k => XS.ifYes X1.here hx rfl (pc0 := 6) (pc' := 58) rfl (hb hby d4_6) rfl ((if0 _ _).trans (feq (mt (lw_eq _ _).mp hc2)).2) (by decide) (by decide) k) ?_
    show own_Go p e below s _ _ (T1.setTop (mkF m 58 #[rv a0] []))
    refine own_via (fun k => XS.iconst X1.here hx rfl (hb hby d4_58) k) ?_
    show own_Go p e below s _ _ (T1.setTop (mkF m 59 #[rv a0] [(.int 0)]))
    exact own_retN X1 hx hlk (t := .boolean) Bd.returns (by simp) (hb hby d4_59) (Q := (Q4 Z a0 w0 w1 w2 w3 w4 w5 h0 n0)) ⟨(congrArg (fun z => some (Value.int z)) (show (0 : Int32) = (own_f4 w0 w1 w2 w3 w4 w5) from (by unfold own_f4; exact ((if_neg hc2).trans rfl).symm))), N0, e1⟩ (by decide) (by decide)
theorem pn_0 : plainName "com/example/waveslot/waveslot/core/TdmReportValidPinLaw" = true := by first | (simp [plainName, overriddenIn]; done) | decide +kernel
theorem pd_0 : parseMethodDescriptor "(IIIIJJJJJJJJ)V" = some ⟨[.int, .int, .int, .int, .long, .long, .long, .long, .long, .long, .long, .long], none⟩ := by decide +kernel
theorem pd_2 : parseMethodDescriptor "()Z" = some ⟨[], some .boolean⟩ := by decide +kernel
theorem ef_0 (m : MethodId) (x0 : Int64) (x1 : Int64) (x2 : Int64) (x3 : Int64) (x4 : Int64) (x5 : Int64) : entryFrame m #[(.long x0), (.long x1), (.long x2), (.long x3), (.long x4), (.long x5)] maxLocals = mkF m 0 #[jv x0, .second, jv x1, .second, jv x2, .second, jv x3, .second, jv x4, .second, jv x5, .second, .unset, .unset] [] := by first | (simp [entryFrame, mkF, argsToLocals, Value.category, maxLocals]; done) | rfl
theorem own_or0 (a b : Int64) : (a ||| b) = 0 ↔ a = 0 ∧ b = 0 := by
  rw [← Int64.toBitVec_inj, ← Int64.toBitVec_inj, ← Int64.toBitVec_inj (a := b), Int64.toBitVec_or]; exact BitVec.or_eq_zero_iff
theorem own_law (q0 : Int64) (q1 : Int64) (q2 : Int64) (q3 : Int64) (q4 : Int64) (q5 : Int64) (z26 : Int32) (hz26 : z26 = (if (((((q0 ||| q1) ||| q2) ||| q3) ||| q4) ||| q5) = (0 : Int64) then (1 : Int32) else (0 : Int32))) : (own_f4 q0 q1 q2 q3 q4 q5) = z26 := by
  subst hz26
  simp only [own_f4, own_or0]
  by_cases h0 : q0 = 0 <;> by_cases h1 : q1 = 0 <;> by_cases h2 : q2 = 0 <;> by_cases h3 : q3 = 0 <;> by_cases h4 : q4 = 0 <;> by_cases h5 : q5 = 0 <;> simp [h0, h1, h2, h3, h4, h5]
def Q0 (Z : State) (q0 : Int64) (q1 : Int64) (q2 : Int64) (q3 : Int64) (q4 : Int64) (q5 : Int64) (h0 : Heap) (n0 : Nat) (v : Option Value) (h : Heap) (L : List Loc) : Prop := v = some (.int 1) ∧ Fr n0 L
set_option maxRecDepth 65536 in
set_option maxHeartbeats 40000000 in
theorem rm0 (l : Launch) (Z : State) (aw : Array Value) (hw : ∀ d ∈ tables_1, d.before aw Z = true) (ws : List Jvm.Cond) (q0 : Int64) (q1 : Int64) (q2 : Int64) (q3 : Int64) (q4 : Int64) (q5 : Int64) (h0 : Heap) (n0 : Nat) (Z0 : n0 ≤ h0.size)  :
    MetFree l x (head1 (Jvm.Cond.code x code maxLocals ret :: ws) room_1) (fun a U => a = #[(.long q0), (.long q1), (.long q2), (.long q3), (.long q4), (.long q5)] ∧ Z.Warmed39 U.vm ∧ U.heap = h0) (fun _ _ _ _ _ => True) (fun _ U o U' => ∃ v L, o = .returned v ∧ Q0 Z q0 q1 q2 q3 q4 q5 h0 n0 v U'.heap L ∧ FrameEnd U o U' L room_1.cells room_1.slots) := by
  refine MetFree.of_bodySF (plainFor_of_name pn_0) hisR ?_
  intro p e s m args below meth c s₁ Bd hml0 hP hK
  obtain ⟨rfl, hZ, hh⟩ := hP
  have hx := Bd.exec
  have hby := Bd.bytes
  have hml : c.maxLocals = 14 := hml0
  have hown : s.vm.findClass "com/example/waveslot/waveslot/core/TdmReportValidPinLaw" = some m.cls := findClass_of_methodNamed Bd.named
  have hnm := (name_of_methodNamed Bd.named Bd.method).1
  have hlk : meth.locks = false := by first | exact BodyLoose.notSynchronized (by assumption) | exact Body.notSynchronized (by assumption)
  have X0 : Stand p l e room_1 s m #[(.long q0), (.long q1), (.long q2), (.long q3), (.long q4), (.long q5)] below meth c s₁ [] 0 0 := Stand.of_body Bd
  have e0 : s₁.heap = h0 := by rw [← hh, Bd.state]; rfl
  have N0 := Fr.nil n0
  refine own_start (CS := (room_1.cells, room_1.slots)) (Q := (Q0 Z q0 q1 q2 q3 q4 q5 h0 n0)) (ef_0 m q0 q1 q2 q3 q4 q5) ?_
  show own_Go p e below s _ _ (s₁.setTop (mkF m 0 #[jv q0, .second, jv q1, .second, jv q2, .second, jv q3, .second, jv q4, .second, jv q5, .second, .unset, .unset] []))
  obtain ⟨T1, h1, X1, e1, E1, A1, D1, -, st1⟩ := newO X0 hx hZ hown (hw _ (List.mem_of_getElem? (i := 0) rfl)) (hw _ (List.mem_of_getElem? (i := 1) rfl)) (hw _ (List.mem_of_getElem? (i := 2) rfl)) e0 (g := (mkF m 0 #[jv q0, .second, jv q1, .second, jv q2, .second, jv q3, .second, jv q4, .second, jv q5, .second, .unset, .unset] [])) rfl (hb hby at_0) (by decide) (by decide)
  obtain ⟨b1, g1⟩ : ∃ z, z = h0.size := ⟨_, rfl⟩
  rw [← g1] at A1 D1 st1
  refine own_via (fun k => st1 _ k) ?_
  show own_Go p e below s _ _ (T1.setTop (mkF m 3 #[jv q0, .second, jv q1, .second, jv q2, .second, jv q3, .second, jv q4, .second, jv q5, .second, .unset, .unset] [(.ref b1)]))
  have g2 : n0 ≤ b1 := Nat.le_trans Z0 (Nat.le_of_eq g1.symm)
  have Z3 : n0 ≤ h1.size := Nat.le_trans Z0 E1.1
  have B4 : Fld Z h1 b1 "com/example/waveslot/waveslot/core/TdmReport" "stations" "I" (.int 0) := D1 (Or.inr (hw _ (List.mem_of_getElem? (i := 15) rfl))) (ty := .int) (by decide)
  have B5 : Fld Z h1 b1 "com/example/waveslot/waveslot/core/TdmReport" "channels" "I" (.int 0) := D1 (Or.inr (hw _ (List.mem_of_getElem? (i := 17) rfl))) (ty := .int) (by decide)
  have B6 : Fld Z h1 b1 "com/example/waveslot/waveslot/core/TdmReport" "tuning" "I" (.int 0) := D1 (Or.inr (hw _ (List.mem_of_getElem? (i := 19) rfl))) (ty := .int) (by decide)
  have B7 : Fld Z h1 b1 "com/example/waveslot/waveslot/core/TdmReport" "length" "I" (.int 0) := D1 (Or.inr (hw _ (List.mem_of_getElem? (i := 21) rfl))) (ty := .int) (by decide)
  have B8 : Fld Z h1 b1 "com/example/waveslot/waveslot/core/TdmReport" "bandwidthBound" "J" (.long 0) := D1 (Or.inr (hw _ (List.mem_of_getElem? (i := 23) rfl))) (ty := .long) (by decide)
  have B9 : Fld Z h1 b1 "com/example/waveslot/waveslot/core/TdmReport" "tuningBound" "J" (.long 0) := D1 (Or.inr (hw _ (List.mem_of_getElem? (i := 25) rfl))) (ty := .long) (by decide)
  have B10 : Fld Z h1 b1 "com/example/waveslot/waveslot/core/TdmReport" "collisions" "J" (.long 0) := D1 (Or.inr (hw _ (List.mem_of_getElem? (i := 27) rfl))) (ty := .long) (by decide)
  have B11 : Fld Z h1 b1 "com/example/waveslot/waveslot/core/TdmReport" "tuningViolations" "J" (.long 0) := D1 (Or.inr (hw _ (List.mem_of_getElem? (i := 29) rfl))) (ty := .long) (by decide)
  have B12 : Fld Z h1 b1 "com/example/waveslot/waveslot/core/TdmReport" "missing" "J" (.long 0) := D1 (Or.inr (hw _ (List.mem_of_getElem? (i := 31) rfl))) (ty := .long) (by decide)
  have B13 : Fld Z h1 b1 "com/example/waveslot/waveslot/core/TdmReport" "unexpected" "J" (.long 0) := D1 (Or.inr (hw _ (List.mem_of_getElem? (i := 33) rfl))) (ty := .long) (by decide)
  have B14 : Fld Z h1 b1 "com/example/waveslot/waveslot/core/TdmReport" "wrongLength" "J" (.long 0) := D1 (Or.inr (hw _ (List.mem_of_getElem? (i := 35) rfl))) (ty := .long) (by decide)
  have B15 : Fld Z h1 b1 "com/example/waveslot/waveslot/core/TdmReport" "outOfRange" "J" (.long 0) := D1 (Or.inr (hw _ (List.mem_of_getElem? (i := 37) rfl))) (ty := .long) (by decide)
  refine own_via (fun k => XS.dup X1.here hx rfl (hb hby at_3) rfl rfl (XS.lloadN X1.here hx rfl (hb hby at_4) rfl  (XS.bipush X1.here hx rfl (hb hby at_5) (XS.lushr X1.here hx rfl (hb hby at_7) rfl k)))) ?_
  show own_Go p e below s _ _ (T1.setTop (mkF m 8 #[jv q0, .second, jv q1, .second, jv q2, .second, jv q3, .second, jv q4, .second, jv q5, .second, .unset, .unset] [(.long ((q0.toUInt64 >>> ((32 : Int32) &&& 0x3f).toInt64.toUInt64).toInt64)), (.ref b1), (.ref b1)]))
  refine own_via (fun k => XS.l2i X1.here hx rfl (hb hby at_8) rfl (XS.lloadN X1.here hx rfl (hb hby at_9) rfl  (XS.bipush X1.here hx rfl (hb hby at_10) (XS.lushr X1.here hx rfl (hb hby at_12) rfl k)))) ?_
  show own_Go p e below s _ _ (T1.setTop (mkF m 13 #[jv q0, .second, jv q1, .second, jv q2, .second, jv q3, .second, jv q4, .second, jv q5, .second, .unset, .unset] [(.long ((q1.toUInt64 >>> ((32 : Int32) &&& 0x3f).toInt64.toUInt64).toInt64)), (.int (((q0.toUInt64 >>> ((32 : Int32) &&& 0x3f).toInt64.toUInt64).toInt64).toInt32)), (.ref b1), (.ref b1)]))
  refine own_via (fun k => XS.l2i X1.here hx rfl (hb hby at_13) rfl (XS.lload X1.here hx rfl (hb hby at_14) rfl  (XS.l2i X1.here hx rfl (hb hby at_16) rfl (XS.lload X1.here hx rfl (hb hby at_17) rfl  k)))) ?_
  show own_Go p e below s _ _ (T1.setTop (mkF m 19 #[jv q0, .second, jv q1, .second, jv q2, .second, jv q3, .second, jv q4, .second, jv q5, .second, .unset, .unset] [(.long q3), (.int (q2.toInt32)), (.int (((q1.toUInt64 >>> ((32 : Int32) &&& 0x3f).toInt64.toUInt64).toInt64).toInt32)), (.int (((q0.toUInt64 >>> ((32 : Int32) &&& 0x3f).toInt64.toUInt64).toInt64).toInt32)), (.ref b1), (.ref b1)]))
  refine own_via (fun k => XS.l2i X1.here hx rfl (hb hby at_19) rfl (XS.lloadN X1.here hx rfl (hb hby at_20) rfl  (XS.lloadN X1.here hx rfl (hb hby at_21) rfl  (XS.lxor X1.here hx rfl (hb hby at_22) rfl k)))) ?_
  show own_Go p e below s _ _ (T1.setTop (mkF m 23 #[jv q0, .second, jv q1, .second, jv q2, .second, jv q3, .second, jv q4, .second, jv q5, .second, .unset, .unset] [(.long (q0 ^^^ q1)), (.int (q3.toInt32)), (.int (q2.toInt32)), (.int (((q1.toUInt64 >>> ((32 : Int32) &&& 0x3f).toInt64.toUInt64).toInt64).toInt32)), (.int (((q0.toUInt64 >>> ((32 : Int32) &&& 0x3f).toInt64.toUInt64).toInt64).toInt32)), (.ref b1), (.ref b1)]))
  refine own_via (fun k => XS.lload X1.here hx rfl (hb hby at_23) rfl  (XS.lload X1.here hx rfl (hb hby at_25) rfl  (XS.lsub X1.here hx rfl (hb hby at_27) rfl (XS.lloadN X1.here hx rfl (hb hby at_28) rfl  k)))) ?_
  show own_Go p e below s _ _ (T1.setTop (mkF m 29 #[jv q0, .second, jv q1, .second, jv q2, .second, jv q3, .second, jv q4, .second, jv q5, .second, .unset, .unset] [(.long q0), (.long (q4 - q5)), (.long (q0 ^^^ q1)), (.int (q3.toInt32)), (.int (q2.toInt32)), (.int (((q1.toUInt64 >>> ((32 : Int32) &&& 0x3f).toInt64.toUInt64).toInt64).toInt32)), (.int (((q0.toUInt64 >>> ((32 : Int32) &&& 0x3f).toInt64.toUInt64).toInt64).toInt32)), (.ref b1), (.ref b1)]))
  refine own_via (fun k => XS.lloadN X1.here hx rfl (hb hby at_29) rfl  (XS.lload X1.here hx rfl (hb hby at_30) rfl  (XS.lload X1.here hx rfl (hb hby at_32) rfl  (XS.lload X1.here hx rfl (hb hby at_34) rfl  k)))) ?_
  show own_Go p e below s _ _ (T1.setTop (mkF m 36 #[jv q0, .second, jv q1, .second, jv q2, .second, jv q3, .second, jv q4, .second, jv q5, .second, .unset, .unset] [(.long q4), (.long q3), (.long q2), (.long q1), (.long q0), (.long (q4 - q5)), (.long (q0 ^^^ q1)), (.int (q3.toInt32)), (.int (q2.toInt32)), (.int (((q1.toUInt64 >>> ((32 : Int32) &&& 0x3f).toInt64.toUInt64).toInt64).toInt32)), (.int (((q0.toUInt64 >>> ((32 : Int32) &&& 0x3f).toInt64.toUInt64).toInt64).toInt32)), (.ref b1), (.ref b1)]))
  refine own_via (fun k => XS.lload X1.here hx rfl (hb hby at_36) rfl  k) ?_
  show own_Go p e below s _ _ (T1.setTop (mkF m 38 #[jv q0, .second, jv q1, .second, jv q2, .second, jv q3, .second, jv q4, .second, jv q5, .second, .unset, .unset] [(.long q5), (.long q4), (.long q3), (.long q2), (.long q1), (.long q0), (.long (q4 - q5)), (.long (q0 ^^^ q1)), (.int (q3.toInt32)), (.int (q2.toInt32)), (.int (((q1.toUInt64 >>> ((32 : Int32) &&& 0x3f).toInt64.toUInt64).toInt64).toInt32)), (.int (((q0.toUInt64 >>> ((32 : Int32) &&& 0x3f).toInt64.toUInt64).toInt64).toInt32)), (.ref b1), (.ref b1)]))
  obtain ⟨_, _, ⟨T16, L16, k16, n16⟩, -, X16, ⟨Lc16, hQ16, l16, y16, z16⟩, st16⟩ := X1.specialBack hx (y := (⟨"com/example/waveslot/waveslot/core/TdmReport", "<init>", "(IIIIJJJJJJJJ)V"⟩ : MethodName)) rfl hown (mvT hZ (hw _ (List.mem_of_getElem? (i := 3) rfl))) (mvT hZ (hw _ (List.mem_of_getElem? (i := 4) rfl))) (mvT hZ (hw _ (List.mem_of_getElem? (i := 5) rfl))) (by decide) (backOf (W := 1) (rm1 l Z aw hw [] b1 (((q0.toUInt64 >>> ((32 : Int32) &&& 0x3f).toInt64.toUInt64).toInt64).toInt32) (((q1.toUInt64 >>> ((32 : Int32) &&& 0x3f).toInt64.toUInt64).toInt64).toInt32) (q2.toInt32) (q3.toInt32) (q0 ^^^ q1) (q4 - q5) q0 q1 q2 q3 q4 q5 h1 n0 Z3 B4 B5 B6 B7 B8 B9 B10 B11 B12 B13 B14 B15 A1 g2) hZ (hw _ (List.mem_of_getElem? (i := 5) rfl)) (hw _ (List.mem_of_getElem? (i := 2) rfl)) (by decide) (by decide)) (g := (mkF m 38 #[jv q0, .second, jv q1, .second, jv q2, .second, jv q3, .second, jv q4, .second, jv q5, .second, .unset, .unset] [(.long q5), (.long q4), (.long q3), (.long q2), (.long q1), (.long q0), (.long (q4 - q5)), (.long (q0 ^^^ q1)), (.int (q3.toInt32)), (.int (q2.toInt32)), (.int (((q1.toUInt64 >>> ((32 : Int32) &&& 0x3f).toInt64.toUInt64).toInt64).toInt32)), (.int (((q0.toUInt64 >>> ((32 : Int32) &&& 0x3f).toInt64.toUInt64).toInt64).toInt32)), (.ref b1), (.ref b1)])) rfl (by rw [hml]; rfl) (Steps.refl _) (a := b1) (argsL := [(.int (((q0.toUInt64 >>> ((32 : Int32) &&& 0x3f).toInt64.toUInt64).toInt64).toInt32)), (.int (((q1.toUInt64 >>> ((32 : Int32) &&& 0x3f).toInt64.toUInt64).toInt64).toInt32)), (.int (q2.toInt32)), (.int (q3.toInt32)), (.long (q0 ^^^ q1)), (.long (q4 - q5)), (.long q0), (.long q1), (.long q2), (.long q3), (.long q4), (.long q5)]) (rest := [(.ref b1)]) (lenOf pd_0 rfl) rfl (by show 2 * 0 + _ ≤ _; exact Nat.le_of_eq rfl) (hb hby at_38) (fun _ _ => ⟨rfl, e1, (by decide : 1 + 0 ≤ _), (by decide : 12 + 0 ≤ _)⟩)
  dsimp only [Pt.U, Pt.locs, Pt.cells, Pt.slots] at X16 l16 y16 z16 st16 hQ16
  subst l16 y16 z16
  obtain ⟨rfl, N16q, K16, B17, B18, B19, B20, B21, B22⟩ := hQ16
  have N23 := Fr.app N0 N16q
  have B24 := A1.keep K16
  have Z25 : n0 ≤ T16.heap.size := Nat.le_trans Z3 K16.1
  refine own_via (fun k => st16.trans k) ?_
  show own_Go p e below s _ _ (T16.setTop (mkF m 41 #[jv q0, .second, jv q1, .second, jv q2, .second, jv q3, .second, jv q4, .second, jv q5, .second, .unset, .unset] [(.ref b1)]))
  refine own_via (fun k => XS.astore X16.here hx rfl (hb hby at_41) rfl rfl (l' := #[jv q0, .second, jv q1, .second, jv q2, .second, jv q3, .second, jv q4, .second, jv q5, .second, rv b1, .unset]) rfl (XS.lloadN X16.here hx rfl (hb hby at_43) rfl  (XS.lloadN X16.here hx rfl (hb hby at_44) rfl  (XS.lor X16.here hx rfl (hb hby at_45) rfl k)))) ?_
  show own_Go p e below s _ _ (T16.setTop (mkF m 46 #[jv q0, .second, jv q1, .second, jv q2, .second, jv q3, .second, jv q4, .second, jv q5, .second, rv b1, .unset] [(.long (q0 ||| q1))]))
  refine own_via (fun k => XS.lload X16.here hx rfl (hb hby at_46) rfl  (XS.lor X16.here hx rfl (hb hby at_48) rfl (XS.lload X16.here hx rfl (hb hby at_49) rfl  (XS.lor X16.here hx rfl (hb hby at_51) rfl k)))) ?_
  show own_Go p e below s _ _ (T16.setTop (mkF m 52 #[jv q0, .second, jv q1, .second, jv q2, .second, jv q3, .second, jv q4, .second, jv q5, .second, rv b1, .unset] [(.long (((q0 ||| q1) ||| q2) ||| q3))]))
  refine own_via (fun k => XS.lload X16.here hx rfl (hb hby at_52) rfl  (XS.lor X16.here hx rfl (hb hby at_54) rfl (XS.lload X16.here hx rfl (hb hby at_55) rfl  (XS.lor X16.here hx rfl (hb hby at_57) rfl k)))) ?_
  show own_Go p e below s _ _ (T16.setTop (mkF m 58 #[jv q0, .second, jv q1, .second, jv q2, .second, jv q3, .second, jv q4, .second, jv q5, .second, rv b1, .unset] [(.long (((((q0 ||| q1) ||| q2) ||| q3) ||| q4) ||| q5))]))
  refine own_via (fun k => XS.lconst X16.here hx rfl (hb hby at_58) (XS.lcmp X16.here hx rfl (hb hby at_59) rfl k)) ?_
  show own_Go p e below s _ _ (T16.setTop (mkF m 60 #[jv q0, .second, jv q1, .second, jv q2, .second, jv q3, .second, jv q4, .second, jv q5, .second, rv b1, .unset] [(.int (lcmpW (((((q0 ||| q1) ||| q2) ||| q3) ||| q4) ||| q5) (0 : Int64)))]))
  have J27 : ∀ (z26 : Int32), z26 = (if (((((q0 ||| q1) ||| q2) ||| q3) ||| q4) ||| q5) = (0 : Int64) then (1 : Int32) else (0 : Int32)) → own_Go p e below s (Q0 Z q0 q1 q2 q3 q4 q5 h0 n0) (room_1.cells, room_1.slots) (T16.setTop (mkF m 68 #[jv q0, .second, jv q1, .second, jv q2, .second, jv q3, .second, jv q4, .second, jv q5, .second, rv b1, .unset] [(.int z26)])) := by
    intro z26 hz26
    refine own_via (fun k => XS.istore X16.here hx rfl (hb hby at_68) rfl (l' := #[jv q0, .second, jv q1, .second, jv q2, .second, jv q3, .second, jv q4, .second, jv q5, .second, rv b1, iv z26]) rfl (XS.aload X16.here hx rfl (hb hby at_70) rfl rfl  k)) ?_
    show own_Go p e below s _ _ (T16.setTop (mkF m 72 #[jv q0, .second, jv q1, .second, jv q2, .second, jv q3, .second, jv q4, .second, jv q5, .second, rv b1, iv z26] [(.ref b1)]))
    obtain ⟨cq28, kq28, q28a, q28b, q28c⟩ := isOf hZ rfl B24
    obtain ⟨_, _, ⟨T28, L28, k28, n28⟩, -, X28, ⟨Lc28, hQ28, l28, y28, z28⟩, st28⟩ := X16.virtualBack hx (y := (⟨"com/example/waveslot/waveslot/core/TdmReport", "valid", "()Z"⟩ : MethodName)) (z := (⟨"com/example/waveslot/waveslot/core/TdmReport", "valid", "()Z"⟩ : MethodName)) hown (mvT hZ (hw _ (List.mem_of_getElem? (i := 38) rfl))) (mvT hZ (hw _ (List.mem_of_getElem? (i := 39) rfl))) (notFace_of_selects (args := #[]) (mvT hZ (hw _ (List.mem_of_getElem? (i := 41) rfl)))) (mvT hZ (hw _ (List.mem_of_getElem? (i := 41) rfl))) (mvT hZ (hw _ (List.mem_of_getElem? (i := 40) rfl))) (by decide) (backOf (W := 0) (rm4 l Z aw hw [] b1 q0 q1 q2 q3 q4 q5 T16.heap n0 Z25 B17 B18 B19 B20 B21 B22) hZ (hw _ (List.mem_of_getElem? (i := 42) rfl)) (hw _ (List.mem_of_getElem? (i := 2) rfl)) (by decide) (by decide)) q28a q28c (g := (mkF m 72 #[jv q0, .second, jv q1, .second, jv q2, .second, jv q3, .second, jv q4, .second, jv q5, .second, rv b1, iv z26] [(.ref b1)])) rfl (by rw [hml]; rfl) (Steps.refl _) (argsL := []) (rest := []) (lenOf pd_2 rfl) rfl (by show 2 * 0 + _ ≤ _; exact Nat.le_of_eq rfl) (hb hby at_72) (fun _ _ => ⟨rfl, rfl, (by decide : 1 + 0 ≤ _), (by decide : 12 + 0 ≤ _)⟩)
    dsimp only [Pt.U, Pt.locs, Pt.cells, Pt.slots] at X28 l28 y28 z28 st28 hQ28
    subst l28 y28 z28
    obtain ⟨rfl, N28q, eh28⟩ := hQ28
    have N29 := Fr.app N23 N28q
    refine own_via (fun k => st28.trans k) ?_
    show own_Go p e below s _ _ (T28.setTop (mkF m 75 #[jv q0, .second, jv q1, .second, jv q2, .second, jv q3, .second, jv q4, .second, jv q5, .second, rv b1, iv z26] [(.int (own_f4 q0 q1 q2 q3 q4 q5))]))
    refine own_via (fun k => XS.iload X28.here hx rfl (hb hby at_75) rfl  k) ?_
    show own_Go p e below s _ _ (T28.setTop (mkF m 77 #[jv q0, .second, jv q1, .second, jv q2, .second, jv q3, .second, jv q4, .second, jv q5, .second, rv b1, iv z26] [(.int z26), (.int (own_f4 q0 q1 q2 q3 q4 q5))]))
    refine own_via (fun k => XS.icmpNo X28.here hx rfl (hb hby at_77) rfl (teq (own_law q0 q1 q2 q3 q4 q5 z26 hz26)).2 k) ?_
    show own_Go p e below s _ _ (T28.setTop (mkF m 80 #[jv q0, .second, jv q1, .second, jv q2, .second, jv q3, .second, jv q4, .second, jv q5, .second, rv b1, iv z26] []))
    refine own_via (fun k => XS.iconst X28.here hx rfl (hb hby at_80) (XS.goto X28.here hx rfl (pc0 := 81) (pc' := 85) rfl (hb hby at_81) (by decide) (by decide) k)) ?_
    show own_Go p e below s _ _ (T28.setTop (mkF m 85 #[jv q0, .second, jv q1, .second, jv q2, .second, jv q3, .second, jv q4, .second, jv q5, .second, rv b1, iv z26] [(.int 1)]))
    exact own_retN X28 hx hlk (t := .boolean) Bd.returns (by simp) (hb hby at_85) (Q := (Q0 Z q0 q1 q2 q3 q4 q5 h0 n0)) ⟨rfl, N29⟩ (by decide) (by decide)
  by_cases hc30 : (((((q0 ||| q1) ||| q2) ||| q3) ||| q4) ||| q5) = (0 : Int64)
  · refine own_via (fun k => XS.ifNo X16.here hx rfl (hb hby at_60) rfl ((if0 _ _).trans (teq ((lw_eq _ _).mpr hc30)).2) k) ?_
    show own_Go p e below s _ _ (T16.setTop (mkF m 63 #[jv q0, .second, jv q1, .second, jv q2, .second, jv q3, .second, jv q4, .second, jv q5, .second, rv b1, .unset] []))
    refine own_via (fun k => XS.iconst X16.here hx rfl (hb hby at_63) (XS.goto X16.here hx rfl (pc0 := 64) (pc' := 68) rfl (hb hby at_64) (by decide) (by decide) k)) ?_
    show own_Go p e below s _ _ (T16.setTop (mkF m 68 #[jv q0, .second, jv q1, .second, jv q2, .second, jv q3, .second, jv q4, .second, jv q5, .second, rv b1, .unset] [(.int 1)]))
    exact J27 (1 : Int32) (((if_pos hc30).trans rfl)).symm
  · refine own_via (fun k => XS.ifYes X16.here hx rfl (pc0 := 60) (pc' := 67) rfl (hb hby at_60) rfl ((if0 _ _).trans (feq (mt (lw_eq _ _).mp hc30)).2) (by decide) (by decide) k) ?_
    show own_Go p e below s _ _ (T16.setTop (mkF m 67 #[jv q0, .second, jv q1, .second, jv q2, .second, jv q3, .second, jv q4, .second, jv q5, .second, rv b1, .unset] []))
    refine own_via (fun k => XS.iconst X16.here hx rfl (hb hby at_67) k) ?_
    show own_Go p e below s _ _ (T16.setTop (mkF m 68 #[jv q0, .second, jv q1, .second, jv q2, .second, jv q3, .second, jv q4, .second, jv q5, .second, rv b1, .unset] [(.int 0)]))
    exact J27 (0 : Int32) (((if_neg hc30).trans rfl)).symm
set_option maxRecDepth 65536 in
set_option maxHeartbeats 40000000 in
theorem comes_1 {Post : Tables → Env → Array Value → State → Outcome → State → Prop} (hpost : ∀ tb e args s v u, (limb_1_1.after args s (.returned v) u = true ∧ limb_1_2.after args s (.returned v) u = true ∧ True) → FrameEnd s (.returned v) u (Jvm.fieldLocs frame_1_writes args s ++ Jvm.arrayLocs frame_1_arrays args s ++ Jvm.staticLocs frame_1_statics s) 16 128 → Post tb e args s (.returned v) u) :
    ArmFor flags0 classFile x code maxLocals ret World_1 tables_1 room_1 Calls_1 rest_1 Pre_1 Post := by
  intro l hfl _ _ p e ha hc hk s m args below hf hA hF happ hP
  obtain ⟨hcalls, hrest, hpre⟩ := hP
  obtain ⟨-, -, -, hnamed, -, -, -, hat⟩ := (Spec.applies_iff hf).mp happ
  obtain ⟨hg, hn⟩ := and_e (Cond.before_iff.mp (show (Jvm.Cond.and given_1 narrow_1).before args s = true from hpre))
  obtain ⟨g1, g2⟩ := and_e hg
  obtain ⟨g3, g4⟩ := and_e g2
  obtain ⟨g5, g6⟩ := and_e g4
  obtain ⟨g7, g8⟩ := and_e g6
  obtain ⟨g9, g10⟩ := and_e g8
  obtain ⟨g11, g12⟩ := and_e g10
  obtain ⟨w0, w1, w2, w3, w4, w5, rfl⟩ : ∃ w0 w1 w2 w3 w4 w5 : Value, args = #[w0, w1, w2, w3, w4, w5] := by
    have hs : args.size = 6 := by simpa [Cond.value, given_1] using g1
    obtain ⟨L⟩ := args
    match L, hs with
    | [w0, w1, w2, w3, w4, w5], _ => exact ⟨w0, w1, w2, w3, w4, w5, rfl⟩
  have hw := fun d (hd : d ∈ tables_1) => atoms_spec (ws := Jvm.Cond.code x code maxLocals ret :: tables_1) hat d (List.mem_cons_of_mem _ hd)
  obtain ⟨i0, ei0⟩ := isL_v g3
  obtain rfl : w0 = (.long i0) := Option.some.inj ei0
  obtain ⟨i1, ei1⟩ := isL_v g5
  obtain rfl : w1 = (.long i1) := Option.some.inj ei1
  obtain ⟨i2, ei2⟩ := isL_v g7
  obtain rfl : w2 = (.long i2) := Option.some.inj ei2
  obtain ⟨i3, ei3⟩ := isL_v g9
  obtain rfl : w3 = (.long i3) := Option.some.inj ei3
  obtain ⟨i4, ei4⟩ := isL_v g11
  obtain rfl : w4 = (.long i4) := Option.some.inj ei4
  obtain ⟨i5, ei5⟩ := isL_v g12
  obtain rfl : w5 = (.long i5) := Option.some.inj ei5
  obtain ⟨n, o, h1, h2, h3, _, L, rfl, ⟨rfl, N⟩, hq⟩ := rm0 l s _ hw tables_1 i0 i1 i2 i3 i4 i5 s.heap s.heap.size (Nat.le_refl _) p e ha hc hk s m _ below hf ((Spec.applies_iff_loose hf).mp happ).1 ⟨rfl, State.Warmed39.refl s, rfl⟩ trivial
  refine ⟨n, _, h1, h2, h3, hpost _ _ _ _ _ _ ⟨Cond.after_iff.mpr rfl, Cond.after_iff.mpr (eq_i res_at (Term.int_eval (1)) rfl), trivial⟩ ⟨hq.1, hq.2.1, (hq.2.2.sift fun y hy => Or.inr (N y hy)).mono (by decide) (by decide)⟩⟩
theorem main_1_1 : Claimed_1_1 := comes_1 fun _ _ _ _ _ _ h hF => ⟨h.1, hF⟩
theorem main_1_2 : Claimed_1_2 := comes_1 fun _ _ _ _ _ _ h hF => ⟨h.2.1, hF⟩
end Jvm.Pilot.@@N@@
namespace Jvm.Pilot.@@N@@
open Jvm Jvm.ClassFile Sem Op Lib Jvm.Free Jvm.Stand Jvm.Pilot.@@N@@.Jvm.D
/-! MADE BY PROGRAM (witnessworld.py) out of the Statement's table words and the real class files: 10 classes; the members and pool entries that the words name. The judged class is class 1, her method 1. -/
namespace start1
open Jvm.ClassFile
def u (s : String) : CpInfo := .utf8 (stringToUtf16 s)
/-- a pool by its gaps: so many unusable entries, then the entry; so many at the end -/
def gap : Nat → List CpInfo → List CpInfo
  | 0, r => r
  | n + 1, r => .unusable :: gap n r
def poolList (es : List (Nat × CpInfo)) (last : Nat) : List CpInfo := es.foldr (fun e r => gap e.1 (e.2 :: r)) (gap last [])
def pool (es : List (Nat × CpInfo)) (last : Nat) : Array CpInfo := ⟨poolList es last⟩
def fileOf (pool : Array CpInfo) (this : Nat) (attrs : Array Attribute := #[]) (ms : Array MethodInfo := #[]) (fl : Nat := 33) (sup : Nat := 0) (ifs : Array Nat := #[]) (fds : Array FieldInfo := #[]) : ClassFile where
  minorVersion := 0
  majorVersion := 65
  constantPool := pool
  accessFlags := fl
  thisClass := this
  superClass := sup
  interfaces := ifs
  fields := fds
  methods := ms
  attributes := attrs
def plain (name : String) (sup : Option ClassId) : Class where
  name := name
  kind := .ordinary
  loader := none
  accessFlags := 33
  super := sup
  interfaces := #[]
  cf := none
  fields := #[]
  methods := #[]
  instanceTypes := #[]
  staticTypes := #[]
  resolved := #[]
  callSites := []
  init := .initialized
  statics := none
  mirror := none

def pool0 : Array CpInfo := pool [(5, u "<init>"), (0, u "()V"), (1, .class_ 10), (1, u "java/lang/Object")] 113

def k0c0 : Code := { maxStack := 0, maxLocals := 1, code := object_method_1_code, exceptionTable := #[], attributes := #[] }
def k0m0 : Method := { name := "<init>", desc := "()V", sig := { parameters := [], returnType := none }, accessFlags := 1, code := some k0c0 }
/-- java/lang/Object -/
def k0 : Class := { plain "java/lang/Object" none with
  accessFlags := 33
  interfaces := #[]
  cf := some (fileOf pool0 8 #[] #[{ accessFlags := 1, nameIndex := 5, descriptorIndex := 6, attributes := #[] }] 33 0 #[] #[])
  fields := #[]
  methods := #[k0m0]
  instanceTypes := #[]
  staticTypes := #[]
  resolved := Array.replicate 124 none
  statics := none }

def pool1 : Array CpInfo := pool [(2, .class_ 4), (1, u "java/lang/Object"), (0, u "<init>"), (0, u "()V"), (0, .class_ 8), (0, u "com/example/waveslot/waveslot/core/TdmReport"), (0, .methodref 7 10), (0, .nameAndType 5 11), (0, u "(IIIIJJJJJJJJ)V"), (0, .methodref 7 13), (0, .nameAndType 14 15), (0, u "valid"), (0, u "()Z"), (0, .class_ 17), (0, u "com/example/waveslot/waveslot/core/TdmReportValidPinLaw"), (2, u "law"), (0, u "(JJJJJJ)Z")] 3

def k1m0 : Method := { name := "<init>", desc := "()V", sig := { parameters := [], returnType := none }, accessFlags := 1, code := none }
def k1c1 : Code := { maxStack := 22, maxLocals := 14, code := code, exceptionTable := #[], attributes := #[] }
def k1m1 : Method := { name := "law", desc := "(JJJJJJ)Z", sig := { parameters := [.long, .long, .long, .long, .long, .long], returnType := some .boolean }, accessFlags := 9, code := some k1c1 }
/-- com/example/waveslot/waveslot/core/TdmReportValidPinLaw -/
def k1 : Class := { plain "com/example/waveslot/waveslot/core/TdmReportValidPinLaw" (some 0) with
  accessFlags := 49
  interfaces := #[]
  cf := some (fileOf pool1 16 #[] #[{ accessFlags := 1, nameIndex := 5, descriptorIndex := 6, attributes := #[] }, { accessFlags := 9, nameIndex := 20, descriptorIndex := 21, attributes := #[] }] 49 2 #[] #[])
  fields := #[]
  methods := #[k1m0, k1m1]
  instanceTypes := #[]
  staticTypes := #[]
  resolved := Array.replicate 25 none
  statics := none }

def pool2 : Array CpInfo := pool [(1, .methodref 2 3), (0, .class_ 4), (0, .nameAndType 5 6), (0, u "java/lang/Object"), (0, u "<init>"), (0, u "()V"), (0, .class_ 8), (0, u "java/lang/Record")] 13

def k2c0 : Code := { maxStack := 1, maxLocals := 1, code := jdk_30_method_1_code, exceptionTable := #[], attributes := #[] }
def k2m0 : Method := { name := "<init>", desc := "()V", sig := { parameters := [], returnType := none }, accessFlags := 4, code := some k2c0 }
/-- java/lang/Record -/
def k2 : Class := { plain "java/lang/Record" (some 0) with
  accessFlags := 1057
  interfaces := #[]
  cf := some (fileOf pool2 7 #[] #[{ accessFlags := 4, nameIndex := 5, descriptorIndex := 6, attributes := #[] }] 1057 2 #[] #[])
  fields := #[]
  methods := #[k2m0]
  instanceTypes := #[]
  staticTypes := #[]
  resolved := Array.replicate 22 none
  statics := none }

def pool3 : Array CpInfo := pool [(1, .methodref 2 3), (0, .class_ 4), (0, .nameAndType 5 6), (0, u "java/lang/Record"), (0, u "<init>"), (0, u "()V"), (0, .fieldref 8 9), (0, .class_ 10), (0, .nameAndType 11 12), (0, u "com/example/waveslot/waveslot/core/TdmReport"), (0, u "stations"), (0, u "I"), (0, .fieldref 8 14), (0, .nameAndType 15 12), (0, u "channels"), (0, .fieldref 8 17), (0, .nameAndType 18 12), (0, u "tuning"), (0, .fieldref 8 20), (0, .nameAndType 21 12), (0, u "length"), (0, .fieldref 8 23), (0, .nameAndType 24 25), (0, u "bandwidthBound"), (0, u "J"), (0, .fieldref 8 27), (0, .nameAndType 28 25), (0, u "tuningBound"), (0, .fieldref 8 30), (0, .nameAndType 31 25), (0, u "collisions"), (0, .fieldref 8 33), (0, .nameAndType 34 25), (0, u "tuningViolations"), (0, .fieldref 8 36), (0, .nameAndType 37 25), (0, u "missing"), (0, .fieldref 8 39), (0, .nameAndType 40 25), (0, u "unexpected"), (0, .fieldref 8 42), (0, .nameAndType 43 25), (0, u "wrongLength"), (0, .fieldref 8 45), (0, .nameAndType 46 25), (0, u "outOfRange"), (18, u "(IIIIJJJJJJJJ)V"), (5, u "valid"), (0, u "()Z")] 35

def k3c0 : Code := { maxStack := 3, maxLocals := 21, code := prog_73_method_1_code, exceptionTable := #[], attributes := #[] }
def k3m0 : Method := { name := "<init>", desc := "(IIIIJJJJJJJJ)V", sig := { parameters := [.int, .int, .int, .int, .long, .long, .long, .long, .long, .long, .long, .long], returnType := none }, accessFlags := 1, code := some k3c0 }
def k3c1 : Code := { maxStack := 4, maxLocals := 1, code := prog_73_method_3_code, exceptionTable := #[], attributes := #[] }
def k3m1 : Method := { name := "valid", desc := "()Z", sig := { parameters := [], returnType := some .boolean }, accessFlags := 1, code := some k3c1 }
/-- com/example/waveslot/waveslot/core/TdmReport -/
def k3 : Class := { plain "com/example/waveslot/waveslot/core/TdmReport" (some 2) with
  accessFlags := 49
  interfaces := #[]
  cf := some (fileOf pool3 8 #[] #[{ accessFlags := 1, nameIndex := 5, descriptorIndex := 65, attributes := #[] }, { accessFlags := 1, nameIndex := 71, descriptorIndex := 72, attributes := #[] }] 49 2 #[] #[{ accessFlags := 18, nameIndex := 11, descriptorIndex := 12, attributes := #[] }, { accessFlags := 18, nameIndex := 15, descriptorIndex := 12, attributes := #[] }, { accessFlags := 18, nameIndex := 18, descriptorIndex := 12, attributes := #[] }, { accessFlags := 18, nameIndex := 21, descriptorIndex := 12, attributes := #[] }, { accessFlags := 18, nameIndex := 24, descriptorIndex := 25, attributes := #[] }, { accessFlags := 18, nameIndex := 28, descriptorIndex := 25, attributes := #[] }, { accessFlags := 18, nameIndex := 31, descriptorIndex := 25, attributes := #[] }, { accessFlags := 18, nameIndex := 34, descriptorIndex := 25, attributes := #[] }, { accessFlags := 18, nameIndex := 37, descriptorIndex := 25, attributes := #[] }, { accessFlags := 18, nameIndex := 40, descriptorIndex := 25, attributes := #[] }, { accessFlags := 18, nameIndex := 43, descriptorIndex := 25, attributes := #[] }, { accessFlags := 18, nameIndex := 46, descriptorIndex := 25, attributes := #[] }])
  fields := #[{ name := "stations", type := .int, accessFlags := 18, slot := 0, constantValue := 0 }, { name := "channels", type := .int, accessFlags := 18, slot := 1, constantValue := 0 }, { name := "tuning", type := .int, accessFlags := 18, slot := 2, constantValue := 0 }, { name := "length", type := .int, accessFlags := 18, slot := 3, constantValue := 0 }, { name := "bandwidthBound", type := .long, accessFlags := 18, slot := 4, constantValue := 0 }, { name := "tuningBound", type := .long, accessFlags := 18, slot := 5, constantValue := 0 }, { name := "collisions", type := .long, accessFlags := 18, slot := 6, constantValue := 0 }, { name := "tuningViolations", type := .long, accessFlags := 18, slot := 7, constantValue := 0 }, { name := "missing", type := .long, accessFlags := 18, slot := 8, constantValue := 0 }, { name := "unexpected", type := .long, accessFlags := 18, slot := 9, constantValue := 0 }, { name := "wrongLength", type := .long, accessFlags := 18, slot := 10, constantValue := 0 }, { name := "outOfRange", type := .long, accessFlags := 18, slot := 11, constantValue := 0 }]
  methods := #[k3m0, k3m1]
  instanceTypes := #[.int, .int, .int, .int, .long, .long, .long, .long, .long, .long, .long, .long]
  staticTypes := #[]
  resolved := Array.replicate 108 none
  statics := none }

def pool4 : Array CpInfo := pool [(1, u "java/lang/Cloneable"), (0, .class_ 1), (0, u "java/lang/Object"), (0, .class_ 3)] 3

/-- java/lang/Cloneable -/
def k4 : Class := { plain "java/lang/Cloneable" (some 0) with
  accessFlags := 1537
  interfaces := #[]
  cf := some (fileOf pool4 2 #[] #[] 1537 4 #[] #[])
  fields := #[]
  methods := #[]
  instanceTypes := #[]
  staticTypes := #[]
  resolved := Array.replicate 8 none
  statics := none }

def pool5 : Array CpInfo := pool [(1, u "java/io/Serializable"), (0, .class_ 1), (0, u "java/lang/Object"), (0, .class_ 3)] 3

/-- java/io/Serializable -/
def k5 : Class := { plain "java/io/Serializable" (some 0) with
  accessFlags := 1537
  interfaces := #[]
  cf := some (fileOf pool5 2 #[] #[] 1537 4 #[] #[])
  fields := #[]
  methods := #[]
  instanceTypes := #[]
  staticTypes := #[]
  resolved := Array.replicate 8 none
  statics := none }

/-- the primitive byte -/
def k6 : Class := { plain "byte" none with kind := .primitive 'B', accessFlags := 0x411 }
/-- [B -/
def k7 : Class := { plain "[B" (some 0) with kind := .array 6 .byte, interfaces := #[4, 5], accessFlags := 1041 }

/-- the primitive int -/
def k8 : Class := { plain "int" none with kind := .primitive 'I', accessFlags := 0x411 }
/-- [I -/
def k9 : Class := { plain "[I" (some 0) with kind := .array 8 .int, interfaces := #[4, 5], accessFlags := 1041 }

def heap : Heap := #[]
def classes : Array Class := #[k0, k1, k2, k3, k4, k5, k6, k7, k8, k9]
def interned : List (Array UInt16 × Addr) := []
def slotsUsed : Nat := 0
def theMethod : MethodId := ⟨1, 1⟩
def args0 : Array Value := #[.long 5, .long 9, .long 3, .long 1, .long 0, .long 2]
def aboutOver (below : List Frame) : State where
  vm := { classes := classes, interned := interned.toArray }
  heap := heap
  slotsUsed := slotsUsed
  threads := #[{ frames := .invoking theMethod args0 :: below }]
def below0 : List Frame := [.native { method := ⟨0, 0⟩, args := #[] }]
def about1 : State := aboutOver below0
def p0 : Program := .bare "" "" ""
def e0 : Env := launch0.env 0 0 0
theorem w_frames : about1.frames = Frame.invoking theMethod args0 :: below0 := rfl
set_option maxRecDepth 65536 in
theorem w_args : argsFit about1.vm theMethod args0 = true := by decide +kernel
set_option maxRecDepth 65536 in
theorem w_heap : heapFits about1 = true := by decide +kernel
set_option maxRecDepth 65536 in
theorem w_runnable : about1.curStatus? = some .runnable := by decide +kernel
set_option maxRecDepth 65536 in
theorem w_alone : about1.alone = true := by decide +kernel
set_option maxRecDepth 65536 in
theorem w_named : about1.methodNamed? x = some theMethod := by decide +kernel
set_option maxRecDepth 65536 in
theorem w_hears : about1.hears theMethod below0 = true := by decide +kernel
set_option maxRecDepth 65536 in
theorem w_ripe : about1.ripe theMethod args0 below0 = true := by decide +kernel
theorem w_running : about1.status = .running := rfl
set_option maxRecDepth 65536 in
theorem w_room : about1.hasRoom e0.platform room_1 = true :=
  launch0.hasRoom_least _ room_1 (by decide +kernel) (by decide +kernel) (by decide +kernel) (by decide +kernel) (by decide +kernel) (by decide +kernel)
theorem allAtoms_all (ts : List Jvm.Cond) (a : Array Jvm.Value) (st : Jvm.State) : (allAtoms ts).before a st = ts.all (fun c => c.before a st) := by
  induction ts with
  | nil => rfl
  | cons c t ih =>
    show (Jvm.Cond.and c (allAtoms t)).before a st = _
    rw [Jvm.Cond.before_and, ih, List.all_cons]
def words1 : List Jvm.Cond := Jvm.Cond.code x code maxLocals ret :: tables_1
/-- a 'code' word, met by the world's own term for the bytes: nothing is compared byte by byte -/
theorem code_word {y : MethodName} {bytes : ByteArray} {mx : Nat} {rt : Option FieldType} {a : Array Value} {s : State} {m : MethodId} {meth : Method} {c : Code} (h1 : s.methodNamed? y = some m) (h2 : s.vm.method? m = some meth) (h3 : meth.code = some c) (h4 : c.code = bytes)
    (h5 : (c.maxLocals == mx && c.exceptionTable.isEmpty && decide (c.maxStack ≤ mostOperands) && decide (meth.sig.returnType = rt) && !meth.locks && decide (parseMethodDescriptor y.desc = some meth.sig)) = true) : (Jvm.Cond.code y bytes mx rt).before a s = true := by
  simp only [Bool.and_eq_true, beq_iff_eq, Bool.not_eq_true', decide_eq_true_eq] at h5
  obtain ⟨⟨⟨⟨⟨g1, g2⟩, g3⟩, g4⟩, g5⟩, g6⟩ := h5
  simp [Cond.before, Cond.holds, Cond.value, h1, h2, h3, h4, g1, g2, g3, g4, g5, g6]
def isCode : Jvm.Cond → Bool
  | .code _ _ _ _ => true
  | _ => false
theorem all_split {L : List Jvm.Cond} {P : Jvm.Cond → Bool} (h1 : L.all (fun c => isCode c || P c) = true) (h2 : ∀ c ∈ L.filter isCode, P c = true) : L.all P = true := by
  refine List.all_eq_true.mpr fun c hc => ?_
  have h := List.all_eq_true.mp h1 c hc
  rcases Bool.eq_false_or_eq_true (isCode c) with hi | hi
  · exact h2 c (List.mem_filter.mpr ⟨hc, hi⟩)
  · simpa [hi] using h
set_option maxRecDepth 65536 in
theorem w_c0 : (Jvm.Cond.code x code maxLocals ret).before args0 about1 = true := code_word (m := ⟨1, 1⟩) (meth := k1m1) (c := k1c1) (by decide +kernel) rfl rfl rfl (by decide +kernel)
set_option maxRecDepth 65536 in
theorem w_c1 : (Jvm.Cond.code ({ cls := "com/example/waveslot/waveslot/core/TdmReport", name := "<init>", desc := "(IIIIJJJJJJJJ)V" } : Jvm.MethodName) prog_73_method_1_code (21 : Nat) (Option.none : Option Jvm.ClassFile.FieldType)).before args0 about1 = true := code_word (m := ⟨3, 0⟩) (meth := k3m0) (c := k3c0) (by decide +kernel) rfl rfl rfl (by decide +kernel)
set_option maxRecDepth 65536 in
theorem w_c2 : (Jvm.Cond.code ({ cls := "java/lang/Record", name := "<init>", desc := "()V" } : Jvm.MethodName) jdk_30_method_1_code (1 : Nat) (Option.none : Option Jvm.ClassFile.FieldType)).before args0 about1 = true := code_word (m := ⟨2, 0⟩) (meth := k2m0) (c := k2c0) (by decide +kernel) rfl rfl rfl (by decide +kernel)
set_option maxRecDepth 65536 in
theorem w_c3 : (Jvm.Cond.code ({ cls := "java/lang/Object", name := "<init>", desc := "()V" } : Jvm.MethodName) object_method_1_code (1 : Nat) (Option.none : Option Jvm.ClassFile.FieldType)).before args0 about1 = true := code_word (m := ⟨0, 0⟩) (meth := k0m0) (c := k0c0) (by decide +kernel) rfl rfl rfl (by decide +kernel)
set_option maxRecDepth 65536 in
theorem w_c4 : (Jvm.Cond.code ({ cls := "com/example/waveslot/waveslot/core/TdmReport", name := "valid", desc := "()Z" } : Jvm.MethodName) prog_73_method_3_code (1 : Nat) (Option.some Jvm.ClassFile.FieldType.boolean)).before args0 about1 = true := code_word (m := ⟨3, 1⟩) (meth := k3m1) (c := k3c1) (by decide +kernel) rfl rfl rfl (by decide +kernel)
def codes1 : List Jvm.Cond := [Jvm.Cond.code x code maxLocals ret, Jvm.Cond.code ({ cls := "com/example/waveslot/waveslot/core/TdmReport", name := "<init>", desc := "(IIIIJJJJJJJJ)V" } : Jvm.MethodName) prog_73_method_1_code (21 : Nat) (Option.none : Option Jvm.ClassFile.FieldType), Jvm.Cond.code ({ cls := "java/lang/Record", name := "<init>", desc := "()V" } : Jvm.MethodName) jdk_30_method_1_code (1 : Nat) (Option.none : Option Jvm.ClassFile.FieldType), Jvm.Cond.code ({ cls := "java/lang/Object", name := "<init>", desc := "()V" } : Jvm.MethodName) object_method_1_code (1 : Nat) (Option.none : Option Jvm.ClassFile.FieldType), Jvm.Cond.code ({ cls := "com/example/waveslot/waveslot/core/TdmReport", name := "valid", desc := "()Z" } : Jvm.MethodName) prog_73_method_3_code (1 : Nat) (Option.some Jvm.ClassFile.FieldType.boolean)]
set_option maxRecDepth 65536 in
theorem codes_eq : words1.filter isCode = codes1 := rfl
theorem w_codes : ∀ c ∈ words1.filter isCode, c.before args0 about1 = true := by
  rw [codes_eq]
  intro c hc
  simp only [codes1, List.mem_cons, List.not_mem_nil, or_false] at hc
  rcases hc with rfl | rfl | rfl | rfl | rfl
  · exact w_c0
  · exact w_c1
  · exact w_c2
  · exact w_c3
  · exact w_c4
set_option maxRecDepth 65536 in
theorem w_t1 : (words1.take 24).all (fun c => isCode c || c.before args0 about1) = true := by decide +kernel
set_option maxRecDepth 65536 in
theorem w_t2 : (words1.drop 24).all (fun c => isCode c || c.before args0 about1) = true := by decide +kernel
theorem w_tables : (allAtoms (Jvm.Cond.code x code maxLocals ret :: tables_1)).before args0 about1 = true := by
  rw [allAtoms_all]
  show words1.all (fun c => c.before args0 about1) = true
  refine all_split ?_ w_codes
  rw [← List.take_append_drop 24 words1, List.all_append, w_t1, w_t2]
  rfl
set_option maxRecDepth 65536 in
theorem w_case : (Jvm.Cond.and given_1 narrow_1).before args0 about1 = true := by decide +kernel
theorem w_applies : (headSpec (Jvm.Cond.code x code maxLocals ret :: tables_1) room_1).applies x e0.platform about1 = true :=
  (Spec.applies_iff w_frames).mpr ⟨w_running, w_runnable, w_alone, w_named, w_hears, w_ripe, w_room, w_tables⟩
theorem atStart : AtStart classFile x code maxLocals ret World_1 tables_1 room_1 Calls_1 rest_1 Pre_1 launch0 p0 e0 about1 theMethod args0 below0 :=
  ⟨lists_1, trivial, launch0.admits_env _ _ _, launch0.least_env, fairChoices_fair.cas, fairChoices_fair.clock, w_frames, w_args, w_heap, w_applies, trivial, trivial, w_case⟩
end start1
theorem witness_1 : WitnessClaimed_1 := ⟨start1.p0, start1.e0, start1.about1, start1.theMethod, start1.args0, start1.below0, start1.atStart⟩
end Jvm.Pilot.@@N@@
