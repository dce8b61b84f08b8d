import JvmDerived
import JvmDerived.Pilot.@@N@@Statement
import JvmDerived.Pilot.@@N@@Code
set_option linter.unusedVariables false
set_option linter.unusedSimpArgs false
namespace Jvm.RoadKit
open Sem ClassFile Op Lib Jvm.Stand Jvm.Free Jvm.LawKit
section New
variable {p : Program} {l : Launch} {e : Env} {R : Room} {s : State} {m : MethodId} {args : Array Value} {below : List Frame} {meth : Method} {c : Code} {T : State} {locs : List Loc} {cells slots : Nat}
theorem retI (X : Stand p l e R s m args below meth c T locs cells slots) (hx : p.tables.exec = Jvm.exec) {pc : Nat} {Ls : Array Slot} {z : Int32} {rest : List Value} (hret : meth.sig.returnType = some .int) (hd : decode c.code pc = .ok (.ireturn, 1)) {fs : List Frame}
    (hl : ∀ (f : JFrame) (acts : List Action), f.method = m → f.locked = none → f.entered = [] → (doReturn e (T.setTop f) acts (some (.int z))).1 = T.setFrames fs) : Steps p.tables e below (T.setTop (mkF m pc Ls (.int z :: rest))) (T.setFrames fs) := by
  have hm' : T.vm.method? m = some meth := X.method'
  have hn : narrow .int (.int z) = .int z := rfl
  show Steps p.tables e below (T.setTop { method := m, pc := pc, locals := Ls, stack := _ :: rest, locked := none }) _
  jvm_step X.here [X.here.top, hx, hd, hm', hret, hn]
  first | (intro acts; rw [hl _ acts rfl rfl rfl]) | rw [hl _ _ rfl rfl rfl]
  exact Steps.refl _
abbrev jv (x : Int64) : Slot := .val (.long x)
/-- from the state st the run ends as Q says -/
def own_Go (p : Program) (e : Env) (below : List Frame) (s : State) (Q : Option Value → Heap → List Loc → Prop) (CS : Nat × Nat) (st : State) : Prop :=
  ∃ s₂ o, Steps p.tables e below st s₂ ∧ s₂.status = .running ∧ Ended s₂ below o ∧ ∃ v L, o = .returned v ∧ Q v s₂.heap L ∧ FrameEnd s o s₂ L CS.1 CS.2
variable {Q : Option Value → Heap → List Loc → Prop} {CS : Nat × Nat} {st st' : State}
theorem own_via (h : ∀ {t}, Steps p.tables e below st t → Steps p.tables e below st' t) (g : own_Go p e below s Q CS st) : own_Go p e below s Q CS st' := by
  obtain ⟨s₂, o, h1, h2⟩ := g
  exact ⟨s₂, o, h h1, h2⟩
theorem own_start {g g' : JFrame} (q : g = g') (h : own_Go p e below s Q CS (T.setTop g')) : ∃ s₂ o, Steps p.tables e below (T.setTop g) s₂ ∧ s₂.status = .running ∧ Ended s₂ below o ∧ ∃ v L, o = .returned v ∧ Q v s₂.heap L ∧ FrameEnd s o s₂ L CS.1 CS.2 := q ▸ h
theorem own_retN (X : Stand p l e R s m args below meth c T locs cells slots) (hx : p.tables.exec = Jvm.exec) (hlk : meth.locks = false) {pc : Nat} {Ls : Array Slot} {z : Int32} {t : FieldType} {rest : List Value} (hret : meth.sig.returnType = some t) (ht : t = .boolean ∨ t = .byte ∨ t = .char ∨ t = .short)
    (hd : decode c.code pc = .ok (.ireturn, 1)) (hq : Q (some (.int (nar t z))) T.heap locs) (hc : cells ≤ CS.1) (hs : slots ≤ CS.2) : own_Go p e below s Q CS (T.setTop (mkF m pc Ls (.int z :: rest))) := by
  obtain ⟨fs, hr, hrun, hended, hW, hsame⟩ := X.leave (v := some (.int (nar t z))) (fun h => by rw [hret] at h; cases h) hlk
  exact ⟨_, _, retN X hx hret ht hd hr, hrun, hended, _, _, rfl, hq, ⟨_, rfl⟩, hW, hsame.mono hc hs⟩
theorem own_retI (X : Stand p l e R s m args below meth c T locs cells slots) (hx : p.tables.exec = Jvm.exec) (hlk : meth.locks = false) {pc : Nat} {Ls : Array Slot} {z : Int32} {rest : List Value} (hret : meth.sig.returnType = some .int)
    (hd : decode c.code pc = .ok (.ireturn, 1)) (hq : Q (some (.int z)) T.heap locs) (hc : cells ≤ CS.1) (hs : slots ≤ CS.2) : own_Go p e below s Q CS (T.setTop (mkF m pc Ls (.int z :: rest))) := by
  obtain ⟨fs, hr, hrun, hended, hW, hsame⟩ := X.leave (v := some (.int z)) (fun h => by rw [hret] at h; cases h) hlk
  exact ⟨_, _, retI X hx hret hd hr, hrun, hended, _, _, rfl, hq, ⟨_, rfl⟩, hW, hsame.mono hc hs⟩
theorem own_retL (X : Stand p l e R s m args below meth c T locs cells slots) (hx : p.tables.exec = Jvm.exec) (hlk : meth.locks = false) {pc : Nat} {Ls : Array Slot} {z : Int64} (hret : meth.sig.returnType = some .long)
    (hd : decode c.code pc = .ok (.lreturn, 1)) (hq : Q (some (.long z)) T.heap locs) (hc : cells ≤ CS.1) (hs : slots ≤ CS.2) : own_Go p e below s Q CS (T.setTop (mkF m pc Ls [.long z])) := by
  obtain ⟨fs, hr, hrun, hended, hW, hsame⟩ := X.leave (v := some (.long z)) (fun h => by rw [hret] at h; cases h) hlk
  exact ⟨_, _, X.lreturnOut hx hret hd hr, hrun, hended, _, _, rfl, hq, ⟨_, rfl⟩, hW, hsame.mono hc hs⟩
theorem own_retA (X : Stand p l e R s m args below meth c T locs cells slots) (hx : p.tables.exec = Jvm.exec) (hlk : meth.locks = false) {pc : Nat} {Ls : Array Slot} {w : Value} (hw : w.isRef = true) {t : FieldType} (hret : meth.sig.returnType = some t) (ht : t.isReference = true)
    (hd : decode c.code pc = .ok (.areturn, 1)) (hq : Q (some w) T.heap locs) (hc : cells ≤ CS.1) (hs : slots ≤ CS.2) : own_Go p e below s Q CS (T.setTop (mkF m pc Ls [w])) := by
  obtain ⟨fs, hr, hrun, hended, hW, hsame⟩ := X.leave (v := some w) (fun h => by rw [hret] at h; cases h) hlk
  exact ⟨_, _, X.areturnOut hx hw hret ht hd hr, hrun, hended, _, _, rfl, hq, ⟨_, rfl⟩, hW, hsame.mono hc hs⟩
theorem own_ret0 (X : Stand p l e R s m args below meth c T locs cells slots) (hx : p.tables.exec = Jvm.exec) (hlk : meth.locks = false) {pc : Nat} {Ls : Array Slot} (hret : meth.sig.returnType = none)
    (hd : decode c.code pc = .ok (.return_, 1)) (hq : Q none T.heap locs) (hc : cells ≤ CS.1) (hs : slots ≤ CS.2) : own_Go p e below s Q CS (T.setTop (mkF m pc Ls [])) := by
  obtain ⟨fs, hr, hrun, hended, hW, hsame⟩ := X.leave (v := none) (fun _ => rfl) hlk
  exact ⟨_, _, X.returnOut hx hret hd hr, hrun, hended, _, _, rfl, hq, ⟨_, rfl⟩, hW, hsame.mono hc hs⟩
theorem own_fldI {Z : State} {h : Heap} {a : Addr} {C n d : String} {v w : Int32} (q : v = w) (F : Fld Z h a C n d (.int v)) : Fld Z h a C n d (.int w) := q ▸ F
theorem own_fldJ {Z : State} {h : Heap} {a : Addr} {C n d : String} {v w : Int64} (q : v = w) (F : Fld Z h a C n d (.long v)) : Fld Z h a C n d (.long w) := q ▸ F
theorem own_arv {Z : State} {h : Heap} {a : Addr} {k : ClassId} {ty : FieldType} {n : Int32} {vs vs' : List Value} {d : Value} (q : vs = vs') (F : Arv Z h a k ty n vs d) : Arv Z h a k ty n vs' d := q ▸ F
theorem own_fits {t : FieldType} {v w : Int32} (q : v = w) (F : fits t (.int v) = true) : fits t (.int w) = true := q ▸ F
end New
end Jvm.RoadKit
namespace Jvm.Pilot.@@N@@
open Jvm Jvm.ClassFile Sem Op Lib Jvm.Free Jvm.Stand Jvm.LawKit Jvm.RoadKit Bundle Jvm.Pilot.@@N@@.Jvm.D
theorem own_l32 {x y : Int32} : x < y ↔ x.toInt < y.toInt := Int32.lt_iff_toInt_lt
theorem own_e32 {x y : Int32} : x = y ↔ x.toInt = y.toInt := Int32.toInt_inj.symm
theorem own_l64 {x y : Int64} : x < y ↔ x.toInt < y.toInt := Int64.lt_iff_toInt_lt
theorem own_e64 {x y : Int64} : x = y ↔ x.toInt = y.toInt := Int64.toInt_inj.symm
theorem own_all8 {P : Int8 → Prop} (h : ∀ n : Fin 256, P (Int8.ofBitVec (BitVec.ofFin n))) (i : Int8) : P i := h i.toBitVec.toFin
theorem d2_0 : decode jdk_29_method_70_code 0 = .ok (.lload_n 0, 1) := by decide +kernel
theorem d2_1 : decode jdk_29_method_70_code 1 = .ok (.lload_n 2, 1) := by decide +kernel
theorem d2_2 : decode jdk_29_method_70_code 2 = .ok (.lcmp, 1) := by decide +kernel
theorem d2_3 : decode jdk_29_method_70_code 3 = .ok (.ifCond .gt 7, 3) := by decide +kernel
theorem d2_6 : decode jdk_29_method_70_code 6 = .ok (.lload_n 0, 1) := by decide +kernel
theorem d2_7 : decode jdk_29_method_70_code 7 = .ok (.goto 4, 3) := by decide +kernel
theorem d2_10 : decode jdk_29_method_70_code 10 = .ok (.lload_n 2, 1) := by decide +kernel
theorem d2_11 : decode jdk_29_method_70_code 11 = .ok (.lreturn, 1) := by decide +kernel
theorem ef_2 (m : MethodId) (x0 : Int64) (x1 : Int64) : entryFrame m #[(.long x0), (.long x1)] 4 = mkF m 0 #[jv x0, .second, jv x1, .second] [] := by first | (simp [entryFrame, mkF, argsToLocals, Value.category]; done) | rfl
def own_f2 (q0 : Int64) (q1 : Int64) : Int64 := (if q1 < q0 then q1 else q0)
def Q2 (Z : State) (q0 : Int64) (q1 : Int64) (h0 : Heap) (n0 : Nat) (v : Option Value) (h : Heap) (L : List Loc) : Prop := v = some (.long (own_f2 q0 q1)) ∧ Fr n0 L ∧ h = h0
set_option maxRecDepth 65536 in
set_option maxHeartbeats 40000000 in
theorem rm2 (l : Launch) (Z : State) (aw : Array Value) (hw : ∀ d ∈ tables_1, d.before aw Z = true) (ws : List Jvm.Cond) (q0 : Int64) (q1 : Int64) (h0 : Heap) (n0 : Nat) (Z0 : n0 ≤ h0.size)  :
    MetFree l (⟨"java/lang/Math", "min", "(JJ)J"⟩ : MethodName) (head1 (Jvm.Cond.code (⟨"java/lang/Math", "min", "(JJ)J"⟩ : MethodName) jdk_29_method_70_code 4 (some .long) :: ws) ({ frames := 0, cells := 0, slots := 0, locals := 0 } : Room)) (fun a U => a = #[(.long q0), (.long q1)] ∧ Z.Warmed39 U.vm ∧ U.heap = h0) (fun _ _ _ _ _ => True) (fun _ U o U' => ∃ v L, o = .returned v ∧ Q2 Z q0 q1 h0 n0 v U'.heap L ∧ FrameEnd U o U' L ({ frames := 0, cells := 0, slots := 0, locals := 0 } : Room).cells ({ frames := 0, cells := 0, slots := 0, locals := 0 } : Room).slots) := by
  refine MetFree.of_bodySF (Jvm.Free.JP.mathPlain rfl (by decide +kernel)) hisR ?_
  intro p e s m args below meth c s₁ Bd hml0 hP hK
  obtain ⟨rfl, hZ, hh⟩ := hP
  have hx := Bd.exec
  have hby := Bd.bytes
  have hml : c.maxLocals = 4 := hml0
  have hown : s.vm.findClass "java/lang/Math" = some m.cls := findClass_of_methodNamed Bd.named
  have hnm := (name_of_methodNamed Bd.named Bd.method).1
  have hlk : meth.locks = false := by first | exact BodyLoose.notSynchronized (by assumption) | exact Body.notSynchronized (by assumption)
  have X0 : Stand p l e ({ frames := 0, cells := 0, slots := 0, locals := 0 } : Room) s m #[(.long q0), (.long q1)] below meth c s₁ [] 0 0 := Stand.of_body Bd
  have e0 : s₁.heap = h0 := by rw [← hh, Bd.state]; rfl
  have N0 := Fr.nil n0
  have K0 : Keep h0 h0 [] := Keep.refl _ _
  refine own_start (CS := (0, 0)) (Q := (Q2 Z q0 q1 h0 n0)) (ef_2 m q0 q1) ?_
  show own_Go p e below s _ _ (s₁.setTop (mkF m 0 #[jv q0, .second, jv q1, .second] []))
  refine own_via (fun k => XS.lloadN X0.here hx rfl (hb hby d2_0) rfl  (XS.lloadN X0.here hx rfl (hb hby d2_1) rfl  (XS.lcmp X0.here hx rfl (hb hby d2_2) rfl k))) ?_
  show own_Go p e below s _ _ (s₁.setTop (mkF m 3 #[jv q0, .second, jv q1, .second] [(.int (lcmpW q0 q1))]))
  by_cases hc1 : q1 < q0
  · refine own_via (fun k => XS.ifYes X0.here hx rfl (pc0 := 3) (pc' := 10) rfl (hb hby d2_3) rfl ((if0 _ _).trans (tlt ((lw_gt _ _).mpr hc1)).2.2.1) (by decide) (by decide) k) ?_
    show own_Go p e below s _ _ (s₁.setTop (mkF m 10 #[jv q0, .second, jv q1, .second] []))
    refine own_via (fun k => XS.lloadN X0.here hx rfl (hb hby d2_10) rfl  k) ?_
    show own_Go p e below s _ _ (s₁.setTop (mkF m 11 #[jv q0, .second, jv q1, .second] [(.long q1)]))
    exact own_retL X0 hx hlk Bd.returns (hb hby d2_11) (Q := (Q2 Z q0 q1 h0 n0)) ⟨(congrArg (fun z => some (Value.long z)) (show q1 = (own_f2 q0 q1) from (by unfold own_f2; exact ((if_pos hc1).trans rfl).symm))), N0, e0⟩ (by decide) (by decide)
  · refine own_via (fun k => XS.ifNo X0.here hx rfl (hb hby d2_3) rfl ((if0 _ _).trans (flt (mt (lw_gt _ _).mp hc1)).2.2.1) k) ?_
    show own_Go p e below s _ _ (s₁.setTop (mkF m 6 #[jv q0, .second, jv q1, .second] []))
    refine own_via (fun k => XS.lloadN X0.here hx rfl (hb hby d2_6) rfl  (XS.goto X0.here hx rfl (pc0 := 7) (pc' := 11) rfl (hb hby d2_7) (by decide) (by decide) k)) ?_
    show own_Go p e below s _ _ (s₁.setTop (mkF m 11 #[jv q0, .second, jv q1, .second] [(.long q0)]))
    exact own_retL X0 hx hlk Bd.returns (hb hby d2_11) (Q := (Q2 Z q0 q1 h0 n0)) ⟨(congrArg (fun z => some (Value.long z)) (show q0 = (own_f2 q0 q1) from (by unfold own_f2; exact ((if_neg hc1).trans rfl).symm))), N0, e0⟩ (by decide) (by decide)
theorem d1_0 : decode method_3_code 0 = .ok (.iload_n 0, 1) := by decide +kernel
theorem d1_1 : decode method_3_code 1 = .ok (.i2l, 1) := by decide +kernel
theorem d1_2 : decode method_3_code 2 = .ok (.lconst 1, 1) := by decide +kernel
theorem d1_3 : decode method_3_code 3 = .ok (.ladd, 1) := by decide +kernel
theorem d1_4 : decode method_3_code 4 = .ok (.lstore_n 3, 1) := by decide +kernel
theorem d1_5 : decode method_3_code 5 = .ok (.lload_n 1, 1) := by decide +kernel
theorem d1_6 : decode method_3_code 6 = .ok (.ldc2_w 29, 3) := by decide +kernel
theorem d1_9 : decode method_3_code 9 = .ok (.lcmp, 1) := by decide +kernel
theorem d1_10 : decode method_3_code 10 = .ok (.ifCond .lt 11, 3) := by decide +kernel
theorem d1_13 : decode method_3_code 13 = .ok (.ldc2_w 29, 3) := by decide +kernel
theorem d1_16 : decode method_3_code 16 = .ok (.lstore 5, 2) := by decide +kernel
theorem d1_18 : decode method_3_code 18 = .ok (.goto 52, 3) := by decide +kernel
theorem d1_21 : decode method_3_code 21 = .ok (.lload_n 3, 1) := by decide +kernel
theorem d1_22 : decode method_3_code 22 = .ok (.ldc2_w 31, 3) := by decide +kernel
theorem d1_25 : decode method_3_code 25 = .ok (.lcmp, 1) := by decide +kernel
theorem d1_26 : decode method_3_code 26 = .ok (.ifCond .gt 17, 3) := by decide +kernel
theorem d1_29 : decode method_3_code 29 = .ok (.ldc2_w 29, 3) := by decide +kernel
theorem d1_32 : decode method_3_code 32 = .ok (.lload_n 3, 1) := by decide +kernel
theorem d1_33 : decode method_3_code 33 = .ok (.lload_n 1, 1) := by decide +kernel
theorem d1_34 : decode method_3_code 34 = .ok (.lmul, 1) := by decide +kernel
theorem d1_35 : decode method_3_code 35 = .ok (.invokestatic 33, 3) := by decide +kernel
theorem d1_38 : decode method_3_code 38 = .ok (.lstore 5, 2) := by decide +kernel
theorem d1_40 : decode method_3_code 40 = .ok (.goto 30, 3) := by decide +kernel
theorem d1_43 : decode method_3_code 43 = .ok (.lload_n 1, 1) := by decide +kernel
theorem d1_44 : decode method_3_code 44 = .ok (.ldc2_w 39, 3) := by decide +kernel
theorem d1_47 : decode method_3_code 47 = .ok (.lcmp, 1) := by decide +kernel
theorem d1_48 : decode method_3_code 48 = .ok (.ifCond .lt 11, 3) := by decide +kernel
theorem d1_51 : decode method_3_code 51 = .ok (.ldc2_w 29, 3) := by decide +kernel
theorem d1_54 : decode method_3_code 54 = .ok (.lstore 5, 2) := by decide +kernel
theorem d1_56 : decode method_3_code 56 = .ok (.goto 14, 3) := by decide +kernel
theorem d1_59 : decode method_3_code 59 = .ok (.ldc2_w 29, 3) := by decide +kernel
theorem d1_62 : decode method_3_code 62 = .ok (.lload_n 3, 1) := by decide +kernel
theorem d1_63 : decode method_3_code 63 = .ok (.lload_n 1, 1) := by decide +kernel
theorem d1_64 : decode method_3_code 64 = .ok (.lmul, 1) := by decide +kernel
theorem d1_65 : decode method_3_code 65 = .ok (.invokestatic 33, 3) := by decide +kernel
theorem d1_68 : decode method_3_code 68 = .ok (.lstore 5, 2) := by decide +kernel
theorem d1_70 : decode method_3_code 70 = .ok (.lload 5, 2) := by decide +kernel
theorem d1_72 : decode method_3_code 72 = .ok (.ldc2_w 41, 3) := by decide +kernel
theorem d1_75 : decode method_3_code 75 = .ok (.ldiv, 1) := by decide +kernel
theorem d1_76 : decode method_3_code 76 = .ok (.lload 5, 2) := by decide +kernel
theorem d1_78 : decode method_3_code 78 = .ok (.ldc2_w 41, 3) := by decide +kernel
theorem d1_81 : decode method_3_code 81 = .ok (.lrem, 1) := by decide +kernel
theorem d1_82 : decode method_3_code 82 = .ok (.lconst 0, 1) := by decide +kernel
theorem d1_83 : decode method_3_code 83 = .ok (.lcmp, 1) := by decide +kernel
theorem d1_84 : decode method_3_code 84 = .ok (.ifCond .ne 7, 3) := by decide +kernel
theorem d1_87 : decode method_3_code 87 = .ok (.iconst 0, 1) := by decide +kernel
theorem d1_88 : decode method_3_code 88 = .ok (.goto 4, 3) := by decide +kernel
theorem d1_91 : decode method_3_code 91 = .ok (.iconst 1, 1) := by decide +kernel
theorem d1_92 : decode method_3_code 92 = .ok (.i2l, 1) := by decide +kernel
theorem d1_93 : decode method_3_code 93 = .ok (.ladd, 1) := by decide +kernel
theorem d1_94 : decode method_3_code 94 = .ok (.lreturn, 1) := by decide +kernel
theorem pn_1 : plainName "com/example/grant3/grant3/condition/PatternCostSearchStepsPinLaw" = true := by first | (simp [plainName, overriddenIn]; done) | decide +kernel
theorem pd_1 : parseMethodDescriptor "(JJ)J" = some ⟨[.long, .long], some .long⟩ := by decide +kernel
theorem ef_1 (m : MethodId) (x0 : Int32) (x1 : Int64) : entryFrame m #[(.int x0), (.long x1)] 7 = mkF m 0 #[iv x0, jv x1, .second, .unset, .unset, .unset, .unset] [] := by first | (simp [entryFrame, mkF, argsToLocals, Value.category]; done) | rfl
def own_f1 (p0 : Int32) (q1 : Int64) : Int64 := (if q1 < (1099511627776 : Int64) then (if (8388608 : Int64) < ((p0.toInt64) + (1 : Int64)) then (if q1 < (131072 : Int64) then (if ((own_f2 (1099511627776 : Int64) (((p0.toInt64) + (1 : Int64)) * q1)) - ((own_f2 (1099511627776 : Int64) (((p0.toInt64) + (1 : Int64)) * q1)) / (10 : Int64)) * (10 : Int64)) = (0 : Int64) then (((own_f2 (1099511627776 : Int64) (((p0.toInt64) + (1 : Int64)) * q1)) / (10 : Int64)) + (0 : Int64)) else (((own_f2 (1099511627776 : Int64) (((p0.toInt64) + (1 : Int64)) * q1)) / (10 : Int64)) + (1 : Int64))) else (109951162778 : Int64)) else (if ((own_f2 (1099511627776 : Int64) (((p0.toInt64) + (1 : Int64)) * q1)) - ((own_f2 (1099511627776 : Int64) (((p0.toInt64) + (1 : Int64)) * q1)) / (10 : Int64)) * (10 : Int64)) = (0 : Int64) then (((own_f2 (1099511627776 : Int64) (((p0.toInt64) + (1 : Int64)) * q1)) / (10 : Int64)) + (0 : Int64)) else (((own_f2 (1099511627776 : Int64) (((p0.toInt64) + (1 : Int64)) * q1)) / (10 : Int64)) + (1 : Int64)))) else (109951162778 : Int64))
def Q1 (Z : State) (p0 : Int32) (q1 : Int64) (h0 : Heap) (n0 : Nat) (v : Option Value) (h : Heap) (L : List Loc) : Prop := v = some (.long (own_f1 p0 q1)) ∧ Fr n0 L ∧ h = h0
set_option maxRecDepth 65536 in
set_option maxHeartbeats 40000000 in
theorem rm1 (l : Launch) (Z : State) (aw : Array Value) (hw : ∀ d ∈ tables_1, d.before aw Z = true) (ws : List Jvm.Cond) (p0 : Int32) (q1 : Int64) (h0 : Heap) (n0 : Nat) (Z0 : n0 ≤ h0.size)  :
    MetFree l (⟨"com/example/grant3/grant3/condition/PatternCostSearchStepsPinLaw", "reference", "(IJ)J"⟩ : MethodName) (head1 (Jvm.Cond.code (⟨"com/example/grant3/grant3/condition/PatternCostSearchStepsPinLaw", "reference", "(IJ)J"⟩ : MethodName) method_3_code 7 (some .long) :: ws) ({ frames := 1, cells := 0, slots := 0, locals := 15 } : Room)) (fun a U => a = #[(.int p0), (.long q1)] ∧ Z.Warmed39 U.vm ∧ U.heap = h0) (fun _ _ _ _ _ => True) (fun _ U o U' => ∃ v L, o = .returned v ∧ Q1 Z p0 q1 h0 n0 v U'.heap L ∧ FrameEnd U o U' L ({ frames := 1, cells := 0, slots := 0, locals := 15 } : Room).cells ({ frames := 1, cells := 0, slots := 0, locals := 15 } : Room).slots) := by
  refine MetFree.of_bodySF (plainFor_of_name pn_1) hisR ?_
  intro p e s m args below meth c s₁ Bd hml0 hP hK
  obtain ⟨rfl, hZ, hh⟩ := hP
  have hx := Bd.exec
  have hby := Bd.bytes
  have hml : c.maxLocals = 7 := hml0
  have hown : s.vm.findClass "com/example/grant3/grant3/condition/PatternCostSearchStepsPinLaw" = some m.cls := findClass_of_methodNamed Bd.named
  have hnm := (name_of_methodNamed Bd.named Bd.method).1
  have hlk : meth.locks = false := by first | exact BodyLoose.notSynchronized (by assumption) | exact Body.notSynchronized (by assumption)
  have X0 : Stand p l e ({ frames := 1, cells := 0, slots := 0, locals := 15 } : Room) s m #[(.int p0), (.long q1)] below meth c s₁ [] 0 0 := Stand.of_body Bd
  have e0 : s₁.heap = h0 := by rw [← hh, Bd.state]; rfl
  have N0 := Fr.nil n0
  have K0 : Keep h0 h0 [] := Keep.refl _ _
  refine own_start (CS := (0, 0)) (Q := (Q1 Z p0 q1 h0 n0)) (ef_1 m p0 q1) ?_
  show own_Go p e below s _ _ (s₁.setTop (mkF m 0 #[iv p0, jv q1, .second, .unset, .unset, .unset, .unset] []))
  refine own_via (fun k => XS.iloadN X0.here hx rfl (hb hby d1_0) rfl  (XS.i2l X0.here hx rfl (hb hby d1_1) rfl (XS.lconst X0.here hx rfl (hb hby d1_2) (XS.ladd X0.here hx rfl (hb hby d1_3) rfl k)))) ?_
  show own_Go p e below s _ _ (s₁.setTop (mkF m 4 #[iv p0, jv q1, .second, .unset, .unset, .unset, .unset] [(.long ((p0.toInt64) + (1 : Int64)))]))
  refine own_via (fun k => XS.lstoreN X0.here hx rfl (hb hby d1_4) rfl (l' := #[iv p0, jv q1, .second, jv ((p0.toInt64) + (1 : Int64)), .second, .unset, .unset]) rfl (XS.lloadN X0.here hx rfl (hb hby d1_5) rfl  (X0.ldc2Long hx hown (mvT hZ (hw _ (List.mem_of_getElem? (i := 6) rfl))) (g := (mkF m 6 #[iv p0, jv q1, .second, jv ((p0.toInt64) + (1 : Int64)), .second, .unset, .unset] [(.long q1)])) rfl (hb hby d1_6) _ (XS.lcmp X0.here hx rfl (hb hby d1_9) rfl k)))) ?_
  show own_Go p e below s _ _ (s₁.setTop (mkF m 10 #[iv p0, jv q1, .second, jv ((p0.toInt64) + (1 : Int64)), .second, .unset, .unset] [(.int (lcmpW q1 (1099511627776 : Int64)))]))
  by_cases hc1 : q1 < (1099511627776 : Int64)
  · refine own_via (fun k => XS.ifYes X0.here hx rfl (pc0 := 10) (pc' := 21) rfl (hb hby d1_10) rfl ((if0 _ _).trans (tlt ((lw_lt _ _).mpr hc1)).1) (by decide) (by decide) k) ?_
    show own_Go p e below s _ _ (s₁.setTop (mkF m 21 #[iv p0, jv q1, .second, jv ((p0.toInt64) + (1 : Int64)), .second, .unset, .unset] []))
    refine own_via (fun k => XS.lloadN X0.here hx rfl (hb hby d1_21) rfl  (X0.ldc2Long hx hown (mvT hZ (hw _ (List.mem_of_getElem? (i := 7) rfl))) (g := (mkF m 22 #[iv p0, jv q1, .second, jv ((p0.toInt64) + (1 : Int64)), .second, .unset, .unset] [(.long ((p0.toInt64) + (1 : Int64)))])) rfl (hb hby d1_22) _ (XS.lcmp X0.here hx rfl (hb hby d1_25) rfl k))) ?_
    show own_Go p e below s _ _ (s₁.setTop (mkF m 26 #[iv p0, jv q1, .second, jv ((p0.toInt64) + (1 : Int64)), .second, .unset, .unset] [(.int (lcmpW ((p0.toInt64) + (1 : Int64)) (8388608 : Int64)))]))
    by_cases hc2 : (8388608 : Int64) < ((p0.toInt64) + (1 : Int64))
    · refine own_via (fun k => XS.ifYes X0.here hx rfl (pc0 := 26) (pc' := 43) rfl (hb hby d1_26) rfl ((if0 _ _).trans (tlt ((lw_gt _ _).mpr hc2)).2.2.1) (by decide) (by decide) k) ?_
      show own_Go p e below s _ _ (s₁.setTop (mkF m 43 #[iv p0, jv q1, .second, jv ((p0.toInt64) + (1 : Int64)), .second, .unset, .unset] []))
      refine own_via (fun k => XS.lloadN X0.here hx rfl (hb hby d1_43) rfl  (X0.ldc2Long hx hown (mvT hZ (hw _ (List.mem_of_getElem? (i := 26) rfl))) (g := (mkF m 44 #[iv p0, jv q1, .second, jv ((p0.toInt64) + (1 : Int64)), .second, .unset, .unset] [(.long q1)])) rfl (hb hby d1_44) _ (XS.lcmp X0.here hx rfl (hb hby d1_47) rfl k))) ?_
      show own_Go p e below s _ _ (s₁.setTop (mkF m 48 #[iv p0, jv q1, .second, jv ((p0.toInt64) + (1 : Int64)), .second, .unset, .unset] [(.int (lcmpW q1 (131072 : Int64)))]))
      by_cases hc3 : q1 < (131072 : Int64)
      · refine own_via (fun k => XS.ifYes X0.here hx rfl (pc0 := 48) (pc' := 59) rfl (hb hby d1_48) rfl ((if0 _ _).trans (tlt ((lw_lt _ _).mpr hc3)).1) (by decide) (by decide) k) ?_
        show own_Go p e below s _ _ (s₁.setTop (mkF m 59 #[iv p0, jv q1, .second, jv ((p0.toInt64) + (1 : Int64)), .second, .unset, .unset] []))
        refine own_via (fun k => X0.ldc2Long hx hown (mvT hZ (hw _ (List.mem_of_getElem? (i := 6) rfl))) (g := (mkF m 59 #[iv p0, jv q1, .second, jv ((p0.toInt64) + (1 : Int64)), .second, .unset, .unset] [])) rfl (hb hby d1_59) _ (XS.lloadN X0.here hx rfl (hb hby d1_62) rfl  (XS.lloadN X0.here hx rfl (hb hby d1_63) rfl  (XS.lmul X0.here hx rfl (hb hby d1_64) rfl k)))) ?_
        show own_Go p e below s _ _ (s₁.setTop (mkF m 65 #[iv p0, jv q1, .second, jv ((p0.toInt64) + (1 : Int64)), .second, .unset, .unset] [(.long (((p0.toInt64) + (1 : Int64)) * q1)), (.long 1099511627776)]))
        obtain ⟨_, _, ⟨T4, L4, k4, n4⟩, -, X4, ⟨Lc4, hQ4, l4, y4, z4⟩, st4⟩ := Jvm.LawKit.callS X0 hx (y := (⟨"java/lang/Math", "min", "(JJ)J"⟩ : MethodName)) hown (mvT hZ (hw _ (List.mem_of_getElem? (i := 8) rfl))) (mvT hZ (hw _ (List.mem_of_getElem? (i := 9) rfl))) (mvT hZ (hw _ (List.mem_of_getElem? (i := 10) rfl))) (mvT hZ (hw _ (List.mem_of_getElem? (i := 11) rfl))) (by decide) (backOf (W := 0) (rm2 l Z aw hw [] (1099511627776 : Int64) (((p0.toInt64) + (1 : Int64)) * q1) h0 n0 Z0) hZ (hw _ (List.mem_of_getElem? (i := 11) rfl)) (hw _ (List.mem_of_getElem? (i := 10) rfl)) (by decide) (by decide)) (g := (mkF m 65 #[iv p0, jv q1, .second, jv ((p0.toInt64) + (1 : Int64)), .second, .unset, .unset] [(.long (((p0.toInt64) + (1 : Int64)) * q1)), (.long 1099511627776)])) rfl (by rw [hml]; rfl) (argsL := [(.long 1099511627776), (.long (((p0.toInt64) + (1 : Int64)) * q1))]) (rest := []) (lenOf pd_1 rfl) rfl (by show 2 * 0 + _ ≤ _; exact Nat.le_of_eq rfl) (hb hby d1_65) (fun _ _ => ⟨rfl, e0, (by decide : 0 + 0 ≤ _), (by decide : 0 + 0 ≤ _)⟩)
        dsimp only [Pt.U, Pt.locs, Pt.cells, Pt.slots] at X4 l4 y4 z4 st4 hQ4
        subst l4 y4 z4
        obtain ⟨rfl, N4q, eh4⟩ := hQ4
        have N5 := Fr.app N0 N4q
        refine own_via (fun k => st4 _ k) ?_
        show own_Go p e below s _ _ (T4.setTop (mkF m 68 #[iv p0, jv q1, .second, jv ((p0.toInt64) + (1 : Int64)), .second, .unset, .unset] [(.long (own_f2 (1099511627776 : Int64) (((p0.toInt64) + (1 : Int64)) * q1)))]))
        refine own_via (fun k => XS.lstore X4.here hx rfl (hb hby d1_68) rfl (l' := #[iv p0, jv q1, .second, jv ((p0.toInt64) + (1 : Int64)), .second, jv (own_f2 (1099511627776 : Int64) (((p0.toInt64) + (1 : Int64)) * q1)), .second]) rfl (XS.lload X4.here hx rfl (hb hby d1_70) rfl  (X4.ldc2Long hx hown (mvT hZ (hw _ (List.mem_of_getElem? (i := 12) rfl))) (g := (mkF m 72 #[iv p0, jv q1, .second, jv ((p0.toInt64) + (1 : Int64)), .second, jv (own_f2 (1099511627776 : Int64) (((p0.toInt64) + (1 : Int64)) * q1)), .second] [(.long (own_f2 (1099511627776 : Int64) (((p0.toInt64) + (1 : Int64)) * q1)))])) rfl (hb hby d1_72) _ (XS.ldiv X4.here hx rfl (hb hby d1_75) rfl (by decide) k)))) ?_
        show own_Go p e below s _ _ (T4.setTop (mkF m 76 #[iv p0, jv q1, .second, jv ((p0.toInt64) + (1 : Int64)), .second, jv (own_f2 (1099511627776 : Int64) (((p0.toInt64) + (1 : Int64)) * q1)), .second] [(.long ((own_f2 (1099511627776 : Int64) (((p0.toInt64) + (1 : Int64)) * q1)) / (10 : Int64)))]))
        refine own_via (fun k => XS.lload X4.here hx rfl (hb hby d1_76) rfl  (X4.ldc2Long hx hown (mvT hZ (hw _ (List.mem_of_getElem? (i := 12) rfl))) (g := (mkF m 78 #[iv p0, jv q1, .second, jv ((p0.toInt64) + (1 : Int64)), .second, jv (own_f2 (1099511627776 : Int64) (((p0.toInt64) + (1 : Int64)) * q1)), .second] [(.long (own_f2 (1099511627776 : Int64) (((p0.toInt64) + (1 : Int64)) * q1))), (.long ((own_f2 (1099511627776 : Int64) (((p0.toInt64) + (1 : Int64)) * q1)) / (10 : Int64)))])) rfl (hb hby d1_78) _ (XS.lrem X4.here hx rfl (hb hby d1_81) rfl (by decide) (XS.lconst X4.here hx rfl (hb hby d1_82) k)))) ?_
        show own_Go p e below s _ _ (T4.setTop (mkF m 83 #[iv p0, jv q1, .second, jv ((p0.toInt64) + (1 : Int64)), .second, jv (own_f2 (1099511627776 : Int64) (((p0.toInt64) + (1 : Int64)) * q1)), .second] [(.long 0), (.long ((own_f2 (1099511627776 : Int64) (((p0.toInt64) + (1 : Int64)) * q1)) - ((own_f2 (1099511627776 : Int64) (((p0.toInt64) + (1 : Int64)) * q1)) / (10 : Int64)) * (10 : Int64))), (.long ((own_f2 (1099511627776 : Int64) (((p0.toInt64) + (1 : Int64)) * q1)) / (10 : Int64)))]))
        refine own_via (fun k => XS.lcmp X4.here hx rfl (hb hby d1_83) rfl k) ?_
        show own_Go p e below s _ _ (T4.setTop (mkF m 84 #[iv p0, jv q1, .second, jv ((p0.toInt64) + (1 : Int64)), .second, jv (own_f2 (1099511627776 : Int64) (((p0.toInt64) + (1 : Int64)) * q1)), .second] [(.int (lcmpW ((own_f2 (1099511627776 : Int64) (((p0.toInt64) + (1 : Int64)) * q1)) - ((own_f2 (1099511627776 : Int64) (((p0.toInt64) + (1 : Int64)) * q1)) / (10 : Int64)) * (10 : Int64)) (0 : Int64))), (.long ((own_f2 (1099511627776 : Int64) (((p0.toInt64) + (1 : Int64)) * q1)) / (10 : Int64)))]))
        by_cases hc6 : ((own_f2 (1099511627776 : Int64) (((p0.toInt64) + (1 : Int64)) * q1)) - ((own_f2 (1099511627776 : Int64) (((p0.toInt64) + (1 : Int64)) * q1)) / (10 : Int64)) * (10 : Int64)) = (0 : Int64)
        · refine own_via (fun k => XS.ifNo X4.here hx rfl (hb hby d1_84) rfl ((if0 _ _).trans (teq ((lw_eq _ _).mpr hc6)).2) k) ?_
          show own_Go p e below s _ _ (T4.setTop (mkF m 87 #[iv p0, jv q1, .second, jv ((p0.toInt64) + (1 : Int64)), .second, jv (own_f2 (1099511627776 : Int64) (((p0.toInt64) + (1 : Int64)) * q1)), .second] [(.long ((own_f2 (1099511627776 : Int64) (((p0.toInt64) + (1 : Int64)) * q1)) / (10 : Int64)))]))
          refine own_via (fun k => XS.iconst X4.here hx rfl (hb hby d1_87) (XS.goto X4.here hx rfl (pc0 := 88) (pc' := 92) rfl (hb hby d1_88) (by decide) (by decide) (XS.i2l X4.here hx rfl (hb hby d1_92) rfl (XS.ladd X4.here hx rfl (hb hby d1_93) rfl k)))) ?_
          show own_Go p e below s _ _ (T4.setTop (mkF m 94 #[iv p0, jv q1, .second, jv ((p0.toInt64) + (1 : Int64)), .second, jv (own_f2 (1099511627776 : Int64) (((p0.toInt64) + (1 : Int64)) * q1)), .second] [(.long (((own_f2 (1099511627776 : Int64) (((p0.toInt64) + (1 : Int64)) * q1)) / (10 : Int64)) + (0 : Int64)))]))
          exact own_retL X4 hx hlk Bd.returns (hb hby d1_94) (Q := (Q1 Z p0 q1 h0 n0)) ⟨(congrArg (fun z => some (Value.long z)) (show (((own_f2 (1099511627776 : Int64) (((p0.toInt64) + (1 : Int64)) * q1)) / (10 : Int64)) + (0 : Int64)) = (own_f1 p0 q1) from (by unfold own_f1; exact ((if_pos hc1).trans ((if_pos hc2).trans ((if_pos hc3).trans ((if_pos hc6).trans rfl)))).symm))), N5, eh4⟩ (by decide) (by decide)
        · refine own_via (fun k => XS.ifYes X4.here hx rfl (pc0 := 84) (pc' := 91) rfl (hb hby d1_84) rfl ((if0 _ _).trans (feq (mt (lw_eq _ _).mp hc6)).2) (by decide) (by decide) k) ?_
          show own_Go p e below s _ _ (T4.setTop (mkF m 91 #[iv p0, jv q1, .second, jv ((p0.toInt64) + (1 : Int64)), .second, jv (own_f2 (1099511627776 : Int64) (((p0.toInt64) + (1 : Int64)) * q1)), .second] [(.long ((own_f2 (1099511627776 : Int64) (((p0.toInt64) + (1 : Int64)) * q1)) / (10 : Int64)))]))
          refine own_via (fun k => XS.iconst X4.here hx rfl (hb hby d1_91) (XS.i2l X4.here hx rfl (hb hby d1_92) rfl (XS.ladd X4.here hx rfl (hb hby d1_93) rfl k))) ?_
          show own_Go p e below s _ _ (T4.setTop (mkF m 94 #[iv p0, jv q1, .second, jv ((p0.toInt64) + (1 : Int64)), .second, jv (own_f2 (1099511627776 : Int64) (((p0.toInt64) + (1 : Int64)) * q1)), .second] [(.long (((own_f2 (1099511627776 : Int64) (((p0.toInt64) + (1 : Int64)) * q1)) / (10 : Int64)) + (1 : Int64)))]))
          exact own_retL X4 hx hlk Bd.returns (hb hby d1_94) (Q := (Q1 Z p0 q1 h0 n0)) ⟨(congrArg (fun z => some (Value.long z)) (show (((own_f2 (1099511627776 : Int64) (((p0.toInt64) + (1 : Int64)) * q1)) / (10 : Int64)) + (1 : Int64)) = (own_f1 p0 q1) from (by unfold own_f1; exact ((if_pos hc1).trans ((if_pos hc2).trans ((if_pos hc3).trans ((if_neg hc6).trans rfl)))).symm))), N5, eh4⟩ (by decide) (by decide)
      · refine own_via (fun k => XS.ifNo X0.here hx rfl (hb hby d1_48) rfl ((if0 _ _).trans (flt (mt (lw_lt _ _).mp hc3)).1) k) ?_
        show own_Go p e below s _ _ (s₁.setTop (mkF m 51 #[iv p0, jv q1, .second, jv ((p0.toInt64) + (1 : Int64)), .second, .unset, .unset] []))
        refine own_via (fun k => X0.ldc2Long hx hown (mvT hZ (hw _ (List.mem_of_getElem? (i := 6) rfl))) (g := (mkF m 51 #[iv p0, jv q1, .second, jv ((p0.toInt64) + (1 : Int64)), .second, .unset, .unset] [])) rfl (hb hby d1_51) _ (XS.lstore X0.here hx rfl (hb hby d1_54) rfl (l' := #[iv p0, jv q1, .second, jv ((p0.toInt64) + (1 : Int64)), .second, jv 1099511627776, .second]) rfl (XS.goto X0.here hx rfl (pc0 := 56) (pc' := 70) rfl (hb hby d1_56) (by decide) (by decide) (XS.lload X0.here hx rfl (hb hby d1_70) rfl  k)))) ?_
        show own_Go p e below s _ _ (s₁.setTop (mkF m 72 #[iv p0, jv q1, .second, jv ((p0.toInt64) + (1 : Int64)), .second, jv 1099511627776, .second] [(.long 1099511627776)]))
        refine own_via (fun k => X0.ldc2Long hx hown (mvT hZ (hw _ (List.mem_of_getElem? (i := 12) rfl))) (g := (mkF m 72 #[iv p0, jv q1, .second, jv ((p0.toInt64) + (1 : Int64)), .second, jv 1099511627776, .second] [(.long 1099511627776)])) rfl (hb hby d1_72) _ (XS.ldiv X0.here hx rfl (hb hby d1_75) rfl (by decide) k)) ?_
        show own_Go p e below s _ _ (s₁.setTop (mkF m 76 #[iv p0, jv q1, .second, jv ((p0.toInt64) + (1 : Int64)), .second, jv 1099511627776, .second] [(.long ((1099511627776 : Int64) / (10 : Int64)))]))
        rw [show ((1099511627776 : Int64) / (10 : Int64)) = (109951162777 : Int64) from by decide]
        show own_Go p e below s _ _ (s₁.setTop (mkF m 76 #[iv p0, jv q1, .second, jv ((p0.toInt64) + (1 : Int64)), .second, jv 1099511627776, .second] [(.long 109951162777)]))
        refine own_via (fun k => XS.lload X0.here hx rfl (hb hby d1_76) rfl  (X0.ldc2Long hx hown (mvT hZ (hw _ (List.mem_of_getElem? (i := 12) rfl))) (g := (mkF m 78 #[iv p0, jv q1, .second, jv ((p0.toInt64) + (1 : Int64)), .second, jv 1099511627776, .second] [(.long 1099511627776), (.long 109951162777)])) rfl (hb hby d1_78) _ (XS.lrem X0.here hx rfl (hb hby d1_81) rfl (by decide) k))) ?_
        show own_Go p e below s _ _ (s₁.setTop (mkF m 82 #[iv p0, jv q1, .second, jv ((p0.toInt64) + (1 : Int64)), .second, jv 1099511627776, .second] [(.long ((1099511627776 : Int64) - ((1099511627776 : Int64) / (10 : Int64)) * (10 : Int64))), (.long 109951162777)]))
        rw [show ((1099511627776 : Int64) - ((1099511627776 : Int64) / (10 : Int64)) * (10 : Int64)) = (6 : Int64) from by decide]
        show own_Go p e below s _ _ (s₁.setTop (mkF m 82 #[iv p0, jv q1, .second, jv ((p0.toInt64) + (1 : Int64)), .second, jv 1099511627776, .second] [(.long 6), (.long 109951162777)]))
        refine own_via (fun k => XS.lconst X0.here hx rfl (hb hby d1_82) (XS.lcmp X0.here hx rfl (hb hby d1_83) rfl k)) ?_
        show own_Go p e below s _ _ (s₁.setTop (mkF m 84 #[iv p0, jv q1, .second, jv ((p0.toInt64) + (1 : Int64)), .second, jv 1099511627776, .second] [(.int (lcmpW (6 : Int64) (0 : Int64))), (.long 109951162777)]))
        refine own_via (fun k => XS.ifYes X0.here hx rfl (pc0 := 84) (pc' := 91) rfl (hb hby d1_84) rfl (by decide) (by decide) (by decide) k) ?_
        show own_Go p e below s _ _ (s₁.setTop (mkF m 91 #[iv p0, jv q1, .second, jv ((p0.toInt64) + (1 : Int64)), .second, jv 1099511627776, .second] [(.long 109951162777)]))
        refine own_via (fun k => XS.iconst X0.here hx rfl (hb hby d1_91) (XS.i2l X0.here hx rfl (hb hby d1_92) rfl (XS.ladd X0.here hx rfl (hb hby d1_93) rfl k))) ?_
        show own_Go p e below s _ _ (s₁.setTop (mkF m 94 #[iv p0, jv q1, .second, jv ((p0.toInt64) + (1 : Int64)), .second, jv 1099511627776, .second] [(.long 109951162778)]))
        exact own_retL X0 hx hlk Bd.returns (hb hby d1_94) (Q := (Q1 Z p0 q1 h0 n0)) ⟨(congrArg (fun z => some (Value.long z)) (show (109951162778 : Int64) = (own_f1 p0 q1) from (by unfold own_f1; exact ((if_pos hc1).trans ((if_pos hc2).trans ((if_neg hc3).trans rfl))).symm))), N0, e0⟩ (by decide) (by decide)
    · refine own_via (fun k => XS.ifNo X0.here hx rfl (hb hby d1_26) rfl ((if0 _ _).trans (flt (mt (lw_gt _ _).mp hc2)).2.2.1) k) ?_
      show own_Go p e below s _ _ (s₁.setTop (mkF m 29 #[iv p0, jv q1, .second, jv ((p0.toInt64) + (1 : Int64)), .second, .unset, .unset] []))
      refine own_via (fun k => X0.ldc2Long hx hown (mvT hZ (hw _ (List.mem_of_getElem? (i := 6) rfl))) (g := (mkF m 29 #[iv p0, jv q1, .second, jv ((p0.toInt64) + (1 : Int64)), .second, .unset, .unset] [])) rfl (hb hby d1_29) _ (XS.lloadN X0.here hx rfl (hb hby d1_32) rfl  (XS.lloadN X0.here hx rfl (hb hby d1_33) rfl  (XS.lmul X0.here hx rfl (hb hby d1_34) rfl k)))) ?_
      show own_Go p e below s _ _ (s₁.setTop (mkF m 35 #[iv p0, jv q1, .second, jv ((p0.toInt64) + (1 : Int64)), .second, .unset, .unset] [(.long (((p0.toInt64) + (1 : Int64)) * q1)), (.long 1099511627776)]))
      obtain ⟨_, _, ⟨T7, L7, k7, n7⟩, -, X7, ⟨Lc7, hQ7, l7, y7, z7⟩, st7⟩ := Jvm.LawKit.callS X0 hx (y := (⟨"java/lang/Math", "min", "(JJ)J"⟩ : MethodName)) hown (mvT hZ (hw _ (List.mem_of_getElem? (i := 8) rfl))) (mvT hZ (hw _ (List.mem_of_getElem? (i := 9) rfl))) (mvT hZ (hw _ (List.mem_of_getElem? (i := 10) rfl))) (mvT hZ (hw _ (List.mem_of_getElem? (i := 11) rfl))) (by decide) (backOf (W := 0) (rm2 l Z aw hw [] (1099511627776 : Int64) (((p0.toInt64) + (1 : Int64)) * q1) h0 n0 Z0) hZ (hw _ (List.mem_of_getElem? (i := 11) rfl)) (hw _ (List.mem_of_getElem? (i := 10) rfl)) (by decide) (by decide)) (g := (mkF m 35 #[iv p0, jv q1, .second, jv ((p0.toInt64) + (1 : Int64)), .second, .unset, .unset] [(.long (((p0.toInt64) + (1 : Int64)) * q1)), (.long 1099511627776)])) rfl (by rw [hml]; rfl) (argsL := [(.long 1099511627776), (.long (((p0.toInt64) + (1 : Int64)) * q1))]) (rest := []) (lenOf pd_1 rfl) rfl (by show 2 * 0 + _ ≤ _; exact Nat.le_of_eq rfl) (hb hby d1_35) (fun _ _ => ⟨rfl, e0, (by decide : 0 + 0 ≤ _), (by decide : 0 + 0 ≤ _)⟩)
      dsimp only [Pt.U, Pt.locs, Pt.cells, Pt.slots] at X7 l7 y7 z7 st7 hQ7
      subst l7 y7 z7
      obtain ⟨rfl, N7q, eh7⟩ := hQ7
      have N8 := Fr.app N0 N7q
      refine own_via (fun k => st7 _ k) ?_
      show own_Go p e below s _ _ (T7.setTop (mkF m 38 #[iv p0, jv q1, .second, jv ((p0.toInt64) + (1 : Int64)), .second, .unset, .unset] [(.long (own_f2 (1099511627776 : Int64) (((p0.toInt64) + (1 : Int64)) * q1)))]))
      refine own_via (fun k => XS.lstore X7.here hx rfl (hb hby d1_38) rfl (l' := #[iv p0, jv q1, .second, jv ((p0.toInt64) + (1 : Int64)), .second, jv (own_f2 (1099511627776 : Int64) (((p0.toInt64) + (1 : Int64)) * q1)), .second]) rfl (XS.goto X7.here hx rfl (pc0 := 40) (pc' := 70) rfl (hb hby d1_40) (by decide) (by decide) (XS.lload X7.here hx rfl (hb hby d1_70) rfl  (X7.ldc2Long hx hown (mvT hZ (hw _ (List.mem_of_getElem? (i := 12) rfl))) (g := (mkF m 72 #[iv p0, jv q1, .second, jv ((p0.toInt64) + (1 : Int64)), .second, jv (own_f2 (1099511627776 : Int64) (((p0.toInt64) + (1 : Int64)) * q1)), .second] [(.long (own_f2 (1099511627776 : Int64) (((p0.toInt64) + (1 : Int64)) * q1)))])) rfl (hb hby d1_72) _ k)))) ?_
      show own_Go p e below s _ _ (T7.setTop (mkF m 75 #[iv p0, jv q1, .second, jv ((p0.toInt64) + (1 : Int64)), .second, jv (own_f2 (1099511627776 : Int64) (((p0.toInt64) + (1 : Int64)) * q1)), .second] [(.long 10), (.long (own_f2 (1099511627776 : Int64) (((p0.toInt64) + (1 : Int64)) * q1)))]))
      refine own_via (fun k => XS.ldiv X7.here hx rfl (hb hby d1_75) rfl (by decide) (XS.lload X7.here hx rfl (hb hby d1_76) rfl  (X7.ldc2Long hx hown (mvT hZ (hw _ (List.mem_of_getElem? (i := 12) rfl))) (g := (mkF m 78 #[iv p0, jv q1, .second, jv ((p0.toInt64) + (1 : Int64)), .second, jv (own_f2 (1099511627776 : Int64) (((p0.toInt64) + (1 : Int64)) * q1)), .second] [(.long (own_f2 (1099511627776 : Int64) (((p0.toInt64) + (1 : Int64)) * q1))), (.long ((own_f2 (1099511627776 : Int64) (((p0.toInt64) + (1 : Int64)) * q1)) / (10 : Int64)))])) rfl (hb hby d1_78) _ (XS.lrem X7.here hx rfl (hb hby d1_81) rfl (by decide) k)))) ?_
      show own_Go p e below s _ _ (T7.setTop (mkF m 82 #[iv p0, jv q1, .second, jv ((p0.toInt64) + (1 : Int64)), .second, jv (own_f2 (1099511627776 : Int64) (((p0.toInt64) + (1 : Int64)) * q1)), .second] [(.long ((own_f2 (1099511627776 : Int64) (((p0.toInt64) + (1 : Int64)) * q1)) - ((own_f2 (1099511627776 : Int64) (((p0.toInt64) + (1 : Int64)) * q1)) / (10 : Int64)) * (10 : Int64))), (.long ((own_f2 (1099511627776 : Int64) (((p0.toInt64) + (1 : Int64)) * q1)) / (10 : Int64)))]))
      refine own_via (fun k => XS.lconst X7.here hx rfl (hb hby d1_82) (XS.lcmp X7.here hx rfl (hb hby d1_83) rfl k)) ?_
      show own_Go p e below s _ _ (T7.setTop (mkF m 84 #[iv p0, jv q1, .second, jv ((p0.toInt64) + (1 : Int64)), .second, jv (own_f2 (1099511627776 : Int64) (((p0.toInt64) + (1 : Int64)) * q1)), .second] [(.int (lcmpW ((own_f2 (1099511627776 : Int64) (((p0.toInt64) + (1 : Int64)) * q1)) - ((own_f2 (1099511627776 : Int64) (((p0.toInt64) + (1 : Int64)) * q1)) / (10 : Int64)) * (10 : Int64)) (0 : Int64))), (.long ((own_f2 (1099511627776 : Int64) (((p0.toInt64) + (1 : Int64)) * q1)) / (10 : Int64)))]))
      by_cases hc9 : ((own_f2 (1099511627776 : Int64) (((p0.toInt64) + (1 : Int64)) * q1)) - ((own_f2 (1099511627776 : Int64) (((p0.toInt64) + (1 : Int64)) * q1)) / (10 : Int64)) * (10 : Int64)) = (0 : Int64)
      · refine own_via (fun k => XS.ifNo X7.here hx rfl (hb hby d1_84) rfl ((if0 _ _).trans (teq ((lw_eq _ _).mpr hc9)).2) k) ?_
        show own_Go p e below s _ _ (T7.setTop (mkF m 87 #[iv p0, jv q1, .second, jv ((p0.toInt64) + (1 : Int64)), .second, jv (own_f2 (1099511627776 : Int64) (((p0.toInt64) + (1 : Int64)) * q1)), .second] [(.long ((own_f2 (1099511627776 : Int64) (((p0.toInt64) + (1 : Int64)) * q1)) / (10 : Int64)))]))
        refine own_via (fun k => XS.iconst X7.here hx rfl (hb hby d1_87) (XS.goto X7.here hx rfl (pc0 := 88) (pc' := 92) rfl (hb hby d1_88) (by decide) (by decide) (XS.i2l X7.here hx rfl (hb hby d1_92) rfl (XS.ladd X7.here hx rfl (hb hby d1_93) rfl k)))) ?_
        show own_Go p e below s _ _ (T7.setTop (mkF m 94 #[iv p0, jv q1, .second, jv ((p0.toInt64) + (1 : Int64)), .second, jv (own_f2 (1099511627776 : Int64) (((p0.toInt64) + (1 : Int64)) * q1)), .second] [(.long (((own_f2 (1099511627776 : Int64) (((p0.toInt64) + (1 : Int64)) * q1)) / (10 : Int64)) + (0 : Int64)))]))
        exact own_retL X7 hx hlk Bd.returns (hb hby d1_94) (Q := (Q1 Z p0 q1 h0 n0)) ⟨(congrArg (fun z => some (Value.long z)) (show (((own_f2 (1099511627776 : Int64) (((p0.toInt64) + (1 : Int64)) * q1)) / (10 : Int64)) + (0 : Int64)) = (own_f1 p0 q1) from (by unfold own_f1; exact ((if_pos hc1).trans ((if_neg hc2).trans ((if_pos hc9).trans rfl))).symm))), N8, eh7⟩ (by decide) (by decide)
      · refine own_via (fun k => XS.ifYes X7.here hx rfl (pc0 := 84) (pc' := 91) rfl (hb hby d1_84) rfl ((if0 _ _).trans (feq (mt (lw_eq _ _).mp hc9)).2) (by decide) (by decide) k) ?_
        show own_Go p e below s _ _ (T7.setTop (mkF m 91 #[iv p0, jv q1, .second, jv ((p0.toInt64) + (1 : Int64)), .second, jv (own_f2 (1099511627776 : Int64) (((p0.toInt64) + (1 : Int64)) * q1)), .second] [(.long ((own_f2 (1099511627776 : Int64) (((p0.toInt64) + (1 : Int64)) * q1)) / (10 : Int64)))]))
        refine own_via (fun k => XS.iconst X7.here hx rfl (hb hby d1_91) (XS.i2l X7.here hx rfl (hb hby d1_92) rfl (XS.ladd X7.here hx rfl (hb hby d1_93) rfl k))) ?_
        show own_Go p e below s _ _ (T7.setTop (mkF m 94 #[iv p0, jv q1, .second, jv ((p0.toInt64) + (1 : Int64)), .second, jv (own_f2 (1099511627776 : Int64) (((p0.toInt64) + (1 : Int64)) * q1)), .second] [(.long (((own_f2 (1099511627776 : Int64) (((p0.toInt64) + (1 : Int64)) * q1)) / (10 : Int64)) + (1 : Int64)))]))
        exact own_retL X7 hx hlk Bd.returns (hb hby d1_94) (Q := (Q1 Z p0 q1 h0 n0)) ⟨(congrArg (fun z => some (Value.long z)) (show (((own_f2 (1099511627776 : Int64) (((p0.toInt64) + (1 : Int64)) * q1)) / (10 : Int64)) + (1 : Int64)) = (own_f1 p0 q1) from (by unfold own_f1; exact ((if_pos hc1).trans ((if_neg hc2).trans ((if_neg hc9).trans rfl))).symm))), N8, eh7⟩ (by decide) (by decide)
  · refine own_via (fun k => XS.ifNo X0.here hx rfl (hb hby d1_10) rfl ((if0 _ _).trans (flt (mt (lw_lt _ _).mp hc1)).1) k) ?_
    show own_Go p e below s _ _ (s₁.setTop (mkF m 13 #[iv p0, jv q1, .second, jv ((p0.toInt64) + (1 : Int64)), .second, .unset, .unset] []))
    refine own_via (fun k => X0.ldc2Long hx hown (mvT hZ (hw _ (List.mem_of_getElem? (i := 6) rfl))) (g := (mkF m 13 #[iv p0, jv q1, .second, jv ((p0.toInt64) + (1 : Int64)), .second, .unset, .unset] [])) rfl (hb hby d1_13) _ (XS.lstore X0.here hx rfl (hb hby d1_16) rfl (l' := #[iv p0, jv q1, .second, jv ((p0.toInt64) + (1 : Int64)), .second, jv 1099511627776, .second]) rfl (XS.goto X0.here hx rfl (pc0 := 18) (pc' := 70) rfl (hb hby d1_18) (by decide) (by decide) (XS.lload X0.here hx rfl (hb hby d1_70) rfl  k)))) ?_
    show own_Go p e below s _ _ (s₁.setTop (mkF m 72 #[iv p0, jv q1, .second, jv ((p0.toInt64) + (1 : Int64)), .second, jv 1099511627776, .second] [(.long 1099511627776)]))
    refine own_via (fun k => X0.ldc2Long hx hown (mvT hZ (hw _ (List.mem_of_getElem? (i := 12) rfl))) (g := (mkF m 72 #[iv p0, jv q1, .second, jv ((p0.toInt64) + (1 : Int64)), .second, jv 1099511627776, .second] [(.long 1099511627776)])) rfl (hb hby d1_72) _ (XS.ldiv X0.here hx rfl (hb hby d1_75) rfl (by decide) k)) ?_
    show own_Go p e below s _ _ (s₁.setTop (mkF m 76 #[iv p0, jv q1, .second, jv ((p0.toInt64) + (1 : Int64)), .second, jv 1099511627776, .second] [(.long ((1099511627776 : Int64) / (10 : Int64)))]))
    rw [show ((1099511627776 : Int64) / (10 : Int64)) = (109951162777 : Int64) from by decide]
    show own_Go p e below s _ _ (s₁.setTop (mkF m 76 #[iv p0, jv q1, .second, jv ((p0.toInt64) + (1 : Int64)), .second, jv 1099511627776, .second] [(.long 109951162777)]))
    refine own_via (fun k => XS.lload X0.here hx rfl (hb hby d1_76) rfl  (X0.ldc2Long hx hown (mvT hZ (hw _ (List.mem_of_getElem? (i := 12) rfl))) (g := (mkF m 78 #[iv p0, jv q1, .second, jv ((p0.toInt64) + (1 : Int64)), .second, jv 1099511627776, .second] [(.long 1099511627776), (.long 109951162777)])) rfl (hb hby d1_78) _ (XS.lrem X0.here hx rfl (hb hby d1_81) rfl (by decide) k))) ?_
    show own_Go p e below s _ _ (s₁.setTop (mkF m 82 #[iv p0, jv q1, .second, jv ((p0.toInt64) + (1 : Int64)), .second, jv 1099511627776, .second] [(.long ((1099511627776 : Int64) - ((1099511627776 : Int64) / (10 : Int64)) * (10 : Int64))), (.long 109951162777)]))
    rw [show ((1099511627776 : Int64) - ((1099511627776 : Int64) / (10 : Int64)) * (10 : Int64)) = (6 : Int64) from by decide]
    show own_Go p e below s _ _ (s₁.setTop (mkF m 82 #[iv p0, jv q1, .second, jv ((p0.toInt64) + (1 : Int64)), .second, jv 1099511627776, .second] [(.long 6), (.long 109951162777)]))
    refine own_via (fun k => XS.lconst X0.here hx rfl (hb hby d1_82) (XS.lcmp X0.here hx rfl (hb hby d1_83) rfl k)) ?_
    show own_Go p e below s _ _ (s₁.setTop (mkF m 84 #[iv p0, jv q1, .second, jv ((p0.toInt64) + (1 : Int64)), .second, jv 1099511627776, .second] [(.int (lcmpW (6 : Int64) (0 : Int64))), (.long 109951162777)]))
    refine own_via (fun k => XS.ifYes X0.here hx rfl (pc0 := 84) (pc' := 91) rfl (hb hby d1_84) rfl (by decide) (by decide) (by decide) k) ?_
    show own_Go p e below s _ _ (s₁.setTop (mkF m 91 #[iv p0, jv q1, .second, jv ((p0.toInt64) + (1 : Int64)), .second, jv 1099511627776, .second] [(.long 109951162777)]))
    refine own_via (fun k => XS.iconst X0.here hx rfl (hb hby d1_91) (XS.i2l X0.here hx rfl (hb hby d1_92) rfl (XS.ladd X0.here hx rfl (hb hby d1_93) rfl k))) ?_
    show own_Go p e below s _ _ (s₁.setTop (mkF m 94 #[iv p0, jv q1, .second, jv ((p0.toInt64) + (1 : Int64)), .second, jv 1099511627776, .second] [(.long 109951162778)]))
    exact own_retL X0 hx hlk Bd.returns (hb hby d1_94) (Q := (Q1 Z p0 q1 h0 n0)) ⟨(congrArg (fun z => some (Value.long z)) (show (109951162778 : Int64) = (own_f1 p0 q1) from (by unfold own_f1; exact ((if_neg hc1).trans rfl).symm))), N0, e0⟩ (by decide) (by decide)
theorem d4_0 : decode prog_9_method_11_code 0 = .ok (.lload_n 2, 1) := by decide +kernel
theorem d4_1 : decode prog_9_method_11_code 1 = .ok (.lconst 0, 1) := by decide +kernel
theorem d4_2 : decode prog_9_method_11_code 2 = .ok (.lcmp, 1) := by decide +kernel
theorem d4_3 : decode prog_9_method_11_code 3 = .ok (.ifCond .eq 19, 3) := by decide +kernel
theorem d4_6 : decode prog_9_method_11_code 6 = .ok (.lload_n 0, 1) := by decide +kernel
theorem d4_7 : decode prog_9_method_11_code 7 = .ok (.ldc2_w 79, 3) := by decide +kernel
theorem d4_10 : decode prog_9_method_11_code 10 = .ok (.lload_n 2, 1) := by decide +kernel
theorem d4_11 : decode prog_9_method_11_code 11 = .ok (.ldiv, 1) := by decide +kernel
theorem d4_12 : decode prog_9_method_11_code 12 = .ok (.lcmp, 1) := by decide +kernel
theorem d4_13 : decode prog_9_method_11_code 13 = .ok (.ifCond .le 9, 3) := by decide +kernel
theorem d4_16 : decode prog_9_method_11_code 16 = .ok (.ldc2_w 79, 3) := by decide +kernel
theorem d4_19 : decode prog_9_method_11_code 19 = .ok (.goto 12, 3) := by decide +kernel
theorem d4_22 : decode prog_9_method_11_code 22 = .ok (.ldc2_w 79, 3) := by decide +kernel
theorem d4_25 : decode prog_9_method_11_code 25 = .ok (.lload_n 0, 1) := by decide +kernel
theorem d4_26 : decode prog_9_method_11_code 26 = .ok (.lload_n 2, 1) := by decide +kernel
theorem d4_27 : decode prog_9_method_11_code 27 = .ok (.lmul, 1) := by decide +kernel
theorem d4_28 : decode prog_9_method_11_code 28 = .ok (.invokestatic 81, 3) := by decide +kernel
theorem d4_31 : decode prog_9_method_11_code 31 = .ok (.lreturn, 1) := by decide +kernel
theorem pn_4 : plainName "com/example/grant3/grant3/condition/PatternCost" = true := by first | (simp [plainName, overriddenIn]; done) | decide +kernel
theorem ef_4 (m : MethodId) (x0 : Int64) (x1 : Int64) : entryFrame m #[(.long x0), (.long x1)] 4 = mkF m 0 #[jv x0, .second, jv x1, .second] [] := by first | (simp [entryFrame, mkF, argsToLocals, Value.category]; done) | rfl
def own_f4 (q0 : Int64) (q1 : Int64) : Int64 := (if q1 = (0 : Int64) then (own_f2 (1099511627776 : Int64) (q0 * q1)) else (if ((1099511627776 : Int64) / q1) < q0 then (1099511627776 : Int64) else (own_f2 (1099511627776 : Int64) (q0 * q1))))
def Q4 (Z : State) (q0 : Int64) (q1 : Int64) (h0 : Heap) (n0 : Nat) (v : Option Value) (h : Heap) (L : List Loc) : Prop := v = some (.long (own_f4 q0 q1)) ∧ Fr n0 L ∧ h = h0
set_option maxRecDepth 65536 in
set_option maxHeartbeats 40000000 in
theorem rm4 (l : Launch) (Z : State) (aw : Array Value) (hw : ∀ d ∈ tables_1, d.before aw Z = true) (ws : List Jvm.Cond) (q0 : Int64) (q1 : Int64) (h0 : Heap) (n0 : Nat) (Z0 : n0 ≤ h0.size)  :
    MetFree l (⟨"com/example/grant3/grant3/condition/PatternCost", "times", "(JJ)J"⟩ : MethodName) (head1 (Jvm.Cond.code (⟨"com/example/grant3/grant3/condition/PatternCost", "times", "(JJ)J"⟩ : MethodName) prog_9_method_11_code 4 (some .long) :: ws) ({ frames := 1, cells := 0, slots := 0, locals := 15 } : Room)) (fun a U => a = #[(.long q0), (.long q1)] ∧ Z.Warmed39 U.vm ∧ U.heap = h0) (fun _ _ _ _ _ => True) (fun _ U o U' => ∃ v L, o = .returned v ∧ Q4 Z q0 q1 h0 n0 v U'.heap L ∧ FrameEnd U o U' L ({ frames := 1, cells := 0, slots := 0, locals := 15 } : Room).cells ({ frames := 1, cells := 0, slots := 0, locals := 15 } : Room).slots) := by
  refine MetFree.of_bodySF (plainFor_of_name pn_4) hisR ?_
  intro p e s m args below meth c s₁ Bd hml0 hP hK
  obtain ⟨rfl, hZ, hh⟩ := hP
  have hx := Bd.exec
  have hby := Bd.bytes
  have hml : c.maxLocals = 4 := hml0
  have hown : s.vm.findClass "com/example/grant3/grant3/condition/PatternCost" = some m.cls := findClass_of_methodNamed Bd.named
  have hnm := (name_of_methodNamed Bd.named Bd.method).1
  have hlk : meth.locks = false := by first | exact BodyLoose.notSynchronized (by assumption) | exact Body.notSynchronized (by assumption)
  have X0 : Stand p l e ({ frames := 1, cells := 0, slots := 0, locals := 15 } : Room) s m #[(.long q0), (.long q1)] below meth c s₁ [] 0 0 := Stand.of_body Bd
  have e0 : s₁.heap = h0 := by rw [← hh, Bd.state]; rfl
  have N0 := Fr.nil n0
  have K0 : Keep h0 h0 [] := Keep.refl _ _
  refine own_start (CS := (0, 0)) (Q := (Q4 Z q0 q1 h0 n0)) (ef_4 m q0 q1) ?_
  show own_Go p e below s _ _ (s₁.setTop (mkF m 0 #[jv q0, .second, jv q1, .second] []))
  refine own_via (fun k => XS.lloadN X0.here hx rfl (hb hby d4_0) rfl  (XS.lconst X0.here hx rfl (hb hby d4_1) (XS.lcmp X0.here hx rfl (hb hby d4_2) rfl k))) ?_
  show own_Go p e below s _ _ (s₁.setTop (mkF m 3 #[jv q0, .second, jv q1, .second] [(.int (lcmpW q1 (0 : Int64)))]))
  by_cases hc1 : q1 = (0 : Int64)
  · refine own_via (fun k => XS.ifYes X0.here hx rfl (pc0 := 3) (pc' := 22) rfl (hb hby d4_3) rfl ((if0 _ _).trans (teq ((lw_eq _ _).mpr hc1)).1) (by decide) (by decide) k) ?_
    show own_Go p e below s _ _ (s₁.setTop (mkF m 22 #[jv q0, .second, jv q1, .second] []))
    refine own_via (fun k => X0.ldc2Long hx hown (mvT hZ (hw _ (List.mem_of_getElem? (i := 20) rfl))) (g := (mkF m 22 #[jv q0, .second, jv q1, .second] [])) rfl (hb hby d4_22) _ (XS.lloadN X0.here hx rfl (hb hby d4_25) rfl  (XS.lloadN X0.here hx rfl (hb hby d4_26) rfl  (XS.lmul X0.here hx rfl (hb hby d4_27) rfl k)))) ?_
    show own_Go p e below s _ _ (s₁.setTop (mkF m 28 #[jv q0, .second, jv q1, .second] [(.long (q0 * q1)), (.long 1099511627776)]))
    obtain ⟨_, _, ⟨T2, L2, k2, n2⟩, -, X2, ⟨Lc2, hQ2, l2, y2, z2⟩, st2⟩ := Jvm.LawKit.callS X0 hx (y := (⟨"java/lang/Math", "min", "(JJ)J"⟩ : MethodName)) hown (mvT hZ (hw _ (List.mem_of_getElem? (i := 21) rfl))) (mvT hZ (hw _ (List.mem_of_getElem? (i := 9) rfl))) (mvT hZ (hw _ (List.mem_of_getElem? (i := 10) rfl))) (mvT hZ (hw _ (List.mem_of_getElem? (i := 11) rfl))) (by decide) (backOf (W := 0) (rm2 l Z aw hw [] (1099511627776 : Int64) (q0 * q1) h0 n0 Z0) hZ (hw _ (List.mem_of_getElem? (i := 11) rfl)) (hw _ (List.mem_of_getElem? (i := 10) rfl)) (by decide) (by decide)) (g := (mkF m 28 #[jv q0, .second, jv q1, .second] [(.long (q0 * q1)), (.long 1099511627776)])) rfl (by rw [hml]; rfl) (argsL := [(.long 1099511627776), (.long (q0 * q1))]) (rest := []) (lenOf pd_1 rfl) rfl (by show 2 * 0 + _ ≤ _; exact Nat.le_of_eq rfl) (hb hby d4_28) (fun _ _ => ⟨rfl, e0, (by decide : 0 + 0 ≤ _), (by decide : 0 + 0 ≤ _)⟩)
    dsimp only [Pt.U, Pt.locs, Pt.cells, Pt.slots] at X2 l2 y2 z2 st2 hQ2
    subst l2 y2 z2
    obtain ⟨rfl, N2q, eh2⟩ := hQ2
    have N3 := Fr.app N0 N2q
    refine own_via (fun k => st2 _ k) ?_
    show own_Go p e below s _ _ (T2.setTop (mkF m 31 #[jv q0, .second, jv q1, .second] [(.long (own_f2 (1099511627776 : Int64) (q0 * q1)))]))
    exact own_retL X2 hx hlk Bd.returns (hb hby d4_31) (Q := (Q4 Z q0 q1 h0 n0)) ⟨(congrArg (fun z => some (Value.long z)) (show (own_f2 (1099511627776 : Int64) (q0 * q1)) = (own_f4 q0 q1) from (by unfold own_f4; exact ((if_pos hc1).trans rfl).symm))), N3, eh2⟩ (by decide) (by decide)
  · refine own_via (fun k => XS.ifNo X0.here hx rfl (hb hby d4_3) rfl ((if0 _ _).trans (feq (mt (lw_eq _ _).mp hc1)).1) k) ?_
    show own_Go p e below s _ _ (s₁.setTop (mkF m 6 #[jv q0, .second, jv q1, .second] []))
    refine own_via (fun k => XS.lloadN X0.here hx rfl (hb hby d4_6) rfl  (X0.ldc2Long hx hown (mvT hZ (hw _ (List.mem_of_getElem? (i := 20) rfl))) (g := (mkF m 7 #[jv q0, .second, jv q1, .second] [(.long q0)])) rfl (hb hby d4_7) _ (XS.lloadN X0.here hx rfl (hb hby d4_10) rfl  (XS.ldiv X0.here hx rfl (hb hby d4_11) rfl hc1 k)))) ?_
    show own_Go p e below s _ _ (s₁.setTop (mkF m 12 #[jv q0, .second, jv q1, .second] [(.long ((1099511627776 : Int64) / q1)), (.long q0)]))
    refine own_via (fun k => XS.lcmp X0.here hx rfl (hb hby d4_12) rfl k) ?_
    show own_Go p e below s _ _ (s₁.setTop (mkF m 13 #[jv q0, .second, jv q1, .second] [(.int (lcmpW q0 ((1099511627776 : Int64) / q1)))]))
    by_cases hc4 : ((1099511627776 : Int64) / q1) < q0
    · refine own_via (fun k => XS.ifNo X0.here hx rfl (hb hby d4_13) rfl ((if0 _ _).trans (tlt ((lw_gt _ _).mpr hc4)).2.2.2) k) ?_
      show own_Go p e below s _ _ (s₁.setTop (mkF m 16 #[jv q0, .second, jv q1, .second] []))
      refine own_via (fun k => X0.ldc2Long hx hown (mvT hZ (hw _ (List.mem_of_getElem? (i := 20) rfl))) (g := (mkF m 16 #[jv q0, .second, jv q1, .second] [])) rfl (hb hby d4_16) _ (XS.goto X0.here hx rfl (pc0 := 19) (pc' := 31) rfl (hb hby d4_19) (by decide) (by decide) k)) ?_
      show own_Go p e below s _ _ (s₁.setTop (mkF m 31 #[jv q0, .second, jv q1, .second] [(.long 1099511627776)]))
      exact own_retL X0 hx hlk Bd.returns (hb hby d4_31) (Q := (Q4 Z q0 q1 h0 n0)) ⟨(congrArg (fun z => some (Value.long z)) (show (1099511627776 : Int64) = (own_f4 q0 q1) from (by unfold own_f4; exact ((if_neg hc1).trans ((if_pos hc4).trans rfl)).symm))), N0, e0⟩ (by decide) (by decide)
    · refine own_via (fun k => XS.ifYes X0.here hx rfl (pc0 := 13) (pc' := 22) rfl (hb hby d4_13) rfl ((if0 _ _).trans (flt (mt (lw_gt _ _).mp hc4)).2.2.2) (by decide) (by decide) k) ?_
      show own_Go p e below s _ _ (s₁.setTop (mkF m 22 #[jv q0, .second, jv q1, .second] []))
      refine own_via (fun k => X0.ldc2Long hx hown (mvT hZ (hw _ (List.mem_of_getElem? (i := 20) rfl))) (g := (mkF m 22 #[jv q0, .second, jv q1, .second] [])) rfl (hb hby d4_22) _ (XS.lloadN X0.here hx rfl (hb hby d4_25) rfl  (XS.lloadN X0.here hx rfl (hb hby d4_26) rfl  (XS.lmul X0.here hx rfl (hb hby d4_27) rfl k)))) ?_
      show own_Go p e below s _ _ (s₁.setTop (mkF m 28 #[jv q0, .second, jv q1, .second] [(.long (q0 * q1)), (.long 1099511627776)]))
      obtain ⟨_, _, ⟨T5, L5, k5, n5⟩, -, X5, ⟨Lc5, hQ5, l5, y5, z5⟩, st5⟩ := Jvm.LawKit.callS X0 hx (y := (⟨"java/lang/Math", "min", "(JJ)J"⟩ : MethodName)) hown (mvT hZ (hw _ (List.mem_of_getElem? (i := 21) rfl))) (mvT hZ (hw _ (List.mem_of_getElem? (i := 9) rfl))) (mvT hZ (hw _ (List.mem_of_getElem? (i := 10) rfl))) (mvT hZ (hw _ (List.mem_of_getElem? (i := 11) rfl))) (by decide) (backOf (W := 0) (rm2 l Z aw hw [] (1099511627776 : Int64) (q0 * q1) h0 n0 Z0) hZ (hw _ (List.mem_of_getElem? (i := 11) rfl)) (hw _ (List.mem_of_getElem? (i := 10) rfl)) (by decide) (by decide)) (g := (mkF m 28 #[jv q0, .second, jv q1, .second] [(.long (q0 * q1)), (.long 1099511627776)])) rfl (by rw [hml]; rfl) (argsL := [(.long 1099511627776), (.long (q0 * q1))]) (rest := []) (lenOf pd_1 rfl) rfl (by show 2 * 0 + _ ≤ _; exact Nat.le_of_eq rfl) (hb hby d4_28) (fun _ _ => ⟨rfl, e0, (by decide : 0 + 0 ≤ _), (by decide : 0 + 0 ≤ _)⟩)
      dsimp only [Pt.U, Pt.locs, Pt.cells, Pt.slots] at X5 l5 y5 z5 st5 hQ5
      subst l5 y5 z5
      obtain ⟨rfl, N5q, eh5⟩ := hQ5
      have N6 := Fr.app N0 N5q
      refine own_via (fun k => st5 _ k) ?_
      show own_Go p e below s _ _ (T5.setTop (mkF m 31 #[jv q0, .second, jv q1, .second] [(.long (own_f2 (1099511627776 : Int64) (q0 * q1)))]))
      exact own_retL X5 hx hlk Bd.returns (hb hby d4_31) (Q := (Q4 Z q0 q1 h0 n0)) ⟨(congrArg (fun z => some (Value.long z)) (show (own_f2 (1099511627776 : Int64) (q0 * q1)) = (own_f4 q0 q1) from (by unfold own_f4; exact ((if_neg hc1).trans ((if_neg hc4).trans rfl)).symm))), N6, eh5⟩ (by decide) (by decide)
theorem d3_0 : decode prog_9_method_9_code 0 = .ok (.iload_n 0, 1) := by decide +kernel
theorem d3_1 : decode prog_9_method_9_code 1 = .ok (.i2l, 1) := by decide +kernel
theorem d3_2 : decode prog_9_method_9_code 2 = .ok (.lconst 1, 1) := by decide +kernel
theorem d3_3 : decode prog_9_method_9_code 3 = .ok (.ladd, 1) := by decide +kernel
theorem d3_4 : decode prog_9_method_9_code 4 = .ok (.lload_n 1, 1) := by decide +kernel
theorem d3_5 : decode prog_9_method_9_code 5 = .ok (.invokestatic 50, 3) := by decide +kernel
theorem d3_8 : decode prog_9_method_9_code 8 = .ok (.lstore_n 3, 1) := by decide +kernel
theorem d3_9 : decode prog_9_method_9_code 9 = .ok (.lload_n 3, 1) := by decide +kernel
theorem d3_10 : decode prog_9_method_9_code 10 = .ok (.ldc2_w 71, 3) := by decide +kernel
theorem d3_13 : decode prog_9_method_9_code 13 = .ok (.ladd, 1) := by decide +kernel
theorem d3_14 : decode prog_9_method_9_code 14 = .ok (.lconst 1, 1) := by decide +kernel
theorem d3_15 : decode prog_9_method_9_code 15 = .ok (.lsub, 1) := by decide +kernel
theorem d3_16 : decode prog_9_method_9_code 16 = .ok (.ldc2_w 71, 3) := by decide +kernel
theorem d3_19 : decode prog_9_method_9_code 19 = .ok (.ldiv, 1) := by decide +kernel
theorem d3_20 : decode prog_9_method_9_code 20 = .ok (.lreturn, 1) := by decide +kernel
theorem pn_3 : plainName "com/example/grant3/grant3/condition/PatternCost" = true := by first | (simp [plainName, overriddenIn]; done) | decide +kernel
theorem ef_3 (m : MethodId) (x0 : Int32) (x1 : Int64) : entryFrame m #[(.int x0), (.long x1)] 5 = mkF m 0 #[iv x0, jv x1, .second, .unset, .unset] [] := by first | (simp [entryFrame, mkF, argsToLocals, Value.category]; done) | rfl
def own_f3 (p0 : Int32) (q1 : Int64) : Int64 := ((((own_f4 ((p0.toInt64) + (1 : Int64)) q1) + (10 : Int64)) - (1 : Int64)) / (10 : Int64))
def Q3 (Z : State) (p0 : Int32) (q1 : Int64) (h0 : Heap) (n0 : Nat) (v : Option Value) (h : Heap) (L : List Loc) : Prop := v = some (.long (own_f3 p0 q1)) ∧ Fr n0 L ∧ h = h0
set_option maxRecDepth 65536 in
set_option maxHeartbeats 40000000 in
theorem rm3 (l : Launch) (Z : State) (aw : Array Value) (hw : ∀ d ∈ tables_1, d.before aw Z = true) (ws : List Jvm.Cond) (p0 : Int32) (q1 : Int64) (h0 : Heap) (n0 : Nat) (Z0 : n0 ≤ h0.size)  :
    MetFree l (⟨"com/example/grant3/grant3/condition/PatternCost", "searchSteps", "(IJ)J"⟩ : MethodName) (head1 (Jvm.Cond.code (⟨"com/example/grant3/grant3/condition/PatternCost", "searchSteps", "(IJ)J"⟩ : MethodName) prog_9_method_9_code 5 (some .long) :: ws) ({ frames := 2, cells := 0, slots := 0, locals := 30 } : Room)) (fun a U => a = #[(.int p0), (.long q1)] ∧ Z.Warmed39 U.vm ∧ U.heap = h0) (fun _ _ _ _ _ => True) (fun _ U o U' => ∃ v L, o = .returned v ∧ Q3 Z p0 q1 h0 n0 v U'.heap L ∧ FrameEnd U o U' L ({ frames := 2, cells := 0, slots := 0, locals := 30 } : Room).cells ({ frames := 2, cells := 0, slots := 0, locals := 30 } : Room).slots) := by
  refine MetFree.of_bodySF (plainFor_of_name pn_3) hisR ?_
  intro p e s m args below meth c s₁ Bd hml0 hP hK
  obtain ⟨rfl, hZ, hh⟩ := hP
  have hx := Bd.exec
  have hby := Bd.bytes
  have hml : c.maxLocals = 5 := hml0
  have hown : s.vm.findClass "com/example/grant3/grant3/condition/PatternCost" = some m.cls := findClass_of_methodNamed Bd.named
  have hnm := (name_of_methodNamed Bd.named Bd.method).1
  have hlk : meth.locks = false := by first | exact BodyLoose.notSynchronized (by assumption) | exact Body.notSynchronized (by assumption)
  have X0 : Stand p l e ({ frames := 2, cells := 0, slots := 0, locals := 30 } : Room) s m #[(.int p0), (.long q1)] below meth c s₁ [] 0 0 := Stand.of_body Bd
  have e0 : s₁.heap = h0 := by rw [← hh, Bd.state]; rfl
  have N0 := Fr.nil n0
  have K0 : Keep h0 h0 [] := Keep.refl _ _
  refine own_start (CS := (0, 0)) (Q := (Q3 Z p0 q1 h0 n0)) (ef_3 m p0 q1) ?_
  show own_Go p e below s _ _ (s₁.setTop (mkF m 0 #[iv p0, jv q1, .second, .unset, .unset] []))
  refine own_via (fun k => XS.iloadN X0.here hx rfl (hb hby d3_0) rfl  (XS.i2l X0.here hx rfl (hb hby d3_1) rfl (XS.lconst X0.here hx rfl (hb hby d3_2) (XS.ladd X0.here hx rfl (hb hby d3_3) rfl k)))) ?_
  show own_Go p e below s _ _ (s₁.setTop (mkF m 4 #[iv p0, jv q1, .second, .unset, .unset] [(.long ((p0.toInt64) + (1 : Int64)))]))
  refine own_via (fun k => XS.lloadN X0.here hx rfl (hb hby d3_4) rfl  k) ?_
  show own_Go p e below s _ _ (s₁.setTop (mkF m 5 #[iv p0, jv q1, .second, .unset, .unset] [(.long q1), (.long ((p0.toInt64) + (1 : Int64)))]))
  obtain ⟨_, _, ⟨T1, L1, k1, n1⟩, -, X1, ⟨Lc1, hQ1, l1, y1, z1⟩, st1⟩ := Jvm.LawKit.callS X0 hx (y := (⟨"com/example/grant3/grant3/condition/PatternCost", "times", "(JJ)J"⟩ : MethodName)) hown (mvT hZ (hw _ (List.mem_of_getElem? (i := 17) rfl))) (mvT hZ (hw _ (List.mem_of_getElem? (i := 18) rfl))) (mvT hZ (hw _ (List.mem_of_getElem? (i := 15) rfl))) (mvT hZ (hw _ (List.mem_of_getElem? (i := 19) rfl))) (by decide) (backOf (W := 0) (rm4 l Z aw hw [] ((p0.toInt64) + (1 : Int64)) q1 h0 n0 Z0) hZ (hw _ (List.mem_of_getElem? (i := 19) rfl)) (hw _ (List.mem_of_getElem? (i := 15) rfl)) (by decide) (by decide)) (g := (mkF m 5 #[iv p0, jv q1, .second, .unset, .unset] [(.long q1), (.long ((p0.toInt64) + (1 : Int64)))])) rfl (by rw [hml]; rfl) (argsL := [(.long ((p0.toInt64) + (1 : Int64))), (.long q1)]) (rest := []) (lenOf pd_1 rfl) rfl (by show 2 * 0 + _ ≤ _; exact Nat.le_of_eq rfl) (hb hby d3_5) (fun _ _ => ⟨rfl, e0, (by decide : 0 + 0 ≤ _), (by decide : 0 + 0 ≤ _)⟩)
  dsimp only [Pt.U, Pt.locs, Pt.cells, Pt.slots] at X1 l1 y1 z1 st1 hQ1
  subst l1 y1 z1
  obtain ⟨rfl, N1q, eh1⟩ := hQ1
  have N2 := Fr.app N0 N1q
  refine own_via (fun k => st1 _ k) ?_
  show own_Go p e below s _ _ (T1.setTop (mkF m 8 #[iv p0, jv q1, .second, .unset, .unset] [(.long (own_f4 ((p0.toInt64) + (1 : Int64)) q1))]))
  refine own_via (fun k => XS.lstoreN X1.here hx rfl (hb hby d3_8) rfl (l' := #[iv p0, jv q1, .second, jv (own_f4 ((p0.toInt64) + (1 : Int64)) q1), .second]) rfl (XS.lloadN X1.here hx rfl (hb hby d3_9) rfl  (X1.ldc2Long hx hown (mvT hZ (hw _ (List.mem_of_getElem? (i := 22) rfl))) (g := (mkF m 10 #[iv p0, jv q1, .second, jv (own_f4 ((p0.toInt64) + (1 : Int64)) q1), .second] [(.long (own_f4 ((p0.toInt64) + (1 : Int64)) q1))])) rfl (hb hby d3_10) _ (XS.ladd X1.here hx rfl (hb hby d3_13) rfl k)))) ?_
  show own_Go p e below s _ _ (T1.setTop (mkF m 14 #[iv p0, jv q1, .second, jv (own_f4 ((p0.toInt64) + (1 : Int64)) q1), .second] [(.long ((own_f4 ((p0.toInt64) + (1 : Int64)) q1) + (10 : Int64)))]))
  refine own_via (fun k => XS.lconst X1.here hx rfl (hb hby d3_14) (XS.lsub X1.here hx rfl (hb hby d3_15) rfl (X1.ldc2Long hx hown (mvT hZ (hw _ (List.mem_of_getElem? (i := 22) rfl))) (g := (mkF m 16 #[iv p0, jv q1, .second, jv (own_f4 ((p0.toInt64) + (1 : Int64)) q1), .second] [(.long (((own_f4 ((p0.toInt64) + (1 : Int64)) q1) + (10 : Int64)) - (1 : Int64)))])) rfl (hb hby d3_16) _ (XS.ldiv X1.here hx rfl (hb hby d3_19) rfl (by decide) k)))) ?_
  show own_Go p e below s _ _ (T1.setTop (mkF m 20 #[iv p0, jv q1, .second, jv (own_f4 ((p0.toInt64) + (1 : Int64)) q1), .second] [(.long ((((own_f4 ((p0.toInt64) + (1 : Int64)) q1) + (10 : Int64)) - (1 : Int64)) / (10 : Int64)))]))
  exact own_retL X1 hx hlk Bd.returns (hb hby d3_20) (Q := (Q3 Z p0 q1 h0 n0)) ⟨(congrArg (fun z => some (Value.long z)) (show ((((own_f4 ((p0.toInt64) + (1 : Int64)) q1) + (10 : Int64)) - (1 : Int64)) / (10 : Int64)) = (own_f3 p0 q1) from rfl)), N2, eh1⟩ (by decide) (by decide)
theorem pn_0 : plainName "com/example/grant3/grant3/condition/PatternCostSearchStepsPinLaw" = true := by first | (simp [plainName, overriddenIn]; done) | decide +kernel
theorem pd_0 : parseMethodDescriptor "(IJ)J" = some ⟨[.int, .long], some .long⟩ := by decide +kernel
theorem ef_0 (m : MethodId) (x0 : Int32) (x1 : Int64) (x2 : Int32) : entryFrame m #[(.int x0), (.long x1), (.int x2)] maxLocals = mkF m 0 #[iv x0, jv x1, .second, iv x2, .unset, .unset, .unset, .unset, .unset, .unset] [] := by first | (simp [entryFrame, mkF, argsToLocals, Value.category, maxLocals]; done) | rfl
theorem own_min (a b : Int64) : (own_f2 a b).toInt = min a.toInt b.toInt := by
  rw [own_f2]; split <;> rename_i h <;> rw [own_l64] at h <;> omega
theorem own_ceil (u : Int64) (h0 : 0 ≤ u.toInt) (h1 : u.toInt ≤ 1099511627776) : (((u + (10 : Int64)) - (1 : Int64)) / (10 : Int64)) = (if (u - (u / (10 : Int64)) * (10 : Int64)) = (0 : Int64) then ((u / (10 : Int64)) + (0 : Int64)) else ((u / (10 : Int64)) + (1 : Int64))) := by
  have e10 : (10 : Int64).toInt = 10 := by decide
  have e0 : (0 : Int64).toInt = 0 := by decide
  have e1 : (1 : Int64).toInt = 1 := by decide
  have a := c_ladd u 10; have ra := rng64 (u + 10); have b := c_lsub (u + 10) 1; have rb := rng64 (u + 10 - 1)
  have d := (c_ldiv (u + 10 - 1) 10 10 (by decide) (by decide)).1 (by omega)
  have d2 := (c_ldiv u 10 10 (by decide) (by decide)).1 h0
  have r := (c_lrem u 10 10 (by decide)).1 h0
  have p0 := c_ladd (u / 10) 0; have p1 := c_ladd (u / 10) 1; have rp0 := rng64 (u / 10 + 0); have rp1 := rng64 (u / 10 + 1)
  split <;> rename_i h <;> rw [own_e64] at h ⊢ <;> omega
/-- what 'times' gives where nothing wraps -/
theorem own_times (n i : Int64) (hn : 0 < n.toInt) (hi : 0 ≤ i.toInt) (hm : (n * i).toInt = n.toInt * i.toInt) : (own_f4 n i).toInt = min 1099511627776 (n.toInt * i.toInt) := by
  have eC : (1099511627776 : Int64).toInt = 1099511627776 := by decide
  have e0 : (0 : Int64).toInt = 0 := by decide
  rw [own_f4]
  split
  · rw [own_min, hm, eC]
  · rename_i h; rw [own_e64, e0] at h
    have d := (c_ldiv 1099511627776 i i.toInt rfl (by intro q; rw [q] at hi; revert hi; decide)).1 (by rw [eC]; decide)
    rw [eC] at d
    split
    · rename_i h2; rw [own_l64, d] at h2; rw [eC]
      have hp : 0 < i.toInt := by omega
      have := Int.lt_mul_of_ediv_lt hp h2
      omega
    · rw [own_min, hm, eC]
theorem own_big (n i : Int64) (hn : 0 < n.toInt) (hi : 0 < i.toInt) (h : 1099511627776 / i.toInt < n.toInt) : own_f4 n i = 1099511627776 := by
  have eC : (1099511627776 : Int64).toInt = 1099511627776 := by decide
  have e0 : (0 : Int64).toInt = 0 := by decide
  have d := (c_ldiv 1099511627776 i i.toInt rfl (by intro q; rw [q] at hi; revert hi; decide)).1 (by rw [eC]; decide)
  rw [own_f4, if_neg (by rw [own_e64, e0]; omega), if_pos (by rw [own_l64, d, eC]; exact h)]
theorem own_mul (n i : Int64) (hn : 0 ≤ n.toInt) (hi : 0 ≤ i.toInt) (a b : Int) (h1 : n.toInt ≤ a) (h2 : i.toInt ≤ b) (h : a * b < 9223372036854775808) : (n * i).toInt = n.toInt * i.toInt := by
  have c := c_lmul n i; have r := rng64 (n * i)
  have q1 : n.toInt * i.toInt ≤ a * b := Int.mul_le_mul h1 h2 hi (by omega)
  have q2 : 0 ≤ n.toInt * i.toInt := Int.mul_nonneg hn hi
  generalize n.toInt * i.toInt = m at *
  generalize a * b = ab at *
  omega
theorem own_main (t : Int32) (i : Int64) (ht : 0 ≤ t.toInt) (hi : 0 ≤ i.toInt) : own_f3 t i = own_f1 t i := by
  have eC : (1099511627776 : Int64).toInt = 1099511627776 := by decide
  have e1 : (1 : Int64).toInt = 1 := by decide
  have e2 : (8388608 : Int64).toInt = 8388608 := by decide
  have e3 : (131072 : Int64).toInt = 131072 := by decide
  have rt := rng32 t; have ri := rng64 i; have ct := c_i2l t
  have a := c_ladd t.toInt64 1; have ra := rng64 (t.toInt64 + 1)
  have hn : (t.toInt64 + 1).toInt = t.toInt + 1 := by omega
  rw [own_f3, own_f1]
  generalize t.toInt64 + 1 = n at *
  have key : ∀ u : Int64, own_f4 n i = u → 0 ≤ u.toInt → u.toInt ≤ 1099511627776 → (((own_f4 n i + (10 : Int64)) - (1 : Int64)) / (10 : Int64)) = (if (u - (u / (10 : Int64)) * (10 : Int64)) = (0 : Int64) then ((u / (10 : Int64)) + (0 : Int64)) else ((u / (10 : Int64)) + (1 : Int64))) := fun u e h0 h1 => by rw [e]; exact own_ceil u h0 h1
  have plain : ∀ A B : Int, n.toInt ≤ A → i.toInt ≤ B → A * B < 9223372036854775808 → own_f4 n i = own_f2 1099511627776 (n * i) ∧ 0 ≤ (own_f2 1099511627776 (n * i)).toInt ∧ (own_f2 1099511627776 (n * i)).toInt ≤ 1099511627776 := fun A B q1 q2 q3 => by
    have m := own_mul n i (by omega) hi A B q1 q2 q3
    have tm := own_times n i (by omega) hi m
    have nn : 0 ≤ n.toInt * i.toInt := Int.mul_nonneg (by omega) hi
    have mn := own_min 1099511627776 (n * i)
    rw [eC, m] at mn
    refine ⟨own_e64.mpr (by omega), by omega, by omega⟩
  by_cases h1 : i < 1099511627776
  · rw [if_pos h1]; rw [own_l64, eC] at h1
    by_cases h2 : (8388608 : Int64) < n
    · rw [if_pos h2]; rw [own_l64, e2] at h2
      by_cases h3 : i < 131072
      · rw [if_pos h3]; rw [own_l64, e3] at h3
        obtain ⟨p1, p2, p3⟩ := plain 2147483648 131072 (by omega) (by omega) (by decide)
        exact key _ p1 p2 p3
      · rw [if_neg h3]; rw [own_l64, e3] at h3
        rw [own_big n i (by omega) (by omega) (by
          have : (1099511627776 : Int) / i.toInt ≤ 8388608 := Int.ediv_le_of_le_mul (by omega) (by omega)
          omega)]
        decide
    · rw [if_neg h2]; rw [own_l64, e2] at h2
      obtain ⟨p1, p2, p3⟩ := plain 8388608 1099511627775 (by omega) (by omega) (by decide)
      exact key _ p1 p2 p3
  · rw [if_neg h1]; rw [own_l64, eC] at h1
    have : own_f4 n i = 1099511627776 := by
      by_cases h4 : 1099511627776 / i.toInt < n.toInt
      · exact own_big n i (by omega) (by omega) h4
      · have hd : (1099511627776 : Int) / i.toInt ≤ 1 := Int.ediv_le_of_le_mul (by omega) (by omega)
        have hn1 : n.toInt = 1 := by omega
        have hd1 : (1099511627776 : Int) / i.toInt = 1 := by omega
        have hi2 : i.toInt = 1099511627776 := by
          have q := Int.ediv_mul_le (1099511627776 : Int) (b := i.toInt) (by omega)
          rw [hd1] at q; omega
        have m := own_mul n i (by omega) hi 1 1099511627776 (by omega) (by omega) (by decide)
        have tm := own_times n i (by omega) hi m
        rw [own_e64, tm, hn1, hi2, eC]; decide
    rw [this]; decide
theorem own_tt (p2 p0 z1 : Int32) (hz1 : z1 = (if (p2 &&& (1 : Int32)) = (0 : Int32) then (p0 &&& (4095 : Int32)) else (p0 &&& (2147483647 : Int32)))) : 0 ≤ z1.toInt := by
  have a := c_mask p0 4095 12 (by decide) (by decide); have b := c_mask p0 2147483647 31 (by decide) (by decide)
  rw [hz1]; split <;> omega
theorem own_ii (c1 c2 c3 : Prop) [Decidable c1] [Decidable c2] [Decidable c3] (q1 z3 : Int64) (hz3 : z3 = (if c1 then (q1 &&& (9223372036854775807 : Int64)) else (if c2 then (q1 &&& (2199023255551 : Int64)) else (if c3 then (q1 &&& (4294967295 : Int64)) else (q1 &&& (262143 : Int64)))))) : 0 ≤ z3.toInt := by
  have a := c_maskL q1 9223372036854775807 63 (by decide) (by decide); have b := c_maskL q1 2199023255551 41 (by decide) (by decide)
  have c := c_maskL q1 4294967295 32 (by decide) (by decide); have d := c_maskL q1 262143 18 (by decide) (by decide)
  rw [hz3]; split
  · omega
  · split
    · omega
    · split <;> omega
theorem own_law (p0 : Int32) (q1 : Int64) (p2 : Int32) (z1 : Int32) (hz1 : z1 = (if (p2 &&& (1 : Int32)) = (0 : Int32) then (p0 &&& (4095 : Int32)) else (p0 &&& (2147483647 : Int32)))) (z3 : Int64) (hz3 : z3 = (if (((p2.toUInt32 >>> ((1 : Int32) &&& 31).toUInt32).toInt32) &&& (3 : Int32)) = (0 : Int32) then (q1 &&& (9223372036854775807 : Int64)) else (if (((p2.toUInt32 >>> ((1 : Int32) &&& 31).toUInt32).toInt32) &&& (3 : Int32)) = (1 : Int32) then (q1 &&& (2199023255551 : Int64)) else (if (((p2.toUInt32 >>> ((1 : Int32) &&& 31).toUInt32).toInt32) &&& (3 : Int32)) = (2 : Int32) then (q1 &&& (4294967295 : Int64)) else (q1 &&& (262143 : Int64)))))) : (own_f3 z1 z3) = (own_f1 z1 z3) := own_main _ _ (own_tt _ _ _ hz1) (own_ii _ _ _ _ _ hz3)
def Q0 (Z : State) (p0 : Int32) (q1 : Int64) (p2 : Int32) (h0 : Heap) (n0 : Nat) (v : Option Value) (h : Heap) (L : List Loc) : Prop := v = some (.int 1) ∧ Fr n0 L
set_option maxRecDepth 65536 in
set_option maxHeartbeats 40000000 in
theorem rm0 (l : Launch) (Z : State) (aw : Array Value) (hw : ∀ d ∈ tables_1, d.before aw Z = true) (ws : List Jvm.Cond) (p0 : Int32) (q1 : Int64) (p2 : Int32) (h0 : Heap) (n0 : Nat) (Z0 : n0 ≤ h0.size)  :
    MetFree l x (head1 (Jvm.Cond.code x code maxLocals ret :: ws) room_1) (fun a U => a = #[(.int p0), (.long q1), (.int p2)] ∧ Z.Warmed39 U.vm ∧ U.heap = h0) (fun _ _ _ _ _ => True) (fun _ U o U' => ∃ v L, o = .returned v ∧ Q0 Z p0 q1 p2 h0 n0 v U'.heap L ∧ FrameEnd U o U' L room_1.cells room_1.slots) := by
  refine MetFree.of_bodySF (plainFor_of_name pn_0) hisR ?_
  intro p e s m args below meth c s₁ Bd hml0 hP hK
  obtain ⟨rfl, hZ, hh⟩ := hP
  have hx := Bd.exec
  have hby := Bd.bytes
  have hml : c.maxLocals = 10 := hml0
  have hown : s.vm.findClass "com/example/grant3/grant3/condition/PatternCostSearchStepsPinLaw" = some m.cls := findClass_of_methodNamed Bd.named
  have hnm := (name_of_methodNamed Bd.named Bd.method).1
  have hlk : meth.locks = false := by first | exact BodyLoose.notSynchronized (by assumption) | exact Body.notSynchronized (by assumption)
  have X0 : Stand p l e room_1 s m #[(.int p0), (.long q1), (.int p2)] below meth c s₁ [] 0 0 := Stand.of_body Bd
  have e0 : s₁.heap = h0 := by rw [← hh, Bd.state]; rfl
  have N0 := Fr.nil n0
  refine own_start (CS := (room_1.cells, room_1.slots)) (Q := (Q0 Z p0 q1 p2 h0 n0)) (ef_0 m p0 q1 p2) ?_
  show own_Go p e below s _ _ (s₁.setTop (mkF m 0 #[iv p0, jv q1, .second, iv p2, .unset, .unset, .unset, .unset, .unset, .unset] []))
  refine own_via (fun k => XS.iloadN X0.here hx rfl (hb hby at_0) rfl  (XS.iconst X0.here hx rfl (hb hby at_1) (XS.iand X0.here hx rfl (hb hby at_2) rfl k))) ?_
  show own_Go p e below s _ _ (s₁.setTop (mkF m 3 #[iv p0, jv q1, .second, iv p2, .unset, .unset, .unset, .unset, .unset, .unset] [(.int (p2 &&& (1 : Int32)))]))
  have J2 : ∀ (z1 : Int32), z1 = (if (p2 &&& (1 : Int32)) = (0 : Int32) then (p0 &&& (4095 : Int32)) else (p0 &&& (2147483647 : Int32))) → own_Go p e below s (Q0 Z p0 q1 p2 h0 n0) (room_1.cells, room_1.slots) (s₁.setTop (mkF m 18 #[iv p0, jv q1, .second, iv p2, .unset, .unset, .unset, .unset, .unset, .unset] [(.int z1)])) := by
    intro z1 hz1
    refine own_via (fun k => XS.istore X0.here hx rfl (hb hby at_18) rfl (l' := #[iv p0, jv q1, .second, iv p2, iv z1, .unset, .unset, .unset, .unset, .unset]) rfl (XS.iloadN X0.here hx rfl (hb hby at_20) rfl  (XS.iconst X0.here hx rfl (hb hby at_21) (XS.iushr X0.here hx rfl (hb hby at_22) rfl k)))) ?_
    show own_Go p e below s _ _ (s₁.setTop (mkF m 23 #[iv p0, jv q1, .second, iv p2, iv z1, .unset, .unset, .unset, .unset, .unset] [(.int ((p2.toUInt32 >>> ((1 : Int32) &&& 31).toUInt32).toInt32))]))
    refine own_via (fun k => XS.iconst X0.here hx rfl (hb hby at_23) (XS.iand X0.here hx rfl (hb hby at_24) rfl (XS.istore X0.here hx rfl (hb hby at_25) rfl (l' := #[iv p0, jv q1, .second, iv p2, iv z1, iv (((p2.toUInt32 >>> ((1 : Int32) &&& 31).toUInt32).toInt32) &&& (3 : Int32)), .unset, .unset, .unset, .unset]) rfl (XS.iload X0.here hx rfl (hb hby at_27) rfl  k)))) ?_
    show own_Go p e below s _ _ (s₁.setTop (mkF m 29 #[iv p0, jv q1, .second, iv p2, iv z1, iv (((p2.toUInt32 >>> ((1 : Int32) &&& 31).toUInt32).toInt32) &&& (3 : Int32)), .unset, .unset, .unset, .unset] [(.int (((p2.toUInt32 >>> ((1 : Int32) &&& 31).toUInt32).toInt32) &&& (3 : Int32)))]))
    have J4 : ∀ (z3 : Int64), z3 = (if (((p2.toUInt32 >>> ((1 : Int32) &&& 31).toUInt32).toInt32) &&& (3 : Int32)) = (0 : Int32) then (q1 &&& (9223372036854775807 : Int64)) else (if (((p2.toUInt32 >>> ((1 : Int32) &&& 31).toUInt32).toInt32) &&& (3 : Int32)) = (1 : Int32) then (q1 &&& (2199023255551 : Int64)) else (if (((p2.toUInt32 >>> ((1 : Int32) &&& 31).toUInt32).toInt32) &&& (3 : Int32)) = (2 : Int32) then (q1 &&& (4294967295 : Int64)) else (q1 &&& (262143 : Int64))))) → own_Go p e below s (Q0 Z p0 q1 p2 h0 n0) (room_1.cells, room_1.slots) (s₁.setTop (mkF m 81 #[iv p0, jv q1, .second, iv p2, iv z1, iv (((p2.toUInt32 >>> ((1 : Int32) &&& 31).toUInt32).toInt32) &&& (3 : Int32)), jv z3, .second, .unset, .unset] [])) := by
      intro z3 hz3
      refine own_via (fun k => XS.iload X0.here hx rfl (hb hby at_81) rfl  (XS.lload X0.here hx rfl (hb hby at_83) rfl  k)) ?_
      show own_Go p e below s _ _ (s₁.setTop (mkF m 85 #[iv p0, jv q1, .second, iv p2, iv z1, iv (((p2.toUInt32 >>> ((1 : Int32) &&& 31).toUInt32).toInt32) &&& (3 : Int32)), jv z3, .second, .unset, .unset] [(.long z3), (.int z1)]))
      obtain ⟨_, _, ⟨T5, L5, k5, n5⟩, -, X5, ⟨Lc5, hQ5, l5, y5, z5⟩, st5⟩ := Jvm.LawKit.callS X0 hx (y := (⟨"com/example/grant3/grant3/condition/PatternCostSearchStepsPinLaw", "reference", "(IJ)J"⟩ : MethodName)) hown (mvT hZ (hw _ (List.mem_of_getElem? (i := 2) rfl))) (mvT hZ (hw _ (List.mem_of_getElem? (i := 3) rfl))) (mvT hZ (hw _ (List.mem_of_getElem? (i := 4) rfl))) (mvT hZ (hw _ (List.mem_of_getElem? (i := 5) rfl))) (by decide) (backOf (W := 0) (rm1 l Z aw hw [] z1 z3 h0 n0 Z0) hZ (hw _ (List.mem_of_getElem? (i := 5) rfl)) (hw _ (List.mem_of_getElem? (i := 4) rfl)) (by decide) (by decide)) (g := (mkF m 85 #[iv p0, jv q1, .second, iv p2, iv z1, iv (((p2.toUInt32 >>> ((1 : Int32) &&& 31).toUInt32).toInt32) &&& (3 : Int32)), jv z3, .second, .unset, .unset] [(.long z3), (.int z1)])) rfl (by rw [hml]; rfl) (argsL := [(.int z1), (.long z3)]) (rest := []) (lenOf pd_0 rfl) rfl (by show 2 * 0 + _ ≤ _; exact Nat.le_of_eq rfl) (hb hby at_85) (fun _ _ => ⟨rfl, e0, (by decide : 0 + 0 ≤ _), (by decide : 0 + 0 ≤ _)⟩)
      dsimp only [Pt.U, Pt.locs, Pt.cells, Pt.slots] at X5 l5 y5 z5 st5 hQ5
      subst l5 y5 z5
      obtain ⟨rfl, N5q, eh5⟩ := hQ5
      have N6 := Fr.app N0 N5q
      refine own_via (fun k => st5 _ k) ?_
      show own_Go p e below s _ _ (T5.setTop (mkF m 88 #[iv p0, jv q1, .second, iv p2, iv z1, iv (((p2.toUInt32 >>> ((1 : Int32) &&& 31).toUInt32).toInt32) &&& (3 : Int32)), jv z3, .second, .unset, .unset] [(.long (own_f1 z1 z3))]))
      refine own_via (fun k => XS.lstore X5.here hx rfl (hb hby at_88) rfl (l' := #[iv p0, jv q1, .second, iv p2, iv z1, iv (((p2.toUInt32 >>> ((1 : Int32) &&& 31).toUInt32).toInt32) &&& (3 : Int32)), jv z3, .second, jv (own_f1 z1 z3), .second]) rfl (XS.iload X5.here hx rfl (hb hby at_90) rfl  (XS.lload X5.here hx rfl (hb hby at_92) rfl  k))) ?_
      show own_Go p e below s _ _ (T5.setTop (mkF m 94 #[iv p0, jv q1, .second, iv p2, iv z1, iv (((p2.toUInt32 >>> ((1 : Int32) &&& 31).toUInt32).toInt32) &&& (3 : Int32)), jv z3, .second, jv (own_f1 z1 z3), .second] [(.long z3), (.int z1)]))
      obtain ⟨_, _, ⟨T7, L7, k7, n7⟩, -, X7, ⟨Lc7, hQ7, l7, y7, z7⟩, st7⟩ := Jvm.LawKit.callS X5 hx (y := (⟨"com/example/grant3/grant3/condition/PatternCost", "searchSteps", "(IJ)J"⟩ : MethodName)) hown (mvT hZ (hw _ (List.mem_of_getElem? (i := 13) rfl))) (mvT hZ (hw _ (List.mem_of_getElem? (i := 14) rfl))) (mvT hZ (hw _ (List.mem_of_getElem? (i := 15) rfl))) (mvT hZ (hw _ (List.mem_of_getElem? (i := 16) rfl))) (by decide) (backOf (W := 0) (rm3 l Z aw hw [] z1 z3 h0 n0 Z0) hZ (hw _ (List.mem_of_getElem? (i := 16) rfl)) (hw _ (List.mem_of_getElem? (i := 15) rfl)) (by decide) (by decide)) (g := (mkF m 94 #[iv p0, jv q1, .second, iv p2, iv z1, iv (((p2.toUInt32 >>> ((1 : Int32) &&& 31).toUInt32).toInt32) &&& (3 : Int32)), jv z3, .second, jv (own_f1 z1 z3), .second] [(.long z3), (.int z1)])) rfl (by rw [hml]; rfl) (argsL := [(.int z1), (.long z3)]) (rest := []) (lenOf pd_0 rfl) rfl (by show 2 * 0 + _ ≤ _; exact Nat.le_of_eq rfl) (hb hby at_94) (fun _ _ => ⟨rfl, eh5, (by decide : 0 + 0 ≤ _), (by decide : 0 + 0 ≤ _)⟩)
      dsimp only [Pt.U, Pt.locs, Pt.cells, Pt.slots] at X7 l7 y7 z7 st7 hQ7
      subst l7 y7 z7
      obtain ⟨rfl, N7q, eh7⟩ := hQ7
      have N8 := Fr.app N6 N7q
      refine own_via (fun k => st7 _ k) ?_
      show own_Go p e below s _ _ (T7.setTop (mkF m 97 #[iv p0, jv q1, .second, iv p2, iv z1, iv (((p2.toUInt32 >>> ((1 : Int32) &&& 31).toUInt32).toInt32) &&& (3 : Int32)), jv z3, .second, jv (own_f1 z1 z3), .second] [(.long (own_f3 z1 z3))]))
      refine own_via (fun k => XS.lload X7.here hx rfl (hb hby at_97) rfl  (XS.lcmp X7.here hx rfl (hb hby at_99) rfl k)) ?_
      show own_Go p e below s _ _ (T7.setTop (mkF m 100 #[iv p0, jv q1, .second, iv p2, iv z1, iv (((p2.toUInt32 >>> ((1 : Int32) &&& 31).toUInt32).toInt32) &&& (3 : Int32)), jv z3, .second, jv (own_f1 z1 z3), .second] [(.int (lcmpW (own_f3 z1 z3) (own_f1 z1 z3)))]))
      refine own_via (fun k => XS.ifNo X7.here hx rfl (hb hby at_100) rfl ((if0 _ _).trans (teq ((lw_eq _ _).mpr (own_law p0 q1 p2 z1 hz1 z3 hz3))).2) k) ?_
      show own_Go p e below s _ _ (T7.setTop (mkF m 103 #[iv p0, jv q1, .second, iv p2, iv z1, iv (((p2.toUInt32 >>> ((1 : Int32) &&& 31).toUInt32).toInt32) &&& (3 : Int32)), jv z3, .second, jv (own_f1 z1 z3), .second] []))
      refine own_via (fun k => XS.iconst X7.here hx rfl (hb hby at_103) (XS.goto X7.here hx rfl (pc0 := 104) (pc' := 108) rfl (hb hby at_104) (by decide) (by decide) k)) ?_
      show own_Go p e below s _ _ (T7.setTop (mkF m 108 #[iv p0, jv q1, .second, iv p2, iv z1, iv (((p2.toUInt32 >>> ((1 : Int32) &&& 31).toUInt32).toInt32) &&& (3 : Int32)), jv z3, .second, jv (own_f1 z1 z3), .second] [(.int 1)]))
      exact own_retN X7 hx hlk (t := .boolean) Bd.returns (by simp) (hb hby at_108) (Q := (Q0 Z p0 q1 p2 h0 n0)) ⟨rfl, N8⟩ (by decide) (by decide)
    by_cases hc9 : (((p2.toUInt32 >>> ((1 : Int32) &&& 31).toUInt32).toInt32) &&& (3 : Int32)) = (0 : Int32)
    · refine own_via (fun k => XS.ifNo X0.here hx rfl (hb hby at_29) rfl ((if0 _ _).trans (teq hc9).2) k) ?_
      show own_Go p e below s _ _ (s₁.setTop (mkF m 32 #[iv p0, jv q1, .second, iv p2, iv z1, iv (((p2.toUInt32 >>> ((1 : Int32) &&& 31).toUInt32).toInt32) &&& (3 : Int32)), .unset, .unset, .unset, .unset] []))
      refine own_via (fun k => XS.lloadN X0.here hx rfl (hb hby at_32) rfl  (X0.ldc2Long hx hown (mvT hZ (hw _ (List.mem_of_getElem? (i := 1) rfl))) (g := (mkF m 33 #[iv p0, jv q1, .second, iv p2, iv z1, iv (((p2.toUInt32 >>> ((1 : Int32) &&& 31).toUInt32).toInt32) &&& (3 : Int32)), .unset, .unset, .unset, .unset] [(.long q1)])) rfl (hb hby at_33) _ (XS.land X0.here hx rfl (hb hby at_36) rfl (XS.lstore X0.here hx rfl (hb hby at_37) rfl (l' := #[iv p0, jv q1, .second, iv p2, iv z1, iv (((p2.toUInt32 >>> ((1 : Int32) &&& 31).toUInt32).toInt32) &&& (3 : Int32)), jv (q1 &&& (9223372036854775807 : Int64)), .second, .unset, .unset]) rfl k)))) ?_
      show own_Go p e below s _ _ (s₁.setTop (mkF m 39 #[iv p0, jv q1, .second, iv p2, iv z1, iv (((p2.toUInt32 >>> ((1 : Int32) &&& 31).toUInt32).toInt32) &&& (3 : Int32)), jv (q1 &&& (9223372036854775807 : Int64)), .second, .unset, .unset] []))
      refine own_via (fun k => XS.goto X0.here hx rfl (pc0 := 39) (pc' := 81) rfl (hb hby at_39) (by decide) (by decide) k) ?_
      show own_Go p e below s _ _ (s₁.setTop (mkF m 81 #[iv p0, jv q1, .second, iv p2, iv z1, iv (((p2.toUInt32 >>> ((1 : Int32) &&& 31).toUInt32).toInt32) &&& (3 : Int32)), jv (q1 &&& (9223372036854775807 : Int64)), .second, .unset, .unset] []))
      exact J4 (q1 &&& (9223372036854775807 : Int64)) (((if_pos hc9).trans rfl)).symm
    · refine own_via (fun k => XS.ifYes X0.here hx rfl (pc0 := 29) (pc' := 42) rfl (hb hby at_29) rfl ((if0 _ _).trans (feq hc9).2) (by decide) (by decide) k) ?_
      show own_Go p e below s _ _ (s₁.setTop (mkF m 42 #[iv p0, jv q1, .second, iv p2, iv z1, iv (((p2.toUInt32 >>> ((1 : Int32) &&& 31).toUInt32).toInt32) &&& (3 : Int32)), .unset, .unset, .unset, .unset] []))
      refine own_via (fun k => XS.iload X0.here hx rfl (hb hby at_42) rfl  (XS.iconst X0.here hx rfl (hb hby at_44) k)) ?_
      show own_Go p e below s _ _ (s₁.setTop (mkF m 45 #[iv p0, jv q1, .second, iv p2, iv z1, iv (((p2.toUInt32 >>> ((1 : Int32) &&& 31).toUInt32).toInt32) &&& (3 : Int32)), .unset, .unset, .unset, .unset] [(.int 1), (.int (((p2.toUInt32 >>> ((1 : Int32) &&& 31).toUInt32).toInt32) &&& (3 : Int32)))]))
      by_cases hc10 : (((p2.toUInt32 >>> ((1 : Int32) &&& 31).toUInt32).toInt32) &&& (3 : Int32)) = (1 : Int32)
      · refine own_via (fun k => XS.icmpNo X0.here hx rfl (hb hby at_45) rfl (teq hc10).2 k) ?_
        show own_Go p e below s _ _ (s₁.setTop (mkF m 48 #[iv p0, jv q1, .second, iv p2, iv z1, iv (((p2.toUInt32 >>> ((1 : Int32) &&& 31).toUInt32).toInt32) &&& (3 : Int32)), .unset, .unset, .unset, .unset] []))
        refine own_via (fun k => XS.lloadN X0.here hx rfl (hb hby at_48) rfl  (X0.ldc2Long hx hown (mvT hZ (hw _ (List.mem_of_getElem? (i := 23) rfl))) (g := (mkF m 49 #[iv p0, jv q1, .second, iv p2, iv z1, iv (((p2.toUInt32 >>> ((1 : Int32) &&& 31).toUInt32).toInt32) &&& (3 : Int32)), .unset, .unset, .unset, .unset] [(.long q1)])) rfl (hb hby at_49) _ (XS.land X0.here hx rfl (hb hby at_52) rfl (XS.lstore X0.here hx rfl (hb hby at_53) rfl (l' := #[iv p0, jv q1, .second, iv p2, iv z1, iv (((p2.toUInt32 >>> ((1 : Int32) &&& 31).toUInt32).toInt32) &&& (3 : Int32)), jv (q1 &&& (2199023255551 : Int64)), .second, .unset, .unset]) rfl k)))) ?_
        show own_Go p e below s _ _ (s₁.setTop (mkF m 55 #[iv p0, jv q1, .second, iv p2, iv z1, iv (((p2.toUInt32 >>> ((1 : Int32) &&& 31).toUInt32).toInt32) &&& (3 : Int32)), jv (q1 &&& (2199023255551 : Int64)), .second, .unset, .unset] []))
        refine own_via (fun k => XS.goto X0.here hx rfl (pc0 := 55) (pc' := 81) rfl (hb hby at_55) (by decide) (by decide) k) ?_
        show own_Go p e below s _ _ (s₁.setTop (mkF m 81 #[iv p0, jv q1, .second, iv p2, iv z1, iv (((p2.toUInt32 >>> ((1 : Int32) &&& 31).toUInt32).toInt32) &&& (3 : Int32)), jv (q1 &&& (2199023255551 : Int64)), .second, .unset, .unset] []))
        exact J4 (q1 &&& (2199023255551 : Int64)) (((if_neg hc9).trans ((if_pos hc10).trans rfl))).symm
      · refine own_via (fun k => XS.icmpYes X0.here hx rfl (pc0 := 45) (pc' := 58) rfl (hb hby at_45) rfl (feq hc10).2 (by decide) (by decide) k) ?_
        show own_Go p e below s _ _ (s₁.setTop (mkF m 58 #[iv p0, jv q1, .second, iv p2, iv z1, iv (((p2.toUInt32 >>> ((1 : Int32) &&& 31).toUInt32).toInt32) &&& (3 : Int32)), .unset, .unset, .unset, .unset] []))
        refine own_via (fun k => XS.iload X0.here hx rfl (hb hby at_58) rfl  (XS.iconst X0.here hx rfl (hb hby at_60) k)) ?_
        show own_Go p e below s _ _ (s₁.setTop (mkF m 61 #[iv p0, jv q1, .second, iv p2, iv z1, iv (((p2.toUInt32 >>> ((1 : Int32) &&& 31).toUInt32).toInt32) &&& (3 : Int32)), .unset, .unset, .unset, .unset] [(.int 2), (.int (((p2.toUInt32 >>> ((1 : Int32) &&& 31).toUInt32).toInt32) &&& (3 : Int32)))]))
        by_cases hc11 : (((p2.toUInt32 >>> ((1 : Int32) &&& 31).toUInt32).toInt32) &&& (3 : Int32)) = (2 : Int32)
        · refine own_via (fun k => XS.icmpNo X0.here hx rfl (hb hby at_61) rfl (teq hc11).2 k) ?_
          show own_Go p e below s _ _ (s₁.setTop (mkF m 64 #[iv p0, jv q1, .second, iv p2, iv z1, iv (((p2.toUInt32 >>> ((1 : Int32) &&& 31).toUInt32).toInt32) &&& (3 : Int32)), .unset, .unset, .unset, .unset] []))
          refine own_via (fun k => XS.lloadN X0.here hx rfl (hb hby at_64) rfl  (X0.ldc2Long hx hown (mvT hZ (hw _ (List.mem_of_getElem? (i := 25) rfl))) (g := (mkF m 65 #[iv p0, jv q1, .second, iv p2, iv z1, iv (((p2.toUInt32 >>> ((1 : Int32) &&& 31).toUInt32).toInt32) &&& (3 : Int32)), .unset, .unset, .unset, .unset] [(.long q1)])) rfl (hb hby at_65) _ (XS.land X0.here hx rfl (hb hby at_68) rfl (XS.lstore X0.here hx rfl (hb hby at_69) rfl (l' := #[iv p0, jv q1, .second, iv p2, iv z1, iv (((p2.toUInt32 >>> ((1 : Int32) &&& 31).toUInt32).toInt32) &&& (3 : Int32)), jv (q1 &&& (4294967295 : Int64)), .second, .unset, .unset]) rfl k)))) ?_
          show own_Go p e below s _ _ (s₁.setTop (mkF m 71 #[iv p0, jv q1, .second, iv p2, iv z1, iv (((p2.toUInt32 >>> ((1 : Int32) &&& 31).toUInt32).toInt32) &&& (3 : Int32)), jv (q1 &&& (4294967295 : Int64)), .second, .unset, .unset] []))
          refine own_via (fun k => XS.goto X0.here hx rfl (pc0 := 71) (pc' := 81) rfl (hb hby at_71) (by decide) (by decide) k) ?_
          show own_Go p e below s _ _ (s₁.setTop (mkF m 81 #[iv p0, jv q1, .second, iv p2, iv z1, iv (((p2.toUInt32 >>> ((1 : Int32) &&& 31).toUInt32).toInt32) &&& (3 : Int32)), jv (q1 &&& (4294967295 : Int64)), .second, .unset, .unset] []))
          exact J4 (q1 &&& (4294967295 : Int64)) (((if_neg hc9).trans ((if_neg hc10).trans ((if_pos hc11).trans rfl)))).symm
        · refine own_via (fun k => XS.icmpYes X0.here hx rfl (pc0 := 61) (pc' := 74) rfl (hb hby at_61) rfl (feq hc11).2 (by decide) (by decide) k) ?_
          show own_Go p e below s _ _ (s₁.setTop (mkF m 74 #[iv p0, jv q1, .second, iv p2, iv z1, iv (((p2.toUInt32 >>> ((1 : Int32) &&& 31).toUInt32).toInt32) &&& (3 : Int32)), .unset, .unset, .unset, .unset] []))
          refine own_via (fun k => XS.lloadN X0.here hx rfl (hb hby at_74) rfl  (X0.ldc2Long hx hown (mvT hZ (hw _ (List.mem_of_getElem? (i := 24) rfl))) (g := (mkF m 75 #[iv p0, jv q1, .second, iv p2, iv z1, iv (((p2.toUInt32 >>> ((1 : Int32) &&& 31).toUInt32).toInt32) &&& (3 : Int32)), .unset, .unset, .unset, .unset] [(.long q1)])) rfl (hb hby at_75) _ (XS.land X0.here hx rfl (hb hby at_78) rfl (XS.lstore X0.here hx rfl (hb hby at_79) rfl (l' := #[iv p0, jv q1, .second, iv p2, iv z1, iv (((p2.toUInt32 >>> ((1 : Int32) &&& 31).toUInt32).toInt32) &&& (3 : Int32)), jv (q1 &&& (262143 : Int64)), .second, .unset, .unset]) rfl k)))) ?_
          show own_Go p e below s _ _ (s₁.setTop (mkF m 81 #[iv p0, jv q1, .second, iv p2, iv z1, iv (((p2.toUInt32 >>> ((1 : Int32) &&& 31).toUInt32).toInt32) &&& (3 : Int32)), jv (q1 &&& (262143 : Int64)), .second, .unset, .unset] []))
          exact J4 (q1 &&& (262143 : Int64)) (((if_neg hc9).trans ((if_neg hc10).trans ((if_neg hc11).trans rfl)))).symm
  by_cases hc12 : (p2 &&& (1 : Int32)) = (0 : Int32)
  · refine own_via (fun k => XS.ifYes X0.here hx rfl (pc0 := 3) (pc' := 13) rfl (hb hby at_3) rfl ((if0 _ _).trans (teq hc12).1) (by decide) (by decide) k) ?_
    show own_Go p e below s _ _ (s₁.setTop (mkF m 13 #[iv p0, jv q1, .second, iv p2, .unset, .unset, .unset, .unset, .unset, .unset] []))
    refine own_via (fun k => XS.iloadN X0.here hx rfl (hb hby at_13) rfl  (XS.sipush X0.here hx rfl (hb hby at_14) (XS.iand X0.here hx rfl (hb hby at_17) rfl k))) ?_
    show own_Go p e below s _ _ (s₁.setTop (mkF m 18 #[iv p0, jv q1, .second, iv p2, .unset, .unset, .unset, .unset, .unset, .unset] [(.int (p0 &&& (4095 : Int32)))]))
    exact J2 (p0 &&& (4095 : Int32)) (((if_pos hc12).trans rfl)).symm
  · refine own_via (fun k => XS.ifNo X0.here hx rfl (hb hby at_3) rfl ((if0 _ _).trans (feq hc12).1) k) ?_
    show own_Go p e below s _ _ (s₁.setTop (mkF m 6 #[iv p0, jv q1, .second, iv p2, .unset, .unset, .unset, .unset, .unset, .unset] []))
    refine own_via (fun k => XS.iloadN X0.here hx rfl (hb hby at_6) rfl  (X0.ldcInt hx hown (mvT hZ (hw _ (List.mem_of_getElem? (i := 0) rfl))) (g := (mkF m 7 #[iv p0, jv q1, .second, iv p2, .unset, .unset, .unset, .unset, .unset, .unset] [(.int p0)])) rfl (hb hby at_7) _ (XS.iand X0.here hx rfl (hb hby at_9) rfl (XS.goto X0.here hx rfl (pc0 := 10) (pc' := 18) rfl (hb hby at_10) (by decide) (by decide) k)))) ?_
    show own_Go p e below s _ _ (s₁.setTop (mkF m 18 #[iv p0, jv q1, .second, iv p2, .unset, .unset, .unset, .unset, .unset, .unset] [(.int (p0 &&& (2147483647 : Int32)))]))
    exact J2 (p0 &&& (2147483647 : Int32)) (((if_neg hc12).trans rfl)).symm
set_option maxRecDepth 65536 in
set_option maxHeartbeats 40000000 in
theorem comes_1 {Post : Tables → Env → Array Value → State → Outcome → State → Prop} (hpost : ∀ tb e args s v u, (limb_1_1.after args s (.returned v) u = true ∧ limb_1_2.after args s (.returned v) u = true ∧ True) → FrameEnd s (.returned v) u (Jvm.fieldLocs frame_1_writes args s ++ Jvm.arrayLocs frame_1_arrays args s ++ Jvm.staticLocs frame_1_statics s) 0 0 → Post tb e args s (.returned v) u) :
    ArmFor flags0 classFile x code maxLocals ret World_1 tables_1 room_1 Calls_1 rest_1 Pre_1 Post := by
  intro l hfl _ _ p e ha hc hk s m args below hf hA hF happ hP
  obtain ⟨hcalls, hrest, hpre⟩ := hP
  obtain ⟨-, -, -, hnamed, -, -, -, hat⟩ := (Spec.applies_iff hf).mp happ
  obtain ⟨hg, hn⟩ := and_e (Cond.before_iff.mp (show (Jvm.Cond.and given_1 narrow_1).before args s = true from hpre))
  obtain ⟨g1, g2⟩ := and_e hg
  obtain ⟨g3, g4⟩ := and_e g2
  obtain ⟨g5, g6⟩ := and_e g4
  obtain ⟨w0, w1, w2, rfl⟩ : ∃ w0 w1 w2 : Value, args = #[w0, w1, w2] := by
    have hs : args.size = 3 := by simpa [Cond.value, given_1] using g1
    obtain ⟨L⟩ := args
    match L, hs with
    | [w0, w1, w2], _ => exact ⟨w0, w1, w2, rfl⟩
  have hw := fun d (hd : d ∈ tables_1) => atoms_spec (ws := Jvm.Cond.code x code maxLocals ret :: tables_1) hat d (List.mem_cons_of_mem _ hd)
  obtain ⟨i0, ei0⟩ := is_v g3
  obtain rfl : w0 = (.int i0) := Option.some.inj ei0
  obtain ⟨i1, ei1⟩ := isL_v g5
  obtain rfl : w1 = (.long i1) := Option.some.inj ei1
  obtain ⟨i2, ei2⟩ := is_v g6
  obtain rfl : w2 = (.int i2) := Option.some.inj ei2
  obtain ⟨n, o, h1, h2, h3, _, L, rfl, ⟨rfl, N⟩, hq⟩ := rm0 l s _ hw tables_1 i0 i1 i2 s.heap s.heap.size (Nat.le_refl _) p e ha hc hk s m _ below hf ((Spec.applies_iff_loose hf).mp happ).1 ⟨rfl, State.Warmed39.refl s, rfl⟩ trivial
  refine ⟨n, _, h1, h2, h3, hpost _ _ _ _ _ _ ⟨Cond.after_iff.mpr rfl, Cond.after_iff.mpr (eq_i res_at (Term.int_eval (1)) rfl), trivial⟩ ⟨hq.1, hq.2.1, (hq.2.2.sift fun y hy => Or.inr (N y hy)).mono (by decide) (by decide)⟩⟩
theorem main_1_1 : Claimed_1_1 := comes_1 fun _ _ _ _ _ _ h hF => ⟨h.1, hF⟩
theorem main_1_2 : Claimed_1_2 := comes_1 fun _ _ _ _ _ _ h hF => ⟨h.2.1, hF⟩
end Jvm.Pilot.@@N@@
namespace Jvm.Pilot.@@N@@
open Jvm Jvm.ClassFile Sem Op Lib Jvm.Free Jvm.Stand Jvm.Pilot.@@N@@.Jvm.D
/-! MADE BY PROGRAM (witnessworld.py) out of the Statement's table words and the real class files: 10 classes; the members and pool entries that the words name. The judged class is class 1, her method 1. -/
namespace start1
open Jvm.ClassFile
def u (s : String) : CpInfo := .utf8 (stringToUtf16 s)
/-- a pool by its gaps: so many unusable entries, then the entry; so many at the end -/
def gap : Nat → List CpInfo → List CpInfo
  | 0, r => r
  | n + 1, r => .unusable :: gap n r
def poolList (es : List (Nat × CpInfo)) (last : Nat) : List CpInfo := es.foldr (fun e r => gap e.1 (e.2 :: r)) (gap last [])
def pool (es : List (Nat × CpInfo)) (last : Nat) : Array CpInfo := ⟨poolList es last⟩
def fileOf (pool : Array CpInfo) (this : Nat) (attrs : Array Attribute := #[]) (ms : Array MethodInfo := #[]) (fl : Nat := 33) (sup : Nat := 0) (ifs : Array Nat := #[]) (fds : Array FieldInfo := #[]) : ClassFile where
  minorVersion := 0
  majorVersion := 65
  constantPool := pool
  accessFlags := fl
  thisClass := this
  superClass := sup
  interfaces := ifs
  fields := fds
  methods := ms
  attributes := attrs
def plain (name : String) (sup : Option ClassId) : Class where
  name := name
  kind := .ordinary
  loader := none
  accessFlags := 33
  super := sup
  interfaces := #[]
  cf := none
  fields := #[]
  methods := #[]
  instanceTypes := #[]
  staticTypes := #[]
  resolved := #[]
  callSites := []
  init := .initialized
  statics := none
  mirror := none

def pool0 : Array CpInfo := pool [(5, u "<init>"), (0, u "()V"), (1, .class_ 10), (1, u "java/lang/Object")] 113

def k0m0 : Method := { name := "<init>", desc := "()V", sig := { parameters := [], returnType := none }, accessFlags := 1, code := none }
/-- java/lang/Object -/
def k0 : Class := { plain "java/lang/Object" none with
  accessFlags := 33
  interfaces := #[]
  cf := some (fileOf pool0 8 #[] #[{ accessFlags := 1, nameIndex := 5, descriptorIndex := 6, attributes := #[] }] 33 0 #[] #[])
  fields := #[]
  methods := #[k0m0]
  instanceTypes := #[]
  staticTypes := #[]
  resolved := Array.replicate 124 none
  statics := none }

def pool1 : Array CpInfo := pool [(2, .class_ 4), (1, u "java/lang/Object"), (0, u "<init>"), (0, u "()V"), (0, .integer 2147483647), (2, .long 9223372036854775807), (1, .long 2199023255551), (1, .long 4294967295), (1, .long 262143), (1, .methodref 19 20), (0, .class_ 21), (0, .nameAndType 22 23), (0, u "com/example/grant3/grant3/condition/PatternCostSearchStepsPinLaw"), (0, u "reference"), (0, u "(IJ)J"), (0, .methodref 25 26), (0, .class_ 27), (0, .nameAndType 28 23), (0, u "com/example/grant3/grant3/condition/PatternCost"), (0, u "searchSteps"), (0, .long 1099511627776), (1, .long 8388608), (1, .methodref 34 35), (0, .class_ 36), (0, .nameAndType 37 38), (0, u "java/lang/Math"), (0, u "min"), (0, u "(JJ)J"), (0, .long 131072), (1, .long 10), (1, u "CAP"), (0, u "J"), (3, u "law"), (0, u "(IJI)Z")] 3

def k1m0 : Method := { name := "<init>", desc := "()V", sig := { parameters := [], returnType := none }, accessFlags := 1, code := none }
def k1c1 : Code := { maxStack := 4, maxLocals := 10, code := code, exceptionTable := #[], attributes := #[] }
def k1m1 : Method := { name := "law", desc := "(IJI)Z", sig := { parameters := [.int, .long, .int], returnType := some .boolean }, accessFlags := 9, code := some k1c1 }
def k1c2 : Code := { maxStack := 6, maxLocals := 7, code := method_3_code, exceptionTable := #[], attributes := #[] }
def k1m2 : Method := { name := "reference", desc := "(IJ)J", sig := { parameters := [.int, .long], returnType := some .long }, accessFlags := 10, code := some k1c2 }
/-- com/example/grant3/grant3/condition/PatternCostSearchStepsPinLaw -/
def k1 : Class := { plain "com/example/grant3/grant3/condition/PatternCostSearchStepsPinLaw" (some 0) with
  accessFlags := 49
  interfaces := #[]
  cf := some (fileOf pool1 19 #[] #[{ accessFlags := 1, nameIndex := 5, descriptorIndex := 6, attributes := #[] }, { accessFlags := 9, nameIndex := 48, descriptorIndex := 49, attributes := #[] }, { accessFlags := 10, nameIndex := 22, descriptorIndex := 23, attributes := #[] }] 49 2 #[] #[{ accessFlags := 26, nameIndex := 43, descriptorIndex := 44, attributes := #[] }])
  fields := #[{ name := "CAP", type := .long, accessFlags := 26, slot := 0, constantValue := 0 }]
  methods := #[k1m0, k1m1, k1m2]
  instanceTypes := #[]
  staticTypes := #[.long]
  resolved := Array.replicate 53 none
  statics := none }

def pool2 : Array CpInfo := pool [(1, .class_ 2), (0, u "java/lang/Math"), (1, .class_ 6), (1, u "java/lang/Object"), (0, u "<init>"), (0, u "()V"), (89, .class_ 100), (1, u "java/lang/Math$RandomNumberGeneratorHolder"), (20, u "(JJ)J"), (50, u "negativeZeroFloatBits"), (0, u "J"), (2, u "negativeZeroDoubleBits"), (24, u "min"), (43, u "$assertionsDisabled"), (0, u "Z"), (91, u "twoToTheDoubleScaleDown"), (0, u "D"), (4, u "twoToTheDoubleScaleUp"), (9, u "E"), (3, u "PI"), (2, u "TAU"), (2, u "DEGREES_TO_RADIANS"), (0, u "RADIANS_TO_DEGREES")] 94

def k2m0 : Method := { name := "<init>", desc := "()V", sig := { parameters := [], returnType := none }, accessFlags := 2, code := none }
def k2c1 : Code := { maxStack := 4, maxLocals := 4, code := jdk_29_method_70_code, exceptionTable := #[], attributes := #[] }
def k2m1 : Method := { name := "min", desc := "(JJ)J", sig := { parameters := [.long, .long], returnType := some .long }, accessFlags := 9, code := some k2c1 }
/-- java/lang/Math -/
def k2 : Class := { plain "java/lang/Math" (some 0) with
  accessFlags := 49
  interfaces := #[]
  cf := some (fileOf pool2 1 #[.nestMembers #[98]] #[{ accessFlags := 2, nameIndex := 7, descriptorIndex := 8, attributes := #[] }, { accessFlags := 9, nameIndex := 201, descriptorIndex := 121, attributes := #[] }] 49 4 #[] #[{ accessFlags := 25, nameIndex := 354, descriptorIndex := 339, attributes := #[] }, { accessFlags := 25, nameIndex := 358, descriptorIndex := 339, attributes := #[] }, { accessFlags := 25, nameIndex := 361, descriptorIndex := 339, attributes := #[] }, { accessFlags := 26, nameIndex := 364, descriptorIndex := 339, attributes := #[] }, { accessFlags := 26, nameIndex := 365, descriptorIndex := 339, attributes := #[] }, { accessFlags := 26, nameIndex := 172, descriptorIndex := 173, attributes := #[] }, { accessFlags := 26, nameIndex := 176, descriptorIndex := 173, attributes := #[] }, { accessFlags := 8, nameIndex := 344, descriptorIndex := 339, attributes := #[] }, { accessFlags := 8, nameIndex := 338, descriptorIndex := 339, attributes := #[] }, { accessFlags := 4120, nameIndex := 245, descriptorIndex := 246, attributes := #[] }])
  fields := #[{ name := "E", type := .double, accessFlags := 25, slot := 0, constantValue := 0 }, { name := "PI", type := .double, accessFlags := 25, slot := 1, constantValue := 0 }, { name := "TAU", type := .double, accessFlags := 25, slot := 2, constantValue := 0 }, { name := "DEGREES_TO_RADIANS", type := .double, accessFlags := 26, slot := 3, constantValue := 0 }, { name := "RADIANS_TO_DEGREES", type := .double, accessFlags := 26, slot := 4, constantValue := 0 }, { name := "negativeZeroFloatBits", type := .long, accessFlags := 26, slot := 5, constantValue := 0 }, { name := "negativeZeroDoubleBits", type := .long, accessFlags := 26, slot := 6, constantValue := 0 }, { name := "twoToTheDoubleScaleUp", type := .double, accessFlags := 8, slot := 7, constantValue := 0 }, { name := "twoToTheDoubleScaleDown", type := .double, accessFlags := 8, slot := 8, constantValue := 0 }, { name := "$assertionsDisabled", type := .boolean, accessFlags := 4120, slot := 9, constantValue := 0 }]
  methods := #[k2m0, k2m1]
  instanceTypes := #[]
  staticTypes := #[.double, .double, .double, .double, .double, .long, .long, .double, .double, .boolean]
  resolved := Array.replicate 460 none
  statics := none }

def pool3 : Array CpInfo := pool [(2, .class_ 4), (1, u "java/lang/Object"), (3, .class_ 10), (1, u "com/example/grant3/grant3/condition/PatternCost"), (0, u "length"), (0, u "I"), (2, u "instructions"), (0, u "J"), (2, u "structureSteps"), (2, u "foldsOutsideAscii"), (0, u "Z"), (2, u "unreadable"), (0, u "Ljava/lang/String;"), (0, .class_ 29), (0, u "com/example/grant3/grant3/condition/PatternCost$Reading"), (20, .methodref 8 51), (0, .nameAndType 52 53), (0, u "times"), (0, u "(JJ)J"), (17, .long 10), (7, .long 1099511627776), (1, .methodref 82 83), (0, .class_ 84), (0, .nameAndType 85 53), (0, u "java/lang/Math"), (0, u "min"), (0, u "SEARCH_PER_STEP"), (2, u "COMPILE_STEPS"), (0, u "STEPS_PER_CHARACTER"), (1, u "STEPS_PER_UNICODE_CLASS"), (1, u "STEPS_PER_FOLDED_RANGE"), (1, u "MOST_INSTRUCTIONS"), (8, u "searchSteps"), (0, u "(IJ)J"), (3, .class_ 111), (0, u "com/example/grant3/grant3/condition/PatternCost$Group")] 3

def k3c0 : Code := { maxStack := 4, maxLocals := 5, code := prog_9_method_9_code, exceptionTable := #[], attributes := #[] }
def k3m0 : Method := { name := "searchSteps", desc := "(IJ)J", sig := { parameters := [.int, .long], returnType := some .long }, accessFlags := 8, code := some k3c0 }
def k3c1 : Code := { maxStack := 6, maxLocals := 4, code := prog_9_method_11_code, exceptionTable := #[], attributes := #[] }
def k3m1 : Method := { name := "times", desc := "(JJ)J", sig := { parameters := [.long, .long], returnType := some .long }, accessFlags := 10, code := some k3c1 }
/-- com/example/grant3/grant3/condition/PatternCost -/
def k3 : Class := { plain "com/example/grant3/grant3/condition/PatternCost" (some 0) with
  accessFlags := 48
  interfaces := #[]
  cf := some (fileOf pool3 8 #[.nestMembers #[28, 110]] #[{ accessFlags := 8, nameIndex := 105, descriptorIndex := 106, attributes := #[] }, { accessFlags := 10, nameIndex := 52, descriptorIndex := 53, attributes := #[] }] 48 2 #[] #[{ accessFlags := 24, nameIndex := 86, descriptorIndex := 12, attributes := #[] }, { accessFlags := 26, nameIndex := 89, descriptorIndex := 12, attributes := #[] }, { accessFlags := 26, nameIndex := 90, descriptorIndex := 12, attributes := #[] }, { accessFlags := 26, nameIndex := 92, descriptorIndex := 12, attributes := #[] }, { accessFlags := 26, nameIndex := 94, descriptorIndex := 12, attributes := #[] }, { accessFlags := 26, nameIndex := 96, descriptorIndex := 16, attributes := #[] }, { accessFlags := 18, nameIndex := 11, descriptorIndex := 12, attributes := #[] }, { accessFlags := 18, nameIndex := 15, descriptorIndex := 16, attributes := #[] }, { accessFlags := 18, nameIndex := 19, descriptorIndex := 16, attributes := #[] }, { accessFlags := 18, nameIndex := 22, descriptorIndex := 23, attributes := #[] }, { accessFlags := 18, nameIndex := 26, descriptorIndex := 27, attributes := #[] }])
  fields := #[{ name := "SEARCH_PER_STEP", type := .int, accessFlags := 24, slot := 0, constantValue := 0 }, { name := "COMPILE_STEPS", type := .int, accessFlags := 26, slot := 1, constantValue := 0 }, { name := "STEPS_PER_CHARACTER", type := .int, accessFlags := 26, slot := 2, constantValue := 0 }, { name := "STEPS_PER_UNICODE_CLASS", type := .int, accessFlags := 26, slot := 3, constantValue := 0 }, { name := "STEPS_PER_FOLDED_RANGE", type := .int, accessFlags := 26, slot := 4, constantValue := 0 }, { name := "MOST_INSTRUCTIONS", type := .long, accessFlags := 26, slot := 5, constantValue := 0 }, { name := "length", type := .int, accessFlags := 18, slot := 0, constantValue := 0 }, { name := "instructions", type := .long, accessFlags := 18, slot := 1, constantValue := 0 }, { name := "structureSteps", type := .long, accessFlags := 18, slot := 2, constantValue := 0 }, { name := "foldsOutsideAscii", type := .boolean, accessFlags := 18, slot := 3, constantValue := 0 }, { name := "unreadable", type := (.object "java/lang/String"), accessFlags := 18, slot := 4, constantValue := 0 }]
  methods := #[k3m0, k3m1]
  instanceTypes := #[.int, .long, .long, .boolean, (.object "java/lang/String")]
  staticTypes := #[.int, .int, .int, .int, .int, .long]
  resolved := Array.replicate 115 none
  statics := none }

def pool4 : Array CpInfo := pool [(1, u "java/lang/Cloneable"), (0, .class_ 1), (0, u "java/lang/Object"), (0, .class_ 3)] 3

/-- java/lang/Cloneable -/
def k4 : Class := { plain "java/lang/Cloneable" (some 0) with
  accessFlags := 1537
  interfaces := #[]
  cf := some (fileOf pool4 2 #[] #[] 1537 4 #[] #[])
  fields := #[]
  methods := #[]
  instanceTypes := #[]
  staticTypes := #[]
  resolved := Array.replicate 8 none
  statics := none }

def pool5 : Array CpInfo := pool [(1, u "java/io/Serializable"), (0, .class_ 1), (0, u "java/lang/Object"), (0, .class_ 3)] 3

/-- java/io/Serializable -/
def k5 : Class := { plain "java/io/Serializable" (some 0) with
  accessFlags := 1537
  interfaces := #[]
  cf := some (fileOf pool5 2 #[] #[] 1537 4 #[] #[])
  fields := #[]
  methods := #[]
  instanceTypes := #[]
  staticTypes := #[]
  resolved := Array.replicate 8 none
  statics := none }

/-- the primitive byte -/
def k6 : Class := { plain "byte" none with kind := .primitive 'B', accessFlags := 0x411 }
/-- [B -/
def k7 : Class := { plain "[B" (some 0) with kind := .array 6 .byte, interfaces := #[4, 5], accessFlags := 1041 }

/-- the primitive int -/
def k8 : Class := { plain "int" none with kind := .primitive 'I', accessFlags := 0x411 }
/-- [I -/
def k9 : Class := { plain "[I" (some 0) with kind := .array 8 .int, interfaces := #[4, 5], accessFlags := 1041 }

def heap : Heap := #[]
def classes : Array Class := #[k0, k1, k2, k3, k4, k5, k6, k7, k8, k9]
def interned : List (Array UInt16 × Addr) := []
def slotsUsed : Nat := 0
def theMethod : MethodId := ⟨1, 1⟩
def args0 : Array Value := #[.int 5, .long 7, .int 3]
def aboutOver (below : List Frame) : State where
  vm := { classes := classes, interned := interned.toArray }
  heap := heap
  slotsUsed := slotsUsed
  threads := #[{ frames := .invoking theMethod args0 :: below }]
def below0 : List Frame := [.native { method := ⟨0, 0⟩, args := #[] }]
def about1 : State := aboutOver below0
def p0 : Program := .bare "" "" ""
def e0 : Env := launch0.env 0 0 0
theorem w_frames : about1.frames = Frame.invoking theMethod args0 :: below0 := rfl
set_option maxRecDepth 65536 in
theorem w_args : argsFit about1.vm theMethod args0 = true := by decide +kernel
set_option maxRecDepth 65536 in
theorem w_heap : heapFits about1 = true := by decide +kernel
set_option maxRecDepth 65536 in
theorem w_runnable : about1.curStatus? = some .runnable := by decide +kernel
set_option maxRecDepth 65536 in
theorem w_alone : about1.alone = true := by decide +kernel
set_option maxRecDepth 65536 in
theorem w_named : about1.methodNamed? x = some theMethod := by decide +kernel
set_option maxRecDepth 65536 in
theorem w_hears : about1.hears theMethod below0 = true := by decide +kernel
set_option maxRecDepth 65536 in
theorem w_ripe : about1.ripe theMethod args0 below0 = true := by decide +kernel
theorem w_running : about1.status = .running := rfl
set_option maxRecDepth 65536 in
theorem w_room : about1.hasRoom e0.platform room_1 = true :=
  launch0.hasRoom_least _ room_1 (by decide +kernel) (by decide +kernel) (by decide +kernel) (by decide +kernel) (by decide +kernel) (by decide +kernel)
theorem allAtoms_all (ts : List Jvm.Cond) (a : Array Jvm.Value) (st : Jvm.State) : (allAtoms ts).before a st = ts.all (fun c => c.before a st) := by
  induction ts with
  | nil => rfl
  | cons c t ih =>
    show (Jvm.Cond.and c (allAtoms t)).before a st = _
    rw [Jvm.Cond.before_and, ih, List.all_cons]
def words1 : List Jvm.Cond := Jvm.Cond.code x code maxLocals ret :: tables_1
/-- a 'code' word, met by the world's own term for the bytes: nothing is compared byte by byte -/
theorem code_word {y : MethodName} {bytes : ByteArray} {mx : Nat} {rt : Option FieldType} {a : Array Value} {s : State} {m : MethodId} {meth : Method} {c : Code} (h1 : s.methodNamed? y = some m) (h2 : s.vm.method? m = some meth) (h3 : meth.code = some c) (h4 : c.code = bytes)
    (h5 : (c.maxLocals == mx && c.exceptionTable.isEmpty && decide (c.maxStack ≤ mostOperands) && decide (meth.sig.returnType = rt) && !meth.locks && decide (parseMethodDescriptor y.desc = some meth.sig)) = true) : (Jvm.Cond.code y bytes mx rt).before a s = true := by
  simp only [Bool.and_eq_true, beq_iff_eq, Bool.not_eq_true', decide_eq_true_eq] at h5
  obtain ⟨⟨⟨⟨⟨g1, g2⟩, g3⟩, g4⟩, g5⟩, g6⟩ := h5
  simp [Cond.before, Cond.holds, Cond.value, h1, h2, h3, h4, g1, g2, g3, g4, g5, g6]
def isCode : Jvm.Cond → Bool
  | .code _ _ _ _ => true
  | _ => false
theorem all_split {L : List Jvm.Cond} {P : Jvm.Cond → Bool} (h1 : L.all (fun c => isCode c || P c) = true) (h2 : ∀ c ∈ L.filter isCode, P c = true) : L.all P = true := by
  refine List.all_eq_true.mpr fun c hc => ?_
  have h := List.all_eq_true.mp h1 c hc
  rcases Bool.eq_false_or_eq_true (isCode c) with hi | hi
  · exact h2 c (List.mem_filter.mpr ⟨hc, hi⟩)
  · simpa [hi] using h
set_option maxRecDepth 65536 in
theorem w_c0 : (Jvm.Cond.code x code maxLocals ret).before args0 about1 = true := code_word (m := ⟨1, 1⟩) (meth := k1m1) (c := k1c1) (by decide +kernel) rfl rfl rfl (by decide +kernel)
set_option maxRecDepth 65536 in
theorem w_c1 : (Jvm.Cond.code ({ cls := "com/example/grant3/grant3/condition/PatternCostSearchStepsPinLaw", name := "reference", desc := "(IJ)J" } : Jvm.MethodName) method_3_code (7 : Nat) (Option.some Jvm.ClassFile.FieldType.long)).before args0 about1 = true := code_word (m := ⟨1, 2⟩) (meth := k1m2) (c := k1c2) (by decide +kernel) rfl rfl rfl (by decide +kernel)
set_option maxRecDepth 65536 in
theorem w_c2 : (Jvm.Cond.code ({ cls := "java/lang/Math", name := "min", desc := "(JJ)J" } : Jvm.MethodName) jdk_29_method_70_code (4 : Nat) (Option.some Jvm.ClassFile.FieldType.long)).before args0 about1 = true := code_word (m := ⟨2, 1⟩) (meth := k2m1) (c := k2c1) (by decide +kernel) rfl rfl rfl (by decide +kernel)
set_option maxRecDepth 65536 in
theorem w_c3 : (Jvm.Cond.code ({ cls := "com/example/grant3/grant3/condition/PatternCost", name := "searchSteps", desc := "(IJ)J" } : Jvm.MethodName) prog_9_method_9_code (5 : Nat) (Option.some Jvm.ClassFile.FieldType.long)).before args0 about1 = true := code_word (m := ⟨3, 0⟩) (meth := k3m0) (c := k3c0) (by decide +kernel) rfl rfl rfl (by decide +kernel)
set_option maxRecDepth 65536 in
theorem w_c4 : (Jvm.Cond.code ({ cls := "com/example/grant3/grant3/condition/PatternCost", name := "times", desc := "(JJ)J" } : Jvm.MethodName) prog_9_method_11_code (4 : Nat) (Option.some Jvm.ClassFile.FieldType.long)).before args0 about1 = true := code_word (m := ⟨3, 1⟩) (meth := k3m1) (c := k3c1) (by decide +kernel) rfl rfl rfl (by decide +kernel)
def codes1 : List Jvm.Cond := [Jvm.Cond.code x code maxLocals ret, Jvm.Cond.code ({ cls := "com/example/grant3/grant3/condition/PatternCostSearchStepsPinLaw", name := "reference", desc := "(IJ)J" } : Jvm.MethodName) method_3_code (7 : Nat) (Option.some Jvm.ClassFile.FieldType.long), Jvm.Cond.code ({ cls := "java/lang/Math", name := "min", desc := "(JJ)J" } : Jvm.MethodName) jdk_29_method_70_code (4 : Nat) (Option.some Jvm.ClassFile.FieldType.long), Jvm.Cond.code ({ cls := "com/example/grant3/grant3/condition/PatternCost", name := "searchSteps", desc := "(IJ)J" } : Jvm.MethodName) prog_9_method_9_code (5 : Nat) (Option.some Jvm.ClassFile.FieldType.long), Jvm.Cond.code ({ cls := "com/example/grant3/grant3/condition/PatternCost", name := "times", desc := "(JJ)J" } : Jvm.MethodName) prog_9_method_11_code (4 : Nat) (Option.some Jvm.ClassFile.FieldType.long)]
set_option maxRecDepth 65536 in
theorem codes_eq : words1.filter isCode = codes1 := rfl
theorem w_codes : ∀ c ∈ words1.filter isCode, c.before args0 about1 = true := by
  rw [codes_eq]
  intro c hc
  simp only [codes1, List.mem_cons, List.not_mem_nil, or_false] at hc
  rcases hc with rfl | rfl | rfl | rfl | rfl
  · exact w_c0
  · exact w_c1
  · exact w_c2
  · exact w_c3
  · exact w_c4
set_option maxRecDepth 65536 in
theorem w_t1 : (words1.take 24).all (fun c => isCode c || c.before args0 about1) = true := by decide +kernel
set_option maxRecDepth 65536 in
theorem w_t2 : (words1.drop 24).all (fun c => isCode c || c.before args0 about1) = true := by decide +kernel
theorem w_tables : (allAtoms (Jvm.Cond.code x code maxLocals ret :: tables_1)).before args0 about1 = true := by
  rw [allAtoms_all]
  show words1.all (fun c => c.before args0 about1) = true
  refine all_split ?_ w_codes
  rw [← List.take_append_drop 24 words1, List.all_append, w_t1, w_t2]
  rfl
set_option maxRecDepth 65536 in
theorem w_case : (Jvm.Cond.and given_1 narrow_1).before args0 about1 = true := by decide +kernel
theorem w_applies : (headSpec (Jvm.Cond.code x code maxLocals ret :: tables_1) room_1).applies x e0.platform about1 = true :=
  (Spec.applies_iff w_frames).mpr ⟨w_running, w_runnable, w_alone, w_named, w_hears, w_ripe, w_room, w_tables⟩
theorem atStart : AtStart classFile x code maxLocals ret World_1 tables_1 room_1 Calls_1 rest_1 Pre_1 launch0 p0 e0 about1 theMethod args0 below0 :=
  ⟨lists_1, trivial, launch0.admits_env _ _ _, launch0.least_env, fairChoices_fair.cas, fairChoices_fair.clock, w_frames, w_args, w_heap, w_applies, trivial, trivial, w_case⟩
end start1
theorem witness_1 : WitnessClaimed_1 := ⟨start1.p0, start1.e0, start1.about1, start1.theMethod, start1.args0, start1.below0, start1.atStart⟩
end Jvm.Pilot.@@N@@
