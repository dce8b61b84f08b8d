import JvmDerived
import JvmDerived.Pilot.@@N@@Statement
import JvmDerived.Pilot.@@N@@Code
set_option linter.unusedVariables false
set_option linter.unusedSimpArgs false
namespace Jvm.RoadKit
open Sem ClassFile Op Lib Jvm.Stand Jvm.Free Jvm.LawKit
section New
variable {p : Program} {l : Launch} {e : Env} {R : Room} {s : State} {m : MethodId} {args : Array Value} {below : List Frame} {meth : Method} {c : Code} {T : State} {locs : List Loc} {cells slots : Nat}
theorem retI (X : Stand p l e R s m args below meth c T locs cells slots) (hx : p.tables.exec = Jvm.exec) {pc : Nat} {Ls : Array Slot} {z : Int32} {rest : List Value} (hret : meth.sig.returnType = some .int) (hd : decode c.code pc = .ok (.ireturn, 1)) {fs : List Frame}
    (hl : ∀ (f : JFrame) (acts : List Action), f.method = m → f.locked = none → f.entered = [] → (doReturn e (T.setTop f) acts (some (.int z))).1 = T.setFrames fs) : Steps p.tables e below (T.setTop (mkF m pc Ls (.int z :: rest))) (T.setFrames fs) := by
  have hm' : T.vm.method? m = some meth := X.method'
  have hn : narrow .int (.int z) = .int z := rfl
  show Steps p.tables e below (T.setTop { method := m, pc := pc, locals := Ls, stack := _ :: rest, locked := none }) _
  jvm_step X.here [X.here.top, hx, hd, hm', hret, hn]
  first | (intro acts; rw [hl _ acts rfl rfl rfl]) | rw [hl _ _ rfl rfl rfl]
  exact Steps.refl _
abbrev jv (x : Int64) : Slot := .val (.long x)
/-- from the state st the run ends as Q says -/
def own_Go (p : Program) (e : Env) (below : List Frame) (s : State) (Q : Option Value → Heap → List Loc → Prop) (CS : Nat × Nat) (st : State) : Prop :=
  ∃ s₂ o, Steps p.tables e below st s₂ ∧ s₂.status = .running ∧ Ended s₂ below o ∧ ∃ v L, o = .returned v ∧ Q v s₂.heap L ∧ FrameEnd s o s₂ L CS.1 CS.2
variable {Q : Option Value → Heap → List Loc → Prop} {CS : Nat × Nat} {st st' : State}
theorem own_via (h : ∀ {t}, Steps p.tables e below st t → Steps p.tables e below st' t) (g : own_Go p e below s Q CS st) : own_Go p e below s Q CS st' := by
  obtain ⟨s₂, o, h1, h2⟩ := g
  exact ⟨s₂, o, h h1, h2⟩
theorem own_start {g g' : JFrame} (q : g = g') (h : own_Go p e below s Q CS (T.setTop g')) : ∃ s₂ o, Steps p.tables e below (T.setTop g) s₂ ∧ s₂.status = .running ∧ Ended s₂ below o ∧ ∃ v L, o = .returned v ∧ Q v s₂.heap L ∧ FrameEnd s o s₂ L CS.1 CS.2 := q ▸ h
theorem own_retN (X : Stand p l e R s m args below meth c T locs cells slots) (hx : p.tables.exec = Jvm.exec) (hlk : meth.locks = false) {pc : Nat} {Ls : Array Slot} {z : Int32} {t : FieldType} {rest : List Value} (hret : meth.sig.returnType = some t) (ht : t = .boolean ∨ t = .byte ∨ t = .char ∨ t = .short)
    (hd : decode c.code pc = .ok (.ireturn, 1)) (hq : Q (some (.int (nar t z))) T.heap locs) (hc : cells ≤ CS.1) (hs : slots ≤ CS.2) : own_Go p e below s Q CS (T.setTop (mkF m pc Ls (.int z :: rest))) := by
  obtain ⟨fs, hr, hrun, hended, hW, hsame⟩ := X.leave (v := some (.int (nar t z))) (fun h => by rw [hret] at h; cases h) hlk
  exact ⟨_, _, retN X hx hret ht hd hr, hrun, hended, _, _, rfl, hq, ⟨_, rfl⟩, hW, hsame.mono hc hs⟩
theorem own_retI (X : Stand p l e R s m args below meth c T locs cells slots) (hx : p.tables.exec = Jvm.exec) (hlk : meth.locks = false) {pc : Nat} {Ls : Array Slot} {z : Int32} {rest : List Value} (hret : meth.sig.returnType = some .int)
    (hd : decode c.code pc = .ok (.ireturn, 1)) (hq : Q (some (.int z)) T.heap locs) (hc : cells ≤ CS.1) (hs : slots ≤ CS.2) : own_Go p e below s Q CS (T.setTop (mkF m pc Ls (.int z :: rest))) := by
  obtain ⟨fs, hr, hrun, hended, hW, hsame⟩ := X.leave (v := some (.int z)) (fun h => by rw [hret] at h; cases h) hlk
  exact ⟨_, _, retI X hx hret hd hr, hrun, hended, _, _, rfl, hq, ⟨_, rfl⟩, hW, hsame.mono hc hs⟩
theorem own_retL (X : Stand p l e R s m args below meth c T locs cells slots) (hx : p.tables.exec = Jvm.exec) (hlk : meth.locks = false) {pc : Nat} {Ls : Array Slot} {z : Int64} (hret : meth.sig.returnType = some .long)
    (hd : decode c.code pc = .ok (.lreturn, 1)) (hq : Q (some (.long z)) T.heap locs) (hc : cells ≤ CS.1) (hs : slots ≤ CS.2) : own_Go p e below s Q CS (T.setTop (mkF m pc Ls [.long z])) := by
  obtain ⟨fs, hr, hrun, hended, hW, hsame⟩ := X.leave (v := some (.long z)) (fun h => by rw [hret] at h; cases h) hlk
  exact ⟨_, _, X.lreturnOut hx hret hd hr, hrun, hended, _, _, rfl, hq, ⟨_, rfl⟩, hW, hsame.mono hc hs⟩
theorem own_retA (X : Stand p l e R s m args below meth c T locs cells slots) (hx : p.tables.exec = Jvm.exec) (hlk : meth.locks = false) {pc : Nat} {Ls : Array Slot} {w : Value} (hw : w.isRef = true) {t : FieldType} (hret : meth.sig.returnType = some t) (ht : t.isReference = true)
    (hd : decode c.code pc = .ok (.areturn, 1)) (hq : Q (some w) T.heap locs) (hc : cells ≤ CS.1) (hs : slots ≤ CS.2) : own_Go p e below s Q CS (T.setTop (mkF m pc Ls [w])) := by
  obtain ⟨fs, hr, hrun, hended, hW, hsame⟩ := X.leave (v := some w) (fun h => by rw [hret] at h; cases h) hlk
  exact ⟨_, _, X.areturnOut hx hw hret ht hd hr, hrun, hended, _, _, rfl, hq, ⟨_, rfl⟩, hW, hsame.mono hc hs⟩
theorem own_ret0 (X : Stand p l e R s m args below meth c T locs cells slots) (hx : p.tables.exec = Jvm.exec) (hlk : meth.locks = false) {pc : Nat} {Ls : Array Slot} (hret : meth.sig.returnType = none)
    (hd : decode c.code pc = .ok (.return_, 1)) (hq : Q none T.heap locs) (hc : cells ≤ CS.1) (hs : slots ≤ CS.2) : own_Go p e below s Q CS (T.setTop (mkF m pc Ls [])) := by
  obtain ⟨fs, hr, hrun, hended, hW, hsame⟩ := X.leave (v := none) (fun _ => rfl) hlk
  exact ⟨_, _, X.returnOut hx hret hd hr, hrun, hended, _, _, rfl, hq, ⟨_, rfl⟩, hW, hsame.mono hc hs⟩
def own_GoW (p : Program) (e : Env) (below : List Frame) (s : State) (Q : Option Value → Heap → List Loc → Prop) (CS : Nat × Nat) (st : State) : Prop :=
  ∃ s₂ o, Steps p.tables e below st s₂ ∧ s₂.status = .running ∧ Ended s₂ below o ∧ ∃ v L, o = .returned v ∧ Q v s₂.heap L ∧ ReturnedEndW s o s₂ L CS.1 CS.2
theorem own_viaW (h : ∀ {t}, Steps p.tables e below st t → Steps p.tables e below st' t) (g : own_GoW p e below s Q CS st) : own_GoW p e below s Q CS st' := by
  obtain ⟨s₂, o, h1, h2⟩ := g
  exact ⟨s₂, o, h h1, h2⟩
theorem own_startW {g g' : JFrame} (q : g = g') (h : own_GoW p e below s Q CS (T.setTop g')) : ∃ s₂ o, Steps p.tables e below (T.setTop g) s₂ ∧ s₂.status = .running ∧ Ended s₂ below o ∧ ∃ v L, o = .returned v ∧ Q v s₂.heap L ∧ ReturnedEndW s o s₂ L CS.1 CS.2 := q ▸ h
theorem own_retNW {vm₁ : Vm} (X : Stand p l e R (s.setVm vm₁) m args below meth c T locs cells slots) (hx : p.tables.exec = Jvm.exec) (hlk : meth.locks = false) {pc : Nat} {Ls : Array Slot} {z : Int32} {t : FieldType} {rest : List Value} (hret : meth.sig.returnType = some t) (ht : t = .boolean ∨ t = .byte ∨ t = .char ∨ t = .short)
    (hd : decode c.code pc = .ok (.ireturn, 1)) {n : Nat} (hS : s.Since vm₁ n) (hn : n ≤ T.heap.size) (hq : Q (some (.int (nar t z))) T.heap locs) (hc : cells ≤ CS.1) (hs : slots ≤ CS.2) : own_GoW p e below s Q CS (T.setTop (mkF m pc Ls (.int z :: rest))) := by
  obtain ⟨fs, hr, hrun, hended, hW⟩ := X.leaveW hS hn (v := some (.int (nar t z))) (fun h => by rw [hret] at h; cases h) hlk
  exact ⟨_, _, retN X hx hret ht hd hr, hrun, hended, _, _, rfl, hq, hW.1, hW.2.1, hW.2.2.1, hW.2.2.2.mono hc hs⟩
theorem own_selPriv {s : State} {args args' : Array Value} {y y' : MethodName} {C : String} (w : (Cond.selects C y' y').before args' s = true) (hc : y'.cls = y.cls) (hinst : (Cond.instanceMethod y).before args s = true) (hpriv : s.PrivateAt y) (hy : y.cls ≠ "java/lang/invoke/MethodHandle" ∧ y.cls ≠ "java/lang/invoke/VarHandle") : (Cond.selects y.cls y y).before args s = true := by
  obtain ⟨c2, r2, m2, q1, q2, q3, q4, kP, hkP, hkPi⟩ := Cond.selects_spec w
  exact selects_self_of_private (c := m2.cls) (k := kP) (by rw [← hc]; exact findClass_of_methodNamed q3) hkP hkPi hpriv hinst hy
theorem own_fldI {Z : State} {h : Heap} {a : Addr} {C n d : String} {v w : Int32} (q : v = w) (F : Fld Z h a C n d (.int v)) : Fld Z h a C n d (.int w) := q ▸ F
theorem own_fldJ {Z : State} {h : Heap} {a : Addr} {C n d : String} {v w : Int64} (q : v = w) (F : Fld Z h a C n d (.long v)) : Fld Z h a C n d (.long w) := q ▸ F
theorem own_arv {Z : State} {h : Heap} {a : Addr} {k : ClassId} {ty : FieldType} {n : Int32} {vs vs' : List Value} {d : Value} (q : vs = vs') (F : Arv Z h a k ty n vs d) : Arv Z h a k ty n vs' d := q ▸ F
theorem own_fits {t : FieldType} {v w : Int32} (q : v = w) (F : fits t (.int v) = true) : fits t (.int w) = true := q ▸ F
end New
end Jvm.RoadKit
namespace Jvm.Pilot.@@N@@
open Jvm Jvm.ClassFile Sem Op Lib Jvm.Free Jvm.Stand Jvm.LawKit Jvm.RoadKit Bundle Jvm.Pilot.@@N@@.Jvm.D
theorem own_l32 {x y : Int32} : x < y ↔ x.toInt < y.toInt := Int32.lt_iff_toInt_lt
theorem own_e32 {x y : Int32} : x = y ↔ x.toInt = y.toInt := Int32.toInt_inj.symm
theorem own_l64 {x y : Int64} : x < y ↔ x.toInt < y.toInt := Int64.lt_iff_toInt_lt
theorem own_e64 {x y : Int64} : x = y ↔ x.toInt = y.toInt := Int64.toInt_inj.symm
theorem own_all8 {P : Int8 → Prop} (h : ∀ n : Fin 256, P (Int8.ofBitVec (BitVec.ofFin n))) (i : Int8) : P i := h i.toBitVec.toFin
theorem d1_0 : decode prog_45_method_14_code 0 = .ok (.iload_n 0, 1) := by decide +kernel
theorem d1_1 : decode prog_45_method_14_code 1 = .ok (.bipush 48, 2) := by decide +kernel
theorem d1_3 : decode prog_45_method_14_code 3 = .ok (.if_icmp .lt 17, 3) := by decide +kernel
theorem d1_6 : decode prog_45_method_14_code 6 = .ok (.iload_n 0, 1) := by decide +kernel
theorem d1_7 : decode prog_45_method_14_code 7 = .ok (.bipush 57, 2) := by decide +kernel
theorem d1_9 : decode prog_45_method_14_code 9 = .ok (.if_icmp .gt 11, 3) := by decide +kernel
theorem d1_12 : decode prog_45_method_14_code 12 = .ok (.iload_n 0, 1) := by decide +kernel
theorem d1_13 : decode prog_45_method_14_code 13 = .ok (.bipush 48, 2) := by decide +kernel
theorem d1_15 : decode prog_45_method_14_code 15 = .ok (.isub, 1) := by decide +kernel
theorem d1_16 : decode prog_45_method_14_code 16 = .ok (.istore_n 2, 1) := by decide +kernel
theorem d1_17 : decode prog_45_method_14_code 17 = .ok (.goto 51, 3) := by decide +kernel
theorem d1_20 : decode prog_45_method_14_code 20 = .ok (.iload_n 0, 1) := by decide +kernel
theorem d1_21 : decode prog_45_method_14_code 21 = .ok (.bipush 97, 2) := by decide +kernel
theorem d1_23 : decode prog_45_method_14_code 23 = .ok (.if_icmp .lt 20, 3) := by decide +kernel
theorem d1_26 : decode prog_45_method_14_code 26 = .ok (.iload_n 0, 1) := by decide +kernel
theorem d1_27 : decode prog_45_method_14_code 27 = .ok (.bipush 102, 2) := by decide +kernel
theorem d1_29 : decode prog_45_method_14_code 29 = .ok (.if_icmp .gt 14, 3) := by decide +kernel
theorem d1_32 : decode prog_45_method_14_code 32 = .ok (.iload_n 0, 1) := by decide +kernel
theorem d1_33 : decode prog_45_method_14_code 33 = .ok (.bipush 97, 2) := by decide +kernel
theorem d1_35 : decode prog_45_method_14_code 35 = .ok (.isub, 1) := by decide +kernel
theorem d1_36 : decode prog_45_method_14_code 36 = .ok (.bipush 10, 2) := by decide +kernel
theorem d1_38 : decode prog_45_method_14_code 38 = .ok (.iadd, 1) := by decide +kernel
theorem d1_39 : decode prog_45_method_14_code 39 = .ok (.istore_n 2, 1) := by decide +kernel
theorem d1_40 : decode prog_45_method_14_code 40 = .ok (.goto 28, 3) := by decide +kernel
theorem d1_43 : decode prog_45_method_14_code 43 = .ok (.iload_n 0, 1) := by decide +kernel
theorem d1_44 : decode prog_45_method_14_code 44 = .ok (.bipush 65, 2) := by decide +kernel
theorem d1_46 : decode prog_45_method_14_code 46 = .ok (.if_icmp .lt 20, 3) := by decide +kernel
theorem d1_49 : decode prog_45_method_14_code 49 = .ok (.iload_n 0, 1) := by decide +kernel
theorem d1_50 : decode prog_45_method_14_code 50 = .ok (.bipush 70, 2) := by decide +kernel
theorem d1_52 : decode prog_45_method_14_code 52 = .ok (.if_icmp .gt 14, 3) := by decide +kernel
theorem d1_55 : decode prog_45_method_14_code 55 = .ok (.iload_n 0, 1) := by decide +kernel
theorem d1_56 : decode prog_45_method_14_code 56 = .ok (.bipush 65, 2) := by decide +kernel
theorem d1_58 : decode prog_45_method_14_code 58 = .ok (.isub, 1) := by decide +kernel
theorem d1_59 : decode prog_45_method_14_code 59 = .ok (.bipush 10, 2) := by decide +kernel
theorem d1_61 : decode prog_45_method_14_code 61 = .ok (.iadd, 1) := by decide +kernel
theorem d1_62 : decode prog_45_method_14_code 62 = .ok (.istore_n 2, 1) := by decide +kernel
theorem d1_63 : decode prog_45_method_14_code 63 = .ok (.goto 5, 3) := by decide +kernel
theorem d1_66 : decode prog_45_method_14_code 66 = .ok (.iconst (-1), 1) := by decide +kernel
theorem d1_67 : decode prog_45_method_14_code 67 = .ok (.istore_n 2, 1) := by decide +kernel
theorem d1_68 : decode prog_45_method_14_code 68 = .ok (.iload_n 2, 1) := by decide +kernel
theorem d1_69 : decode prog_45_method_14_code 69 = .ok (.iload_n 1, 1) := by decide +kernel
theorem d1_70 : decode prog_45_method_14_code 70 = .ok (.if_icmp .ge 7, 3) := by decide +kernel
theorem d1_73 : decode prog_45_method_14_code 73 = .ok (.iload_n 2, 1) := by decide +kernel
theorem d1_74 : decode prog_45_method_14_code 74 = .ok (.goto 4, 3) := by decide +kernel
theorem d1_77 : decode prog_45_method_14_code 77 = .ok (.iconst (-1), 1) := by decide +kernel
theorem d1_78 : decode prog_45_method_14_code 78 = .ok (.ireturn, 1) := by decide +kernel
theorem pn_1 : plainName "com/example/grammar_parser/grammarparser/GrammarReader" = true := by first | (simp [plainName, overriddenIn]; done) | decide +kernel
theorem ef_1 (m : MethodId) (x0 : Int32) (x1 : Int32) : entryFrame m #[(.int x0), (.int x1)] 3 = mkF m 0 #[iv x0, iv x1, .unset] [] := by first | (simp [entryFrame, mkF, argsToLocals, Value.category]; done) | rfl
def own_f1 (p0 : Int32) (p1 : Int32) : Int32 := (let z1 : Int32 := (if p0 < (48 : Int32) then (if p0 < (97 : Int32) then (if p0 < (65 : Int32) then (-1 : Int32) else (if (70 : Int32) < p0 then (-1 : Int32) else ((p0 - (65 : Int32)) + (10 : Int32)))) else (if (102 : Int32) < p0 then (if p0 < (65 : Int32) then (-1 : Int32) else (if (70 : Int32) < p0 then (-1 : Int32) else ((p0 - (65 : Int32)) + (10 : Int32)))) else ((p0 - (97 : Int32)) + (10 : Int32)))) else (if (57 : Int32) < p0 then (if p0 < (97 : Int32) then (if p0 < (65 : Int32) then (-1 : Int32) else (if (70 : Int32) < p0 then (-1 : Int32) else ((p0 - (65 : Int32)) + (10 : Int32)))) else (if (102 : Int32) < p0 then (if p0 < (65 : Int32) then (-1 : Int32) else (if (70 : Int32) < p0 then (-1 : Int32) else ((p0 - (65 : Int32)) + (10 : Int32)))) else ((p0 - (97 : Int32)) + (10 : Int32)))) else (p0 - (48 : Int32)))); (if z1 < p1 then z1 else (-1 : Int32)))
def Q1 (Z : State) (p0 : Int32) (p1 : Int32) (h0 : Heap) (n0 : Nat) (v : Option Value) (h : Heap) (L : List Loc) : Prop := v = some (.int (own_f1 p0 p1)) ∧ Fr n0 L ∧ h = h0
set_option maxRecDepth 65536 in
set_option maxHeartbeats 40000000 in
theorem rm1 (l : Launch) (Z : State) (aw : Array Value) (hw : ∀ d ∈ tables_1, d.before aw Z = true) (ws : List Jvm.Cond) (p0 : Int32) (p1 : Int32) (h0 : Heap) (n0 : Nat) (Z0 : n0 ≤ h0.size)  :
    MetFree l (⟨"com/example/grammar_parser/grammarparser/GrammarReader", "digit", "(II)I"⟩ : MethodName) (head1 (Jvm.Cond.code (⟨"com/example/grammar_parser/grammarparser/GrammarReader", "digit", "(II)I"⟩ : MethodName) prog_45_method_14_code 3 (some .int) :: ws) ({ frames := 0, cells := 0, slots := 0, locals := 0 } : Room)) (fun a U => a = #[(.int p0), (.int p1)] ∧ Z.Warmed39 U.vm ∧ U.heap = h0) (fun _ _ _ _ _ => True) (fun _ U o U' => ∃ v L, o = .returned v ∧ Q1 Z p0 p1 h0 n0 v U'.heap L ∧ FrameEnd U o U' L ({ frames := 0, cells := 0, slots := 0, locals := 0 } : Room).cells ({ frames := 0, cells := 0, slots := 0, locals := 0 } : Room).slots) := by
  refine MetFree.of_bodySF (plainFor_of_name pn_1) hisR ?_
  intro p e s m args below meth c s₁ Bd hml0 hP hK
  obtain ⟨rfl, hZ, hh⟩ := hP
  have hx := Bd.exec
  have hby := Bd.bytes
  have hml : c.maxLocals = 3 := hml0
  have hown : s.vm.findClass "com/example/grammar_parser/grammarparser/GrammarReader" = some m.cls := findClass_of_methodNamed Bd.named
  have hnm := (name_of_methodNamed Bd.named Bd.method).1
  have hlk : meth.locks = false := by first | exact BodyLoose.notSynchronized (by assumption) | exact Body.notSynchronized (by assumption)
  have X0 : Stand p l e ({ frames := 0, cells := 0, slots := 0, locals := 0 } : Room) s m #[(.int p0), (.int p1)] below meth c s₁ [] 0 0 := Stand.of_body Bd
  have e0 : s₁.heap = h0 := by rw [← hh, Bd.state]; rfl
  have N0 := Fr.nil n0
  have K0 : Keep h0 h0 [] := Keep.refl _ _
  refine own_start (CS := (0, 0)) (Q := (Q1 Z p0 p1 h0 n0)) (ef_1 m p0 p1) ?_
  show own_Go p e below s _ _ (s₁.setTop (mkF m 0 #[iv p0, iv p1, .unset] []))
  refine own_via (fun k => XS.iloadN X0.here hx rfl (hb hby d1_0) rfl  (XS.bipush X0.here hx rfl (hb hby d1_1) k)) ?_
  show own_Go p e below s _ _ (s₁.setTop (mkF m 3 #[iv p0, iv p1, .unset] [(.int 48), (.int p0)]))
  have J2 : ∀ (z1 : Int32), z1 = (if p0 < (48 : Int32) then (if p0 < (97 : Int32) then (if p0 < (65 : Int32) then (-1 : Int32) else (if (70 : Int32) < p0 then (-1 : Int32) else ((p0 - (65 : Int32)) + (10 : Int32)))) else (if (102 : Int32) < p0 then (if p0 < (65 : Int32) then (-1 : Int32) else (if (70 : Int32) < p0 then (-1 : Int32) else ((p0 - (65 : Int32)) + (10 : Int32)))) else ((p0 - (97 : Int32)) + (10 : Int32)))) else (if (57 : Int32) < p0 then (if p0 < (97 : Int32) then (if p0 < (65 : Int32) then (-1 : Int32) else (if (70 : Int32) < p0 then (-1 : Int32) else ((p0 - (65 : Int32)) + (10 : Int32)))) else (if (102 : Int32) < p0 then (if p0 < (65 : Int32) then (-1 : Int32) else (if (70 : Int32) < p0 then (-1 : Int32) else ((p0 - (65 : Int32)) + (10 : Int32)))) else ((p0 - (97 : Int32)) + (10 : Int32)))) else (p0 - (48 : Int32)))) → own_Go p e below s (Q1 Z p0 p1 h0 n0) (0, 0) (s₁.setTop (mkF m 68 #[iv p0, iv p1, iv z1] [])) := by
    intro z1 hz1
    refine own_via (fun k => XS.iloadN X0.here hx rfl (hb hby d1_68) rfl  (XS.iloadN X0.here hx rfl (hb hby d1_69) rfl  k)) ?_
    show own_Go p e below s _ _ (s₁.setTop (mkF m 70 #[iv p0, iv p1, iv z1] [(.int p1), (.int z1)]))
    by_cases hc3 : z1 < p1
    · refine own_via (fun k => XS.icmpNo X0.here hx rfl (hb hby d1_70) rfl (tlt hc3).2.1 k) ?_
      show own_Go p e below s _ _ (s₁.setTop (mkF m 73 #[iv p0, iv p1, iv z1] []))
      refine own_via (fun k => XS.iloadN X0.here hx rfl (hb hby d1_73) rfl  (XS.goto X0.here hx rfl (pc0 := 74) (pc' := 78) rfl (hb hby d1_74) (by decide) (by decide) k)) ?_
      show own_Go p e below s _ _ (s₁.setTop (mkF m 78 #[iv p0, iv p1, iv z1] [(.int z1)]))
      exact own_retI X0 hx hlk Bd.returns (hb hby d1_78) (Q := (Q1 Z p0 p1 h0 n0)) ⟨(congrArg (fun z => some (Value.int z)) (show z1 = (own_f1 p0 p1) from (by subst hz1; unfold own_f1; exact ((if_pos hc3).trans rfl).symm))), N0, e0⟩ (by decide) (by decide)
    · refine own_via (fun k => XS.icmpYes X0.here hx rfl (pc0 := 70) (pc' := 77) rfl (hb hby d1_70) rfl (flt hc3).2.1 (by decide) (by decide) k) ?_
      show own_Go p e below s _ _ (s₁.setTop (mkF m 77 #[iv p0, iv p1, iv z1] []))
      refine own_via (fun k => XS.iconst X0.here hx rfl (hb hby d1_77) k) ?_
      show own_Go p e below s _ _ (s₁.setTop (mkF m 78 #[iv p0, iv p1, iv z1] [(.int (-1))]))
      exact own_retI X0 hx hlk Bd.returns (hb hby d1_78) (Q := (Q1 Z p0 p1 h0 n0)) ⟨(congrArg (fun z => some (Value.int z)) (show (-1 : Int32) = (own_f1 p0 p1) from (by subst hz1; unfold own_f1; exact ((if_neg hc3).trans rfl).symm))), N0, e0⟩ (by decide) (by decide)
  by_cases hc4 : p0 < (48 : Int32)
  · refine own_via (fun k => XS.icmpYes X0.here hx rfl (pc0 := 3) (pc' := 20) rfl (hb hby d1_3) rfl (tlt hc4).1 (by decide) (by decide) k) ?_
    show own_Go p e below s _ _ (s₁.setTop (mkF m 20 #[iv p0, iv p1, .unset] []))
    refine own_via (fun k => XS.iloadN X0.here hx rfl (hb hby d1_20) rfl  (XS.bipush X0.here hx rfl (hb hby d1_21) k)) ?_
    show own_Go p e below s _ _ (s₁.setTop (mkF m 23 #[iv p0, iv p1, .unset] [(.int 97), (.int p0)]))
    by_cases hc5 : p0 < (97 : Int32)
    · refine own_via (fun k => XS.icmpYes X0.here hx rfl (pc0 := 23) (pc' := 43) rfl (hb hby d1_23) rfl (tlt hc5).1 (by decide) (by decide) k) ?_
      show own_Go p e below s _ _ (s₁.setTop (mkF m 43 #[iv p0, iv p1, .unset] []))
      refine own_via (fun k => XS.iloadN X0.here hx rfl (hb hby d1_43) rfl  (XS.bipush X0.here hx rfl (hb hby d1_44) k)) ?_
      show own_Go p e below s _ _ (s₁.setTop (mkF m 46 #[iv p0, iv p1, .unset] [(.int 65), (.int p0)]))
      by_cases hc6 : p0 < (65 : Int32)
      · refine own_via (fun k => XS.icmpYes X0.here hx rfl (pc0 := 46) (pc' := 66) rfl (hb hby d1_46) rfl (tlt hc6).1 (by decide) (by decide) k) ?_
        show own_Go p e below s _ _ (s₁.setTop (mkF m 66 #[iv p0, iv p1, .unset] []))
        refine own_via (fun k => XS.iconst X0.here hx rfl (hb hby d1_66) (XS.istoreN X0.here hx rfl (hb hby d1_67) rfl (l' := #[iv p0, iv p1, iv (-1)]) rfl k)) ?_
        show own_Go p e below s _ _ (s₁.setTop (mkF m 68 #[iv p0, iv p1, iv (-1)] []))
        exact J2 (-1 : Int32) (((if_pos hc4).trans ((if_pos hc5).trans ((if_pos hc6).trans rfl)))).symm
      · refine own_via (fun k => XS.icmpNo X0.here hx rfl (hb hby d1_46) rfl (flt hc6).1 k) ?_
        show own_Go p e below s _ _ (s₁.setTop (mkF m 49 #[iv p0, iv p1, .unset] []))
        refine own_via (fun k => XS.iloadN X0.here hx rfl (hb hby d1_49) rfl  (XS.bipush X0.here hx rfl (hb hby d1_50) k)) ?_
        show own_Go p e below s _ _ (s₁.setTop (mkF m 52 #[iv p0, iv p1, .unset] [(.int 70), (.int p0)]))
        by_cases hc7 : (70 : Int32) < p0
        · refine own_via (fun k => XS.icmpYes X0.here hx rfl (pc0 := 52) (pc' := 66) rfl (hb hby d1_52) rfl (tlt hc7).2.2.1 (by decide) (by decide) k) ?_
          show own_Go p e below s _ _ (s₁.setTop (mkF m 66 #[iv p0, iv p1, .unset] []))
          refine own_via (fun k => XS.iconst X0.here hx rfl (hb hby d1_66) (XS.istoreN X0.here hx rfl (hb hby d1_67) rfl (l' := #[iv p0, iv p1, iv (-1)]) rfl k)) ?_
          show own_Go p e below s _ _ (s₁.setTop (mkF m 68 #[iv p0, iv p1, iv (-1)] []))
          exact J2 (-1 : Int32) (((if_pos hc4).trans ((if_pos hc5).trans ((if_neg hc6).trans ((if_pos hc7).trans rfl))))).symm
        · refine own_via (fun k => XS.icmpNo X0.here hx rfl (hb hby d1_52) rfl (flt hc7).2.2.1 k) ?_
          show own_Go p e below s _ _ (s₁.setTop (mkF m 55 #[iv p0, iv p1, .unset] []))
          refine own_via (fun k => XS.iloadN X0.here hx rfl (hb hby d1_55) rfl  (XS.bipush X0.here hx rfl (hb hby d1_56) (XS.isub X0.here hx rfl (hb hby d1_58) rfl (XS.bipush X0.here hx rfl (hb hby d1_59) k)))) ?_
          show own_Go p e below s _ _ (s₁.setTop (mkF m 61 #[iv p0, iv p1, .unset] [(.int 10), (.int (p0 - (65 : Int32)))]))
          refine own_via (fun k => XS.iadd X0.here hx rfl (hb hby d1_61) rfl (XS.istoreN X0.here hx rfl (hb hby d1_62) rfl (l' := #[iv p0, iv p1, iv ((p0 - (65 : Int32)) + (10 : Int32))]) rfl (XS.goto X0.here hx rfl (pc0 := 63) (pc' := 68) rfl (hb hby d1_63) (by decide) (by decide) k))) ?_
          show own_Go p e below s _ _ (s₁.setTop (mkF m 68 #[iv p0, iv p1, iv ((p0 - (65 : Int32)) + (10 : Int32))] []))
          exact J2 ((p0 - (65 : Int32)) + (10 : Int32)) (((if_pos hc4).trans ((if_pos hc5).trans ((if_neg hc6).trans ((if_neg hc7).trans rfl))))).symm
    · refine own_via (fun k => XS.icmpNo X0.here hx rfl (hb hby d1_23) rfl (flt hc5).1 k) ?_
      show own_Go p e below s _ _ (s₁.setTop (mkF m 26 #[iv p0, iv p1, .unset] []))
      refine own_via (fun k => XS.iloadN X0.here hx rfl (hb hby d1_26) rfl  (XS.bipush X0.here hx rfl (hb hby d1_27) k)) ?_
      show own_Go p e below s _ _ (s₁.setTop (mkF m 29 #[iv p0, iv p1, .unset] [(.int 102), (.int p0)]))
      by_cases hc8 : (102 : Int32) < p0
      · refine own_via (fun k => XS.icmpYes X0.here hx rfl (pc0 := 29) (pc' := 43) rfl (hb hby d1_29) rfl (tlt hc8).2.2.1 (by decide) (by decide) k) ?_
        show own_Go p e below s _ _ (s₁.setTop (mkF m 43 #[iv p0, iv p1, .unset] []))
        refine own_via (fun k => XS.iloadN X0.here hx rfl (hb hby d1_43) rfl  (XS.bipush X0.here hx rfl (hb hby d1_44) k)) ?_
        show own_Go p e below s _ _ (s₁.setTop (mkF m 46 #[iv p0, iv p1, .unset] [(.int 65), (.int p0)]))
        by_cases hc9 : p0 < (65 : Int32)
        · refine own_via (fun k => XS.icmpYes X0.here hx rfl (pc0 := 46) (pc' := 66) rfl (hb hby d1_46) rfl (tlt hc9).1 (by decide) (by decide) k) ?_
          show own_Go p e below s _ _ (s₁.setTop (mkF m 66 #[iv p0, iv p1, .unset] []))
          refine own_via (fun k => XS.iconst X0.here hx rfl (hb hby d1_66) (XS.istoreN X0.here hx rfl (hb hby d1_67) rfl (l' := #[iv p0, iv p1, iv (-1)]) rfl k)) ?_
          show own_Go p e below s _ _ (s₁.setTop (mkF m 68 #[iv p0, iv p1, iv (-1)] []))
          exact J2 (-1 : Int32) (((if_pos hc4).trans ((if_neg hc5).trans ((if_pos hc8).trans ((if_pos hc9).trans rfl))))).symm
        · refine own_via (fun k => XS.icmpNo X0.here hx rfl (hb hby d1_46) rfl (flt hc9).1 k) ?_
          show own_Go p e below s _ _ (s₁.setTop (mkF m 49 #[iv p0, iv p1, .unset] []))
          refine own_via (fun k => XS.iloadN X0.here hx rfl (hb hby d1_49) rfl  (XS.bipush X0.here hx rfl (hb hby d1_50) k)) ?_
          show own_Go p e below s _ _ (s₁.setTop (mkF m 52 #[iv p0, iv p1, .unset] [(.int 70), (.int p0)]))
          by_cases hc10 : (70 : Int32) < p0
          · refine own_via (fun k => XS.icmpYes X0.here hx rfl (pc0 := 52) (pc' := 66) rfl (hb hby d1_52) rfl (tlt hc10).2.2.1 (by decide) (by decide) k) ?_
            show own_Go p e below s _ _ (s₁.setTop (mkF m 66 #[iv p0, iv p1, .unset] []))
            refine own_via (fun k => XS.iconst X0.here hx rfl (hb hby d1_66) (XS.istoreN X0.here hx rfl (hb hby d1_67) rfl (l' := #[iv p0, iv p1, iv (-1)]) rfl k)) ?_
            show own_Go p e below s _ _ (s₁.setTop (mkF m 68 #[iv p0, iv p1, iv (-1)] []))
            exact J2 (-1 : Int32) (((if_pos hc4).trans ((if_neg hc5).trans ((if_pos hc8).trans ((if_neg hc9).trans ((if_pos hc10).trans rfl)))))).symm
          · refine own_via (fun k => XS.icmpNo X0.here hx rfl (hb hby d1_52) rfl (flt hc10).2.2.1 k) ?_
            show own_Go p e below s _ _ (s₁.setTop (mkF m 55 #[iv p0, iv p1, .unset] []))
            refine own_via (fun k => XS.iloadN X0.here hx rfl (hb hby d1_55) rfl  (XS.bipush X0.here hx rfl (hb hby d1_56) (XS.isub X0.here hx rfl (hb hby d1_58) rfl (XS.bipush X0.here hx rfl (hb hby d1_59) k)))) ?_
            show own_Go p e below s _ _ (s₁.setTop (mkF m 61 #[iv p0, iv p1, .unset] [(.int 10), (.int (p0 - (65 : Int32)))]))
            refine own_via (fun k => XS.iadd X0.here hx rfl (hb hby d1_61) rfl (XS.istoreN X0.here hx rfl (hb hby d1_62) rfl (l' := #[iv p0, iv p1, iv ((p0 - (65 : Int32)) + (10 : Int32))]) rfl (XS.goto X0.here hx rfl (pc0 := 63) (pc' := 68) rfl (hb hby d1_63) (by decide) (by decide) k))) ?_
            show own_Go p e below s _ _ (s₁.setTop (mkF m 68 #[iv p0, iv p1, iv ((p0 - (65 : Int32)) + (10 : Int32))] []))
            exact J2 ((p0 - (65 : Int32)) + (10 : Int32)) (((if_pos hc4).trans ((if_neg hc5).trans ((if_pos hc8).trans ((if_neg hc9).trans ((if_neg hc10).trans rfl)))))).symm
      · refine own_via (fun k => XS.icmpNo X0.here hx rfl (hb hby d1_29) rfl (flt hc8).2.2.1 k) ?_
        show own_Go p e below s _ _ (s₁.setTop (mkF m 32 #[iv p0, iv p1, .unset] []))
        refine own_via (fun k => XS.iloadN X0.here hx rfl (hb hby d1_32) rfl  (XS.bipush X0.here hx rfl (hb hby d1_33) (XS.isub X0.here hx rfl (hb hby d1_35) rfl (XS.bipush X0.here hx rfl (hb hby d1_36) k)))) ?_
        show own_Go p e below s _ _ (s₁.setTop (mkF m 38 #[iv p0, iv p1, .unset] [(.int 10), (.int (p0 - (97 : Int32)))]))
        refine own_via (fun k => XS.iadd X0.here hx rfl (hb hby d1_38) rfl (XS.istoreN X0.here hx rfl (hb hby d1_39) rfl (l' := #[iv p0, iv p1, iv ((p0 - (97 : Int32)) + (10 : Int32))]) rfl (XS.goto X0.here hx rfl (pc0 := 40) (pc' := 68) rfl (hb hby d1_40) (by decide) (by decide) k))) ?_
        show own_Go p e below s _ _ (s₁.setTop (mkF m 68 #[iv p0, iv p1, iv ((p0 - (97 : Int32)) + (10 : Int32))] []))
        exact J2 ((p0 - (97 : Int32)) + (10 : Int32)) (((if_pos hc4).trans ((if_neg hc5).trans ((if_neg hc8).trans rfl)))).symm
  · refine own_via (fun k => XS.icmpNo X0.here hx rfl (hb hby d1_3) rfl (flt hc4).1 k) ?_
    show own_Go p e below s _ _ (s₁.setTop (mkF m 6 #[iv p0, iv p1, .unset] []))
    refine own_via (fun k => XS.iloadN X0.here hx rfl (hb hby d1_6) rfl  (XS.bipush X0.here hx rfl (hb hby d1_7) k)) ?_
    show own_Go p e below s _ _ (s₁.setTop (mkF m 9 #[iv p0, iv p1, .unset] [(.int 57), (.int p0)]))
    by_cases hc11 : (57 : Int32) < p0
    · refine own_via (fun k => XS.icmpYes X0.here hx rfl (pc0 := 9) (pc' := 20) rfl (hb hby d1_9) rfl (tlt hc11).2.2.1 (by decide) (by decide) k) ?_
      show own_Go p e below s _ _ (s₁.setTop (mkF m 20 #[iv p0, iv p1, .unset] []))
      refine own_via (fun k => XS.iloadN X0.here hx rfl (hb hby d1_20) rfl  (XS.bipush X0.here hx rfl (hb hby d1_21) k)) ?_
      show own_Go p e below s _ _ (s₁.setTop (mkF m 23 #[iv p0, iv p1, .unset] [(.int 97), (.int p0)]))
      by_cases hc12 : p0 < (97 : Int32)
      · refine own_via (fun k => XS.icmpYes X0.here hx rfl (pc0 := 23) (pc' := 43) rfl (hb hby d1_23) rfl (tlt hc12).1 (by decide) (by decide) k) ?_
        show own_Go p e below s _ _ (s₁.setTop (mkF m 43 #[iv p0, iv p1, .unset] []))
        refine own_via (fun k => XS.iloadN X0.here hx rfl (hb hby d1_43) rfl  (XS.bipush X0.here hx rfl (hb hby d1_44) k)) ?_
        show own_Go p e below s _ _ (s₁.setTop (mkF m 46 #[iv p0, iv p1, .unset] [(.int 65), (.int p0)]))
        by_cases hc13 : p0 < (65 : Int32)
        · refine own_via (fun k => XS.icmpYes X0.here hx rfl (pc0 := 46) (pc' := 66) rfl (hb hby d1_46) rfl (tlt hc13).1 (by decide) (by decide) k) ?_
          show own_Go p e below s _ _ (s₁.setTop (mkF m 66 #[iv p0, iv p1, .unset] []))
          refine own_via (fun k => XS.iconst X0.here hx rfl (hb hby d1_66) (XS.istoreN X0.here hx rfl (hb hby d1_67) rfl (l' := #[iv p0, iv p1, iv (-1)]) rfl k)) ?_
          show own_Go p e below s _ _ (s₁.setTop (mkF m 68 #[iv p0, iv p1, iv (-1)] []))
          exact J2 (-1 : Int32) (((if_neg hc4).trans ((if_pos hc11).trans ((if_pos hc12).trans ((if_pos hc13).trans rfl))))).symm
        · refine own_via (fun k => XS.icmpNo X0.here hx rfl (hb hby d1_46) rfl (flt hc13).1 k) ?_
          show own_Go p e below s _ _ (s₁.setTop (mkF m 49 #[iv p0, iv p1, .unset] []))
          refine own_via (fun k => XS.iloadN X0.here hx rfl (hb hby d1_49) rfl  (XS.bipush X0.here hx rfl (hb hby d1_50) k)) ?_
          show own_Go p e below s _ _ (s₁.setTop (mkF m 52 #[iv p0, iv p1, .unset] [(.int 70), (.int p0)]))
          by_cases hc14 : (70 : Int32) < p0
          · refine own_via (fun k => XS.icmpYes X0.here hx rfl (pc0 := 52) (pc' := 66) rfl (hb hby d1_52) rfl (tlt hc14).2.2.1 (by decide) (by decide) k) ?_
            show own_Go p e below s _ _ (s₁.setTop (mkF m 66 #[iv p0, iv p1, .unset] []))
            refine own_via (fun k => XS.iconst X0.here hx rfl (hb hby d1_66) (XS.istoreN X0.here hx rfl (hb hby d1_67) rfl (l' := #[iv p0, iv p1, iv (-1)]) rfl k)) ?_
            show own_Go p e below s _ _ (s₁.setTop (mkF m 68 #[iv p0, iv p1, iv (-1)] []))
            exact J2 (-1 : Int32) (((if_neg hc4).trans ((if_pos hc11).trans ((if_pos hc12).trans ((if_neg hc13).trans ((if_pos hc14).trans rfl)))))).symm
          · refine own_via (fun k => XS.icmpNo X0.here hx rfl (hb hby d1_52) rfl (flt hc14).2.2.1 k) ?_
            show own_Go p e below s _ _ (s₁.setTop (mkF m 55 #[iv p0, iv p1, .unset] []))
            refine own_via (fun k => XS.iloadN X0.here hx rfl (hb hby d1_55) rfl  (XS.bipush X0.here hx rfl (hb hby d1_56) (XS.isub X0.here hx rfl (hb hby d1_58) rfl (XS.bipush X0.here hx rfl (hb hby d1_59) k)))) ?_
            show own_Go p e below s _ _ (s₁.setTop (mkF m 61 #[iv p0, iv p1, .unset] [(.int 10), (.int (p0 - (65 : Int32)))]))
            refine own_via (fun k => XS.iadd X0.here hx rfl (hb hby d1_61) rfl (XS.istoreN X0.here hx rfl (hb hby d1_62) rfl (l' := #[iv p0, iv p1, iv ((p0 - (65 : Int32)) + (10 : Int32))]) rfl (XS.goto X0.here hx rfl (pc0 := 63) (pc' := 68) rfl (hb hby d1_63) (by decide) (by decide) k))) ?_
            show own_Go p e below s _ _ (s₁.setTop (mkF m 68 #[iv p0, iv p1, iv ((p0 - (65 : Int32)) + (10 : Int32))] []))
            exact J2 ((p0 - (65 : Int32)) + (10 : Int32)) (((if_neg hc4).trans ((if_pos hc11).trans ((if_pos hc12).trans ((if_neg hc13).trans ((if_neg hc14).trans rfl)))))).symm
      · refine own_via (fun k => XS.icmpNo X0.here hx rfl (hb hby d1_23) rfl (flt hc12).1 k) ?_
        show own_Go p e below s _ _ (s₁.setTop (mkF m 26 #[iv p0, iv p1, .unset] []))
        refine own_via (fun k => XS.iloadN X0.here hx rfl (hb hby d1_26) rfl  (XS.bipush X0.here hx rfl (hb hby d1_27) k)) ?_
        show own_Go p e below s _ _ (s₁.setTop (mkF m 29 #[iv p0, iv p1, .unset] [(.int 102), (.int p0)]))
        by_cases hc15 : (102 : Int32) < p0
        · refine own_via (fun k => XS.icmpYes X0.here hx rfl (pc0 := 29) (pc' := 43) rfl (hb hby d1_29) rfl (tlt hc15).2.2.1 (by decide) (by decide) k) ?_
          show own_Go p e below s _ _ (s₁.setTop (mkF m 43 #[iv p0, iv p1, .unset] []))
          refine own_via (fun k => XS.iloadN X0.here hx rfl (hb hby d1_43) rfl  (XS.bipush X0.here hx rfl (hb hby d1_44) k)) ?_
          show own_Go p e below s _ _ (s₁.setTop (mkF m 46 #[iv p0, iv p1, .unset] [(.int 65), (.int p0)]))
          by_cases hc16 : p0 < (65 : Int32)
          · refine own_via (fun k => XS.icmpYes X0.here hx rfl (pc0 := 46) (pc' := 66) rfl (hb hby d1_46) rfl (tlt hc16).1 (by decide) (by decide) k) ?_
            show own_Go p e below s _ _ (s₁.setTop (mkF m 66 #[iv p0, iv p1, .unset] []))
            refine own_via (fun k => XS.iconst X0.here hx rfl (hb hby d1_66) (XS.istoreN X0.here hx rfl (hb hby d1_67) rfl (l' := #[iv p0, iv p1, iv (-1)]) rfl k)) ?_
            show own_Go p e below s _ _ (s₁.setTop (mkF m 68 #[iv p0, iv p1, iv (-1)] []))
            exact J2 (-1 : Int32) (((if_neg hc4).trans ((if_pos hc11).trans ((if_neg hc12).trans ((if_pos hc15).trans ((if_pos hc16).trans rfl)))))).symm
          · refine own_via (fun k => XS.icmpNo X0.here hx rfl (hb hby d1_46) rfl (flt hc16).1 k) ?_
            show own_Go p e below s _ _ (s₁.setTop (mkF m 49 #[iv p0, iv p1, .unset] []))
            refine own_via (fun k => XS.iloadN X0.here hx rfl (hb hby d1_49) rfl  (XS.bipush X0.here hx rfl (hb hby d1_50) k)) ?_
            show own_Go p e below s _ _ (s₁.setTop (mkF m 52 #[iv p0, iv p1, .unset] [(.int 70), (.int p0)]))
            by_cases hc17 : (70 : Int32) < p0
            · refine own_via (fun k => XS.icmpYes X0.here hx rfl (pc0 := 52) (pc' := 66) rfl (hb hby d1_52) rfl (tlt hc17).2.2.1 (by decide) (by decide) k) ?_
              show own_Go p e below s _ _ (s₁.setTop (mkF m 66 #[iv p0, iv p1, .unset] []))
              refine own_via (fun k => XS.iconst X0.here hx rfl (hb hby d1_66) (XS.istoreN X0.here hx rfl (hb hby d1_67) rfl (l' := #[iv p0, iv p1, iv (-1)]) rfl k)) ?_
              show own_Go p e below s _ _ (s₁.setTop (mkF m 68 #[iv p0, iv p1, iv (-1)] []))
              exact J2 (-1 : Int32) (((if_neg hc4).trans ((if_pos hc11).trans ((if_neg hc12).trans ((if_pos hc15).trans ((if_neg hc16).trans ((if_pos hc17).trans rfl))))))).symm
            · refine own_via (fun k => XS.icmpNo X0.here hx rfl (hb hby d1_52) rfl (flt hc17).2.2.1 k) ?_
              show own_Go p e below s _ _ (s₁.setTop (mkF m 55 #[iv p0, iv p1, .unset] []))
              refine own_via (fun k => XS.iloadN X0.here hx rfl (hb hby d1_55) rfl  (XS.bipush X0.here hx rfl (hb hby d1_56) (XS.isub X0.here hx rfl (hb hby d1_58) rfl (XS.bipush X0.here hx rfl (hb hby d1_59) k)))) ?_
              show own_Go p e below s _ _ (s₁.setTop (mkF m 61 #[iv p0, iv p1, .unset] [(.int 10), (.int (p0 - (65 : Int32)))]))
              refine own_via (fun k => XS.iadd X0.here hx rfl (hb hby d1_61) rfl (XS.istoreN X0.here hx rfl (hb hby d1_62) rfl (l' := #[iv p0, iv p1, iv ((p0 - (65 : Int32)) + (10 : Int32))]) rfl (XS.goto X0.here hx rfl (pc0 := 63) (pc' := 68) rfl (hb hby d1_63) (by decide) (by decide) k))) ?_
              show own_Go p e below s _ _ (s₁.setTop (mkF m 68 #[iv p0, iv p1, iv ((p0 - (65 : Int32)) + (10 : Int32))] []))
              exact J2 ((p0 - (65 : Int32)) + (10 : Int32)) (((if_neg hc4).trans ((if_pos hc11).trans ((if_neg hc12).trans ((if_pos hc15).trans ((if_neg hc16).trans ((if_neg hc17).trans rfl))))))).symm
        · refine own_via (fun k => XS.icmpNo X0.here hx rfl (hb hby d1_29) rfl (flt hc15).2.2.1 k) ?_
          show own_Go p e below s _ _ (s₁.setTop (mkF m 32 #[iv p0, iv p1, .unset] []))
          refine own_via (fun k => XS.iloadN X0.here hx rfl (hb hby d1_32) rfl  (XS.bipush X0.here hx rfl (hb hby d1_33) (XS.isub X0.here hx rfl (hb hby d1_35) rfl (XS.bipush X0.here hx rfl (hb hby d1_36) k)))) ?_
          show own_Go p e below s _ _ (s₁.setTop (mkF m 38 #[iv p0, iv p1, .unset] [(.int 10), (.int (p0 - (97 : Int32)))]))
          refine own_via (fun k => XS.iadd X0.here hx rfl (hb hby d1_38) rfl (XS.istoreN X0.here hx rfl (hb hby d1_39) rfl (l' := #[iv p0, iv p1, iv ((p0 - (97 : Int32)) + (10 : Int32))]) rfl (XS.goto X0.here hx rfl (pc0 := 40) (pc' := 68) rfl (hb hby d1_40) (by decide) (by decide) k))) ?_
          show own_Go p e below s _ _ (s₁.setTop (mkF m 68 #[iv p0, iv p1, iv ((p0 - (97 : Int32)) + (10 : Int32))] []))
          exact J2 ((p0 - (97 : Int32)) + (10 : Int32)) (((if_neg hc4).trans ((if_pos hc11).trans ((if_neg hc12).trans ((if_neg hc15).trans rfl))))).symm
    · refine own_via (fun k => XS.icmpNo X0.here hx rfl (hb hby d1_9) rfl (flt hc11).2.2.1 k) ?_
      show own_Go p e below s _ _ (s₁.setTop (mkF m 12 #[iv p0, iv p1, .unset] []))
      refine own_via (fun k => XS.iloadN X0.here hx rfl (hb hby d1_12) rfl  (XS.bipush X0.here hx rfl (hb hby d1_13) (XS.isub X0.here hx rfl (hb hby d1_15) rfl (XS.istoreN X0.here hx rfl (hb hby d1_16) rfl (l' := #[iv p0, iv p1, iv (p0 - (48 : Int32))]) rfl k)))) ?_
      show own_Go p e below s _ _ (s₁.setTop (mkF m 17 #[iv p0, iv p1, iv (p0 - (48 : Int32))] []))
      refine own_via (fun k => XS.goto X0.here hx rfl (pc0 := 17) (pc' := 68) rfl (hb hby d1_17) (by decide) (by decide) k) ?_
      show own_Go p e below s _ _ (s₁.setTop (mkF m 68 #[iv p0, iv p1, iv (p0 - (48 : Int32))] []))
      exact J2 (p0 - (48 : Int32)) (((if_neg hc4).trans ((if_neg hc11).trans rfl))).symm
theorem d6_0 : decode jdk_41_method_11_code 0 = .ok (.iload_n 0, 1) := by decide +kernel
theorem d6_1 : decode jdk_41_method_11_code 1 = .ok (.ifCond .lt 8, 3) := by decide +kernel
theorem d6_4 : decode jdk_41_method_11_code 4 = .ok (.iload_n 0, 1) := by decide +kernel
theorem d6_5 : decode jdk_41_method_11_code 5 = .ok (.iload_n 1, 1) := by decide +kernel
theorem d6_6 : decode jdk_41_method_11_code 6 = .ok (.if_icmp .lt 10, 3) := by decide +kernel
theorem d6_16 : decode jdk_41_method_11_code 16 = .ok (.iload_n 0, 1) := by decide +kernel
theorem d6_17 : decode jdk_41_method_11_code 17 = .ok (.ireturn, 1) := by decide +kernel
theorem pn_6 : plainName "jdk/internal/util/Preconditions" = true := by first | (simp [plainName, overriddenIn]; done) | decide +kernel
theorem ef_6 (m : MethodId) (x0 : Int32) (x1 : Int32) (x2 : Value) (rx2 : x2.isRef = true) : entryFrame m #[(.int x0), (.int x1), x2] 3 = mkF m 0 #[iv x0, iv x1, .val x2] [] := by rcases ref_cases rx2 with rfl | ⟨_, rfl⟩ <;> first | (simp [entryFrame, mkF, argsToLocals, Value.category]; done) | rfl
def Q6 (Z : State) (p0 : Int32) (p1 : Int32) (G3 : Value) (h0 : Heap) (n0 : Nat) (v : Option Value) (h : Heap) (L : List Loc) : Prop := v = some (.int p0) ∧ Fr n0 L ∧ h = h0
set_option maxRecDepth 65536 in
set_option maxHeartbeats 40000000 in
theorem rm6 (l : Launch) (Z : State) (aw : Array Value) (hw : ∀ d ∈ tables_1, d.before aw Z = true) (ws : List Jvm.Cond) (p0 : Int32) (p1 : Int32) (G3 : Value) (h0 : Heap) (n0 : Nat) (Z0 : n0 ≤ h0.size) (hg3 : G3.isRef = true) (hlo : ¬ (p0 < (0 : Int32))) (hhi : p0 < p1) :
    MetFree l (⟨"jdk/internal/util/Preconditions", "checkIndex", "(IILjava/util/function/BiFunction;)I"⟩ : MethodName) (head1 (Jvm.Cond.code (⟨"jdk/internal/util/Preconditions", "checkIndex", "(IILjava/util/function/BiFunction;)I"⟩ : MethodName) jdk_41_method_11_code 3 (some .int) :: ws) ({ frames := 0, cells := 0, slots := 0, locals := 0 } : Room)) (fun a U => a = #[(.int p0), (.int p1), G3] ∧ Z.Warmed39 U.vm ∧ U.heap = h0) (fun _ _ _ _ _ => True) (fun _ U o U' => ∃ v L, o = .returned v ∧ Q6 Z p0 p1 G3 h0 n0 v U'.heap L ∧ FrameEnd U o U' L ({ frames := 0, cells := 0, slots := 0, locals := 0 } : Room).cells ({ frames := 0, cells := 0, slots := 0, locals := 0 } : Room).slots) := by
  refine MetFree.of_bodySF (plainFor_of_name pn_6) hisR ?_
  intro p e s m args below meth c s₁ Bd hml0 hP hK
  obtain ⟨rfl, hZ, hh⟩ := hP
  have hx := Bd.exec
  have hby := Bd.bytes
  have hml : c.maxLocals = 3 := hml0
  have hown : s.vm.findClass "jdk/internal/util/Preconditions" = some m.cls := findClass_of_methodNamed Bd.named
  have hnm := (name_of_methodNamed Bd.named Bd.method).1
  have hlk : meth.locks = false := by first | exact BodyLoose.notSynchronized (by assumption) | exact Body.notSynchronized (by assumption)
  have X0 : Stand p l e ({ frames := 0, cells := 0, slots := 0, locals := 0 } : Room) s m #[(.int p0), (.int p1), G3] below meth c s₁ [] 0 0 := Stand.of_body Bd
  have e0 : s₁.heap = h0 := by rw [← hh, Bd.state]; rfl
  have N0 := Fr.nil n0
  have K0 : Keep h0 h0 [] := Keep.refl _ _
  refine own_start (CS := (0, 0)) (Q := (Q6 Z p0 p1 G3 h0 n0)) (ef_6 m p0 p1 G3 hg3) ?_
  show own_Go p e below s _ _ (s₁.setTop (mkF m 0 #[iv p0, iv p1, .val G3] []))
  refine own_via (fun k => XS.iloadN X0.here hx rfl (hb hby d6_0) rfl  k) ?_
  show own_Go p e below s _ _ (s₁.setTop (mkF m 1 #[iv p0, iv p1, .val G3] [(.int p0)]))
  refine own_via (fun k => XS.ifNo X0.here hx rfl (hb hby d6_1) rfl ((if0 _ _).trans (flt hlo).1) k) ?_
  show own_Go p e below s _ _ (s₁.setTop (mkF m 4 #[iv p0, iv p1, .val G3] []))
  refine own_via (fun k => XS.iloadN X0.here hx rfl (hb hby d6_4) rfl  (XS.iloadN X0.here hx rfl (hb hby d6_5) rfl  k)) ?_
  show own_Go p e below s _ _ (s₁.setTop (mkF m 6 #[iv p0, iv p1, .val G3] [(.int p1), (.int p0)]))
  refine own_via (fun k => XS.icmpYes X0.here hx rfl (pc0 := 6) (pc' := 16) rfl (hb hby d6_6) rfl (tlt hhi).1 (by decide) (by decide) k) ?_
  show own_Go p e below s _ _ (s₁.setTop (mkF m 16 #[iv p0, iv p1, .val G3] []))
  refine own_via (fun k => XS.iloadN X0.here hx rfl (hb hby d6_16) rfl  k) ?_
  show own_Go p e below s _ _ (s₁.setTop (mkF m 17 #[iv p0, iv p1, .val G3] [(.int p0)]))
  exact own_retI X0 hx hlk Bd.returns (hb hby d6_17) (Q := (Q6 Z p0 p1 G3 h0 n0)) ⟨rfl, N0, e0⟩ (by decide) (by decide)
theorem d5_0 : decode jdk_42_method_155_code 0 = .ok (.iload_n 0, 1) := by decide +kernel
theorem d5_1 : decode jdk_42_method_155_code 1 = .ok (.iload_n 1, 1) := by decide +kernel
theorem d5_2 : decode jdk_42_method_155_code 2 = .ok (.getstatic 1053, 3) := by decide +kernel
theorem d5_5 : decode jdk_42_method_155_code 5 = .ok (.invokestatic 1059, 3) := by decide +kernel
theorem d5_8 : decode jdk_42_method_155_code 8 = .ok (.pop, 1) := by decide +kernel
theorem d5_9 : decode jdk_42_method_155_code 9 = .ok (.return_, 1) := by decide +kernel
theorem pn_5 : plainName "java/lang/String" = true := by first | (simp [plainName, overriddenIn]; done) | decide +kernel
theorem pd_5 : parseMethodDescriptor "(IILjava/util/function/BiFunction;)I" = some ⟨[.int, .int, (.object "java/util/function/BiFunction")], some .int⟩ := by decide +kernel
theorem ef_5 (m : MethodId) (x0 : Int32) (x1 : Int32) : entryFrame m #[(.int x0), (.int x1)] 2 = mkF m 0 #[iv x0, iv x1] [] := by first | (simp [entryFrame, mkF, argsToLocals, Value.category]; done) | rfl
def Q5 (Z : State) (p0 : Int32) (p1 : Int32) (G3 : Value) (h0 : Heap) (n0 : Nat) (v : Option Value) (h : Heap) (L : List Loc) : Prop := v = none ∧ Fr n0 L ∧ h = h0
set_option maxRecDepth 65536 in
set_option maxHeartbeats 40000000 in
theorem rm5 (l : Launch) (Z : State) (aw : Array Value) (hw : ∀ d ∈ tables_1, d.before aw Z = true) (ws : List Jvm.Cond) (p0 : Int32) (p1 : Int32) (G3 : Value) (h0 : Heap) (n0 : Nat) (Z0 : n0 ≤ h0.size) (P0 : Sta Z h0 "jdk/internal/util/Preconditions" "SIOOBE_FORMATTER" "Ljava/util/function/BiFunction;" G3) (hg3 : G3.isRef = true) (hlo : ¬ (p0 < (0 : Int32))) (hhi : p0 < p1) :
    MetFree l (⟨"java/lang/String", "checkIndex", "(II)V"⟩ : MethodName) (head1 (Jvm.Cond.code (⟨"java/lang/String", "checkIndex", "(II)V"⟩ : MethodName) jdk_42_method_155_code 2 none :: ws) ({ frames := 1, cells := 0, slots := 0, locals := 14 } : Room)) (fun a U => a = #[(.int p0), (.int p1)] ∧ Z.Warmed39 U.vm ∧ U.heap = h0) (fun _ _ _ _ _ => True) (fun _ U o U' => ∃ v L, o = .returned v ∧ Q5 Z p0 p1 G3 h0 n0 v U'.heap L ∧ FrameEnd U o U' L ({ frames := 1, cells := 0, slots := 0, locals := 14 } : Room).cells ({ frames := 1, cells := 0, slots := 0, locals := 14 } : Room).slots) := by
  refine MetFree.of_bodySF (plainFor_of_name pn_5) hisR ?_
  intro p e s m args below meth c s₁ Bd hml0 hP hK
  obtain ⟨rfl, hZ, hh⟩ := hP
  have hx := Bd.exec
  have hby := Bd.bytes
  have hml : c.maxLocals = 2 := hml0
  have hown : s.vm.findClass "java/lang/String" = some m.cls := findClass_of_methodNamed Bd.named
  have hnm := (name_of_methodNamed Bd.named Bd.method).1
  have hlk : meth.locks = false := by first | exact BodyLoose.notSynchronized (by assumption) | exact Body.notSynchronized (by assumption)
  have X0 : Stand p l e ({ frames := 1, cells := 0, slots := 0, locals := 14 } : Room) s m #[(.int p0), (.int p1)] below meth c s₁ [] 0 0 := Stand.of_body Bd
  have e0 : s₁.heap = h0 := by rw [← hh, Bd.state]; rfl
  have N0 := Fr.nil n0
  have K0 : Keep h0 h0 [] := Keep.refl _ _
  refine own_start (CS := (0, 0)) (Q := (Q5 Z p0 p1 G3 h0 n0)) (ef_5 m p0 p1) ?_
  show own_Go p e below s _ _ (s₁.setTop (mkF m 0 #[iv p0, iv p1] []))
  refine own_via (fun k => XS.iloadN X0.here hx rfl (hb hby d5_0) rfl  (XS.iloadN X0.here hx rfl (hb hby d5_1) rfl  k)) ?_
  show own_Go p e below s _ _ (s₁.setTop (mkF m 2 #[iv p0, iv p1] [(.int p1), (.int p0)]))
  obtain ⟨T1, X1, e1, st1⟩ := getS2 X0 hx hZ hown (host := "") (Or.inl (hw _ (List.mem_of_getElem? (i := 33) rfl))) Via.refl e0 P0 (g := (mkF m 2 #[iv p0, iv p1] [(.int p1), (.int p0)])) rfl (hb hby d5_2)
  refine own_via (fun k => st1 _ k) ?_
  show own_Go p e below s _ _ (T1.setTop (mkF m 5 #[iv p0, iv p1] [G3, (.int p1), (.int p0)]))
  obtain ⟨_, _, ⟨T2, L2, k2, n2⟩, -, X2, ⟨Lc2, hQ2, l2, y2, z2⟩, st2⟩ := Jvm.LawKit.callS X1 hx (y := (⟨"jdk/internal/util/Preconditions", "checkIndex", "(IILjava/util/function/BiFunction;)I"⟩ : MethodName)) hown (mvT hZ (hw _ (List.mem_of_getElem? (i := 35) rfl))) (mvT hZ (hw _ (List.mem_of_getElem? (i := 36) rfl))) (mvT hZ (hw _ (List.mem_of_getElem? (i := 34) rfl))) (mvT hZ (hw _ (List.mem_of_getElem? (i := 37) rfl))) (by decide) (backOf (W := 0) (rm6 l Z aw hw [] p0 p1 G3 h0 n0 Z0 hg3 hlo hhi) hZ (hw _ (List.mem_of_getElem? (i := 37) rfl)) (hw _ (List.mem_of_getElem? (i := 34) rfl)) (by decide) (by decide)) (g := (mkF m 5 #[iv p0, iv p1] [G3, (.int p1), (.int p0)])) rfl (by rw [hml]; rfl) (argsL := [(.int p0), (.int p1), G3]) (rest := []) (lenOf pd_5 rfl) rfl (by show 2 * 0 + _ ≤ _; exact Nat.le_of_eq rfl) (hb hby d5_5) (fun _ _ => ⟨rfl, e1, (by decide : 0 + 0 ≤ _), (by decide : 0 + 0 ≤ _)⟩)
  dsimp only [Pt.U, Pt.locs, Pt.cells, Pt.slots] at X2 l2 y2 z2 st2 hQ2
  subst l2 y2 z2
  obtain ⟨rfl, N2q, eh2⟩ := hQ2
  have N3 := Fr.app N0 N2q
  refine own_via (fun k => st2 _ k) ?_
  show own_Go p e below s _ _ (T2.setTop (mkF m 8 #[iv p0, iv p1] [(.int p0)]))
  refine own_via (fun k => XS.pop X2.here hx rfl (hb hby d5_8) rfl rfl k) ?_
  show own_Go p e below s _ _ (T2.setTop (mkF m 9 #[iv p0, iv p1] []))
  exact own_ret0 X2 hx hlk Bd.returns (hb hby d5_9) (Q := (Q5 Z p0 p1 G3 h0 n0)) ⟨rfl, N3, eh2⟩ (by decide) (by decide)
theorem d4_0 : decode jdk_43_method_2_code 0 = .ok (.iload_n 1, 1) := by decide +kernel
theorem d4_1 : decode jdk_43_method_2_code 1 = .ok (.aload_n 0, 1) := by decide +kernel
theorem d4_2 : decode jdk_43_method_2_code 2 = .ok (.arraylength, 1) := by decide +kernel
theorem d4_3 : decode jdk_43_method_2_code 3 = .ok (.invokestatic 9, 3) := by decide +kernel
theorem d4_6 : decode jdk_43_method_2_code 6 = .ok (.aload_n 0, 1) := by decide +kernel
theorem d4_7 : decode jdk_43_method_2_code 7 = .ok (.iload_n 1, 1) := by decide +kernel
theorem d4_8 : decode jdk_43_method_2_code 8 = .ok (.baload, 1) := by decide +kernel
theorem d4_9 : decode jdk_43_method_2_code 9 = .ok (.sipush 255, 3) := by decide +kernel
theorem d4_12 : decode jdk_43_method_2_code 12 = .ok (.iand, 1) := by decide +kernel
theorem d4_13 : decode jdk_43_method_2_code 13 = .ok (.i2c, 1) := by decide +kernel
theorem d4_14 : decode jdk_43_method_2_code 14 = .ok (.ireturn, 1) := by decide +kernel
theorem pn_4 : plainName "java/lang/StringLatin1" = true := by first | (simp [plainName, overriddenIn]; done) | decide +kernel
theorem pd_4 : parseMethodDescriptor "(II)V" = some ⟨[.int, .int], none⟩ := by decide +kernel
theorem ef_4 (m : MethodId) (x0 : Addr) (x1 : Int32) : entryFrame m #[(.ref x0), (.int x1)] 2 = mkF m 0 #[rv x0, iv x1] [] := by first | (simp [entryFrame, mkF, argsToLocals, Value.category]; done) | rfl
def Q4 (Z : State) (a0 : Addr) (p1 : Int32) (kk : ClassId) (vs : List Value) (G3 : Value) (cc : Int32) (h0 : Heap) (n0 : Nat) (v : Option Value) (h : Heap) (L : List Loc) : Prop := v = some (.int cc) ∧ Fr n0 L ∧ h = h0
set_option maxRecDepth 65536 in
set_option maxHeartbeats 40000000 in
theorem rm4 (l : Launch) (Z : State) (aw : Array Value) (hw : ∀ d ∈ tables_1, d.before aw Z = true) (ws : List Jvm.Cond) (a0 : Addr) (p1 : Int32) (kk : ClassId) (vs : List Value) (G3 : Value) (cc : Int32) (h0 : Heap) (n0 : Nat) (Z0 : n0 ≤ h0.size) (P0 : Arv Z h0 a0 kk .byte (16 : Int32) vs (.int 0)) (P1 : Sta Z h0 "jdk/internal/util/Preconditions" "SIOOBE_FORMATTER" "Ljava/util/function/BiFunction;" G3) (hg3 : G3.isRef = true) (hlo : ¬ (p1 < (0 : Int32))) (hhi : p1 < (16 : Int32)) (hv : vs.getD p1.toNatClampNeg (.int 0) = (.int cc)) (hr1 : nar .char (((cc &&& (255 : Int32)).toUInt32.toUInt16.toUInt32.toInt32)) = cc) :
    MetFree l (⟨"java/lang/StringLatin1", "charAt", "([BI)C"⟩ : MethodName) (head1 (Jvm.Cond.code (⟨"java/lang/StringLatin1", "charAt", "([BI)C"⟩ : MethodName) jdk_43_method_2_code 2 (some .char) :: ws) ({ frames := 2, cells := 0, slots := 0, locals := 27 } : Room)) (fun a U => a = #[(.ref a0), (.int p1)] ∧ Z.Warmed39 U.vm ∧ U.heap = h0) (fun _ _ _ _ _ => True) (fun _ U o U' => ∃ v L, o = .returned v ∧ Q4 Z a0 p1 kk vs G3 cc h0 n0 v U'.heap L ∧ FrameEnd U o U' L ({ frames := 2, cells := 0, slots := 0, locals := 27 } : Room).cells ({ frames := 2, cells := 0, slots := 0, locals := 27 } : Room).slots) := by
  refine MetFree.of_bodySF (plainFor_of_name pn_4) hisR ?_
  intro p e s m args below meth c s₁ Bd hml0 hP hK
  obtain ⟨rfl, hZ, hh⟩ := hP
  have hx := Bd.exec
  have hby := Bd.bytes
  have hml : c.maxLocals = 2 := hml0
  have hown : s.vm.findClass "java/lang/StringLatin1" = some m.cls := findClass_of_methodNamed Bd.named
  have hnm := (name_of_methodNamed Bd.named Bd.method).1
  have hlk : meth.locks = false := by first | exact BodyLoose.notSynchronized (by assumption) | exact Body.notSynchronized (by assumption)
  have X0 : Stand p l e ({ frames := 2, cells := 0, slots := 0, locals := 27 } : Room) s m #[(.ref a0), (.int p1)] below meth c s₁ [] 0 0 := Stand.of_body Bd
  have e0 : s₁.heap = h0 := by rw [← hh, Bd.state]; rfl
  have N0 := Fr.nil n0
  have K0 : Keep h0 h0 [] := Keep.refl _ _
  refine own_start (CS := (0, 0)) (Q := (Q4 Z a0 p1 kk vs G3 cc h0 n0)) (ef_4 m a0 p1) ?_
  show own_Go p e below s _ _ (s₁.setTop (mkF m 0 #[rv a0, iv p1] []))
  refine own_via (fun k => XS.iloadN X0.here hx rfl (hb hby d4_0) rfl  (XS.aloadN X0.here hx rfl (hb hby d4_1) rfl rfl  k)) ?_
  show own_Go p e below s _ _ (s₁.setTop (mkF m 2 #[rv a0, iv p1] [(.ref a0), (.int p1)]))
  obtain ⟨cl1, Ar1, -, S1, NN1, -, -⟩ := id P0
  refine own_via (fun k => X0.arraylength hx (by rw [e0]; exact Ar1.1) (State.isArrayOf_alike hZ.alike Ar1.2.1) (g := (mkF m 2 #[rv a0, iv p1] [(.ref a0), (.int p1)])) rfl rfl (hb hby d4_2) _ k) ?_
  rw [len_of S1 NN1]
  show own_Go p e below s _ _ (s₁.setTop (mkF m 3 #[rv a0, iv p1] [(.int 16), (.int p1)]))
  obtain ⟨_, _, ⟨T2, L2, k2, n2⟩, -, X2, ⟨Lc2, hQ2, l2, y2, z2⟩, st2⟩ := Jvm.LawKit.callS X0 hx (y := (⟨"java/lang/String", "checkIndex", "(II)V"⟩ : MethodName)) hown (mvT hZ (hw _ (List.mem_of_getElem? (i := 30) rfl))) (mvT hZ (hw _ (List.mem_of_getElem? (i := 31) rfl))) (mvT hZ (hw _ (List.mem_of_getElem? (i := 1) rfl))) (mvT hZ (hw _ (List.mem_of_getElem? (i := 32) rfl))) (by decide) (backOf (W := 0) (rm5 l Z aw hw [] p1 (16 : Int32) G3 h0 n0 Z0 P1 hg3 hlo hhi) hZ (hw _ (List.mem_of_getElem? (i := 32) rfl)) (hw _ (List.mem_of_getElem? (i := 1) rfl)) (by decide) (by decide)) (g := (mkF m 3 #[rv a0, iv p1] [(.int 16), (.int p1)])) rfl (by rw [hml]; rfl) (argsL := [(.int p1), (.int 16)]) (rest := []) (lenOf pd_4 rfl) rfl (by show 2 * 0 + _ ≤ _; exact Nat.le_of_eq rfl) (hb hby d4_3) (fun _ _ => ⟨rfl, e0, (by decide : 0 + 0 ≤ _), (by decide : 0 + 0 ≤ _)⟩)
  dsimp only [Pt.U, Pt.locs, Pt.cells, Pt.slots] at X2 l2 y2 z2 st2 hQ2
  subst l2 y2 z2
  obtain ⟨rfl, N2q, eh2⟩ := hQ2
  have N3 := Fr.app N0 N2q
  refine own_via (fun k => st2 _ k) ?_
  show own_Go p e below s _ _ (T2.setTop (mkF m 6 #[rv a0, iv p1] []))
  refine own_via (fun k => XS.aloadN X2.here hx rfl (hb hby d4_6) rfl rfl  (XS.iloadN X2.here hx rfl (hb hby d4_7) rfl  k)) ?_
  show own_Go p e below s _ _ (T2.setTop (mkF m 8 #[rv a0, iv p1] [(.int p1), (.ref a0)]))
  obtain ⟨cl4, Ar4, q4, S4, NN4, H4, G4⟩ := id P0
  have hin4 : ¬ (p1 < 0 ∨ cl4.slots.size ≤ (p1).toNatClampNeg) := inb_of S4 ⟨hlo, hhi⟩
  have hat4 : cl4.slots[(p1).toNatClampNeg]? = some (.int cc) := H4.at hin4 hv
  refine own_via (fun k => X2.baloadBytes hx (j := p1) (v := (.int cc)) (by rw [eh2]; exact Ar4.1) (State.isArrayOf_alike hZ.alike Ar4.2.1) Ar4.2.2 hin4 hat4 (g := (mkF m 8 #[rv a0, iv p1] [(.int p1), (.ref a0)])) rfl rfl (hb hby d4_8) _ k) ?_
  show own_Go p e below s _ _ (T2.setTop (mkF m 9 #[rv a0, iv p1] [(.int cc)]))
  refine own_via (fun k => XS.sipush X2.here hx rfl (hb hby d4_9) (XS.iand X2.here hx rfl (hb hby d4_12) rfl (XS.i2c X2.here hx rfl (hb hby d4_13) rfl k))) ?_
  show own_Go p e below s _ _ (T2.setTop (mkF m 14 #[rv a0, iv p1] [(.int ((cc &&& (255 : Int32)).toUInt32.toUInt16.toUInt32.toInt32))]))
  exact own_retN X2 hx hlk (t := .char) Bd.returns (by simp) (hb hby d4_14) (Q := (Q4 Z a0 p1 kk vs G3 cc h0 n0)) ⟨(congrArg (fun z => some (Value.int z)) (show (nar .char ((cc &&& (255 : Int32)).toUInt32.toUInt16.toUInt32.toInt32)) = cc from hr1)), N3, eh2⟩ (by decide) (by decide)
theorem d3_0 : decode jdk_42_method_154_code 0 = .ok (.getstatic 38, 3) := by decide +kernel
theorem d3_3 : decode jdk_42_method_154_code 3 = .ok (.ifCond .eq 14, 3) := by decide +kernel
theorem d3_6 : decode jdk_42_method_154_code 6 = .ok (.aload_n 0, 1) := by decide +kernel
theorem d3_7 : decode jdk_42_method_154_code 7 = .ok (.getfield 15, 3) := by decide +kernel
theorem d3_10 : decode jdk_42_method_154_code 10 = .ok (.ifCond .ne 7, 3) := by decide +kernel
theorem d3_13 : decode jdk_42_method_154_code 13 = .ok (.iconst 1, 1) := by decide +kernel
theorem d3_14 : decode jdk_42_method_154_code 14 = .ok (.goto 4, 3) := by decide +kernel
theorem d3_18 : decode jdk_42_method_154_code 18 = .ok (.ireturn, 1) := by decide +kernel
theorem pn_3 : plainName "java/lang/String" = true := by first | (simp [plainName, overriddenIn]; done) | decide +kernel
theorem ef_3 (m : MethodId) (x0 : Addr) : entryFrame m #[(.ref x0)] 1 = mkF m 0 #[rv x0] [] := by first | (simp [entryFrame, mkF, argsToLocals, Value.category]; done) | rfl
def Q3 (Z : State) (a0 : Addr) (cw : Int32) (h0 : Heap) (n0 : Nat) (v : Option Value) (h : Heap) (L : List Loc) : Prop := v = some (.int 1) ∧ Fr n0 L ∧ h = h0
set_option maxRecDepth 65536 in
set_option maxHeartbeats 40000000 in
theorem rm3 (l : Launch) (Z : State) (aw : Array Value) (hw : ∀ d ∈ tables_1, d.before aw Z = true) (ws : List Jvm.Cond) (a0 : Addr) (cw : Int32) (h0 : Heap) (n0 : Nat) (Z0 : n0 ≤ h0.size) (P0 : Exa Z h0 a0 "java/lang/String") (P1 : Fld Z h0 a0 "java/lang/String" "coder" "B" (.int 0)) (P2 : Sta Z h0 "java/lang/String" "COMPACT_STRINGS" "Z" (.int cw)) (hcz : ¬ (cw = (0 : Int32))) :
    MetFree l (⟨"java/lang/String", "isLatin1", "()Z"⟩ : MethodName) (head1 (Jvm.Cond.code (⟨"java/lang/String", "isLatin1", "()Z"⟩ : MethodName) jdk_42_method_154_code 1 (some .boolean) :: ws) ({ frames := 0, cells := 0, slots := 0, locals := 0 } : Room)) (fun a U => a = #[(.ref a0)] ∧ Z.Warmed39 U.vm ∧ U.heap = h0) (fun _ _ _ _ _ => True) (fun _ U o U' => ∃ v L, o = .returned v ∧ Q3 Z a0 cw h0 n0 v U'.heap L ∧ FrameEnd U o U' L ({ frames := 0, cells := 0, slots := 0, locals := 0 } : Room).cells ({ frames := 0, cells := 0, slots := 0, locals := 0 } : Room).slots) := by
  refine MetFree.of_bodySF (plainFor_of_name pn_3) hisR ?_
  intro p e s m args below meth c s₁ Bd hml0 hP hK
  obtain ⟨rfl, hZ, hh⟩ := hP
  have hx := Bd.exec
  have hby := Bd.bytes
  have hml : c.maxLocals = 1 := hml0
  have hown : s.vm.findClass "java/lang/String" = some m.cls := findClass_of_methodNamed Bd.named
  have hnm := (name_of_methodNamed Bd.named Bd.method).1
  have hlk : meth.locks = false := by first | exact BodyLoose.notSynchronized (by assumption) | exact Body.notSynchronized (by assumption)
  have X0 : Stand p l e ({ frames := 0, cells := 0, slots := 0, locals := 0 } : Room) s m #[(.ref a0)] below meth c s₁ [] 0 0 := Stand.of_body Bd
  have e0 : s₁.heap = h0 := by rw [← hh, Bd.state]; rfl
  have N0 := Fr.nil n0
  have K0 : Keep h0 h0 [] := Keep.refl _ _
  refine own_start (CS := (0, 0)) (Q := (Q3 Z a0 cw h0 n0)) (ef_3 m a0) ?_
  show own_Go p e below s _ _ (s₁.setTop (mkF m 0 #[rv a0] []))
  obtain ⟨T1, X1, e1, st1⟩ := getS2 X0 hx hZ hown (host := "") (Or.inl (hw _ (List.mem_of_getElem? (i := 23) rfl))) Via.refl e0 P2 (g := (mkF m 0 #[rv a0] [])) rfl (hb hby d3_0)
  refine own_via (fun k => st1 _ k) ?_
  show own_Go p e below s _ _ (T1.setTop (mkF m 3 #[rv a0] [(.int cw)]))
  refine own_via (fun k => XS.ifNo X1.here hx rfl (hb hby d3_3) rfl ((if0 _ _).trans (feq hcz).1) k) ?_
  show own_Go p e below s _ _ (T1.setTop (mkF m 6 #[rv a0] []))
  refine own_via (fun k => XS.aloadN X1.here hx rfl (hb hby d3_6) rfl rfl  k) ?_
  show own_Go p e below s _ _ (T1.setTop (mkF m 7 #[rv a0] [(.ref a0)]))
  obtain ⟨T2, X2, e2, st2⟩ := getF X1 hx hZ hown (host := "") (Or.inl (hw _ (List.mem_of_getElem? (i := 24) rfl))) Via.refl e1 P1 (g := (mkF m 7 #[rv a0] [(.ref a0)])) rfl rfl (hb hby d3_7)
  refine own_via (fun k => st2 _ k) ?_
  show own_Go p e below s _ _ (T2.setTop (mkF m 10 #[rv a0] [(.int 0)]))
  refine own_via (fun k => XS.ifNo X2.here hx rfl (hb hby d3_10) rfl (by decide) k) ?_
  show own_Go p e below s _ _ (T2.setTop (mkF m 13 #[rv a0] []))
  refine own_via (fun k => XS.iconst X2.here hx rfl (hb hby d3_13) (XS.goto X2.here hx rfl (pc0 := 14) (pc' := 18) rfl (hb hby d3_14) (by decide) (by decide) k)) ?_
  show own_Go p e below s _ _ (T2.setTop (mkF m 18 #[rv a0] [(.int 1)]))
  exact own_retN X2 hx hlk (t := .boolean) Bd.returns (by simp) (hb hby d3_18) (Q := (Q3 Z a0 cw h0 n0)) ⟨rfl, N0, e2⟩ (by decide) (by decide)
theorem d2_0 : decode jdk_42_method_56_code 0 = .ok (.aload_n 0, 1) := by decide +kernel
theorem d2_1 : decode jdk_42_method_56_code 1 = .ok (.invokevirtual 492, 3) := by decide +kernel
theorem d2_4 : decode jdk_42_method_56_code 4 = .ok (.ifCond .eq 12, 3) := by decide +kernel
theorem d2_7 : decode jdk_42_method_56_code 7 = .ok (.aload_n 0, 1) := by decide +kernel
theorem d2_8 : decode jdk_42_method_56_code 8 = .ok (.getfield 9, 3) := by decide +kernel
theorem d2_11 : decode jdk_42_method_56_code 11 = .ok (.iload_n 1, 1) := by decide +kernel
theorem d2_12 : decode jdk_42_method_56_code 12 = .ok (.invokestatic 495, 3) := by decide +kernel
theorem d2_15 : decode jdk_42_method_56_code 15 = .ok (.ireturn, 1) := by decide +kernel
theorem pn_2 : plainName "java/lang/String" = true := by first | (simp [plainName, overriddenIn]; done) | decide +kernel
theorem pd_2 : parseMethodDescriptor "()Z" = some ⟨[], some .boolean⟩ := by decide +kernel
theorem pd_3 : parseMethodDescriptor "([BI)C" = some ⟨[(.array .byte), .int], some .char⟩ := by decide +kernel
theorem ef_2 (m : MethodId) (x0 : Addr) (x1 : Int32) : entryFrame m #[(.ref x0), (.int x1)] 2 = mkF m 0 #[rv x0, iv x1] [] := by first | (simp [entryFrame, mkF, argsToLocals, Value.category]; done) | rfl
def Q2 (Z : State) (a0 : Addr) (p1 : Int32) (bb : Addr) (kk : ClassId) (vs : List Value) (cw : Int32) (G3 : Value) (cc : Int32) (h0 : Heap) (n0 : Nat) (v : Option Value) (h : Heap) (L : List Loc) : Prop := v = some (.int cc) ∧ Fr n0 L ∧ h = h0
set_option maxRecDepth 65536 in
set_option maxHeartbeats 40000000 in
theorem rm2 (l : Launch) (Z : State) (aw : Array Value) (hw : ∀ d ∈ tables_1, d.before aw Z = true) (ws : List Jvm.Cond) (a0 : Addr) (p1 : Int32) (bb : Addr) (kk : ClassId) (vs : List Value) (cw : Int32) (G3 : Value) (cc : Int32) (h0 : Heap) (n0 : Nat) (Z0 : n0 ≤ h0.size) (P0 : Exa Z h0 a0 "java/lang/String") (P1 : Fld Z h0 a0 "java/lang/String" "coder" "B" (.int 0)) (P2 : Fld Z h0 a0 "java/lang/String" "value" "[B" (.ref bb)) (P3 : Arv Z h0 bb kk .byte (16 : Int32) vs (.int 0)) (P4 : Sta Z h0 "java/lang/String" "COMPACT_STRINGS" "Z" (.int cw)) (P5 : Sta Z h0 "jdk/internal/util/Preconditions" "SIOOBE_FORMATTER" "Ljava/util/function/BiFunction;" G3) (hcz : ¬ (cw = (0 : Int32))) (hg3 : G3.isRef = true) (hlo : ¬ (p1 < (0 : Int32))) (hhi : p1 < (16 : Int32)) (hv : vs.getD p1.toNatClampNeg (.int 0) = (.int cc)) (hr1 : nar .char (((cc &&& (255 : Int32)).toUInt32.toUInt16.toUInt32.toInt32)) = cc) (hr2 : nar .char cc = cc) :
    MetFree l (⟨"java/lang/String", "charAt", "(I)C"⟩ : MethodName) (head1 (Jvm.Cond.code (⟨"java/lang/String", "charAt", "(I)C"⟩ : MethodName) jdk_42_method_56_code 2 (some .char) :: ws) ({ frames := 3, cells := 0, slots := 0, locals := 40 } : Room)) (fun a U => a = #[(.ref a0), (.int p1)] ∧ Z.Warmed39 U.vm ∧ U.heap = h0) (fun _ _ _ _ _ => True) (fun _ U o U' => ∃ v L, o = .returned v ∧ Q2 Z a0 p1 bb kk vs cw G3 cc h0 n0 v U'.heap L ∧ FrameEnd U o U' L ({ frames := 3, cells := 0, slots := 0, locals := 40 } : Room).cells ({ frames := 3, cells := 0, slots := 0, locals := 40 } : Room).slots) := by
  refine MetFree.of_bodySF (plainFor_of_name pn_2) hisR ?_
  intro p e s m args below meth c s₁ Bd hml0 hP hK
  obtain ⟨rfl, hZ, hh⟩ := hP
  have hx := Bd.exec
  have hby := Bd.bytes
  have hml : c.maxLocals = 2 := hml0
  have hown : s.vm.findClass "java/lang/String" = some m.cls := findClass_of_methodNamed Bd.named
  have hnm := (name_of_methodNamed Bd.named Bd.method).1
  have hlk : meth.locks = false := by first | exact BodyLoose.notSynchronized (by assumption) | exact Body.notSynchronized (by assumption)
  have X0 : Stand p l e ({ frames := 3, cells := 0, slots := 0, locals := 40 } : Room) s m #[(.ref a0), (.int p1)] below meth c s₁ [] 0 0 := Stand.of_body Bd
  have e0 : s₁.heap = h0 := by rw [← hh, Bd.state]; rfl
  have N0 := Fr.nil n0
  have K0 : Keep h0 h0 [] := Keep.refl _ _
  refine own_start (CS := (0, 0)) (Q := (Q2 Z a0 p1 bb kk vs cw G3 cc h0 n0)) (ef_2 m a0 p1) ?_
  show own_Go p e below s _ _ (s₁.setTop (mkF m 0 #[rv a0, iv p1] []))
  refine own_via (fun k => XS.aloadN X0.here hx rfl (hb hby d2_0) rfl rfl  k) ?_
  show own_Go p e below s _ _ (s₁.setTop (mkF m 1 #[rv a0, iv p1] [(.ref a0)]))
  obtain ⟨cq1, kq1, q1a, q1b, q1c⟩ := isOf hZ e0 P0
  obtain ⟨_, _, ⟨T1, L1, k1, n1⟩, -, X1, ⟨Lc1, hQ1, l1, y1, z1⟩, st1⟩ := X0.virtualBack hx (y := (⟨"java/lang/String", "isLatin1", "()Z"⟩ : MethodName)) (z := (⟨"java/lang/String", "isLatin1", "()Z"⟩ : MethodName)) hown (mvT hZ (hw _ (List.mem_of_getElem? (i := 18) rfl))) (mvT hZ (hw _ (List.mem_of_getElem? (i := 19) rfl))) (notFace_of_selects (args := #[]) (mvT hZ (hw _ (List.mem_of_getElem? (i := 21) rfl)))) (mvT hZ (hw _ (List.mem_of_getElem? (i := 21) rfl))) (mvT hZ (hw _ (List.mem_of_getElem? (i := 20) rfl))) (by decide) (backOf (W := 0) (rm3 l Z aw hw [] a0 cw h0 n0 Z0 P0 P1 P4 hcz) hZ (hw _ (List.mem_of_getElem? (i := 22) rfl)) (hw _ (List.mem_of_getElem? (i := 1) rfl)) (by decide) (by decide)) q1a q1c (g := (mkF m 1 #[rv a0, iv p1] [(.ref a0)])) rfl (by rw [hml]; rfl) (Steps.refl _) (argsL := []) (rest := []) (lenOf pd_2 rfl) rfl (by show 2 * 0 + _ ≤ _; exact Nat.le_of_eq rfl) (hb hby d2_1) (fun _ _ => ⟨rfl, e0, (by decide : 0 + 0 ≤ _), (by decide : 0 + 0 ≤ _)⟩)
  dsimp only [Pt.U, Pt.locs, Pt.cells, Pt.slots] at X1 l1 y1 z1 st1 hQ1
  subst l1 y1 z1
  obtain ⟨rfl, N1q, eh1⟩ := hQ1
  have N2 := Fr.app N0 N1q
  refine own_via (fun k => st1.trans k) ?_
  show own_Go p e below s _ _ (T1.setTop (mkF m 4 #[rv a0, iv p1] [(.int 1)]))
  refine own_via (fun k => XS.ifNo X1.here hx rfl (hb hby d2_4) rfl (by decide) k) ?_
  show own_Go p e below s _ _ (T1.setTop (mkF m 7 #[rv a0, iv p1] []))
  refine own_via (fun k => XS.aloadN X1.here hx rfl (hb hby d2_7) rfl rfl  k) ?_
  show own_Go p e below s _ _ (T1.setTop (mkF m 8 #[rv a0, iv p1] [(.ref a0)]))
  obtain ⟨T3, X3, e3, st3⟩ := getF X1 hx hZ hown (host := "") (Or.inl (hw _ (List.mem_of_getElem? (i := 25) rfl))) Via.refl eh1 P2 (g := (mkF m 8 #[rv a0, iv p1] [(.ref a0)])) rfl rfl (hb hby d2_8)
  refine own_via (fun k => st3 _ k) ?_
  show own_Go p e below s _ _ (T3.setTop (mkF m 11 #[rv a0, iv p1] [(.ref bb)]))
  refine own_via (fun k => XS.iloadN X3.here hx rfl (hb hby d2_11) rfl  k) ?_
  show own_Go p e below s _ _ (T3.setTop (mkF m 12 #[rv a0, iv p1] [(.int p1), (.ref bb)]))
  obtain ⟨_, _, ⟨T4, L4, k4, n4⟩, -, X4, ⟨Lc4, hQ4, l4, y4, z4⟩, st4⟩ := Jvm.LawKit.callS X3 hx (y := (⟨"java/lang/StringLatin1", "charAt", "([BI)C"⟩ : MethodName)) hown (mvT hZ (hw _ (List.mem_of_getElem? (i := 26) rfl))) (mvT hZ (hw _ (List.mem_of_getElem? (i := 27) rfl))) (mvT hZ (hw _ (List.mem_of_getElem? (i := 28) rfl))) (mvT hZ (hw _ (List.mem_of_getElem? (i := 29) rfl))) (by decide) (backOf (W := 0) (rm4 l Z aw hw [] bb p1 kk vs G3 cc h0 n0 Z0 P3 P5 hg3 hlo hhi hv hr1) hZ (hw _ (List.mem_of_getElem? (i := 29) rfl)) (hw _ (List.mem_of_getElem? (i := 28) rfl)) (by decide) (by decide)) (g := (mkF m 12 #[rv a0, iv p1] [(.int p1), (.ref bb)])) rfl (by rw [hml]; rfl) (argsL := [(.ref bb), (.int p1)]) (rest := []) (lenOf pd_3 rfl) rfl (by show 2 * 0 + _ ≤ _; exact Nat.le_of_eq rfl) (hb hby d2_12) (fun _ _ => ⟨rfl, e3, (by decide : 0 + 0 ≤ _), (by decide : 0 + 0 ≤ _)⟩)
  dsimp only [Pt.U, Pt.locs, Pt.cells, Pt.slots] at X4 l4 y4 z4 st4 hQ4
  subst l4 y4 z4
  obtain ⟨rfl, N4q, eh4⟩ := hQ4
  have N5 := Fr.app N2 N4q
  refine own_via (fun k => st4 _ k) ?_
  show own_Go p e below s _ _ (T4.setTop (mkF m 15 #[rv a0, iv p1] [(.int cc)]))
  exact own_retN X4 hx hlk (t := .char) Bd.returns (by simp) (hb hby d2_15) (Q := (Q2 Z a0 p1 bb kk vs cw G3 cc h0 n0)) ⟨(congrArg (fun z => some (Value.int z)) (show (nar .char cc) = cc from hr2)), N5, eh4⟩ (by decide) (by decide)
theorem pn_0 : plainName "com/example/grammar_parser/grammarparser/GrammarReaderDigitPinLaw" = true := by first | (simp [plainName, overriddenIn]; done) | decide +kernel
theorem pd_0 : parseMethodDescriptor "(II)I" = some ⟨[.int, .int], some .int⟩ := by decide +kernel
theorem pd_1 : parseMethodDescriptor "(I)C" = some ⟨[.int], some .char⟩ := by decide +kernel
theorem ef_0 (m : MethodId) (x0 : Int32) (x1 : Int32) (x2 : Int32) (x3 : Int32) : entryFrame m #[(.int x0), (.int x1), (.int x2), (.int x3)] maxLocals = mkF m 0 #[iv x0, iv x1, iv x2, iv x3, .unset, .unset, .unset, .unset, .unset, .unset, .unset, .unset, .unset, .unset] [] := by first | (simp [entryFrame, mkF, argsToLocals, Value.category, maxLocals]; done) | rfl
def own_lo (i : Int32) : Int32 := if i < 10 then i + 48 else i + 87
def own_up (i : Int32) : Int32 := if i < 10 then i + 48 else i + 55
theorem own_16 {P : Int32 → Prop} (h : ∀ n : Fin 16, P (Int32.ofNat n.val)) {i : Int32} (hlo : ¬ (i < (0 : Int32))) (hhi : i < (16 : Int32)) : P i := by
  have e0 : (0 : Int32).toInt = 0 := by decide
  have e16 : (16 : Int32).toInt = 16 := by decide
  rw [own_l32] at hlo hhi
  have q := h ⟨i.toInt.toNat, by omega⟩
  have e : Int32.ofNat i.toInt.toNat = i := by
    rw [own_e32, Int32.toInt_ofNat_small (by omega)]; omega
  exact e ▸ q
theorem own_loV {i : Int32} (hlo : ¬ (i < (0 : Int32))) (hhi : i < (16 : Int32)) : ([(.int 48), (.int 49), (.int 50), (.int 51), (.int 52), (.int 53), (.int 54), (.int 55), (.int 56), (.int 57), (.int 97), (.int 98), (.int 99), (.int 100), (.int 101), (.int 102)] : List Value).getD i.toNatClampNeg (Value.int 0) = Value.int (own_lo i) := own_16 (P := fun i => ([(.int 48), (.int 49), (.int 50), (.int 51), (.int 52), (.int 53), (.int 54), (.int 55), (.int 56), (.int 57), (.int 97), (.int 98), (.int 99), (.int 100), (.int 101), (.int 102)] : List Value).getD i.toNatClampNeg (Value.int 0) = Value.int (own_lo i)) (by decide +kernel) hlo hhi
theorem own_upV {i : Int32} (hlo : ¬ (i < (0 : Int32))) (hhi : i < (16 : Int32)) : ([(.int 48), (.int 49), (.int 50), (.int 51), (.int 52), (.int 53), (.int 54), (.int 55), (.int 56), (.int 57), (.int 65), (.int 66), (.int 67), (.int 68), (.int 69), (.int 70)] : List Value).getD i.toNatClampNeg (Value.int 0) = Value.int (own_up i) := own_16 (P := fun i => ([(.int 48), (.int 49), (.int 50), (.int 51), (.int 52), (.int 53), (.int 54), (.int 55), (.int 56), (.int 57), (.int 65), (.int 66), (.int 67), (.int 68), (.int 69), (.int 70)] : List Value).getD i.toNatClampNeg (Value.int 0) = Value.int (own_up i)) (by decide +kernel) hlo hhi
theorem own_loN {i : Int32} (hlo : ¬ (i < (0 : Int32))) (hhi : i < (16 : Int32)) : nar .char (((own_lo i &&& (255 : Int32)).toUInt32.toUInt16.toUInt32.toInt32)) = own_lo i := own_16 (P := fun i => nar .char (((own_lo i &&& (255 : Int32)).toUInt32.toUInt16.toUInt32.toInt32)) = own_lo i) (by decide +kernel) hlo hhi
theorem own_upN {i : Int32} (hlo : ¬ (i < (0 : Int32))) (hhi : i < (16 : Int32)) : nar .char (((own_up i &&& (255 : Int32)).toUInt32.toUInt16.toUInt32.toInt32)) = own_up i := own_16 (P := fun i => nar .char (((own_up i &&& (255 : Int32)).toUInt32.toUInt16.toUInt32.toInt32)) = own_up i) (by decide +kernel) hlo hhi
theorem own_loM {i : Int32} (hlo : ¬ (i < (0 : Int32))) (hhi : i < (16 : Int32)) : nar .char (own_lo i) = own_lo i := own_16 (P := fun i => nar .char (own_lo i) = own_lo i) (by decide +kernel) hlo hhi
theorem own_upM {i : Int32} (hlo : ¬ (i < (0 : Int32))) (hhi : i < (16 : Int32)) : nar .char (own_up i) = own_up i := own_16 (P := fun i => nar .char (own_up i) = own_up i) (by decide +kernel) hlo hhi
theorem own_m15 (x : Int32) : ¬ ((x &&& (15 : Int32)) < (0 : Int32)) ∧ (x &&& (15 : Int32)) < (16 : Int32) := by
  have e0 : (0 : Int32).toInt = 0 := by decide
  have e15 : (15 : Int32).toInt = 15 := by decide
  have e16 : (16 : Int32).toInt = 16 := by decide
  have q := c_and x 15 (by decide)
  rw [own_l32, own_l32]; omega
def own_v (p0 : Int32) : Int32 := (if p0 < (48 : Int32) then (if p0 < (97 : Int32) then (if p0 < (65 : Int32) then (-1 : Int32) else (if (70 : Int32) < p0 then (-1 : Int32) else ((p0 - (65 : Int32)) + (10 : Int32)))) else (if (102 : Int32) < p0 then (if p0 < (65 : Int32) then (-1 : Int32) else (if (70 : Int32) < p0 then (-1 : Int32) else ((p0 - (65 : Int32)) + (10 : Int32)))) else ((p0 - (97 : Int32)) + (10 : Int32)))) else (if (57 : Int32) < p0 then (if p0 < (97 : Int32) then (if p0 < (65 : Int32) then (-1 : Int32) else (if (70 : Int32) < p0 then (-1 : Int32) else ((p0 - (65 : Int32)) + (10 : Int32)))) else (if (102 : Int32) < p0 then (if p0 < (65 : Int32) then (-1 : Int32) else (if (70 : Int32) < p0 then (-1 : Int32) else ((p0 - (65 : Int32)) + (10 : Int32)))) else ((p0 - (97 : Int32)) + (10 : Int32)))) else (p0 - (48 : Int32))))
theorem own_f1v (c r : Int32) : own_f1 c r = if own_v c < r then own_v c else (-1 : Int32) := rfl
theorem own_dA {c : Int32} (h : ¬ c < (48 : Int32)) (h' : ¬ (57 : Int32) < c) : 0 ≤ (c - (48 : Int32)).toInt ∧ (c - (48 : Int32)).toInt < 16 ∧ (c = own_lo (c - (48 : Int32)) ∨ c = own_up (c - (48 : Int32))) := by
  have e32_10 : (10 : Int32).toInt = 10 := by decide
  have e32_48 : (48 : Int32).toInt = 48 := by decide
  have e32_55 : (55 : Int32).toInt = 55 := by decide
  have e32_57 : (57 : Int32).toInt = 57 := by decide
  have e32_65 : (65 : Int32).toInt = 65 := by decide
  have e32_70 : (70 : Int32).toInt = 70 := by decide
  have e32_87 : (87 : Int32).toInt = 87 := by decide
  have e32_97 : (97 : Int32).toInt = 97 := by decide
  have e32_102 : (102 : Int32).toInt = 102 := by decide
  rw [own_l32] at h h'
  have s := c_isub c 48; have r1 := rng32 c; have r2 := rng32 (c - 48)
  have d : (c - 48).toInt = c.toInt - 48 := by omega
  refine ⟨by omega, by omega, Or.inl ?_⟩
  rw [own_lo, if_pos (own_l32.mpr (by omega)), own_e32]
  have a := c_iadd (c - 48) 48; have r3 := rng32 (c - 48 + 48); omega
theorem own_dB {c : Int32} (h : ¬ c < (97 : Int32)) (h' : ¬ (102 : Int32) < c) : 0 ≤ ((c - (97 : Int32)) + (10 : Int32)).toInt ∧ ((c - (97 : Int32)) + (10 : Int32)).toInt < 16 ∧ (c = own_lo ((c - (97 : Int32)) + (10 : Int32)) ∨ c = own_up ((c - (97 : Int32)) + (10 : Int32))) := by
  have e32_10 : (10 : Int32).toInt = 10 := by decide
  have e32_48 : (48 : Int32).toInt = 48 := by decide
  have e32_55 : (55 : Int32).toInt = 55 := by decide
  have e32_57 : (57 : Int32).toInt = 57 := by decide
  have e32_65 : (65 : Int32).toInt = 65 := by decide
  have e32_70 : (70 : Int32).toInt = 70 := by decide
  have e32_87 : (87 : Int32).toInt = 87 := by decide
  have e32_97 : (97 : Int32).toInt = 97 := by decide
  have e32_102 : (102 : Int32).toInt = 102 := by decide
  rw [own_l32] at h h'
  have s := c_isub c 97; have r1 := rng32 c; have r2 := rng32 (c - 97); have b := c_iadd (c - 97) 10; have r4 := rng32 (c - 97 + 10)
  have d0 : (c - 97).toInt = c.toInt - 97 := by omega
  have d : (c - 97 + 10).toInt = c.toInt - 87 := by omega
  refine ⟨by omega, by omega, Or.inl ?_⟩
  rw [own_lo, if_neg (mt own_l32.mp (by omega)), own_e32]
  have a := c_iadd (c - 97 + 10) 87; have r3 := rng32 (c - 97 + 10 + 87); omega
theorem own_dC {c : Int32} (h : ¬ c < (65 : Int32)) (h' : ¬ (70 : Int32) < c) : 0 ≤ ((c - (65 : Int32)) + (10 : Int32)).toInt ∧ ((c - (65 : Int32)) + (10 : Int32)).toInt < 16 ∧ (c = own_lo ((c - (65 : Int32)) + (10 : Int32)) ∨ c = own_up ((c - (65 : Int32)) + (10 : Int32))) := by
  have e32_10 : (10 : Int32).toInt = 10 := by decide
  have e32_48 : (48 : Int32).toInt = 48 := by decide
  have e32_55 : (55 : Int32).toInt = 55 := by decide
  have e32_57 : (57 : Int32).toInt = 57 := by decide
  have e32_65 : (65 : Int32).toInt = 65 := by decide
  have e32_70 : (70 : Int32).toInt = 70 := by decide
  have e32_87 : (87 : Int32).toInt = 87 := by decide
  have e32_97 : (97 : Int32).toInt = 97 := by decide
  have e32_102 : (102 : Int32).toInt = 102 := by decide
  rw [own_l32] at h h'
  have s := c_isub c 65; have r1 := rng32 c; have r2 := rng32 (c - 65); have b := c_iadd (c - 65) 10; have r4 := rng32 (c - 65 + 10)
  have d0 : (c - 65).toInt = c.toInt - 65 := by omega
  have d : (c - 65 + 10).toInt = c.toInt - 55 := by omega
  refine ⟨by omega, by omega, Or.inr ?_⟩
  rw [own_up, if_neg (mt own_l32.mp (by omega)), own_e32]
  have a := c_iadd (c - 65 + 10) 55; have r3 := rng32 (c - 65 + 10 + 55); omega
theorem own_vv (c : Int32) : own_v c = (-1 : Int32) ∨ (0 ≤ (own_v c).toInt ∧ (own_v c).toInt < 16 ∧ (c = own_lo (own_v c) ∨ c = own_up (own_v c))) := by
  by_cases h1 : c < (48 : Int32)
  · by_cases h2 : c < (97 : Int32)
    · by_cases h3 : c < (65 : Int32)
      · left; rw [own_v, if_pos h1, if_pos h2, if_pos h3]
      · by_cases h4 : (70 : Int32) < c
        · left; rw [own_v, if_pos h1, if_pos h2, if_neg h3, if_pos h4]
        · right; rw [own_v, if_pos h1, if_pos h2, if_neg h3, if_neg h4]; exact own_dC h3 h4
    · by_cases h5 : (102 : Int32) < c
      · by_cases h6 : c < (65 : Int32)
        · left; rw [own_v, if_pos h1, if_neg h2, if_pos h5, if_pos h6]
        · by_cases h7 : (70 : Int32) < c
          · left; rw [own_v, if_pos h1, if_neg h2, if_pos h5, if_neg h6, if_pos h7]
          · right; rw [own_v, if_pos h1, if_neg h2, if_pos h5, if_neg h6, if_neg h7]; exact own_dC h6 h7
      · right; rw [own_v, if_pos h1, if_neg h2, if_neg h5]; exact own_dB h2 h5
  · by_cases h8 : (57 : Int32) < c
    · by_cases h9 : c < (97 : Int32)
      · by_cases h10 : c < (65 : Int32)
        · left; rw [own_v, if_neg h1, if_pos h8, if_pos h9, if_pos h10]
        · by_cases h11 : (70 : Int32) < c
          · left; rw [own_v, if_neg h1, if_pos h8, if_pos h9, if_neg h10, if_pos h11]
          · right; rw [own_v, if_neg h1, if_pos h8, if_pos h9, if_neg h10, if_neg h11]; exact own_dC h10 h11
      · by_cases h12 : (102 : Int32) < c
        · by_cases h13 : c < (65 : Int32)
          · left; rw [own_v, if_neg h1, if_pos h8, if_neg h9, if_pos h12, if_pos h13]
          · by_cases h14 : (70 : Int32) < c
            · left; rw [own_v, if_neg h1, if_pos h8, if_neg h9, if_pos h12, if_neg h13, if_pos h14]
            · right; rw [own_v, if_neg h1, if_pos h8, if_neg h9, if_pos h12, if_neg h13, if_neg h14]; exact own_dC h13 h14
        · right; rw [own_v, if_neg h1, if_pos h8, if_neg h9, if_neg h12]; exact own_dB h9 h12
    · right; rw [own_v, if_neg h1, if_neg h8]; exact own_dA h1 h8
theorem own_dig {c r d : Int32} (hd : d = own_f1 c r) (hm : ¬ d = (-1 : Int32)) : ¬ d < (0 : Int32) ∧ d < (16 : Int32) ∧ d < r ∧ (c = own_lo d ∨ c = own_up d) := by
  have e0 : (0 : Int32).toInt = 0 := by decide
  have e16 : (16 : Int32).toInt = 16 := by decide
  rw [own_f1v] at hd
  by_cases q : own_v c < r
  · rw [if_pos q] at hd
    rcases own_vv c with h | ⟨h1, h2, h3⟩
    · exact absurd (hd.trans h) hm
    · rw [← hd] at q h1 h2 h3
      exact ⟨mt own_l32.mp (by omega), own_l32.mpr (by omega), q, h3⟩
  · rw [if_neg q] at hd; exact absurd hd hm
theorem own_dgC {c r d : Int32} (hd : d = own_f1 c r) (hm : ¬ d = (-1 : Int32)) (hl : ¬ c = own_lo d) : c = own_up d := (own_dig hd hm).2.2.2.resolve_left hl
theorem own_vl {i : Int32} (hlo : ¬ (i < (0 : Int32))) (hhi : i < (16 : Int32)) : own_v (own_lo i) = i := own_16 (P := fun i => own_v (own_lo i) = i) (by decide +kernel) hlo hhi
theorem own_vu {i : Int32} (hlo : ¬ (i < (0 : Int32))) (hhi : i < (16 : Int32)) : own_v (own_up i) = i := own_16 (P := fun i => own_v (own_up i) = i) (by decide +kernel) hlo hhi
theorem own_ly {p2 i r : Int32} (hi : i = (p2 &&& (15 : Int32))) (h : i < r) : own_f1 (own_lo i) r = i := by rw [own_f1v, own_vl (hi ▸ (own_m15 p2).1) (hi ▸ (own_m15 p2).2), if_pos h]
theorem own_uy {p2 i r : Int32} (hi : i = (p2 &&& (15 : Int32))) (h : i < r) : own_f1 (own_up i) r = i := by rw [own_f1v, own_vu (hi ▸ (own_m15 p2).1) (hi ▸ (own_m15 p2).2), if_pos h]
theorem own_ln {p2 i r : Int32} (hi : i = (p2 &&& (15 : Int32))) (h : ¬ i < r) : own_f1 (own_lo i) r = (-1 : Int32) := by rw [own_f1v, own_vl (hi ▸ (own_m15 p2).1) (hi ▸ (own_m15 p2).2), if_neg h]
theorem own_un {p2 i r : Int32} (hi : i = (p2 &&& (15 : Int32))) (h : ¬ i < r) : own_f1 (own_up i) r = (-1 : Int32) := by rw [own_f1v, own_vu (hi ▸ (own_m15 p2).1) (hi ▸ (own_m15 p2).2), if_neg h]

def Q0 (Z : State) (p0 : Int32) (p1 : Int32) (p2 : Int32) (p3 : Int32) (cw : Int32) (G3 : Value) (h0 : Heap) (n0 : Nat) (v : Option Value) (h : Heap) (L : List Loc) : Prop := v = some (.int 1) ∧ Fr n0 L
set_option maxRecDepth 65536 in
set_option maxHeartbeats 40000000 in
theorem rm0 (l : Launch) (Z : State) (aw : Array Value) (hw : ∀ d ∈ tables_1, d.before aw Z = true) (ws : List Jvm.Cond) (p0 : Int32) (p1 : Int32) (p2 : Int32) (p3 : Int32) (cw : Int32) (G3 : Value) (h0 : Heap) (n0 : Nat) (Z0 : n0 ≤ h0.size) (P0 : Sta Z h0 "java/lang/String" "COMPACT_STRINGS" "Z" (.int cw)) (P1 : Sta Z h0 "jdk/internal/util/Preconditions" "SIOOBE_FORMATTER" "Ljava/util/function/BiFunction;" G3) (hcz : ¬ (cw = (0 : Int32))) (hg3 : G3.isRef = true) (hn0 : n0 = h0.size) (hh7 : Jvm.Lit.constHeld Z "com/example/grammar_parser/grammarparser/GrammarReaderDigitPinLaw" 7) (hh9 : Jvm.Lit.constHeld Z "com/example/grammar_parser/grammarparser/GrammarReaderDigitPinLaw" 9) (hcw : Jvm.Lit.compactW.before aw Z = true) :
    MetFree l x (head1 (Jvm.Cond.code x code maxLocals ret :: ws) room_1) (fun a U => a = #[(.int p0), (.int p1), (.int p2), (.int p3)] ∧ U = Z ∧ U.heap = h0) (fun _ _ _ _ _ => True) (fun _ U o U' => ∃ v L, o = .returned v ∧ Q0 Z p0 p1 p2 p3 cw G3 h0 n0 v U'.heap L ∧ ReturnedEndW U o U' L room_1.cells room_1.slots) := by
  refine MetFree.of_bodySF (plainFor_of_name pn_0) hisR ?_
  intro p e s m args below meth c s₁ Bd hml0 hP hK
  obtain ⟨rfl, hUZ, hh⟩ := hP
  have hZ : Z.Warmed39 s.vm := hUZ ▸ State.Warmed39.refl Z
  have hsz : s.heap.size = n0 := by rw [hh, hn0]
  have hkeep : ∀ (b : Addr) (cl : Cell), Z.heap[b]? = some cl → s.heap[b]? = some cl := by rw [hUZ]; exact fun _ _ h => h
  have I0 : IB Z s.vm [] := by rw [hUZ]; exact IB.start
  have wS : ∀ d ∈ Bundle.stringAtoms, d.before aw Z = true := fun d hd => hw d ((by decide +kernel : ∀ d ∈ Bundle.stringAtoms, d ∈ tables_1) d hd)
  have hx := Bd.exec
  have hby := Bd.bytes
  have hml : c.maxLocals = 14 := hml0
  have hown : s.vm.findClass "com/example/grammar_parser/grammarparser/GrammarReaderDigitPinLaw" = some m.cls := findClass_of_methodNamed Bd.named
  have hnm := (name_of_methodNamed Bd.named Bd.method).1
  have hlk : meth.locks = false := by first | exact BodyLoose.notSynchronized (by assumption) | exact Body.notSynchronized (by assumption)
  have X0 : Stand p l e room_1 s m #[(.int p0), (.int p1), (.int p2), (.int p3)] below meth c s₁ [] 0 0 := Stand.of_body Bd
  have e0 : s₁.heap = h0 := by rw [← hh, Bd.state]; rfl
  have N0 := Fr.nil n0
  refine own_startW (CS := (room_1.cells, room_1.slots)) (Q := (Q0 Z p0 p1 p2 p3 cw G3 h0 n0)) (ef_0 m p0 p1 p2 p3) ?_
  show own_GoW p e below s _ _ (s₁.setTop (mkF m 0 #[iv p0, iv p1, iv p2, iv p3, .unset, .unset, .unset, .unset, .unset, .unset, .unset, .unset, .unset, .unset] []))
  obtain ⟨sa1, T1, h1, sk1, sb1, kb1, X1, e1, E1, SS1, ks1, hZ, hown, A1, C1, F1, V1, -, -, I1, st1⟩ := ldcSV (a0 := aw) (text := "0123456789abcdef") (vm0 := s.vm) X0 hx hZ hown (hw _ (List.mem_of_getElem? (i := 0) rfl)) wS e0 ((State.WarmedH.refl s).since 0) (Nat.zero_le _) (by rw [hsz]; exact N0) hkeep I0 (by decide) hh7 hcw (vs := [(.int 48), (.int 49), (.int 50), (.int 51), (.int 52), (.int 53), (.int 54), (.int 55), (.int 56), (.int 57), (.int 97), (.int 98), (.int 99), (.int 100), (.int 101), (.int 102)]) (z := (16 : Int32)) ⟨by decide, by decide +kernel⟩ (by decide) (by decide) (g := (mkF m 0 #[iv p0, iv p1, iv p2, iv p3, .unset, .unset, .unset, .unset, .unset, .unset, .unset, .unset, .unset, .unset] [])) rfl (hb hby at_0) (n := 64) (by decide) (by decide) (by decide) (by decide)
  refine own_viaW (fun k => st1 _ k) ?_
  show own_GoW p e below s _ _ (T1.setTop (mkF m 2 #[iv p0, iv p1, iv p2, iv p3, .unset, .unset, .unset, .unset, .unset, .unset, .unset, .unset, .unset, .unset] [(.ref sa1)]))
  have B2 := P0.ext E1
  have B3 := P1.ext E1
  have Z4 : n0 ≤ h1.size := Nat.le_trans Z0 E1.1
  refine own_viaW (fun k => XS.astore X1.here hx rfl (hb hby at_2) rfl rfl (l' := #[iv p0, iv p1, iv p2, iv p3, rv sa1, .unset, .unset, .unset, .unset, .unset, .unset, .unset, .unset, .unset]) rfl k) ?_
  show own_GoW p e below s _ _ (T1.setTop (mkF m 4 #[iv p0, iv p1, iv p2, iv p3, rv sa1, .unset, .unset, .unset, .unset, .unset, .unset, .unset, .unset, .unset] []))
  obtain ⟨sa5, T5, h5, sk5, sb5, kb5, X5, e5, E5, SS5, ks5, hZ, hown, A5, C5, F5, V5, -, -, I5, st5⟩ := ldcSV (a0 := aw) (text := "0123456789ABCDEF") X1 hx hZ hown (hw _ (List.mem_of_getElem? (i := 8) rfl)) wS e1 SS1 ks1 (by rw [hsz]; exact N0) hkeep I1 (by decide) hh9 hcw (vs := [(.int 48), (.int 49), (.int 50), (.int 51), (.int 52), (.int 53), (.int 54), (.int 55), (.int 56), (.int 57), (.int 65), (.int 66), (.int 67), (.int 68), (.int 69), (.int 70)]) (z := (16 : Int32)) ⟨by decide, by decide +kernel⟩ (by decide) (by decide) (g := (mkF m 4 #[iv p0, iv p1, iv p2, iv p3, rv sa1, .unset, .unset, .unset, .unset, .unset, .unset, .unset, .unset, .unset] [])) rfl (hb hby at_4) (n := 64) (by decide) (by decide) (by decide) (by decide)
  refine own_viaW (fun k => st5 _ k) ?_
  show own_GoW p e below s _ _ (T5.setTop (mkF m 6 #[iv p0, iv p1, iv p2, iv p3, rv sa1, .unset, .unset, .unset, .unset, .unset, .unset, .unset, .unset, .unset] [(.ref sa5)]))
  have B6 := B2.ext E5
  have B7 := B3.ext E5
  have B8 := A1.ext E5
  have B9 := C1.ext E5
  have B10 := F1.ext E5
  have B11 := V1.ext E5
  have Z12 : n0 ≤ h5.size := Nat.le_trans Z4 E5.1
  refine own_viaW (fun k => XS.astore X5.here hx rfl (hb hby at_6) rfl rfl (l' := #[iv p0, iv p1, iv p2, iv p3, rv sa1, rv sa5, .unset, .unset, .unset, .unset, .unset, .unset, .unset, .unset]) rfl (XS.iloadN X5.here hx rfl (hb hby at_8) rfl  (XS.bipush X5.here hx rfl (hb hby at_9) (XS.iand X5.here hx rfl (hb hby at_11) rfl k)))) ?_
  show own_GoW p e below s _ _ (T5.setTop (mkF m 12 #[iv p0, iv p1, iv p2, iv p3, rv sa1, rv sa5, .unset, .unset, .unset, .unset, .unset, .unset, .unset, .unset] [(.int (p1 &&& (15 : Int32)))]))
  refine own_viaW (fun k => XS.iconst X5.here hx rfl (hb hby at_12) (XS.iadd X5.here hx rfl (hb hby at_13) rfl k)) ?_
  show own_GoW p e below s _ _ (T5.setTop (mkF m 14 #[iv p0, iv p1, iv p2, iv p3, rv sa1, rv sa5, .unset, .unset, .unset, .unset, .unset, .unset, .unset, .unset] [(.int ((p1 &&& (15 : Int32)) + (1 : Int32)))]))
  obtain ⟨z13, hz13⟩ : ∃ z : Int32, z = ((p1 &&& (15 : Int32)) + (1 : Int32)) := ⟨_, rfl⟩
  rw [← hz13]
  show own_GoW p e below s _ _ (T5.setTop (mkF m 14 #[iv p0, iv p1, iv p2, iv p3, rv sa1, rv sa5, .unset, .unset, .unset, .unset, .unset, .unset, .unset, .unset] [(.int z13)]))
  refine own_viaW (fun k => XS.istore X5.here hx rfl (hb hby at_14) rfl (l' := #[iv p0, iv p1, iv p2, iv p3, rv sa1, rv sa5, iv z13, .unset, .unset, .unset, .unset, .unset, .unset, .unset]) rfl (XS.iloadN X5.here hx rfl (hb hby at_16) rfl  (XS.iconst X5.here hx rfl (hb hby at_17) (XS.iand X5.here hx rfl (hb hby at_18) rfl k)))) ?_
  show own_GoW p e below s _ _ (T5.setTop (mkF m 19 #[iv p0, iv p1, iv p2, iv p3, rv sa1, rv sa5, iv z13, .unset, .unset, .unset, .unset, .unset, .unset, .unset] [(.int (p3 &&& (1 : Int32)))]))
  have J15 : ∀ (z14 : Int32), z14 = (if (p3 &&& (1 : Int32)) = (0 : Int32) then (p0 &&& (255 : Int32)) else p0) → own_GoW p e below s (Q0 Z p0 p1 p2 p3 cw G3 h0 n0) (room_1.cells, room_1.slots) (T5.setTop (mkF m 31 #[iv p0, iv p1, iv p2, iv p3, rv sa1, rv sa5, iv z13, .unset, .unset, .unset, .unset, .unset, .unset, .unset] [(.int z14)])) := by
    intro z14 hz14
    refine own_viaW (fun k => XS.istore X5.here hx rfl (hb hby at_31) rfl (l' := #[iv p0, iv p1, iv p2, iv p3, rv sa1, rv sa5, iv z13, iv z14, .unset, .unset, .unset, .unset, .unset, .unset]) rfl (XS.iload X5.here hx rfl (hb hby at_33) rfl  (XS.iload X5.here hx rfl (hb hby at_35) rfl  k))) ?_
    show own_GoW p e below s _ _ (T5.setTop (mkF m 37 #[iv p0, iv p1, iv p2, iv p3, rv sa1, rv sa5, iv z13, iv z14, .unset, .unset, .unset, .unset, .unset, .unset] [(.int z13), (.int z14)]))
    obtain ⟨_, _, ⟨T16, L16, k16, n16⟩, -, X16, ⟨Lc16, hQ16, l16, y16, z16⟩, st16⟩ := Jvm.LawKit.callS X5 hx (y := (⟨"com/example/grammar_parser/grammarparser/GrammarReader", "digit", "(II)I"⟩ : MethodName)) hown (mvT hZ (hw _ (List.mem_of_getElem? (i := 9) rfl))) (mvT hZ (hw _ (List.mem_of_getElem? (i := 10) rfl))) (mvT hZ (hw _ (List.mem_of_getElem? (i := 11) rfl))) (mvT hZ (hw _ (List.mem_of_getElem? (i := 12) rfl))) (by decide) (backOf (W := 0) (rm1 l Z aw hw [] z14 z13 h5 n0 Z12) hZ (hw _ (List.mem_of_getElem? (i := 12) rfl)) (hw _ (List.mem_of_getElem? (i := 11) rfl)) (by decide) (by decide)) (g := (mkF m 37 #[iv p0, iv p1, iv p2, iv p3, rv sa1, rv sa5, iv z13, iv z14, .unset, .unset, .unset, .unset, .unset, .unset] [(.int z13), (.int z14)])) rfl (by rw [hml]; rfl) (argsL := [(.int z14), (.int z13)]) (rest := []) (lenOf pd_0 rfl) rfl (by show 2 * 0 + _ ≤ _; exact Nat.le_of_eq rfl) (hb hby at_37) (fun _ _ => ⟨rfl, e5, (by decide : 4 + 0 ≤ _), (by decide : 136 + 0 ≤ _)⟩)
    dsimp only [Pt.U, Pt.locs, Pt.cells, Pt.slots] at X16 l16 y16 z16 st16 hQ16
    subst l16 y16 z16
    obtain ⟨rfl, N16q, eh16⟩ := hQ16
    have N17 := Fr.app N0 N16q
    refine own_viaW (fun k => st16 _ k) ?_
    show own_GoW p e below s _ _ (T16.setTop (mkF m 40 #[iv p0, iv p1, iv p2, iv p3, rv sa1, rv sa5, iv z13, iv z14, .unset, .unset, .unset, .unset, .unset, .unset] [(.int (own_f1 z14 z13))]))
    obtain ⟨z18, hz18⟩ : ∃ z : Int32, z = (own_f1 z14 z13) := ⟨_, rfl⟩
    rw [← hz18]
    show own_GoW p e below s _ _ (T16.setTop (mkF m 40 #[iv p0, iv p1, iv p2, iv p3, rv sa1, rv sa5, iv z13, iv z14, .unset, .unset, .unset, .unset, .unset, .unset] [(.int z18)]))
    refine own_viaW (fun k => XS.istore X16.here hx rfl (hb hby at_40) rfl (l' := #[iv p0, iv p1, iv p2, iv p3, rv sa1, rv sa5, iv z13, iv z14, iv z18, .unset, .unset, .unset, .unset, .unset]) rfl (XS.iload X16.here hx rfl (hb hby at_42) rfl  (XS.iconst X16.here hx rfl (hb hby at_44) k))) ?_
    show own_GoW p e below s _ _ (T16.setTop (mkF m 45 #[iv p0, iv p1, iv p2, iv p3, rv sa1, rv sa5, iv z13, iv z14, iv z18, .unset, .unset, .unset, .unset, .unset] [(.int (-1)), (.int z18)]))
    by_cases hc19 : z18 = (-1 : Int32)
    · refine own_viaW (fun k => XS.icmpNo X16.here hx rfl (hb hby at_45) rfl (teq hc19).2 k) ?_
      show own_GoW p e below s _ _ (T16.setTop (mkF m 48 #[iv p0, iv p1, iv p2, iv p3, rv sa1, rv sa5, iv z13, iv z14, iv z18, .unset, .unset, .unset, .unset, .unset] []))
      refine own_viaW (fun k => XS.iconst X16.here hx rfl (hb hby at_48) (XS.istore X16.here hx rfl (hb hby at_49) rfl (l' := #[iv p0, iv p1, iv p2, iv p3, rv sa1, rv sa5, iv z13, iv z14, iv z18, iv 1, .unset, .unset, .unset, .unset]) rfl (XS.goto X16.here hx rfl (pc0 := 51) (pc' := 103) rfl (hb hby at_51) (by decide) (by decide) (XS.iloadN X16.here hx rfl (hb hby at_103) rfl  k)))) ?_
      show own_GoW p e below s _ _ (T16.setTop (mkF m 104 #[iv p0, iv p1, iv p2, iv p3, rv sa1, rv sa5, iv z13, iv z14, iv z18, iv 1, .unset, .unset, .unset, .unset] [(.int p2)]))
      refine own_viaW (fun k => XS.bipush X16.here hx rfl (hb hby at_104) (XS.iand X16.here hx rfl (hb hby at_106) rfl k)) ?_
      show own_GoW p e below s _ _ (T16.setTop (mkF m 107 #[iv p0, iv p1, iv p2, iv p3, rv sa1, rv sa5, iv z13, iv z14, iv z18, iv 1, .unset, .unset, .unset, .unset] [(.int (p2 &&& (15 : Int32)))]))
      obtain ⟨z20, hz20⟩ : ∃ z : Int32, z = (p2 &&& (15 : Int32)) := ⟨_, rfl⟩
      rw [← hz20]
      show own_GoW p e below s _ _ (T16.setTop (mkF m 107 #[iv p0, iv p1, iv p2, iv p3, rv sa1, rv sa5, iv z13, iv z14, iv z18, iv 1, .unset, .unset, .unset, .unset] [(.int z20)]))
      refine own_viaW (fun k => XS.istore X16.here hx rfl (hb hby at_107) rfl (l' := #[iv p0, iv p1, iv p2, iv p3, rv sa1, rv sa5, iv z13, iv z14, iv z18, iv 1, iv z20, .unset, .unset, .unset]) rfl (XS.iloadN X16.here hx rfl (hb hby at_109) rfl  (XS.iconst X16.here hx rfl (hb hby at_110) (XS.iand X16.here hx rfl (hb hby at_111) rfl k)))) ?_
      show own_GoW p e below s _ _ (T16.setTop (mkF m 112 #[iv p0, iv p1, iv p2, iv p3, rv sa1, rv sa5, iv z13, iv z14, iv z18, iv 1, iv z20, .unset, .unset, .unset] [(.int (p3 &&& (2 : Int32)))]))
      by_cases hc21 : (p3 &&& (2 : Int32)) = (0 : Int32)
      · refine own_viaW (fun k => XS.ifYes X16.here hx rfl (pc0 := 112) (pc' := 125) rfl (hb hby at_112) rfl ((if0 _ _).trans (teq hc21).1) (by decide) (by decide) k) ?_
        show own_GoW p e below s _ _ (T16.setTop (mkF m 125 #[iv p0, iv p1, iv p2, iv p3, rv sa1, rv sa5, iv z13, iv z14, iv z18, iv 1, iv z20, .unset, .unset, .unset] []))
        refine own_viaW (fun k => XS.aload X16.here hx rfl (hb hby at_125) rfl rfl  (XS.iload X16.here hx rfl (hb hby at_127) rfl  k)) ?_
        show own_GoW p e below s _ _ (T16.setTop (mkF m 129 #[iv p0, iv p1, iv p2, iv p3, rv sa1, rv sa5, iv z13, iv z14, iv z18, iv 1, iv z20, .unset, .unset, .unset] [(.int z20), (.ref sa1)]))
        obtain ⟨cq22, kq22, q22a, q22b, q22c⟩ := isOf hZ eh16 B8
        obtain ⟨_, _, ⟨T22, L22, k22, n22⟩, -, X22, ⟨Lc22, hQ22, l22, y22, z22⟩, st22⟩ := X16.virtualBack hx (y := (⟨"java/lang/String", "charAt", "(I)C"⟩ : MethodName)) (z := (⟨"java/lang/String", "charAt", "(I)C"⟩ : MethodName)) hown (mvT hZ (hw _ (List.mem_of_getElem? (i := 13) rfl))) (mvT hZ (hw _ (List.mem_of_getElem? (i := 14) rfl))) (notFace_of_selects (args := #[]) (mvT hZ (hw _ (List.mem_of_getElem? (i := 16) rfl)))) (mvT hZ (hw _ (List.mem_of_getElem? (i := 16) rfl))) (mvT hZ (hw _ (List.mem_of_getElem? (i := 15) rfl))) (by decide) (backOf (W := 0) (rm2 l Z aw hw [] sa1 z20 sb1 kb1 [(.int 48), (.int 49), (.int 50), (.int 51), (.int 52), (.int 53), (.int 54), (.int 55), (.int 56), (.int 57), (.int 97), (.int 98), (.int 99), (.int 100), (.int 101), (.int 102)] cw G3 (own_lo z20) h5 n0 Z12 B8 B9 B10 B11 B6 B7 hcz hg3 (hz20 ▸ (own_m15 p2).1) (hz20 ▸ (own_m15 p2).2) (own_loV ((hz20 ▸ (own_m15 p2).1)) ((hz20 ▸ (own_m15 p2).2))) (own_loN ((hz20 ▸ (own_m15 p2).1)) ((hz20 ▸ (own_m15 p2).2))) (own_loM ((hz20 ▸ (own_m15 p2).1)) ((hz20 ▸ (own_m15 p2).2)))) hZ (hw _ (List.mem_of_getElem? (i := 17) rfl)) (hw _ (List.mem_of_getElem? (i := 1) rfl)) (by decide) (by decide)) q22a q22c (g := (mkF m 129 #[iv p0, iv p1, iv p2, iv p3, rv sa1, rv sa5, iv z13, iv z14, iv z18, iv 1, iv z20, .unset, .unset, .unset] [(.int z20), (.ref sa1)])) rfl (by rw [hml]; rfl) (Steps.refl _) (argsL := [(.int z20)]) (rest := []) (lenOf pd_1 rfl) rfl (by show 2 * 0 + _ ≤ _; exact Nat.le_of_eq rfl) (hb hby at_129) (fun _ _ => ⟨rfl, eh16, (by decide : 4 + 0 ≤ _), (by decide : 136 + 0 ≤ _)⟩)
        dsimp only [Pt.U, Pt.locs, Pt.cells, Pt.slots] at X22 l22 y22 z22 st22 hQ22
        subst l22 y22 z22
        obtain ⟨rfl, N22q, eh22⟩ := hQ22
        have N23 := Fr.app N17 N22q
        refine own_viaW (fun k => st22.trans k) ?_
        show own_GoW p e below s _ _ (T22.setTop (mkF m 132 #[iv p0, iv p1, iv p2, iv p3, rv sa1, rv sa5, iv z13, iv z14, iv z18, iv 1, iv z20, .unset, .unset, .unset] [(.int (own_lo z20))]))
        refine own_viaW (fun k => XS.istore X22.here hx rfl (hb hby at_132) rfl (l' := #[iv p0, iv p1, iv p2, iv p3, rv sa1, rv sa5, iv z13, iv z14, iv z18, iv 1, iv z20, iv (own_lo z20), .unset, .unset]) rfl (XS.iload X22.here hx rfl (hb hby at_134) rfl  (XS.iload X22.here hx rfl (hb hby at_136) rfl  k))) ?_
        show own_GoW p e below s _ _ (T22.setTop (mkF m 138 #[iv p0, iv p1, iv p2, iv p3, rv sa1, rv sa5, iv z13, iv z14, iv z18, iv 1, iv z20, iv (own_lo z20), .unset, .unset] [(.int z13), (.int z20)]))
        by_cases hc24 : z20 < z13
        · refine own_viaW (fun k => XS.icmpNo X22.here hx rfl (hb hby at_138) rfl (tlt hc24).2.1 k) ?_
          show own_GoW p e below s _ _ (T22.setTop (mkF m 141 #[iv p0, iv p1, iv p2, iv p3, rv sa1, rv sa5, iv z13, iv z14, iv z18, iv 1, iv z20, iv (own_lo z20), .unset, .unset] []))
          refine own_viaW (fun k => XS.iload X22.here hx rfl (hb hby at_141) rfl  (XS.goto X22.here hx rfl (pc0 := 143) (pc' := 147) rfl (hb hby at_143) (by decide) (by decide) (XS.istore X22.here hx rfl (hb hby at_147) rfl (l' := #[iv p0, iv p1, iv p2, iv p3, rv sa1, rv sa5, iv z13, iv z14, iv z18, iv 1, iv z20, iv (own_lo z20), iv z20, .unset]) rfl (XS.iload X22.here hx rfl (hb hby at_149) rfl  k)))) ?_
          show own_GoW p e below s _ _ (T22.setTop (mkF m 151 #[iv p0, iv p1, iv p2, iv p3, rv sa1, rv sa5, iv z13, iv z14, iv z18, iv 1, iv z20, iv (own_lo z20), iv z20, .unset] [(.int (own_lo z20))]))
          refine own_viaW (fun k => XS.iload X22.here hx rfl (hb hby at_151) rfl  k) ?_
          show own_GoW p e below s _ _ (T22.setTop (mkF m 153 #[iv p0, iv p1, iv p2, iv p3, rv sa1, rv sa5, iv z13, iv z14, iv z18, iv 1, iv z20, iv (own_lo z20), iv z20, .unset] [(.int z13), (.int (own_lo z20))]))
          obtain ⟨_, _, ⟨T25, L25, k25, n25⟩, -, X25, ⟨Lc25, hQ25, l25, y25, z25⟩, st25⟩ := Jvm.LawKit.callS X22 hx (y := (⟨"com/example/grammar_parser/grammarparser/GrammarReader", "digit", "(II)I"⟩ : MethodName)) hown (mvT hZ (hw _ (List.mem_of_getElem? (i := 9) rfl))) (mvT hZ (hw _ (List.mem_of_getElem? (i := 10) rfl))) (mvT hZ (hw _ (List.mem_of_getElem? (i := 11) rfl))) (mvT hZ (hw _ (List.mem_of_getElem? (i := 12) rfl))) (by decide) (backOf (W := 0) (rm1 l Z aw hw [] (own_lo z20) z13 h5 n0 Z12) hZ (hw _ (List.mem_of_getElem? (i := 12) rfl)) (hw _ (List.mem_of_getElem? (i := 11) rfl)) (by decide) (by decide)) (g := (mkF m 153 #[iv p0, iv p1, iv p2, iv p3, rv sa1, rv sa5, iv z13, iv z14, iv z18, iv 1, iv z20, iv (own_lo z20), iv z20, .unset] [(.int z13), (.int (own_lo z20))])) rfl (by rw [hml]; rfl) (argsL := [(.int (own_lo z20)), (.int z13)]) (rest := []) (lenOf pd_0 rfl) rfl (by show 2 * 0 + _ ≤ _; exact Nat.le_of_eq rfl) (hb hby at_153) (fun _ _ => ⟨rfl, eh22, (by decide : 4 + 0 ≤ _), (by decide : 136 + 0 ≤ _)⟩)
          dsimp only [Pt.U, Pt.locs, Pt.cells, Pt.slots] at X25 l25 y25 z25 st25 hQ25
          subst l25 y25 z25
          obtain ⟨rfl, N25q, eh25⟩ := hQ25
          have N26 := Fr.app N23 N25q
          refine own_viaW (fun k => st25 _ k) ?_
          show own_GoW p e below s _ _ (T25.setTop (mkF m 156 #[iv p0, iv p1, iv p2, iv p3, rv sa1, rv sa5, iv z13, iv z14, iv z18, iv 1, iv z20, iv (own_lo z20), iv z20, .unset] [(.int (own_f1 (own_lo z20) z13))]))
          refine own_viaW (fun k => XS.iload X25.here hx rfl (hb hby at_156) rfl  k) ?_
          show own_GoW p e below s _ _ (T25.setTop (mkF m 158 #[iv p0, iv p1, iv p2, iv p3, rv sa1, rv sa5, iv z13, iv z14, iv z18, iv 1, iv z20, iv (own_lo z20), iv z20, .unset] [(.int z20), (.int (own_f1 (own_lo z20) z13))]))
          refine own_viaW (fun k => XS.icmpNo X25.here hx rfl (hb hby at_158) rfl (teq (own_ly hz20 hc24)).2 k) ?_
          show own_GoW p e below s _ _ (T25.setTop (mkF m 161 #[iv p0, iv p1, iv p2, iv p3, rv sa1, rv sa5, iv z13, iv z14, iv z18, iv 1, iv z20, iv (own_lo z20), iv z20, .unset] []))
          refine own_viaW (fun k => XS.iconst X25.here hx rfl (hb hby at_161) (XS.goto X25.here hx rfl (pc0 := 162) (pc' := 166) rfl (hb hby at_162) (by decide) (by decide) (XS.istore X25.here hx rfl (hb hby at_166) rfl (l' := #[iv p0, iv p1, iv p2, iv p3, rv sa1, rv sa5, iv z13, iv z14, iv z18, iv 1, iv z20, iv (own_lo z20), iv z20, iv 1]) rfl (XS.iload X25.here hx rfl (hb hby at_168) rfl  k)))) ?_
          show own_GoW p e below s _ _ (T25.setTop (mkF m 170 #[iv p0, iv p1, iv p2, iv p3, rv sa1, rv sa5, iv z13, iv z14, iv z18, iv 1, iv z20, iv (own_lo z20), iv z20, iv 1] [(.int 1)]))
          refine own_viaW (fun k => XS.ifNo X25.here hx rfl (hb hby at_170) rfl (by decide) k) ?_
          show own_GoW p e below s _ _ (T25.setTop (mkF m 173 #[iv p0, iv p1, iv p2, iv p3, rv sa1, rv sa5, iv z13, iv z14, iv z18, iv 1, iv z20, iv (own_lo z20), iv z20, iv 1] []))
          refine own_viaW (fun k => XS.iload X25.here hx rfl (hb hby at_173) rfl  k) ?_
          show own_GoW p e below s _ _ (T25.setTop (mkF m 175 #[iv p0, iv p1, iv p2, iv p3, rv sa1, rv sa5, iv z13, iv z14, iv z18, iv 1, iv z20, iv (own_lo z20), iv z20, iv 1] [(.int 1)]))
          refine own_viaW (fun k => XS.ifNo X25.here hx rfl (hb hby at_175) rfl (by decide) k) ?_
          show own_GoW p e below s _ _ (T25.setTop (mkF m 178 #[iv p0, iv p1, iv p2, iv p3, rv sa1, rv sa5, iv z13, iv z14, iv z18, iv 1, iv z20, iv (own_lo z20), iv z20, iv 1] []))
          refine own_viaW (fun k => XS.iconst X25.here hx rfl (hb hby at_178) (XS.goto X25.here hx rfl (pc0 := 179) (pc' := 183) rfl (hb hby at_179) (by decide) (by decide) k)) ?_
          show own_GoW p e below s _ _ (T25.setTop (mkF m 183 #[iv p0, iv p1, iv p2, iv p3, rv sa1, rv sa5, iv z13, iv z14, iv z18, iv 1, iv z20, iv (own_lo z20), iv z20, iv 1] [(.int 1)]))
          exact own_retNW X25 hx hlk (t := .boolean) Bd.returns (by simp) (hb hby at_183) SS5 (by rw [eh25]; exact ks5) (Q := (Q0 Z p0 p1 p2 p3 cw G3 h0 n0)) ⟨rfl, N26⟩ (by decide) (by decide)
        · refine own_viaW (fun k => XS.icmpYes X22.here hx rfl (pc0 := 138) (pc' := 146) rfl (hb hby at_138) rfl (flt hc24).2.1 (by decide) (by decide) k) ?_
          show own_GoW p e below s _ _ (T22.setTop (mkF m 146 #[iv p0, iv p1, iv p2, iv p3, rv sa1, rv sa5, iv z13, iv z14, iv z18, iv 1, iv z20, iv (own_lo z20), .unset, .unset] []))
          refine own_viaW (fun k => XS.iconst X22.here hx rfl (hb hby at_146) (XS.istore X22.here hx rfl (hb hby at_147) rfl (l' := #[iv p0, iv p1, iv p2, iv p3, rv sa1, rv sa5, iv z13, iv z14, iv z18, iv 1, iv z20, iv (own_lo z20), iv (-1), .unset]) rfl (XS.iload X22.here hx rfl (hb hby at_149) rfl  (XS.iload X22.here hx rfl (hb hby at_151) rfl  k)))) ?_
          show own_GoW p e below s _ _ (T22.setTop (mkF m 153 #[iv p0, iv p1, iv p2, iv p3, rv sa1, rv sa5, iv z13, iv z14, iv z18, iv 1, iv z20, iv (own_lo z20), iv (-1), .unset] [(.int z13), (.int (own_lo z20))]))
          obtain ⟨_, _, ⟨T27, L27, k27, n27⟩, -, X27, ⟨Lc27, hQ27, l27, y27, z27⟩, st27⟩ := Jvm.LawKit.callS X22 hx (y := (⟨"com/example/grammar_parser/grammarparser/GrammarReader", "digit", "(II)I"⟩ : MethodName)) hown (mvT hZ (hw _ (List.mem_of_getElem? (i := 9) rfl))) (mvT hZ (hw _ (List.mem_of_getElem? (i := 10) rfl))) (mvT hZ (hw _ (List.mem_of_getElem? (i := 11) rfl))) (mvT hZ (hw _ (List.mem_of_getElem? (i := 12) rfl))) (by decide) (backOf (W := 0) (rm1 l Z aw hw [] (own_lo z20) z13 h5 n0 Z12) hZ (hw _ (List.mem_of_getElem? (i := 12) rfl)) (hw _ (List.mem_of_getElem? (i := 11) rfl)) (by decide) (by decide)) (g := (mkF m 153 #[iv p0, iv p1, iv p2, iv p3, rv sa1, rv sa5, iv z13, iv z14, iv z18, iv 1, iv z20, iv (own_lo z20), iv (-1), .unset] [(.int z13), (.int (own_lo z20))])) rfl (by rw [hml]; rfl) (argsL := [(.int (own_lo z20)), (.int z13)]) (rest := []) (lenOf pd_0 rfl) rfl (by show 2 * 0 + _ ≤ _; exact Nat.le_of_eq rfl) (hb hby at_153) (fun _ _ => ⟨rfl, eh22, (by decide : 4 + 0 ≤ _), (by decide : 136 + 0 ≤ _)⟩)
          dsimp only [Pt.U, Pt.locs, Pt.cells, Pt.slots] at X27 l27 y27 z27 st27 hQ27
          subst l27 y27 z27
          obtain ⟨rfl, N27q, eh27⟩ := hQ27
          have N28 := Fr.app N23 N27q
          refine own_viaW (fun k => st27 _ k) ?_
          show own_GoW p e below s _ _ (T27.setTop (mkF m 156 #[iv p0, iv p1, iv p2, iv p3, rv sa1, rv sa5, iv z13, iv z14, iv z18, iv 1, iv z20, iv (own_lo z20), iv (-1), .unset] [(.int (own_f1 (own_lo z20) z13))]))
          refine own_viaW (fun k => XS.iload X27.here hx rfl (hb hby at_156) rfl  k) ?_
          show own_GoW p e below s _ _ (T27.setTop (mkF m 158 #[iv p0, iv p1, iv p2, iv p3, rv sa1, rv sa5, iv z13, iv z14, iv z18, iv 1, iv z20, iv (own_lo z20), iv (-1), .unset] [(.int (-1)), (.int (own_f1 (own_lo z20) z13))]))
          refine own_viaW (fun k => XS.icmpNo X27.here hx rfl (hb hby at_158) rfl (teq (own_ln hz20 hc24)).2 k) ?_
          show own_GoW p e below s _ _ (T27.setTop (mkF m 161 #[iv p0, iv p1, iv p2, iv p3, rv sa1, rv sa5, iv z13, iv z14, iv z18, iv 1, iv z20, iv (own_lo z20), iv (-1), .unset] []))
          refine own_viaW (fun k => XS.iconst X27.here hx rfl (hb hby at_161) (XS.goto X27.here hx rfl (pc0 := 162) (pc' := 166) rfl (hb hby at_162) (by decide) (by decide) (XS.istore X27.here hx rfl (hb hby at_166) rfl (l' := #[iv p0, iv p1, iv p2, iv p3, rv sa1, rv sa5, iv z13, iv z14, iv z18, iv 1, iv z20, iv (own_lo z20), iv (-1), iv 1]) rfl (XS.iload X27.here hx rfl (hb hby at_168) rfl  k)))) ?_
          show own_GoW p e below s _ _ (T27.setTop (mkF m 170 #[iv p0, iv p1, iv p2, iv p3, rv sa1, rv sa5, iv z13, iv z14, iv z18, iv 1, iv z20, iv (own_lo z20), iv (-1), iv 1] [(.int 1)]))
          refine own_viaW (fun k => XS.ifNo X27.here hx rfl (hb hby at_170) rfl (by decide) k) ?_
          show own_GoW p e below s _ _ (T27.setTop (mkF m 173 #[iv p0, iv p1, iv p2, iv p3, rv sa1, rv sa5, iv z13, iv z14, iv z18, iv 1, iv z20, iv (own_lo z20), iv (-1), iv 1] []))
          refine own_viaW (fun k => XS.iload X27.here hx rfl (hb hby at_173) rfl  k) ?_
          show own_GoW p e below s _ _ (T27.setTop (mkF m 175 #[iv p0, iv p1, iv p2, iv p3, rv sa1, rv sa5, iv z13, iv z14, iv z18, iv 1, iv z20, iv (own_lo z20), iv (-1), iv 1] [(.int 1)]))
          refine own_viaW (fun k => XS.ifNo X27.here hx rfl (hb hby at_175) rfl (by decide) k) ?_
          show own_GoW p e below s _ _ (T27.setTop (mkF m 178 #[iv p0, iv p1, iv p2, iv p3, rv sa1, rv sa5, iv z13, iv z14, iv z18, iv 1, iv z20, iv (own_lo z20), iv (-1), iv 1] []))
          refine own_viaW (fun k => XS.iconst X27.here hx rfl (hb hby at_178) (XS.goto X27.here hx rfl (pc0 := 179) (pc' := 183) rfl (hb hby at_179) (by decide) (by decide) k)) ?_
          show own_GoW p e below s _ _ (T27.setTop (mkF m 183 #[iv p0, iv p1, iv p2, iv p3, rv sa1, rv sa5, iv z13, iv z14, iv z18, iv 1, iv z20, iv (own_lo z20), iv (-1), iv 1] [(.int 1)]))
          exact own_retNW X27 hx hlk (t := .boolean) Bd.returns (by simp) (hb hby at_183) SS5 (by rw [eh27]; exact ks5) (Q := (Q0 Z p0 p1 p2 p3 cw G3 h0 n0)) ⟨rfl, N28⟩ (by decide) (by decide)
      · refine own_viaW (fun k => XS.ifNo X16.here hx rfl (hb hby at_112) rfl ((if0 _ _).trans (feq hc21).1) k) ?_
        show own_GoW p e below s _ _ (T16.setTop (mkF m 115 #[iv p0, iv p1, iv p2, iv p3, rv sa1, rv sa5, iv z13, iv z14, iv z18, iv 1, iv z20, .unset, .unset, .unset] []))
        refine own_viaW (fun k => XS.aload X16.here hx rfl (hb hby at_115) rfl rfl  (XS.iload X16.here hx rfl (hb hby at_117) rfl  k)) ?_
        show own_GoW p e below s _ _ (T16.setTop (mkF m 119 #[iv p0, iv p1, iv p2, iv p3, rv sa1, rv sa5, iv z13, iv z14, iv z18, iv 1, iv z20, .unset, .unset, .unset] [(.int z20), (.ref sa5)]))
        obtain ⟨cq29, kq29, q29a, q29b, q29c⟩ := isOf hZ eh16 A5
        obtain ⟨_, _, ⟨T29, L29, k29, n29⟩, -, X29, ⟨Lc29, hQ29, l29, y29, z29⟩, st29⟩ := X16.virtualBack hx (y := (⟨"java/lang/String", "charAt", "(I)C"⟩ : MethodName)) (z := (⟨"java/lang/String", "charAt", "(I)C"⟩ : MethodName)) hown (mvT hZ (hw _ (List.mem_of_getElem? (i := 13) rfl))) (mvT hZ (hw _ (List.mem_of_getElem? (i := 14) rfl))) (notFace_of_selects (args := #[]) (mvT hZ (hw _ (List.mem_of_getElem? (i := 16) rfl)))) (mvT hZ (hw _ (List.mem_of_getElem? (i := 16) rfl))) (mvT hZ (hw _ (List.mem_of_getElem? (i := 15) rfl))) (by decide) (backOf (W := 0) (rm2 l Z aw hw [] sa5 z20 sb5 kb5 [(.int 48), (.int 49), (.int 50), (.int 51), (.int 52), (.int 53), (.int 54), (.int 55), (.int 56), (.int 57), (.int 65), (.int 66), (.int 67), (.int 68), (.int 69), (.int 70)] cw G3 (own_up z20) h5 n0 Z12 A5 C5 F5 V5 B6 B7 hcz hg3 (hz20 ▸ (own_m15 p2).1) (hz20 ▸ (own_m15 p2).2) (own_upV ((hz20 ▸ (own_m15 p2).1)) ((hz20 ▸ (own_m15 p2).2))) (own_upN ((hz20 ▸ (own_m15 p2).1)) ((hz20 ▸ (own_m15 p2).2))) (own_upM ((hz20 ▸ (own_m15 p2).1)) ((hz20 ▸ (own_m15 p2).2)))) hZ (hw _ (List.mem_of_getElem? (i := 17) rfl)) (hw _ (List.mem_of_getElem? (i := 1) rfl)) (by decide) (by decide)) q29a q29c (g := (mkF m 119 #[iv p0, iv p1, iv p2, iv p3, rv sa1, rv sa5, iv z13, iv z14, iv z18, iv 1, iv z20, .unset, .unset, .unset] [(.int z20), (.ref sa5)])) rfl (by rw [hml]; rfl) (Steps.refl _) (argsL := [(.int z20)]) (rest := []) (lenOf pd_1 rfl) rfl (by show 2 * 0 + _ ≤ _; exact Nat.le_of_eq rfl) (hb hby at_119) (fun _ _ => ⟨rfl, eh16, (by decide : 4 + 0 ≤ _), (by decide : 136 + 0 ≤ _)⟩)
        dsimp only [Pt.U, Pt.locs, Pt.cells, Pt.slots] at X29 l29 y29 z29 st29 hQ29
        subst l29 y29 z29
        obtain ⟨rfl, N29q, eh29⟩ := hQ29
        have N30 := Fr.app N17 N29q
        refine own_viaW (fun k => st29.trans k) ?_
        show own_GoW p e below s _ _ (T29.setTop (mkF m 122 #[iv p0, iv p1, iv p2, iv p3, rv sa1, rv sa5, iv z13, iv z14, iv z18, iv 1, iv z20, .unset, .unset, .unset] [(.int (own_up z20))]))
        refine own_viaW (fun k => XS.goto X29.here hx rfl (pc0 := 122) (pc' := 132) rfl (hb hby at_122) (by decide) (by decide) (XS.istore X29.here hx rfl (hb hby at_132) rfl (l' := #[iv p0, iv p1, iv p2, iv p3, rv sa1, rv sa5, iv z13, iv z14, iv z18, iv 1, iv z20, iv (own_up z20), .unset, .unset]) rfl (XS.iload X29.here hx rfl (hb hby at_134) rfl  (XS.iload X29.here hx rfl (hb hby at_136) rfl  k)))) ?_
        show own_GoW p e below s _ _ (T29.setTop (mkF m 138 #[iv p0, iv p1, iv p2, iv p3, rv sa1, rv sa5, iv z13, iv z14, iv z18, iv 1, iv z20, iv (own_up z20), .unset, .unset] [(.int z13), (.int z20)]))
        by_cases hc31 : z20 < z13
        · refine own_viaW (fun k => XS.icmpNo X29.here hx rfl (hb hby at_138) rfl (tlt hc31).2.1 k) ?_
          show own_GoW p e below s _ _ (T29.setTop (mkF m 141 #[iv p0, iv p1, iv p2, iv p3, rv sa1, rv sa5, iv z13, iv z14, iv z18, iv 1, iv z20, iv (own_up z20), .unset, .unset] []))
          refine own_viaW (fun k => XS.iload X29.here hx rfl (hb hby at_141) rfl  (XS.goto X29.here hx rfl (pc0 := 143) (pc' := 147) rfl (hb hby at_143) (by decide) (by decide) (XS.istore X29.here hx rfl (hb hby at_147) rfl (l' := #[iv p0, iv p1, iv p2, iv p3, rv sa1, rv sa5, iv z13, iv z14, iv z18, iv 1, iv z20, iv (own_up z20), iv z20, .unset]) rfl (XS.iload X29.here hx rfl (hb hby at_149) rfl  k)))) ?_
          show own_GoW p e below s _ _ (T29.setTop (mkF m 151 #[iv p0, iv p1, iv p2, iv p3, rv sa1, rv sa5, iv z13, iv z14, iv z18, iv 1, iv z20, iv (own_up z20), iv z20, .unset] [(.int (own_up z20))]))
          refine own_viaW (fun k => XS.iload X29.here hx rfl (hb hby at_151) rfl  k) ?_
          show own_GoW p e below s _ _ (T29.setTop (mkF m 153 #[iv p0, iv p1, iv p2, iv p3, rv sa1, rv sa5, iv z13, iv z14, iv z18, iv 1, iv z20, iv (own_up z20), iv z20, .unset] [(.int z13), (.int (own_up z20))]))
          obtain ⟨_, _, ⟨T32, L32, k32, n32⟩, -, X32, ⟨Lc32, hQ32, l32, y32, z32⟩, st32⟩ := Jvm.LawKit.callS X29 hx (y := (⟨"com/example/grammar_parser/grammarparser/GrammarReader", "digit", "(II)I"⟩ : MethodName)) hown (mvT hZ (hw _ (List.mem_of_getElem? (i := 9) rfl))) (mvT hZ (hw _ (List.mem_of_getElem? (i := 10) rfl))) (mvT hZ (hw _ (List.mem_of_getElem? (i := 11) rfl))) (mvT hZ (hw _ (List.mem_of_getElem? (i := 12) rfl))) (by decide) (backOf (W := 0) (rm1 l Z aw hw [] (own_up z20) z13 h5 n0 Z12) hZ (hw _ (List.mem_of_getElem? (i := 12) rfl)) (hw _ (List.mem_of_getElem? (i := 11) rfl)) (by decide) (by decide)) (g := (mkF m 153 #[iv p0, iv p1, iv p2, iv p3, rv sa1, rv sa5, iv z13, iv z14, iv z18, iv 1, iv z20, iv (own_up z20), iv z20, .unset] [(.int z13), (.int (own_up z20))])) rfl (by rw [hml]; rfl) (argsL := [(.int (own_up z20)), (.int z13)]) (rest := []) (lenOf pd_0 rfl) rfl (by show 2 * 0 + _ ≤ _; exact Nat.le_of_eq rfl) (hb hby at_153) (fun _ _ => ⟨rfl, eh29, (by decide : 4 + 0 ≤ _), (by decide : 136 + 0 ≤ _)⟩)
          dsimp only [Pt.U, Pt.locs, Pt.cells, Pt.slots] at X32 l32 y32 z32 st32 hQ32
          subst l32 y32 z32
          obtain ⟨rfl, N32q, eh32⟩ := hQ32
          have N33 := Fr.app N30 N32q
          refine own_viaW (fun k => st32 _ k) ?_
          show own_GoW p e below s _ _ (T32.setTop (mkF m 156 #[iv p0, iv p1, iv p2, iv p3, rv sa1, rv sa5, iv z13, iv z14, iv z18, iv 1, iv z20, iv (own_up z20), iv z20, .unset] [(.int (own_f1 (own_up z20) z13))]))
          refine own_viaW (fun k => XS.iload X32.here hx rfl (hb hby at_156) rfl  k) ?_
          show own_GoW p e below s _ _ (T32.setTop (mkF m 158 #[iv p0, iv p1, iv p2, iv p3, rv sa1, rv sa5, iv z13, iv z14, iv z18, iv 1, iv z20, iv (own_up z20), iv z20, .unset] [(.int z20), (.int (own_f1 (own_up z20) z13))]))
          refine own_viaW (fun k => XS.icmpNo X32.here hx rfl (hb hby at_158) rfl (teq (own_uy hz20 hc31)).2 k) ?_
          show own_GoW p e below s _ _ (T32.setTop (mkF m 161 #[iv p0, iv p1, iv p2, iv p3, rv sa1, rv sa5, iv z13, iv z14, iv z18, iv 1, iv z20, iv (own_up z20), iv z20, .unset] []))
          refine own_viaW (fun k => XS.iconst X32.here hx rfl (hb hby at_161) (XS.goto X32.here hx rfl (pc0 := 162) (pc' := 166) rfl (hb hby at_162) (by decide) (by decide) (XS.istore X32.here hx rfl (hb hby at_166) rfl (l' := #[iv p0, iv p1, iv p2, iv p3, rv sa1, rv sa5, iv z13, iv z14, iv z18, iv 1, iv z20, iv (own_up z20), iv z20, iv 1]) rfl (XS.iload X32.here hx rfl (hb hby at_168) rfl  k)))) ?_
          show own_GoW p e below s _ _ (T32.setTop (mkF m 170 #[iv p0, iv p1, iv p2, iv p3, rv sa1, rv sa5, iv z13, iv z14, iv z18, iv 1, iv z20, iv (own_up z20), iv z20, iv 1] [(.int 1)]))
          refine own_viaW (fun k => XS.ifNo X32.here hx rfl (hb hby at_170) rfl (by decide) k) ?_
          show own_GoW p e below s _ _ (T32.setTop (mkF m 173 #[iv p0, iv p1, iv p2, iv p3, rv sa1, rv sa5, iv z13, iv z14, iv z18, iv 1, iv z20, iv (own_up z20), iv z20, iv 1] []))
          refine own_viaW (fun k => XS.iload X32.here hx rfl (hb hby at_173) rfl  k) ?_
          show own_GoW p e below s _ _ (T32.setTop (mkF m 175 #[iv p0, iv p1, iv p2, iv p3, rv sa1, rv sa5, iv z13, iv z14, iv z18, iv 1, iv z20, iv (own_up z20), iv z20, iv 1] [(.int 1)]))
          refine own_viaW (fun k => XS.ifNo X32.here hx rfl (hb hby at_175) rfl (by decide) k) ?_
          show own_GoW p e below s _ _ (T32.setTop (mkF m 178 #[iv p0, iv p1, iv p2, iv p3, rv sa1, rv sa5, iv z13, iv z14, iv z18, iv 1, iv z20, iv (own_up z20), iv z20, iv 1] []))
          refine own_viaW (fun k => XS.iconst X32.here hx rfl (hb hby at_178) (XS.goto X32.here hx rfl (pc0 := 179) (pc' := 183) rfl (hb hby at_179) (by decide) (by decide) k)) ?_
          show own_GoW p e below s _ _ (T32.setTop (mkF m 183 #[iv p0, iv p1, iv p2, iv p3, rv sa1, rv sa5, iv z13, iv z14, iv z18, iv 1, iv z20, iv (own_up z20), iv z20, iv 1] [(.int 1)]))
          exact own_retNW X32 hx hlk (t := .boolean) Bd.returns (by simp) (hb hby at_183) SS5 (by rw [eh32]; exact ks5) (Q := (Q0 Z p0 p1 p2 p3 cw G3 h0 n0)) ⟨rfl, N33⟩ (by decide) (by decide)
        · refine own_viaW (fun k => XS.icmpYes X29.here hx rfl (pc0 := 138) (pc' := 146) rfl (hb hby at_138) rfl (flt hc31).2.1 (by decide) (by decide) k) ?_
          show own_GoW p e below s _ _ (T29.setTop (mkF m 146 #[iv p0, iv p1, iv p2, iv p3, rv sa1, rv sa5, iv z13, iv z14, iv z18, iv 1, iv z20, iv (own_up z20), .unset, .unset] []))
          refine own_viaW (fun k => XS.iconst X29.here hx rfl (hb hby at_146) (XS.istore X29.here hx rfl (hb hby at_147) rfl (l' := #[iv p0, iv p1, iv p2, iv p3, rv sa1, rv sa5, iv z13, iv z14, iv z18, iv 1, iv z20, iv (own_up z20), iv (-1), .unset]) rfl (XS.iload X29.here hx rfl (hb hby at_149) rfl  (XS.iload X29.here hx rfl (hb hby at_151) rfl  k)))) ?_
          show own_GoW p e below s _ _ (T29.setTop (mkF m 153 #[iv p0, iv p1, iv p2, iv p3, rv sa1, rv sa5, iv z13, iv z14, iv z18, iv 1, iv z20, iv (own_up z20), iv (-1), .unset] [(.int z13), (.int (own_up z20))]))
          obtain ⟨_, _, ⟨T34, L34, k34, n34⟩, -, X34, ⟨Lc34, hQ34, l34, y34, z34⟩, st34⟩ := Jvm.LawKit.callS X29 hx (y := (⟨"com/example/grammar_parser/grammarparser/GrammarReader", "digit", "(II)I"⟩ : MethodName)) hown (mvT hZ (hw _ (List.mem_of_getElem? (i := 9) rfl))) (mvT hZ (hw _ (List.mem_of_getElem? (i := 10) rfl))) (mvT hZ (hw _ (List.mem_of_getElem? (i := 11) rfl))) (mvT hZ (hw _ (List.mem_of_getElem? (i := 12) rfl))) (by decide) (backOf (W := 0) (rm1 l Z aw hw [] (own_up z20) z13 h5 n0 Z12) hZ (hw _ (List.mem_of_getElem? (i := 12) rfl)) (hw _ (List.mem_of_getElem? (i := 11) rfl)) (by decide) (by decide)) (g := (mkF m 153 #[iv p0, iv p1, iv p2, iv p3, rv sa1, rv sa5, iv z13, iv z14, iv z18, iv 1, iv z20, iv (own_up z20), iv (-1), .unset] [(.int z13), (.int (own_up z20))])) rfl (by rw [hml]; rfl) (argsL := [(.int (own_up z20)), (.int z13)]) (rest := []) (lenOf pd_0 rfl) rfl (by show 2 * 0 + _ ≤ _; exact Nat.le_of_eq rfl) (hb hby at_153) (fun _ _ => ⟨rfl, eh29, (by decide : 4 + 0 ≤ _), (by decide : 136 + 0 ≤ _)⟩)
          dsimp only [Pt.U, Pt.locs, Pt.cells, Pt.slots] at X34 l34 y34 z34 st34 hQ34
          subst l34 y34 z34
          obtain ⟨rfl, N34q, eh34⟩ := hQ34
          have N35 := Fr.app N30 N34q
          refine own_viaW (fun k => st34 _ k) ?_
          show own_GoW p e below s _ _ (T34.setTop (mkF m 156 #[iv p0, iv p1, iv p2, iv p3, rv sa1, rv sa5, iv z13, iv z14, iv z18, iv 1, iv z20, iv (own_up z20), iv (-1), .unset] [(.int (own_f1 (own_up z20) z13))]))
          refine own_viaW (fun k => XS.iload X34.here hx rfl (hb hby at_156) rfl  k) ?_
          show own_GoW p e below s _ _ (T34.setTop (mkF m 158 #[iv p0, iv p1, iv p2, iv p3, rv sa1, rv sa5, iv z13, iv z14, iv z18, iv 1, iv z20, iv (own_up z20), iv (-1), .unset] [(.int (-1)), (.int (own_f1 (own_up z20) z13))]))
          refine own_viaW (fun k => XS.icmpNo X34.here hx rfl (hb hby at_158) rfl (teq (own_un hz20 hc31)).2 k) ?_
          show own_GoW p e below s _ _ (T34.setTop (mkF m 161 #[iv p0, iv p1, iv p2, iv p3, rv sa1, rv sa5, iv z13, iv z14, iv z18, iv 1, iv z20, iv (own_up z20), iv (-1), .unset] []))
          refine own_viaW (fun k => XS.iconst X34.here hx rfl (hb hby at_161) (XS.goto X34.here hx rfl (pc0 := 162) (pc' := 166) rfl (hb hby at_162) (by decide) (by decide) (XS.istore X34.here hx rfl (hb hby at_166) rfl (l' := #[iv p0, iv p1, iv p2, iv p3, rv sa1, rv sa5, iv z13, iv z14, iv z18, iv 1, iv z20, iv (own_up z20), iv (-1), iv 1]) rfl (XS.iload X34.here hx rfl (hb hby at_168) rfl  k)))) ?_
          show own_GoW p e below s _ _ (T34.setTop (mkF m 170 #[iv p0, iv p1, iv p2, iv p3, rv sa1, rv sa5, iv z13, iv z14, iv z18, iv 1, iv z20, iv (own_up z20), iv (-1), iv 1] [(.int 1)]))
          refine own_viaW (fun k => XS.ifNo X34.here hx rfl (hb hby at_170) rfl (by decide) k) ?_
          show own_GoW p e below s _ _ (T34.setTop (mkF m 173 #[iv p0, iv p1, iv p2, iv p3, rv sa1, rv sa5, iv z13, iv z14, iv z18, iv 1, iv z20, iv (own_up z20), iv (-1), iv 1] []))
          refine own_viaW (fun k => XS.iload X34.here hx rfl (hb hby at_173) rfl  k) ?_
          show own_GoW p e below s _ _ (T34.setTop (mkF m 175 #[iv p0, iv p1, iv p2, iv p3, rv sa1, rv sa5, iv z13, iv z14, iv z18, iv 1, iv z20, iv (own_up z20), iv (-1), iv 1] [(.int 1)]))
          refine own_viaW (fun k => XS.ifNo X34.here hx rfl (hb hby at_175) rfl (by decide) k) ?_
          show own_GoW p e below s _ _ (T34.setTop (mkF m 178 #[iv p0, iv p1, iv p2, iv p3, rv sa1, rv sa5, iv z13, iv z14, iv z18, iv 1, iv z20, iv (own_up z20), iv (-1), iv 1] []))
          refine own_viaW (fun k => XS.iconst X34.here hx rfl (hb hby at_178) (XS.goto X34.here hx rfl (pc0 := 179) (pc' := 183) rfl (hb hby at_179) (by decide) (by decide) k)) ?_
          show own_GoW p e below s _ _ (T34.setTop (mkF m 183 #[iv p0, iv p1, iv p2, iv p3, rv sa1, rv sa5, iv z13, iv z14, iv z18, iv 1, iv z20, iv (own_up z20), iv (-1), iv 1] [(.int 1)]))
          exact own_retNW X34 hx hlk (t := .boolean) Bd.returns (by simp) (hb hby at_183) SS5 (by rw [eh34]; exact ks5) (Q := (Q0 Z p0 p1 p2 p3 cw G3 h0 n0)) ⟨rfl, N35⟩ (by decide) (by decide)
    · refine own_viaW (fun k => XS.icmpYes X16.here hx rfl (pc0 := 45) (pc' := 54) rfl (hb hby at_45) rfl (feq hc19).2 (by decide) (by decide) k) ?_
      show own_GoW p e below s _ _ (T16.setTop (mkF m 54 #[iv p0, iv p1, iv p2, iv p3, rv sa1, rv sa5, iv z13, iv z14, iv z18, .unset, .unset, .unset, .unset, .unset] []))
      refine own_viaW (fun k => XS.iload X16.here hx rfl (hb hby at_54) rfl  k) ?_
      show own_GoW p e below s _ _ (T16.setTop (mkF m 56 #[iv p0, iv p1, iv p2, iv p3, rv sa1, rv sa5, iv z13, iv z14, iv z18, .unset, .unset, .unset, .unset, .unset] [(.int z18)]))
      refine own_viaW (fun k => XS.ifNo X16.here hx rfl (hb hby at_56) rfl ((if0 _ _).trans (flt ((own_dig hz18 hc19).1)).1) k) ?_
      show own_GoW p e below s _ _ (T16.setTop (mkF m 59 #[iv p0, iv p1, iv p2, iv p3, rv sa1, rv sa5, iv z13, iv z14, iv z18, .unset, .unset, .unset, .unset, .unset] []))
      refine own_viaW (fun k => XS.iload X16.here hx rfl (hb hby at_59) rfl  (XS.iload X16.here hx rfl (hb hby at_61) rfl  k)) ?_
      show own_GoW p e below s _ _ (T16.setTop (mkF m 63 #[iv p0, iv p1, iv p2, iv p3, rv sa1, rv sa5, iv z13, iv z14, iv z18, .unset, .unset, .unset, .unset, .unset] [(.int z13), (.int z18)]))
      refine own_viaW (fun k => XS.icmpNo X16.here hx rfl (hb hby at_63) rfl (tlt ((own_dig hz18 hc19).2.2.1)).2.1 k) ?_
      show own_GoW p e below s _ _ (T16.setTop (mkF m 66 #[iv p0, iv p1, iv p2, iv p3, rv sa1, rv sa5, iv z13, iv z14, iv z18, .unset, .unset, .unset, .unset, .unset] []))
      refine own_viaW (fun k => XS.iload X16.here hx rfl (hb hby at_66) rfl  (XS.aload X16.here hx rfl (hb hby at_68) rfl rfl  (XS.iload X16.here hx rfl (hb hby at_70) rfl  k))) ?_
      show own_GoW p e below s _ _ (T16.setTop (mkF m 72 #[iv p0, iv p1, iv p2, iv p3, rv sa1, rv sa5, iv z13, iv z14, iv z18, .unset, .unset, .unset, .unset, .unset] [(.int z18), (.ref sa1), (.int z14)]))
      obtain ⟨cq36, kq36, q36a, q36b, q36c⟩ := isOf hZ eh16 B8
      obtain ⟨_, _, ⟨T36, L36, k36, n36⟩, -, X36, ⟨Lc36, hQ36, l36, y36, z36⟩, st36⟩ := X16.virtualBack hx (y := (⟨"java/lang/String", "charAt", "(I)C"⟩ : MethodName)) (z := (⟨"java/lang/String", "charAt", "(I)C"⟩ : MethodName)) hown (mvT hZ (hw _ (List.mem_of_getElem? (i := 13) rfl))) (mvT hZ (hw _ (List.mem_of_getElem? (i := 14) rfl))) (notFace_of_selects (args := #[]) (mvT hZ (hw _ (List.mem_of_getElem? (i := 16) rfl)))) (mvT hZ (hw _ (List.mem_of_getElem? (i := 16) rfl))) (mvT hZ (hw _ (List.mem_of_getElem? (i := 15) rfl))) (by decide) (backOf (W := 1) (rm2 l Z aw hw [] sa1 z18 sb1 kb1 [(.int 48), (.int 49), (.int 50), (.int 51), (.int 52), (.int 53), (.int 54), (.int 55), (.int 56), (.int 57), (.int 97), (.int 98), (.int 99), (.int 100), (.int 101), (.int 102)] cw G3 (own_lo z18) h5 n0 Z12 B8 B9 B10 B11 B6 B7 hcz hg3 ((own_dig hz18 hc19).1) ((own_dig hz18 hc19).2.1) (own_loV ((own_dig hz18 hc19).1) ((own_dig hz18 hc19).2.1)) (own_loN ((own_dig hz18 hc19).1) ((own_dig hz18 hc19).2.1)) (own_loM ((own_dig hz18 hc19).1) ((own_dig hz18 hc19).2.1))) hZ (hw _ (List.mem_of_getElem? (i := 17) rfl)) (hw _ (List.mem_of_getElem? (i := 1) rfl)) (by decide) (by decide)) q36a q36c (g := (mkF m 72 #[iv p0, iv p1, iv p2, iv p3, rv sa1, rv sa5, iv z13, iv z14, iv z18, .unset, .unset, .unset, .unset, .unset] [(.int z18), (.ref sa1), (.int z14)])) rfl (by rw [hml]; rfl) (Steps.refl _) (argsL := [(.int z18)]) (rest := [(.int z14)]) (lenOf pd_1 rfl) rfl (by show 2 * 0 + _ ≤ _; exact Nat.le_of_eq rfl) (hb hby at_72) (fun _ _ => ⟨rfl, eh16, (by decide : 4 + 0 ≤ _), (by decide : 136 + 0 ≤ _)⟩)
      dsimp only [Pt.U, Pt.locs, Pt.cells, Pt.slots] at X36 l36 y36 z36 st36 hQ36
      subst l36 y36 z36
      obtain ⟨rfl, N36q, eh36⟩ := hQ36
      have N37 := Fr.app N17 N36q
      refine own_viaW (fun k => st36.trans k) ?_
      show own_GoW p e below s _ _ (T36.setTop (mkF m 75 #[iv p0, iv p1, iv p2, iv p3, rv sa1, rv sa5, iv z13, iv z14, iv z18, .unset, .unset, .unset, .unset, .unset] [(.int (own_lo z18)), (.int z14)]))
      by_cases hc38 : z14 = (own_lo z18)
      · refine own_viaW (fun k => XS.icmpYes X36.here hx rfl (pc0 := 75) (pc' := 90) rfl (hb hby at_75) rfl (teq hc38).1 (by decide) (by decide) k) ?_
        show own_GoW p e below s _ _ (T36.setTop (mkF m 90 #[iv p0, iv p1, iv p2, iv p3, rv sa1, rv sa5, iv z13, iv z14, iv z18, .unset, .unset, .unset, .unset, .unset] []))
        refine own_viaW (fun k => XS.iconst X36.here hx rfl (hb hby at_90) (XS.goto X36.here hx rfl (pc0 := 91) (pc' := 95) rfl (hb hby at_91) (by decide) (by decide) (XS.istore X36.here hx rfl (hb hby at_95) rfl (l' := #[iv p0, iv p1, iv p2, iv p3, rv sa1, rv sa5, iv z13, iv z14, iv z18, iv 1, .unset, .unset, .unset, .unset]) rfl (XS.goto X36.here hx rfl (pc0 := 97) (pc' := 103) rfl (hb hby at_97) (by decide) (by decide) k)))) ?_
        show own_GoW p e below s _ _ (T36.setTop (mkF m 103 #[iv p0, iv p1, iv p2, iv p3, rv sa1, rv sa5, iv z13, iv z14, iv z18, iv 1, .unset, .unset, .unset, .unset] []))
        refine own_viaW (fun k => XS.iloadN X36.here hx rfl (hb hby at_103) rfl  (XS.bipush X36.here hx rfl (hb hby at_104) (XS.iand X36.here hx rfl (hb hby at_106) rfl k))) ?_
        show own_GoW p e below s _ _ (T36.setTop (mkF m 107 #[iv p0, iv p1, iv p2, iv p3, rv sa1, rv sa5, iv z13, iv z14, iv z18, iv 1, .unset, .unset, .unset, .unset] [(.int (p2 &&& (15 : Int32)))]))
        obtain ⟨z39, hz39⟩ : ∃ z : Int32, z = (p2 &&& (15 : Int32)) := ⟨_, rfl⟩
        rw [← hz39]
        show own_GoW p e below s _ _ (T36.setTop (mkF m 107 #[iv p0, iv p1, iv p2, iv p3, rv sa1, rv sa5, iv z13, iv z14, iv z18, iv 1, .unset, .unset, .unset, .unset] [(.int z39)]))
        refine own_viaW (fun k => XS.istore X36.here hx rfl (hb hby at_107) rfl (l' := #[iv p0, iv p1, iv p2, iv p3, rv sa1, rv sa5, iv z13, iv z14, iv z18, iv 1, iv z39, .unset, .unset, .unset]) rfl (XS.iloadN X36.here hx rfl (hb hby at_109) rfl  (XS.iconst X36.here hx rfl (hb hby at_110) (XS.iand X36.here hx rfl (hb hby at_111) rfl k)))) ?_
        show own_GoW p e below s _ _ (T36.setTop (mkF m 112 #[iv p0, iv p1, iv p2, iv p3, rv sa1, rv sa5, iv z13, iv z14, iv z18, iv 1, iv z39, .unset, .unset, .unset] [(.int (p3 &&& (2 : Int32)))]))
        by_cases hc40 : (p3 &&& (2 : Int32)) = (0 : Int32)
        · refine own_viaW (fun k => XS.ifYes X36.here hx rfl (pc0 := 112) (pc' := 125) rfl (hb hby at_112) rfl ((if0 _ _).trans (teq hc40).1) (by decide) (by decide) k) ?_
          show own_GoW p e below s _ _ (T36.setTop (mkF m 125 #[iv p0, iv p1, iv p2, iv p3, rv sa1, rv sa5, iv z13, iv z14, iv z18, iv 1, iv z39, .unset, .unset, .unset] []))
          refine own_viaW (fun k => XS.aload X36.here hx rfl (hb hby at_125) rfl rfl  (XS.iload X36.here hx rfl (hb hby at_127) rfl  k)) ?_
          show own_GoW p e below s _ _ (T36.setTop (mkF m 129 #[iv p0, iv p1, iv p2, iv p3, rv sa1, rv sa5, iv z13, iv z14, iv z18, iv 1, iv z39, .unset, .unset, .unset] [(.int z39), (.ref sa1)]))
          obtain ⟨cq41, kq41, q41a, q41b, q41c⟩ := isOf hZ eh36 B8
          obtain ⟨_, _, ⟨T41, L41, k41, n41⟩, -, X41, ⟨Lc41, hQ41, l41, y41, z41⟩, st41⟩ := X36.virtualBack hx (y := (⟨"java/lang/String", "charAt", "(I)C"⟩ : MethodName)) (z := (⟨"java/lang/String", "charAt", "(I)C"⟩ : MethodName)) hown (mvT hZ (hw _ (List.mem_of_getElem? (i := 13) rfl))) (mvT hZ (hw _ (List.mem_of_getElem? (i := 14) rfl))) (notFace_of_selects (args := #[]) (mvT hZ (hw _ (List.mem_of_getElem? (i := 16) rfl)))) (mvT hZ (hw _ (List.mem_of_getElem? (i := 16) rfl))) (mvT hZ (hw _ (List.mem_of_getElem? (i := 15) rfl))) (by decide) (backOf (W := 0) (rm2 l Z aw hw [] sa1 z39 sb1 kb1 [(.int 48), (.int 49), (.int 50), (.int 51), (.int 52), (.int 53), (.int 54), (.int 55), (.int 56), (.int 57), (.int 97), (.int 98), (.int 99), (.int 100), (.int 101), (.int 102)] cw G3 (own_lo z39) h5 n0 Z12 B8 B9 B10 B11 B6 B7 hcz hg3 (hz39 ▸ (own_m15 p2).1) (hz39 ▸ (own_m15 p2).2) (own_loV ((hz39 ▸ (own_m15 p2).1)) ((hz39 ▸ (own_m15 p2).2))) (own_loN ((hz39 ▸ (own_m15 p2).1)) ((hz39 ▸ (own_m15 p2).2))) (own_loM ((hz39 ▸ (own_m15 p2).1)) ((hz39 ▸ (own_m15 p2).2)))) hZ (hw _ (List.mem_of_getElem? (i := 17) rfl)) (hw _ (List.mem_of_getElem? (i := 1) rfl)) (by decide) (by decide)) q41a q41c (g := (mkF m 129 #[iv p0, iv p1, iv p2, iv p3, rv sa1, rv sa5, iv z13, iv z14, iv z18, iv 1, iv z39, .unset, .unset, .unset] [(.int z39), (.ref sa1)])) rfl (by rw [hml]; rfl) (Steps.refl _) (argsL := [(.int z39)]) (rest := []) (lenOf pd_1 rfl) rfl (by show 2 * 0 + _ ≤ _; exact Nat.le_of_eq rfl) (hb hby at_129) (fun _ _ => ⟨rfl, eh36, (by decide : 4 + 0 ≤ _), (by decide : 136 + 0 ≤ _)⟩)
          dsimp only [Pt.U, Pt.locs, Pt.cells, Pt.slots] at X41 l41 y41 z41 st41 hQ41
          subst l41 y41 z41
          obtain ⟨rfl, N41q, eh41⟩ := hQ41
          have N42 := Fr.app N37 N41q
          refine own_viaW (fun k => st41.trans k) ?_
          show own_GoW p e below s _ _ (T41.setTop (mkF m 132 #[iv p0, iv p1, iv p2, iv p3, rv sa1, rv sa5, iv z13, iv z14, iv z18, iv 1, iv z39, .unset, .unset, .unset] [(.int (own_lo z39))]))
          refine own_viaW (fun k => XS.istore X41.here hx rfl (hb hby at_132) rfl (l' := #[iv p0, iv p1, iv p2, iv p3, rv sa1, rv sa5, iv z13, iv z14, iv z18, iv 1, iv z39, iv (own_lo z39), .unset, .unset]) rfl (XS.iload X41.here hx rfl (hb hby at_134) rfl  (XS.iload X41.here hx rfl (hb hby at_136) rfl  k))) ?_
          show own_GoW p e below s _ _ (T41.setTop (mkF m 138 #[iv p0, iv p1, iv p2, iv p3, rv sa1, rv sa5, iv z13, iv z14, iv z18, iv 1, iv z39, iv (own_lo z39), .unset, .unset] [(.int z13), (.int z39)]))
          by_cases hc43 : z39 < z13
          · refine own_viaW (fun k => XS.icmpNo X41.here hx rfl (hb hby at_138) rfl (tlt hc43).2.1 k) ?_
            show own_GoW p e below s _ _ (T41.setTop (mkF m 141 #[iv p0, iv p1, iv p2, iv p3, rv sa1, rv sa5, iv z13, iv z14, iv z18, iv 1, iv z39, iv (own_lo z39), .unset, .unset] []))
            refine own_viaW (fun k => XS.iload X41.here hx rfl (hb hby at_141) rfl  (XS.goto X41.here hx rfl (pc0 := 143) (pc' := 147) rfl (hb hby at_143) (by decide) (by decide) (XS.istore X41.here hx rfl (hb hby at_147) rfl (l' := #[iv p0, iv p1, iv p2, iv p3, rv sa1, rv sa5, iv z13, iv z14, iv z18, iv 1, iv z39, iv (own_lo z39), iv z39, .unset]) rfl (XS.iload X41.here hx rfl (hb hby at_149) rfl  k)))) ?_
            show own_GoW p e below s _ _ (T41.setTop (mkF m 151 #[iv p0, iv p1, iv p2, iv p3, rv sa1, rv sa5, iv z13, iv z14, iv z18, iv 1, iv z39, iv (own_lo z39), iv z39, .unset] [(.int (own_lo z39))]))
            refine own_viaW (fun k => XS.iload X41.here hx rfl (hb hby at_151) rfl  k) ?_
            show own_GoW p e below s _ _ (T41.setTop (mkF m 153 #[iv p0, iv p1, iv p2, iv p3, rv sa1, rv sa5, iv z13, iv z14, iv z18, iv 1, iv z39, iv (own_lo z39), iv z39, .unset] [(.int z13), (.int (own_lo z39))]))
            obtain ⟨_, _, ⟨T44, L44, k44, n44⟩, -, X44, ⟨Lc44, hQ44, l44, y44, z44⟩, st44⟩ := Jvm.LawKit.callS X41 hx (y := (⟨"com/example/grammar_parser/grammarparser/GrammarReader", "digit", "(II)I"⟩ : MethodName)) hown (mvT hZ (hw _ (List.mem_of_getElem? (i := 9) rfl))) (mvT hZ (hw _ (List.mem_of_getElem? (i := 10) rfl))) (mvT hZ (hw _ (List.mem_of_getElem? (i := 11) rfl))) (mvT hZ (hw _ (List.mem_of_getElem? (i := 12) rfl))) (by decide) (backOf (W := 0) (rm1 l Z aw hw [] (own_lo z39) z13 h5 n0 Z12) hZ (hw _ (List.mem_of_getElem? (i := 12) rfl)) (hw _ (List.mem_of_getElem? (i := 11) rfl)) (by decide) (by decide)) (g := (mkF m 153 #[iv p0, iv p1, iv p2, iv p3, rv sa1, rv sa5, iv z13, iv z14, iv z18, iv 1, iv z39, iv (own_lo z39), iv z39, .unset] [(.int z13), (.int (own_lo z39))])) rfl (by rw [hml]; rfl) (argsL := [(.int (own_lo z39)), (.int z13)]) (rest := []) (lenOf pd_0 rfl) rfl (by show 2 * 0 + _ ≤ _; exact Nat.le_of_eq rfl) (hb hby at_153) (fun _ _ => ⟨rfl, eh41, (by decide : 4 + 0 ≤ _), (by decide : 136 + 0 ≤ _)⟩)
            dsimp only [Pt.U, Pt.locs, Pt.cells, Pt.slots] at X44 l44 y44 z44 st44 hQ44
            subst l44 y44 z44
            obtain ⟨rfl, N44q, eh44⟩ := hQ44
            have N45 := Fr.app N42 N44q
            refine own_viaW (fun k => st44 _ k) ?_
            show own_GoW p e below s _ _ (T44.setTop (mkF m 156 #[iv p0, iv p1, iv p2, iv p3, rv sa1, rv sa5, iv z13, iv z14, iv z18, iv 1, iv z39, iv (own_lo z39), iv z39, .unset] [(.int (own_f1 (own_lo z39) z13))]))
            refine own_viaW (fun k => XS.iload X44.here hx rfl (hb hby at_156) rfl  k) ?_
            show own_GoW p e below s _ _ (T44.setTop (mkF m 158 #[iv p0, iv p1, iv p2, iv p3, rv sa1, rv sa5, iv z13, iv z14, iv z18, iv 1, iv z39, iv (own_lo z39), iv z39, .unset] [(.int z39), (.int (own_f1 (own_lo z39) z13))]))
            refine own_viaW (fun k => XS.icmpNo X44.here hx rfl (hb hby at_158) rfl (teq (own_ly hz39 hc43)).2 k) ?_
            show own_GoW p e below s _ _ (T44.setTop (mkF m 161 #[iv p0, iv p1, iv p2, iv p3, rv sa1, rv sa5, iv z13, iv z14, iv z18, iv 1, iv z39, iv (own_lo z39), iv z39, .unset] []))
            refine own_viaW (fun k => XS.iconst X44.here hx rfl (hb hby at_161) (XS.goto X44.here hx rfl (pc0 := 162) (pc' := 166) rfl (hb hby at_162) (by decide) (by decide) (XS.istore X44.here hx rfl (hb hby at_166) rfl (l' := #[iv p0, iv p1, iv p2, iv p3, rv sa1, rv sa5, iv z13, iv z14, iv z18, iv 1, iv z39, iv (own_lo z39), iv z39, iv 1]) rfl (XS.iload X44.here hx rfl (hb hby at_168) rfl  k)))) ?_
            show own_GoW p e below s _ _ (T44.setTop (mkF m 170 #[iv p0, iv p1, iv p2, iv p3, rv sa1, rv sa5, iv z13, iv z14, iv z18, iv 1, iv z39, iv (own_lo z39), iv z39, iv 1] [(.int 1)]))
            refine own_viaW (fun k => XS.ifNo X44.here hx rfl (hb hby at_170) rfl (by decide) k) ?_
            show own_GoW p e below s _ _ (T44.setTop (mkF m 173 #[iv p0, iv p1, iv p2, iv p3, rv sa1, rv sa5, iv z13, iv z14, iv z18, iv 1, iv z39, iv (own_lo z39), iv z39, iv 1] []))
            refine own_viaW (fun k => XS.iload X44.here hx rfl (hb hby at_173) rfl  k) ?_
            show own_GoW p e below s _ _ (T44.setTop (mkF m 175 #[iv p0, iv p1, iv p2, iv p3, rv sa1, rv sa5, iv z13, iv z14, iv z18, iv 1, iv z39, iv (own_lo z39), iv z39, iv 1] [(.int 1)]))
            refine own_viaW (fun k => XS.ifNo X44.here hx rfl (hb hby at_175) rfl (by decide) k) ?_
            show own_GoW p e below s _ _ (T44.setTop (mkF m 178 #[iv p0, iv p1, iv p2, iv p3, rv sa1, rv sa5, iv z13, iv z14, iv z18, iv 1, iv z39, iv (own_lo z39), iv z39, iv 1] []))
            refine own_viaW (fun k => XS.iconst X44.here hx rfl (hb hby at_178) (XS.goto X44.here hx rfl (pc0 := 179) (pc' := 183) rfl (hb hby at_179) (by decide) (by decide) k)) ?_
            show own_GoW p e below s _ _ (T44.setTop (mkF m 183 #[iv p0, iv p1, iv p2, iv p3, rv sa1, rv sa5, iv z13, iv z14, iv z18, iv 1, iv z39, iv (own_lo z39), iv z39, iv 1] [(.int 1)]))
            exact own_retNW X44 hx hlk (t := .boolean) Bd.returns (by simp) (hb hby at_183) SS5 (by rw [eh44]; exact ks5) (Q := (Q0 Z p0 p1 p2 p3 cw G3 h0 n0)) ⟨rfl, N45⟩ (by decide) (by decide)
          · refine own_viaW (fun k => XS.icmpYes X41.here hx rfl (pc0 := 138) (pc' := 146) rfl (hb hby at_138) rfl (flt hc43).2.1 (by decide) (by decide) k) ?_
            show own_GoW p e below s _ _ (T41.setTop (mkF m 146 #[iv p0, iv p1, iv p2, iv p3, rv sa1, rv sa5, iv z13, iv z14, iv z18, iv 1, iv z39, iv (own_lo z39), .unset, .unset] []))
            refine own_viaW (fun k => XS.iconst X41.here hx rfl (hb hby at_146) (XS.istore X41.here hx rfl (hb hby at_147) rfl (l' := #[iv p0, iv p1, iv p2, iv p3, rv sa1, rv sa5, iv z13, iv z14, iv z18, iv 1, iv z39, iv (own_lo z39), iv (-1), .unset]) rfl (XS.iload X41.here hx rfl (hb hby at_149) rfl  (XS.iload X41.here hx rfl (hb hby at_151) rfl  k)))) ?_
            show own_GoW p e below s _ _ (T41.setTop (mkF m 153 #[iv p0, iv p1, iv p2, iv p3, rv sa1, rv sa5, iv z13, iv z14, iv z18, iv 1, iv z39, iv (own_lo z39), iv (-1), .unset] [(.int z13), (.int (own_lo z39))]))
            obtain ⟨_, _, ⟨T46, L46, k46, n46⟩, -, X46, ⟨Lc46, hQ46, l46, y46, z46⟩, st46⟩ := Jvm.LawKit.callS X41 hx (y := (⟨"com/example/grammar_parser/grammarparser/GrammarReader", "digit", "(II)I"⟩ : MethodName)) hown (mvT hZ (hw _ (List.mem_of_getElem? (i := 9) rfl))) (mvT hZ (hw _ (List.mem_of_getElem? (i := 10) rfl))) (mvT hZ (hw _ (List.mem_of_getElem? (i := 11) rfl))) (mvT hZ (hw _ (List.mem_of_getElem? (i := 12) rfl))) (by decide) (backOf (W := 0) (rm1 l Z aw hw [] (own_lo z39) z13 h5 n0 Z12) hZ (hw _ (List.mem_of_getElem? (i := 12) rfl)) (hw _ (List.mem_of_getElem? (i := 11) rfl)) (by decide) (by decide)) (g := (mkF m 153 #[iv p0, iv p1, iv p2, iv p3, rv sa1, rv sa5, iv z13, iv z14, iv z18, iv 1, iv z39, iv (own_lo z39), iv (-1), .unset] [(.int z13), (.int (own_lo z39))])) rfl (by rw [hml]; rfl) (argsL := [(.int (own_lo z39)), (.int z13)]) (rest := []) (lenOf pd_0 rfl) rfl (by show 2 * 0 + _ ≤ _; exact Nat.le_of_eq rfl) (hb hby at_153) (fun _ _ => ⟨rfl, eh41, (by decide : 4 + 0 ≤ _), (by decide : 136 + 0 ≤ _)⟩)
            dsimp only [Pt.U, Pt.locs, Pt.cells, Pt.slots] at X46 l46 y46 z46 st46 hQ46
            subst l46 y46 z46
            obtain ⟨rfl, N46q, eh46⟩ := hQ46
            have N47 := Fr.app N42 N46q
            refine own_viaW (fun k => st46 _ k) ?_
            show own_GoW p e below s _ _ (T46.setTop (mkF m 156 #[iv p0, iv p1, iv p2, iv p3, rv sa1, rv sa5, iv z13, iv z14, iv z18, iv 1, iv z39, iv (own_lo z39), iv (-1), .unset] [(.int (own_f1 (own_lo z39) z13))]))
            refine own_viaW (fun k => XS.iload X46.here hx rfl (hb hby at_156) rfl  k) ?_
            show own_GoW p e below s _ _ (T46.setTop (mkF m 158 #[iv p0, iv p1, iv p2, iv p3, rv sa1, rv sa5, iv z13, iv z14, iv z18, iv 1, iv z39, iv (own_lo z39), iv (-1), .unset] [(.int (-1)), (.int (own_f1 (own_lo z39) z13))]))
            refine own_viaW (fun k => XS.icmpNo X46.here hx rfl (hb hby at_158) rfl (teq (own_ln hz39 hc43)).2 k) ?_
            show own_GoW p e below s _ _ (T46.setTop (mkF m 161 #[iv p0, iv p1, iv p2, iv p3, rv sa1, rv sa5, iv z13, iv z14, iv z18, iv 1, iv z39, iv (own_lo z39), iv (-1), .unset] []))
            refine own_viaW (fun k => XS.iconst X46.here hx rfl (hb hby at_161) (XS.goto X46.here hx rfl (pc0 := 162) (pc' := 166) rfl (hb hby at_162) (by decide) (by decide) (XS.istore X46.here hx rfl (hb hby at_166) rfl (l' := #[iv p0, iv p1, iv p2, iv p3, rv sa1, rv sa5, iv z13, iv z14, iv z18, iv 1, iv z39, iv (own_lo z39), iv (-1), iv 1]) rfl (XS.iload X46.here hx rfl (hb hby at_168) rfl  k)))) ?_
            show own_GoW p e below s _ _ (T46.setTop (mkF m 170 #[iv p0, iv p1, iv p2, iv p3, rv sa1, rv sa5, iv z13, iv z14, iv z18, iv 1, iv z39, iv (own_lo z39), iv (-1), iv 1] [(.int 1)]))
            refine own_viaW (fun k => XS.ifNo X46.here hx rfl (hb hby at_170) rfl (by decide) k) ?_
            show own_GoW p e below s _ _ (T46.setTop (mkF m 173 #[iv p0, iv p1, iv p2, iv p3, rv sa1, rv sa5, iv z13, iv z14, iv z18, iv 1, iv z39, iv (own_lo z39), iv (-1), iv 1] []))
            refine own_viaW (fun k => XS.iload X46.here hx rfl (hb hby at_173) rfl  k) ?_
            show own_GoW p e below s _ _ (T46.setTop (mkF m 175 #[iv p0, iv p1, iv p2, iv p3, rv sa1, rv sa5, iv z13, iv z14, iv z18, iv 1, iv z39, iv (own_lo z39), iv (-1), iv 1] [(.int 1)]))
            refine own_viaW (fun k => XS.ifNo X46.here hx rfl (hb hby at_175) rfl (by decide) k) ?_
            show own_GoW p e below s _ _ (T46.setTop (mkF m 178 #[iv p0, iv p1, iv p2, iv p3, rv sa1, rv sa5, iv z13, iv z14, iv z18, iv 1, iv z39, iv (own_lo z39), iv (-1), iv 1] []))
            refine own_viaW (fun k => XS.iconst X46.here hx rfl (hb hby at_178) (XS.goto X46.here hx rfl (pc0 := 179) (pc' := 183) rfl (hb hby at_179) (by decide) (by decide) k)) ?_
            show own_GoW p e below s _ _ (T46.setTop (mkF m 183 #[iv p0, iv p1, iv p2, iv p3, rv sa1, rv sa5, iv z13, iv z14, iv z18, iv 1, iv z39, iv (own_lo z39), iv (-1), iv 1] [(.int 1)]))
            exact own_retNW X46 hx hlk (t := .boolean) Bd.returns (by simp) (hb hby at_183) SS5 (by rw [eh46]; exact ks5) (Q := (Q0 Z p0 p1 p2 p3 cw G3 h0 n0)) ⟨rfl, N47⟩ (by decide) (by decide)
        · refine own_viaW (fun k => XS.ifNo X36.here hx rfl (hb hby at_112) rfl ((if0 _ _).trans (feq hc40).1) k) ?_
          show own_GoW p e below s _ _ (T36.setTop (mkF m 115 #[iv p0, iv p1, iv p2, iv p3, rv sa1, rv sa5, iv z13, iv z14, iv z18, iv 1, iv z39, .unset, .unset, .unset] []))
          refine own_viaW (fun k => XS.aload X36.here hx rfl (hb hby at_115) rfl rfl  (XS.iload X36.here hx rfl (hb hby at_117) rfl  k)) ?_
          show own_GoW p e below s _ _ (T36.setTop (mkF m 119 #[iv p0, iv p1, iv p2, iv p3, rv sa1, rv sa5, iv z13, iv z14, iv z18, iv 1, iv z39, .unset, .unset, .unset] [(.int z39), (.ref sa5)]))
          obtain ⟨cq48, kq48, q48a, q48b, q48c⟩ := isOf hZ eh36 A5
          obtain ⟨_, _, ⟨T48, L48, k48, n48⟩, -, X48, ⟨Lc48, hQ48, l48, y48, z48⟩, st48⟩ := X36.virtualBack hx (y := (⟨"java/lang/String", "charAt", "(I)C"⟩ : MethodName)) (z := (⟨"java/lang/String", "charAt", "(I)C"⟩ : MethodName)) hown (mvT hZ (hw _ (List.mem_of_getElem? (i := 13) rfl))) (mvT hZ (hw _ (List.mem_of_getElem? (i := 14) rfl))) (notFace_of_selects (args := #[]) (mvT hZ (hw _ (List.mem_of_getElem? (i := 16) rfl)))) (mvT hZ (hw _ (List.mem_of_getElem? (i := 16) rfl))) (mvT hZ (hw _ (List.mem_of_getElem? (i := 15) rfl))) (by decide) (backOf (W := 0) (rm2 l Z aw hw [] sa5 z39 sb5 kb5 [(.int 48), (.int 49), (.int 50), (.int 51), (.int 52), (.int 53), (.int 54), (.int 55), (.int 56), (.int 57), (.int 65), (.int 66), (.int 67), (.int 68), (.int 69), (.int 70)] cw G3 (own_up z39) h5 n0 Z12 A5 C5 F5 V5 B6 B7 hcz hg3 (hz39 ▸ (own_m15 p2).1) (hz39 ▸ (own_m15 p2).2) (own_upV ((hz39 ▸ (own_m15 p2).1)) ((hz39 ▸ (own_m15 p2).2))) (own_upN ((hz39 ▸ (own_m15 p2).1)) ((hz39 ▸ (own_m15 p2).2))) (own_upM ((hz39 ▸ (own_m15 p2).1)) ((hz39 ▸ (own_m15 p2).2)))) hZ (hw _ (List.mem_of_getElem? (i := 17) rfl)) (hw _ (List.mem_of_getElem? (i := 1) rfl)) (by decide) (by decide)) q48a q48c (g := (mkF m 119 #[iv p0, iv p1, iv p2, iv p3, rv sa1, rv sa5, iv z13, iv z14, iv z18, iv 1, iv z39, .unset, .unset, .unset] [(.int z39), (.ref sa5)])) rfl (by rw [hml]; rfl) (Steps.refl _) (argsL := [(.int z39)]) (rest := []) (lenOf pd_1 rfl) rfl (by show 2 * 0 + _ ≤ _; exact Nat.le_of_eq rfl) (hb hby at_119) (fun _ _ => ⟨rfl, eh36, (by decide : 4 + 0 ≤ _), (by decide : 136 + 0 ≤ _)⟩)
          dsimp only [Pt.U, Pt.locs, Pt.cells, Pt.slots] at X48 l48 y48 z48 st48 hQ48
          subst l48 y48 z48
          obtain ⟨rfl, N48q, eh48⟩ := hQ48
          have N49 := Fr.app N37 N48q
          refine own_viaW (fun k => st48.trans k) ?_
          show own_GoW p e below s _ _ (T48.setTop (mkF m 122 #[iv p0, iv p1, iv p2, iv p3, rv sa1, rv sa5, iv z13, iv z14, iv z18, iv 1, iv z39, .unset, .unset, .unset] [(.int (own_up z39))]))
          refine own_viaW (fun k => XS.goto X48.here hx rfl (pc0 := 122) (pc' := 132) rfl (hb hby at_122) (by decide) (by decide) (XS.istore X48.here hx rfl (hb hby at_132) rfl (l' := #[iv p0, iv p1, iv p2, iv p3, rv sa1, rv sa5, iv z13, iv z14, iv z18, iv 1, iv z39, iv (own_up z39), .unset, .unset]) rfl (XS.iload X48.here hx rfl (hb hby at_134) rfl  (XS.iload X48.here hx rfl (hb hby at_136) rfl  k)))) ?_
          show own_GoW p e below s _ _ (T48.setTop (mkF m 138 #[iv p0, iv p1, iv p2, iv p3, rv sa1, rv sa5, iv z13, iv z14, iv z18, iv 1, iv z39, iv (own_up z39), .unset, .unset] [(.int z13), (.int z39)]))
          by_cases hc50 : z39 < z13
          · refine own_viaW (fun k => XS.icmpNo X48.here hx rfl (hb hby at_138) rfl (tlt hc50).2.1 k) ?_
            show own_GoW p e below s _ _ (T48.setTop (mkF m 141 #[iv p0, iv p1, iv p2, iv p3, rv sa1, rv sa5, iv z13, iv z14, iv z18, iv 1, iv z39, iv (own_up z39), .unset, .unset] []))
            refine own_viaW (fun k => XS.iload X48.here hx rfl (hb hby at_141) rfl  (XS.goto X48.here hx rfl (pc0 := 143) (pc' := 147) rfl (hb hby at_143) (by decide) (by decide) (XS.istore X48.here hx rfl (hb hby at_147) rfl (l' := #[iv p0, iv p1, iv p2, iv p3, rv sa1, rv sa5, iv z13, iv z14, iv z18, iv 1, iv z39, iv (own_up z39), iv z39, .unset]) rfl (XS.iload X48.here hx rfl (hb hby at_149) rfl  k)))) ?_
            show own_GoW p e below s _ _ (T48.setTop (mkF m 151 #[iv p0, iv p1, iv p2, iv p3, rv sa1, rv sa5, iv z13, iv z14, iv z18, iv 1, iv z39, iv (own_up z39), iv z39, .unset] [(.int (own_up z39))]))
            refine own_viaW (fun k => XS.iload X48.here hx rfl (hb hby at_151) rfl  k) ?_
            show own_GoW p e below s _ _ (T48.setTop (mkF m 153 #[iv p0, iv p1, iv p2, iv p3, rv sa1, rv sa5, iv z13, iv z14, iv z18, iv 1, iv z39, iv (own_up z39), iv z39, .unset] [(.int z13), (.int (own_up z39))]))
            obtain ⟨_, _, ⟨T51, L51, k51, n51⟩, -, X51, ⟨Lc51, hQ51, l51, y51, z51⟩, st51⟩ := Jvm.LawKit.callS X48 hx (y := (⟨"com/example/grammar_parser/grammarparser/GrammarReader", "digit", "(II)I"⟩ : MethodName)) hown (mvT hZ (hw _ (List.mem_of_getElem? (i := 9) rfl))) (mvT hZ (hw _ (List.mem_of_getElem? (i := 10) rfl))) (mvT hZ (hw _ (List.mem_of_getElem? (i := 11) rfl))) (mvT hZ (hw _ (List.mem_of_getElem? (i := 12) rfl))) (by decide) (backOf (W := 0) (rm1 l Z aw hw [] (own_up z39) z13 h5 n0 Z12) hZ (hw _ (List.mem_of_getElem? (i := 12) rfl)) (hw _ (List.mem_of_getElem? (i := 11) rfl)) (by decide) (by decide)) (g := (mkF m 153 #[iv p0, iv p1, iv p2, iv p3, rv sa1, rv sa5, iv z13, iv z14, iv z18, iv 1, iv z39, iv (own_up z39), iv z39, .unset] [(.int z13), (.int (own_up z39))])) rfl (by rw [hml]; rfl) (argsL := [(.int (own_up z39)), (.int z13)]) (rest := []) (lenOf pd_0 rfl) rfl (by show 2 * 0 + _ ≤ _; exact Nat.le_of_eq rfl) (hb hby at_153) (fun _ _ => ⟨rfl, eh48, (by decide : 4 + 0 ≤ _), (by decide : 136 + 0 ≤ _)⟩)
            dsimp only [Pt.U, Pt.locs, Pt.cells, Pt.slots] at X51 l51 y51 z51 st51 hQ51
            subst l51 y51 z51
            obtain ⟨rfl, N51q, eh51⟩ := hQ51
            have N52 := Fr.app N49 N51q
            refine own_viaW (fun k => st51 _ k) ?_
            show own_GoW p e below s _ _ (T51.setTop (mkF m 156 #[iv p0, iv p1, iv p2, iv p3, rv sa1, rv sa5, iv z13, iv z14, iv z18, iv 1, iv z39, iv (own_up z39), iv z39, .unset] [(.int (own_f1 (own_up z39) z13))]))
            refine own_viaW (fun k => XS.iload X51.here hx rfl (hb hby at_156) rfl  k) ?_
            show own_GoW p e below s _ _ (T51.setTop (mkF m 158 #[iv p0, iv p1, iv p2, iv p3, rv sa1, rv sa5, iv z13, iv z14, iv z18, iv 1, iv z39, iv (own_up z39), iv z39, .unset] [(.int z39), (.int (own_f1 (own_up z39) z13))]))
            refine own_viaW (fun k => XS.icmpNo X51.here hx rfl (hb hby at_158) rfl (teq (own_uy hz39 hc50)).2 k) ?_
            show own_GoW p e below s _ _ (T51.setTop (mkF m 161 #[iv p0, iv p1, iv p2, iv p3, rv sa1, rv sa5, iv z13, iv z14, iv z18, iv 1, iv z39, iv (own_up z39), iv z39, .unset] []))
            refine own_viaW (fun k => XS.iconst X51.here hx rfl (hb hby at_161) (XS.goto X51.here hx rfl (pc0 := 162) (pc' := 166) rfl (hb hby at_162) (by decide) (by decide) (XS.istore X51.here hx rfl (hb hby at_166) rfl (l' := #[iv p0, iv p1, iv p2, iv p3, rv sa1, rv sa5, iv z13, iv z14, iv z18, iv 1, iv z39, iv (own_up z39), iv z39, iv 1]) rfl (XS.iload X51.here hx rfl (hb hby at_168) rfl  k)))) ?_
            show own_GoW p e below s _ _ (T51.setTop (mkF m 170 #[iv p0, iv p1, iv p2, iv p3, rv sa1, rv sa5, iv z13, iv z14, iv z18, iv 1, iv z39, iv (own_up z39), iv z39, iv 1] [(.int 1)]))
            refine own_viaW (fun k => XS.ifNo X51.here hx rfl (hb hby at_170) rfl (by decide) k) ?_
            show own_GoW p e below s _ _ (T51.setTop (mkF m 173 #[iv p0, iv p1, iv p2, iv p3, rv sa1, rv sa5, iv z13, iv z14, iv z18, iv 1, iv z39, iv (own_up z39), iv z39, iv 1] []))
            refine own_viaW (fun k => XS.iload X51.here hx rfl (hb hby at_173) rfl  k) ?_
            show own_GoW p e below s _ _ (T51.setTop (mkF m 175 #[iv p0, iv p1, iv p2, iv p3, rv sa1, rv sa5, iv z13, iv z14, iv z18, iv 1, iv z39, iv (own_up z39), iv z39, iv 1] [(.int 1)]))
            refine own_viaW (fun k => XS.ifNo X51.here hx rfl (hb hby at_175) rfl (by decide) k) ?_
            show own_GoW p e below s _ _ (T51.setTop (mkF m 178 #[iv p0, iv p1, iv p2, iv p3, rv sa1, rv sa5, iv z13, iv z14, iv z18, iv 1, iv z39, iv (own_up z39), iv z39, iv 1] []))
            refine own_viaW (fun k => XS.iconst X51.here hx rfl (hb hby at_178) (XS.goto X51.here hx rfl (pc0 := 179) (pc' := 183) rfl (hb hby at_179) (by decide) (by decide) k)) ?_
            show own_GoW p e below s _ _ (T51.setTop (mkF m 183 #[iv p0, iv p1, iv p2, iv p3, rv sa1, rv sa5, iv z13, iv z14, iv z18, iv 1, iv z39, iv (own_up z39), iv z39, iv 1] [(.int 1)]))
            exact own_retNW X51 hx hlk (t := .boolean) Bd.returns (by simp) (hb hby at_183) SS5 (by rw [eh51]; exact ks5) (Q := (Q0 Z p0 p1 p2 p3 cw G3 h0 n0)) ⟨rfl, N52⟩ (by decide) (by decide)
          · refine own_viaW (fun k => XS.icmpYes X48.here hx rfl (pc0 := 138) (pc' := 146) rfl (hb hby at_138) rfl (flt hc50).2.1 (by decide) (by decide) k) ?_
            show own_GoW p e below s _ _ (T48.setTop (mkF m 146 #[iv p0, iv p1, iv p2, iv p3, rv sa1, rv sa5, iv z13, iv z14, iv z18, iv 1, iv z39, iv (own_up z39), .unset, .unset] []))
            refine own_viaW (fun k => XS.iconst X48.here hx rfl (hb hby at_146) (XS.istore X48.here hx rfl (hb hby at_147) rfl (l' := #[iv p0, iv p1, iv p2, iv p3, rv sa1, rv sa5, iv z13, iv z14, iv z18, iv 1, iv z39, iv (own_up z39), iv (-1), .unset]) rfl (XS.iload X48.here hx rfl (hb hby at_149) rfl  (XS.iload X48.here hx rfl (hb hby at_151) rfl  k)))) ?_
            show own_GoW p e below s _ _ (T48.setTop (mkF m 153 #[iv p0, iv p1, iv p2, iv p3, rv sa1, rv sa5, iv z13, iv z14, iv z18, iv 1, iv z39, iv (own_up z39), iv (-1), .unset] [(.int z13), (.int (own_up z39))]))
            obtain ⟨_, _, ⟨T53, L53, k53, n53⟩, -, X53, ⟨Lc53, hQ53, l53, y53, z53⟩, st53⟩ := Jvm.LawKit.callS X48 hx (y := (⟨"com/example/grammar_parser/grammarparser/GrammarReader", "digit", "(II)I"⟩ : MethodName)) hown (mvT hZ (hw _ (List.mem_of_getElem? (i := 9) rfl))) (mvT hZ (hw _ (List.mem_of_getElem? (i := 10) rfl))) (mvT hZ (hw _ (List.mem_of_getElem? (i := 11) rfl))) (mvT hZ (hw _ (List.mem_of_getElem? (i := 12) rfl))) (by decide) (backOf (W := 0) (rm1 l Z aw hw [] (own_up z39) z13 h5 n0 Z12) hZ (hw _ (List.mem_of_getElem? (i := 12) rfl)) (hw _ (List.mem_of_getElem? (i := 11) rfl)) (by decide) (by decide)) (g := (mkF m 153 #[iv p0, iv p1, iv p2, iv p3, rv sa1, rv sa5, iv z13, iv z14, iv z18, iv 1, iv z39, iv (own_up z39), iv (-1), .unset] [(.int z13), (.int (own_up z39))])) rfl (by rw [hml]; rfl) (argsL := [(.int (own_up z39)), (.int z13)]) (rest := []) (lenOf pd_0 rfl) rfl (by show 2 * 0 + _ ≤ _; exact Nat.le_of_eq rfl) (hb hby at_153) (fun _ _ => ⟨rfl, eh48, (by decide : 4 + 0 ≤ _), (by decide : 136 + 0 ≤ _)⟩)
            dsimp only [Pt.U, Pt.locs, Pt.cells, Pt.slots] at X53 l53 y53 z53 st53 hQ53
            subst l53 y53 z53
            obtain ⟨rfl, N53q, eh53⟩ := hQ53
            have N54 := Fr.app N49 N53q
            refine own_viaW (fun k => st53 _ k) ?_
            show own_GoW p e below s _ _ (T53.setTop (mkF m 156 #[iv p0, iv p1, iv p2, iv p3, rv sa1, rv sa5, iv z13, iv z14, iv z18, iv 1, iv z39, iv (own_up z39), iv (-1), .unset] [(.int (own_f1 (own_up z39) z13))]))
            refine own_viaW (fun k => XS.iload X53.here hx rfl (hb hby at_156) rfl  k) ?_
            show own_GoW p e below s _ _ (T53.setTop (mkF m 158 #[iv p0, iv p1, iv p2, iv p3, rv sa1, rv sa5, iv z13, iv z14, iv z18, iv 1, iv z39, iv (own_up z39), iv (-1), .unset] [(.int (-1)), (.int (own_f1 (own_up z39) z13))]))
            refine own_viaW (fun k => XS.icmpNo X53.here hx rfl (hb hby at_158) rfl (teq (own_un hz39 hc50)).2 k) ?_
            show own_GoW p e below s _ _ (T53.setTop (mkF m 161 #[iv p0, iv p1, iv p2, iv p3, rv sa1, rv sa5, iv z13, iv z14, iv z18, iv 1, iv z39, iv (own_up z39), iv (-1), .unset] []))
            refine own_viaW (fun k => XS.iconst X53.here hx rfl (hb hby at_161) (XS.goto X53.here hx rfl (pc0 := 162) (pc' := 166) rfl (hb hby at_162) (by decide) (by decide) (XS.istore X53.here hx rfl (hb hby at_166) rfl (l' := #[iv p0, iv p1, iv p2, iv p3, rv sa1, rv sa5, iv z13, iv z14, iv z18, iv 1, iv z39, iv (own_up z39), iv (-1), iv 1]) rfl (XS.iload X53.here hx rfl (hb hby at_168) rfl  k)))) ?_
            show own_GoW p e below s _ _ (T53.setTop (mkF m 170 #[iv p0, iv p1, iv p2, iv p3, rv sa1, rv sa5, iv z13, iv z14, iv z18, iv 1, iv z39, iv (own_up z39), iv (-1), iv 1] [(.int 1)]))
            refine own_viaW (fun k => XS.ifNo X53.here hx rfl (hb hby at_170) rfl (by decide) k) ?_
            show own_GoW p e below s _ _ (T53.setTop (mkF m 173 #[iv p0, iv p1, iv p2, iv p3, rv sa1, rv sa5, iv z13, iv z14, iv z18, iv 1, iv z39, iv (own_up z39), iv (-1), iv 1] []))
            refine own_viaW (fun k => XS.iload X53.here hx rfl (hb hby at_173) rfl  k) ?_
            show own_GoW p e below s _ _ (T53.setTop (mkF m 175 #[iv p0, iv p1, iv p2, iv p3, rv sa1, rv sa5, iv z13, iv z14, iv z18, iv 1, iv z39, iv (own_up z39), iv (-1), iv 1] [(.int 1)]))
            refine own_viaW (fun k => XS.ifNo X53.here hx rfl (hb hby at_175) rfl (by decide) k) ?_
            show own_GoW p e below s _ _ (T53.setTop (mkF m 178 #[iv p0, iv p1, iv p2, iv p3, rv sa1, rv sa5, iv z13, iv z14, iv z18, iv 1, iv z39, iv (own_up z39), iv (-1), iv 1] []))
            refine own_viaW (fun k => XS.iconst X53.here hx rfl (hb hby at_178) (XS.goto X53.here hx rfl (pc0 := 179) (pc' := 183) rfl (hb hby at_179) (by decide) (by decide) k)) ?_
            show own_GoW p e below s _ _ (T53.setTop (mkF m 183 #[iv p0, iv p1, iv p2, iv p3, rv sa1, rv sa5, iv z13, iv z14, iv z18, iv 1, iv z39, iv (own_up z39), iv (-1), iv 1] [(.int 1)]))
            exact own_retNW X53 hx hlk (t := .boolean) Bd.returns (by simp) (hb hby at_183) SS5 (by rw [eh53]; exact ks5) (Q := (Q0 Z p0 p1 p2 p3 cw G3 h0 n0)) ⟨rfl, N54⟩ (by decide) (by decide)
      · refine own_viaW (fun k => XS.icmpNo X36.here hx rfl (hb hby at_75) rfl (feq hc38).1 k) ?_
        show own_GoW p e below s _ _ (T36.setTop (mkF m 78 #[iv p0, iv p1, iv p2, iv p3, rv sa1, rv sa5, iv z13, iv z14, iv z18, .unset, .unset, .unset, .unset, .unset] []))
        refine own_viaW (fun k => XS.iload X36.here hx rfl (hb hby at_78) rfl  (XS.aload X36.here hx rfl (hb hby at_80) rfl rfl  (XS.iload X36.here hx rfl (hb hby at_82) rfl  k))) ?_
        show own_GoW p e below s _ _ (T36.setTop (mkF m 84 #[iv p0, iv p1, iv p2, iv p3, rv sa1, rv sa5, iv z13, iv z14, iv z18, .unset, .unset, .unset, .unset, .unset] [(.int z18), (.ref sa5), (.int z14)]))
        obtain ⟨cq55, kq55, q55a, q55b, q55c⟩ := isOf hZ eh36 A5
        obtain ⟨_, _, ⟨T55, L55, k55, n55⟩, -, X55, ⟨Lc55, hQ55, l55, y55, z55⟩, st55⟩ := X36.virtualBack hx (y := (⟨"java/lang/String", "charAt", "(I)C"⟩ : MethodName)) (z := (⟨"java/lang/String", "charAt", "(I)C"⟩ : MethodName)) hown (mvT hZ (hw _ (List.mem_of_getElem? (i := 13) rfl))) (mvT hZ (hw _ (List.mem_of_getElem? (i := 14) rfl))) (notFace_of_selects (args := #[]) (mvT hZ (hw _ (List.mem_of_getElem? (i := 16) rfl)))) (mvT hZ (hw _ (List.mem_of_getElem? (i := 16) rfl))) (mvT hZ (hw _ (List.mem_of_getElem? (i := 15) rfl))) (by decide) (backOf (W := 1) (rm2 l Z aw hw [] sa5 z18 sb5 kb5 [(.int 48), (.int 49), (.int 50), (.int 51), (.int 52), (.int 53), (.int 54), (.int 55), (.int 56), (.int 57), (.int 65), (.int 66), (.int 67), (.int 68), (.int 69), (.int 70)] cw G3 (own_up z18) h5 n0 Z12 A5 C5 F5 V5 B6 B7 hcz hg3 ((own_dig hz18 hc19).1) ((own_dig hz18 hc19).2.1) (own_upV ((own_dig hz18 hc19).1) ((own_dig hz18 hc19).2.1)) (own_upN ((own_dig hz18 hc19).1) ((own_dig hz18 hc19).2.1)) (own_upM ((own_dig hz18 hc19).1) ((own_dig hz18 hc19).2.1))) hZ (hw _ (List.mem_of_getElem? (i := 17) rfl)) (hw _ (List.mem_of_getElem? (i := 1) rfl)) (by decide) (by decide)) q55a q55c (g := (mkF m 84 #[iv p0, iv p1, iv p2, iv p3, rv sa1, rv sa5, iv z13, iv z14, iv z18, .unset, .unset, .unset, .unset, .unset] [(.int z18), (.ref sa5), (.int z14)])) rfl (by rw [hml]; rfl) (Steps.refl _) (argsL := [(.int z18)]) (rest := [(.int z14)]) (lenOf pd_1 rfl) rfl (by show 2 * 0 + _ ≤ _; exact Nat.le_of_eq rfl) (hb hby at_84) (fun _ _ => ⟨rfl, eh36, (by decide : 4 + 0 ≤ _), (by decide : 136 + 0 ≤ _)⟩)
        dsimp only [Pt.U, Pt.locs, Pt.cells, Pt.slots] at X55 l55 y55 z55 st55 hQ55
        subst l55 y55 z55
        obtain ⟨rfl, N55q, eh55⟩ := hQ55
        have N56 := Fr.app N37 N55q
        refine own_viaW (fun k => st55.trans k) ?_
        show own_GoW p e below s _ _ (T55.setTop (mkF m 87 #[iv p0, iv p1, iv p2, iv p3, rv sa1, rv sa5, iv z13, iv z14, iv z18, .unset, .unset, .unset, .unset, .unset] [(.int (own_up z18)), (.int z14)]))
        refine own_viaW (fun k => XS.icmpNo X55.here hx rfl (hb hby at_87) rfl (teq (own_dgC hz18 hc19 hc38)).2 k) ?_
        show own_GoW p e below s _ _ (T55.setTop (mkF m 90 #[iv p0, iv p1, iv p2, iv p3, rv sa1, rv sa5, iv z13, iv z14, iv z18, .unset, .unset, .unset, .unset, .unset] []))
        refine own_viaW (fun k => XS.iconst X55.here hx rfl (hb hby at_90) (XS.goto X55.here hx rfl (pc0 := 91) (pc' := 95) rfl (hb hby at_91) (by decide) (by decide) (XS.istore X55.here hx rfl (hb hby at_95) rfl (l' := #[iv p0, iv p1, iv p2, iv p3, rv sa1, rv sa5, iv z13, iv z14, iv z18, iv 1, .unset, .unset, .unset, .unset]) rfl (XS.goto X55.here hx rfl (pc0 := 97) (pc' := 103) rfl (hb hby at_97) (by decide) (by decide) k)))) ?_
        show own_GoW p e below s _ _ (T55.setTop (mkF m 103 #[iv p0, iv p1, iv p2, iv p3, rv sa1, rv sa5, iv z13, iv z14, iv z18, iv 1, .unset, .unset, .unset, .unset] []))
        refine own_viaW (fun k => XS.iloadN X55.here hx rfl (hb hby at_103) rfl  (XS.bipush X55.here hx rfl (hb hby at_104) (XS.iand X55.here hx rfl (hb hby at_106) rfl k))) ?_
        show own_GoW p e below s _ _ (T55.setTop (mkF m 107 #[iv p0, iv p1, iv p2, iv p3, rv sa1, rv sa5, iv z13, iv z14, iv z18, iv 1, .unset, .unset, .unset, .unset] [(.int (p2 &&& (15 : Int32)))]))
        obtain ⟨z57, hz57⟩ : ∃ z : Int32, z = (p2 &&& (15 : Int32)) := ⟨_, rfl⟩
        rw [← hz57]
        show own_GoW p e below s _ _ (T55.setTop (mkF m 107 #[iv p0, iv p1, iv p2, iv p3, rv sa1, rv sa5, iv z13, iv z14, iv z18, iv 1, .unset, .unset, .unset, .unset] [(.int z57)]))
        refine own_viaW (fun k => XS.istore X55.here hx rfl (hb hby at_107) rfl (l' := #[iv p0, iv p1, iv p2, iv p3, rv sa1, rv sa5, iv z13, iv z14, iv z18, iv 1, iv z57, .unset, .unset, .unset]) rfl (XS.iloadN X55.here hx rfl (hb hby at_109) rfl  (XS.iconst X55.here hx rfl (hb hby at_110) (XS.iand X55.here hx rfl (hb hby at_111) rfl k)))) ?_
        show own_GoW p e below s _ _ (T55.setTop (mkF m 112 #[iv p0, iv p1, iv p2, iv p3, rv sa1, rv sa5, iv z13, iv z14, iv z18, iv 1, iv z57, .unset, .unset, .unset] [(.int (p3 &&& (2 : Int32)))]))
        by_cases hc58 : (p3 &&& (2 : Int32)) = (0 : Int32)
        · refine own_viaW (fun k => XS.ifYes X55.here hx rfl (pc0 := 112) (pc' := 125) rfl (hb hby at_112) rfl ((if0 _ _).trans (teq hc58).1) (by decide) (by decide) k) ?_
          show own_GoW p e below s _ _ (T55.setTop (mkF m 125 #[iv p0, iv p1, iv p2, iv p3, rv sa1, rv sa5, iv z13, iv z14, iv z18, iv 1, iv z57, .unset, .unset, .unset] []))
          refine own_viaW (fun k => XS.aload X55.here hx rfl (hb hby at_125) rfl rfl  (XS.iload X55.here hx rfl (hb hby at_127) rfl  k)) ?_
          show own_GoW p e below s _ _ (T55.setTop (mkF m 129 #[iv p0, iv p1, iv p2, iv p3, rv sa1, rv sa5, iv z13, iv z14, iv z18, iv 1, iv z57, .unset, .unset, .unset] [(.int z57), (.ref sa1)]))
          obtain ⟨cq59, kq59, q59a, q59b, q59c⟩ := isOf hZ eh55 B8
          obtain ⟨_, _, ⟨T59, L59, k59, n59⟩, -, X59, ⟨Lc59, hQ59, l59, y59, z59⟩, st59⟩ := X55.virtualBack hx (y := (⟨"java/lang/String", "charAt", "(I)C"⟩ : MethodName)) (z := (⟨"java/lang/String", "charAt", "(I)C"⟩ : MethodName)) hown (mvT hZ (hw _ (List.mem_of_getElem? (i := 13) rfl))) (mvT hZ (hw _ (List.mem_of_getElem? (i := 14) rfl))) (notFace_of_selects (args := #[]) (mvT hZ (hw _ (List.mem_of_getElem? (i := 16) rfl)))) (mvT hZ (hw _ (List.mem_of_getElem? (i := 16) rfl))) (mvT hZ (hw _ (List.mem_of_getElem? (i := 15) rfl))) (by decide) (backOf (W := 0) (rm2 l Z aw hw [] sa1 z57 sb1 kb1 [(.int 48), (.int 49), (.int 50), (.int 51), (.int 52), (.int 53), (.int 54), (.int 55), (.int 56), (.int 57), (.int 97), (.int 98), (.int 99), (.int 100), (.int 101), (.int 102)] cw G3 (own_lo z57) h5 n0 Z12 B8 B9 B10 B11 B6 B7 hcz hg3 (hz57 ▸ (own_m15 p2).1) (hz57 ▸ (own_m15 p2).2) (own_loV ((hz57 ▸ (own_m15 p2).1)) ((hz57 ▸ (own_m15 p2).2))) (own_loN ((hz57 ▸ (own_m15 p2).1)) ((hz57 ▸ (own_m15 p2).2))) (own_loM ((hz57 ▸ (own_m15 p2).1)) ((hz57 ▸ (own_m15 p2).2)))) hZ (hw _ (List.mem_of_getElem? (i := 17) rfl)) (hw _ (List.mem_of_getElem? (i := 1) rfl)) (by decide) (by decide)) q59a q59c (g := (mkF m 129 #[iv p0, iv p1, iv p2, iv p3, rv sa1, rv sa5, iv z13, iv z14, iv z18, iv 1, iv z57, .unset, .unset, .unset] [(.int z57), (.ref sa1)])) rfl (by rw [hml]; rfl) (Steps.refl _) (argsL := [(.int z57)]) (rest := []) (lenOf pd_1 rfl) rfl (by show 2 * 0 + _ ≤ _; exact Nat.le_of_eq rfl) (hb hby at_129) (fun _ _ => ⟨rfl, eh55, (by decide : 4 + 0 ≤ _), (by decide : 136 + 0 ≤ _)⟩)
          dsimp only [Pt.U, Pt.locs, Pt.cells, Pt.slots] at X59 l59 y59 z59 st59 hQ59
          subst l59 y59 z59
          obtain ⟨rfl, N59q, eh59⟩ := hQ59
          have N60 := Fr.app N56 N59q
          refine own_viaW (fun k => st59.trans k) ?_
          show own_GoW p e below s _ _ (T59.setTop (mkF m 132 #[iv p0, iv p1, iv p2, iv p3, rv sa1, rv sa5, iv z13, iv z14, iv z18, iv 1, iv z57, .unset, .unset, .unset] [(.int (own_lo z57))]))
          refine own_viaW (fun k => XS.istore X59.here hx rfl (hb hby at_132) rfl (l' := #[iv p0, iv p1, iv p2, iv p3, rv sa1, rv sa5, iv z13, iv z14, iv z18, iv 1, iv z57, iv (own_lo z57), .unset, .unset]) rfl (XS.iload X59.here hx rfl (hb hby at_134) rfl  (XS.iload X59.here hx rfl (hb hby at_136) rfl  k))) ?_
          show own_GoW p e below s _ _ (T59.setTop (mkF m 138 #[iv p0, iv p1, iv p2, iv p3, rv sa1, rv sa5, iv z13, iv z14, iv z18, iv 1, iv z57, iv (own_lo z57), .unset, .unset] [(.int z13), (.int z57)]))
          by_cases hc61 : z57 < z13
          · refine own_viaW (fun k => XS.icmpNo X59.here hx rfl (hb hby at_138) rfl (tlt hc61).2.1 k) ?_
            show own_GoW p e below s _ _ (T59.setTop (mkF m 141 #[iv p0, iv p1, iv p2, iv p3, rv sa1, rv sa5, iv z13, iv z14, iv z18, iv 1, iv z57, iv (own_lo z57), .unset, .unset] []))
            refine own_viaW (fun k => XS.iload X59.here hx rfl (hb hby at_141) rfl  (XS.goto X59.here hx rfl (pc0 := 143) (pc' := 147) rfl (hb hby at_143) (by decide) (by decide) (XS.istore X59.here hx rfl (hb hby at_147) rfl (l' := #[iv p0, iv p1, iv p2, iv p3, rv sa1, rv sa5, iv z13, iv z14, iv z18, iv 1, iv z57, iv (own_lo z57), iv z57, .unset]) rfl (XS.iload X59.here hx rfl (hb hby at_149) rfl  k)))) ?_
            show own_GoW p e below s _ _ (T59.setTop (mkF m 151 #[iv p0, iv p1, iv p2, iv p3, rv sa1, rv sa5, iv z13, iv z14, iv z18, iv 1, iv z57, iv (own_lo z57), iv z57, .unset] [(.int (own_lo z57))]))
            refine own_viaW (fun k => XS.iload X59.here hx rfl (hb hby at_151) rfl  k) ?_
            show own_GoW p e below s _ _ (T59.setTop (mkF m 153 #[iv p0, iv p1, iv p2, iv p3, rv sa1, rv sa5, iv z13, iv z14, iv z18, iv 1, iv z57, iv (own_lo z57), iv z57, .unset] [(.int z13), (.int (own_lo z57))]))
            obtain ⟨_, _, ⟨T62, L62, k62, n62⟩, -, X62, ⟨Lc62, hQ62, l62, y62, z62⟩, st62⟩ := Jvm.LawKit.callS X59 hx (y := (⟨"com/example/grammar_parser/grammarparser/GrammarReader", "digit", "(II)I"⟩ : MethodName)) hown (mvT hZ (hw _ (List.mem_of_getElem? (i := 9) rfl))) (mvT hZ (hw _ (List.mem_of_getElem? (i := 10) rfl))) (mvT hZ (hw _ (List.mem_of_getElem? (i := 11) rfl))) (mvT hZ (hw _ (List.mem_of_getElem? (i := 12) rfl))) (by decide) (backOf (W := 0) (rm1 l Z aw hw [] (own_lo z57) z13 h5 n0 Z12) hZ (hw _ (List.mem_of_getElem? (i := 12) rfl)) (hw _ (List.mem_of_getElem? (i := 11) rfl)) (by decide) (by decide)) (g := (mkF m 153 #[iv p0, iv p1, iv p2, iv p3, rv sa1, rv sa5, iv z13, iv z14, iv z18, iv 1, iv z57, iv (own_lo z57), iv z57, .unset] [(.int z13), (.int (own_lo z57))])) rfl (by rw [hml]; rfl) (argsL := [(.int (own_lo z57)), (.int z13)]) (rest := []) (lenOf pd_0 rfl) rfl (by show 2 * 0 + _ ≤ _; exact Nat.le_of_eq rfl) (hb hby at_153) (fun _ _ => ⟨rfl, eh59, (by decide : 4 + 0 ≤ _), (by decide : 136 + 0 ≤ _)⟩)
            dsimp only [Pt.U, Pt.locs, Pt.cells, Pt.slots] at X62 l62 y62 z62 st62 hQ62
            subst l62 y62 z62
            obtain ⟨rfl, N62q, eh62⟩ := hQ62
            have N63 := Fr.app N60 N62q
            refine own_viaW (fun k => st62 _ k) ?_
            show own_GoW p e below s _ _ (T62.setTop (mkF m 156 #[iv p0, iv p1, iv p2, iv p3, rv sa1, rv sa5, iv z13, iv z14, iv z18, iv 1, iv z57, iv (own_lo z57), iv z57, .unset] [(.int (own_f1 (own_lo z57) z13))]))
            refine own_viaW (fun k => XS.iload X62.here hx rfl (hb hby at_156) rfl  k) ?_
            show own_GoW p e below s _ _ (T62.setTop (mkF m 158 #[iv p0, iv p1, iv p2, iv p3, rv sa1, rv sa5, iv z13, iv z14, iv z18, iv 1, iv z57, iv (own_lo z57), iv z57, .unset] [(.int z57), (.int (own_f1 (own_lo z57) z13))]))
            refine own_viaW (fun k => XS.icmpNo X62.here hx rfl (hb hby at_158) rfl (teq (own_ly hz57 hc61)).2 k) ?_
            show own_GoW p e below s _ _ (T62.setTop (mkF m 161 #[iv p0, iv p1, iv p2, iv p3, rv sa1, rv sa5, iv z13, iv z14, iv z18, iv 1, iv z57, iv (own_lo z57), iv z57, .unset] []))
            refine own_viaW (fun k => XS.iconst X62.here hx rfl (hb hby at_161) (XS.goto X62.here hx rfl (pc0 := 162) (pc' := 166) rfl (hb hby at_162) (by decide) (by decide) (XS.istore X62.here hx rfl (hb hby at_166) rfl (l' := #[iv p0, iv p1, iv p2, iv p3, rv sa1, rv sa5, iv z13, iv z14, iv z18, iv 1, iv z57, iv (own_lo z57), iv z57, iv 1]) rfl (XS.iload X62.here hx rfl (hb hby at_168) rfl  k)))) ?_
            show own_GoW p e below s _ _ (T62.setTop (mkF m 170 #[iv p0, iv p1, iv p2, iv p3, rv sa1, rv sa5, iv z13, iv z14, iv z18, iv 1, iv z57, iv (own_lo z57), iv z57, iv 1] [(.int 1)]))
            refine own_viaW (fun k => XS.ifNo X62.here hx rfl (hb hby at_170) rfl (by decide) k) ?_
            show own_GoW p e below s _ _ (T62.setTop (mkF m 173 #[iv p0, iv p1, iv p2, iv p3, rv sa1, rv sa5, iv z13, iv z14, iv z18, iv 1, iv z57, iv (own_lo z57), iv z57, iv 1] []))
            refine own_viaW (fun k => XS.iload X62.here hx rfl (hb hby at_173) rfl  k) ?_
            show own_GoW p e below s _ _ (T62.setTop (mkF m 175 #[iv p0, iv p1, iv p2, iv p3, rv sa1, rv sa5, iv z13, iv z14, iv z18, iv 1, iv z57, iv (own_lo z57), iv z57, iv 1] [(.int 1)]))
            refine own_viaW (fun k => XS.ifNo X62.here hx rfl (hb hby at_175) rfl (by decide) k) ?_
            show own_GoW p e below s _ _ (T62.setTop (mkF m 178 #[iv p0, iv p1, iv p2, iv p3, rv sa1, rv sa5, iv z13, iv z14, iv z18, iv 1, iv z57, iv (own_lo z57), iv z57, iv 1] []))
            refine own_viaW (fun k => XS.iconst X62.here hx rfl (hb hby at_178) (XS.goto X62.here hx rfl (pc0 := 179) (pc' := 183) rfl (hb hby at_179) (by decide) (by decide) k)) ?_
            show own_GoW p e below s _ _ (T62.setTop (mkF m 183 #[iv p0, iv p1, iv p2, iv p3, rv sa1, rv sa5, iv z13, iv z14, iv z18, iv 1, iv z57, iv (own_lo z57), iv z57, iv 1] [(.int 1)]))
            exact own_retNW X62 hx hlk (t := .boolean) Bd.returns (by simp) (hb hby at_183) SS5 (by rw [eh62]; exact ks5) (Q := (Q0 Z p0 p1 p2 p3 cw G3 h0 n0)) ⟨rfl, N63⟩ (by decide) (by decide)
          · refine own_viaW (fun k => XS.icmpYes X59.here hx rfl (pc0 := 138) (pc' := 146) rfl (hb hby at_138) rfl (flt hc61).2.1 (by decide) (by decide) k) ?_
            show own_GoW p e below s _ _ (T59.setTop (mkF m 146 #[iv p0, iv p1, iv p2, iv p3, rv sa1, rv sa5, iv z13, iv z14, iv z18, iv 1, iv z57, iv (own_lo z57), .unset, .unset] []))
            refine own_viaW (fun k => XS.iconst X59.here hx rfl (hb hby at_146) (XS.istore X59.here hx rfl (hb hby at_147) rfl (l' := #[iv p0, iv p1, iv p2, iv p3, rv sa1, rv sa5, iv z13, iv z14, iv z18, iv 1, iv z57, iv (own_lo z57), iv (-1), .unset]) rfl (XS.iload X59.here hx rfl (hb hby at_149) rfl  (XS.iload X59.here hx rfl (hb hby at_151) rfl  k)))) ?_
            show own_GoW p e below s _ _ (T59.setTop (mkF m 153 #[iv p0, iv p1, iv p2, iv p3, rv sa1, rv sa5, iv z13, iv z14, iv z18, iv 1, iv z57, iv (own_lo z57), iv (-1), .unset] [(.int z13), (.int (own_lo z57))]))
            obtain ⟨_, _, ⟨T64, L64, k64, n64⟩, -, X64, ⟨Lc64, hQ64, l64, y64, z64⟩, st64⟩ := Jvm.LawKit.callS X59 hx (y := (⟨"com/example/grammar_parser/grammarparser/GrammarReader", "digit", "(II)I"⟩ : MethodName)) hown (mvT hZ (hw _ (List.mem_of_getElem? (i := 9) rfl))) (mvT hZ (hw _ (List.mem_of_getElem? (i := 10) rfl))) (mvT hZ (hw _ (List.mem_of_getElem? (i := 11) rfl))) (mvT hZ (hw _ (List.mem_of_getElem? (i := 12) rfl))) (by decide) (backOf (W := 0) (rm1 l Z aw hw [] (own_lo z57) z13 h5 n0 Z12) hZ (hw _ (List.mem_of_getElem? (i := 12) rfl)) (hw _ (List.mem_of_getElem? (i := 11) rfl)) (by decide) (by decide)) (g := (mkF m 153 #[iv p0, iv p1, iv p2, iv p3, rv sa1, rv sa5, iv z13, iv z14, iv z18, iv 1, iv z57, iv (own_lo z57), iv (-1), .unset] [(.int z13), (.int (own_lo z57))])) rfl (by rw [hml]; rfl) (argsL := [(.int (own_lo z57)), (.int z13)]) (rest := []) (lenOf pd_0 rfl) rfl (by show 2 * 0 + _ ≤ _; exact Nat.le_of_eq rfl) (hb hby at_153) (fun _ _ => ⟨rfl, eh59, (by decide : 4 + 0 ≤ _), (by decide : 136 + 0 ≤ _)⟩)
            dsimp only [Pt.U, Pt.locs, Pt.cells, Pt.slots] at X64 l64 y64 z64 st64 hQ64
            subst l64 y64 z64
            obtain ⟨rfl, N64q, eh64⟩ := hQ64
            have N65 := Fr.app N60 N64q
            refine own_viaW (fun k => st64 _ k) ?_
            show own_GoW p e below s _ _ (T64.setTop (mkF m 156 #[iv p0, iv p1, iv p2, iv p3, rv sa1, rv sa5, iv z13, iv z14, iv z18, iv 1, iv z57, iv (own_lo z57), iv (-1), .unset] [(.int (own_f1 (own_lo z57) z13))]))
            refine own_viaW (fun k => XS.iload X64.here hx rfl (hb hby at_156) rfl  k) ?_
            show own_GoW p e below s _ _ (T64.setTop (mkF m 158 #[iv p0, iv p1, iv p2, iv p3, rv sa1, rv sa5, iv z13, iv z14, iv z18, iv 1, iv z57, iv (own_lo z57), iv (-1), .unset] [(.int (-1)), (.int (own_f1 (own_lo z57) z13))]))
            refine own_viaW (fun k => XS.icmpNo X64.here hx rfl (hb hby at_158) rfl (teq (own_ln hz57 hc61)).2 k) ?_
            show own_GoW p e below s _ _ (T64.setTop (mkF m 161 #[iv p0, iv p1, iv p2, iv p3, rv sa1, rv sa5, iv z13, iv z14, iv z18, iv 1, iv z57, iv (own_lo z57), iv (-1), .unset] []))
            refine own_viaW (fun k => XS.iconst X64.here hx rfl (hb hby at_161) (XS.goto X64.here hx rfl (pc0 := 162) (pc' := 166) rfl (hb hby at_162) (by decide) (by decide) (XS.istore X64.here hx rfl (hb hby at_166) rfl (l' := #[iv p0, iv p1, iv p2, iv p3, rv sa1, rv sa5, iv z13, iv z14, iv z18, iv 1, iv z57, iv (own_lo z57), iv (-1), iv 1]) rfl (XS.iload X64.here hx rfl (hb hby at_168) rfl  k)))) ?_
            show own_GoW p e below s _ _ (T64.setTop (mkF m 170 #[iv p0, iv p1, iv p2, iv p3, rv sa1, rv sa5, iv z13, iv z14, iv z18, iv 1, iv z57, iv (own_lo z57), iv (-1), iv 1] [(.int 1)]))
            refine own_viaW (fun k => XS.ifNo X64.here hx rfl (hb hby at_170) rfl (by decide) k) ?_
            show own_GoW p e below s _ _ (T64.setTop (mkF m 173 #[iv p0, iv p1, iv p2, iv p3, rv sa1, rv sa5, iv z13, iv z14, iv z18, iv 1, iv z57, iv (own_lo z57), iv (-1), iv 1] []))
            refine own_viaW (fun k => XS.iload X64.here hx rfl (hb hby at_173) rfl  k) ?_
            show own_GoW p e below s _ _ (T64.setTop (mkF m 175 #[iv p0, iv p1, iv p2, iv p3, rv sa1, rv sa5, iv z13, iv z14, iv z18, iv 1, iv z57, iv (own_lo z57), iv (-1), iv 1] [(.int 1)]))
            refine own_viaW (fun k => XS.ifNo X64.here hx rfl (hb hby at_175) rfl (by decide) k) ?_
            show own_GoW p e below s _ _ (T64.setTop (mkF m 178 #[iv p0, iv p1, iv p2, iv p3, rv sa1, rv sa5, iv z13, iv z14, iv z18, iv 1, iv z57, iv (own_lo z57), iv (-1), iv 1] []))
            refine own_viaW (fun k => XS.iconst X64.here hx rfl (hb hby at_178) (XS.goto X64.here hx rfl (pc0 := 179) (pc' := 183) rfl (hb hby at_179) (by decide) (by decide) k)) ?_
            show own_GoW p e below s _ _ (T64.setTop (mkF m 183 #[iv p0, iv p1, iv p2, iv p3, rv sa1, rv sa5, iv z13, iv z14, iv z18, iv 1, iv z57, iv (own_lo z57), iv (-1), iv 1] [(.int 1)]))
            exact own_retNW X64 hx hlk (t := .boolean) Bd.returns (by simp) (hb hby at_183) SS5 (by rw [eh64]; exact ks5) (Q := (Q0 Z p0 p1 p2 p3 cw G3 h0 n0)) ⟨rfl, N65⟩ (by decide) (by decide)
        · refine own_viaW (fun k => XS.ifNo X55.here hx rfl (hb hby at_112) rfl ((if0 _ _).trans (feq hc58).1) k) ?_
          show own_GoW p e below s _ _ (T55.setTop (mkF m 115 #[iv p0, iv p1, iv p2, iv p3, rv sa1, rv sa5, iv z13, iv z14, iv z18, iv 1, iv z57, .unset, .unset, .unset] []))
          refine own_viaW (fun k => XS.aload X55.here hx rfl (hb hby at_115) rfl rfl  (XS.iload X55.here hx rfl (hb hby at_117) rfl  k)) ?_
          show own_GoW p e below s _ _ (T55.setTop (mkF m 119 #[iv p0, iv p1, iv p2, iv p3, rv sa1, rv sa5, iv z13, iv z14, iv z18, iv 1, iv z57, .unset, .unset, .unset] [(.int z57), (.ref sa5)]))
          obtain ⟨cq66, kq66, q66a, q66b, q66c⟩ := isOf hZ eh55 A5
          obtain ⟨_, _, ⟨T66, L66, k66, n66⟩, -, X66, ⟨Lc66, hQ66, l66, y66, z66⟩, st66⟩ := X55.virtualBack hx (y := (⟨"java/lang/String", "charAt", "(I)C"⟩ : MethodName)) (z := (⟨"java/lang/String", "charAt", "(I)C"⟩ : MethodName)) hown (mvT hZ (hw _ (List.mem_of_getElem? (i := 13) rfl))) (mvT hZ (hw _ (List.mem_of_getElem? (i := 14) rfl))) (notFace_of_selects (args := #[]) (mvT hZ (hw _ (List.mem_of_getElem? (i := 16) rfl)))) (mvT hZ (hw _ (List.mem_of_getElem? (i := 16) rfl))) (mvT hZ (hw _ (List.mem_of_getElem? (i := 15) rfl))) (by decide) (backOf (W := 0) (rm2 l Z aw hw [] sa5 z57 sb5 kb5 [(.int 48), (.int 49), (.int 50), (.int 51), (.int 52), (.int 53), (.int 54), (.int 55), (.int 56), (.int 57), (.int 65), (.int 66), (.int 67), (.int 68), (.int 69), (.int 70)] cw G3 (own_up z57) h5 n0 Z12 A5 C5 F5 V5 B6 B7 hcz hg3 (hz57 ▸ (own_m15 p2).1) (hz57 ▸ (own_m15 p2).2) (own_upV ((hz57 ▸ (own_m15 p2).1)) ((hz57 ▸ (own_m15 p2).2))) (own_upN ((hz57 ▸ (own_m15 p2).1)) ((hz57 ▸ (own_m15 p2).2))) (own_upM ((hz57 ▸ (own_m15 p2).1)) ((hz57 ▸ (own_m15 p2).2)))) hZ (hw _ (List.mem_of_getElem? (i := 17) rfl)) (hw _ (List.mem_of_getElem? (i := 1) rfl)) (by decide) (by decide)) q66a q66c (g := (mkF m 119 #[iv p0, iv p1, iv p2, iv p3, rv sa1, rv sa5, iv z13, iv z14, iv z18, iv 1, iv z57, .unset, .unset, .unset] [(.int z57), (.ref sa5)])) rfl (by rw [hml]; rfl) (Steps.refl _) (argsL := [(.int z57)]) (rest := []) (lenOf pd_1 rfl) rfl (by show 2 * 0 + _ ≤ _; exact Nat.le_of_eq rfl) (hb hby at_119) (fun _ _ => ⟨rfl, eh55, (by decide : 4 + 0 ≤ _), (by decide : 136 + 0 ≤ _)⟩)
          dsimp only [Pt.U, Pt.locs, Pt.cells, Pt.slots] at X66 l66 y66 z66 st66 hQ66
          subst l66 y66 z66
          obtain ⟨rfl, N66q, eh66⟩ := hQ66
          have N67 := Fr.app N56 N66q
          refine own_viaW (fun k => st66.trans k) ?_
          show own_GoW p e below s _ _ (T66.setTop (mkF m 122 #[iv p0, iv p1, iv p2, iv p3, rv sa1, rv sa5, iv z13, iv z14, iv z18, iv 1, iv z57, .unset, .unset, .unset] [(.int (own_up z57))]))
          refine own_viaW (fun k => XS.goto X66.here hx rfl (pc0 := 122) (pc' := 132) rfl (hb hby at_122) (by decide) (by decide) (XS.istore X66.here hx rfl (hb hby at_132) rfl (l' := #[iv p0, iv p1, iv p2, iv p3, rv sa1, rv sa5, iv z13, iv z14, iv z18, iv 1, iv z57, iv (own_up z57), .unset, .unset]) rfl (XS.iload X66.here hx rfl (hb hby at_134) rfl  (XS.iload X66.here hx rfl (hb hby at_136) rfl  k)))) ?_
          show own_GoW p e below s _ _ (T66.setTop (mkF m 138 #[iv p0, iv p1, iv p2, iv p3, rv sa1, rv sa5, iv z13, iv z14, iv z18, iv 1, iv z57, iv (own_up z57), .unset, .unset] [(.int z13), (.int z57)]))
          by_cases hc68 : z57 < z13
          · refine own_viaW (fun k => XS.icmpNo X66.here hx rfl (hb hby at_138) rfl (tlt hc68).2.1 k) ?_
            show own_GoW p e below s _ _ (T66.setTop (mkF m 141 #[iv p0, iv p1, iv p2, iv p3, rv sa1, rv sa5, iv z13, iv z14, iv z18, iv 1, iv z57, iv (own_up z57), .unset, .unset] []))
            refine own_viaW (fun k => XS.iload X66.here hx rfl (hb hby at_141) rfl  (XS.goto X66.here hx rfl (pc0 := 143) (pc' := 147) rfl (hb hby at_143) (by decide) (by decide) (XS.istore X66.here hx rfl (hb hby at_147) rfl (l' := #[iv p0, iv p1, iv p2, iv p3, rv sa1, rv sa5, iv z13, iv z14, iv z18, iv 1, iv z57, iv (own_up z57), iv z57, .unset]) rfl (XS.iload X66.here hx rfl (hb hby at_149) rfl  k)))) ?_
            show own_GoW p e below s _ _ (T66.setTop (mkF m 151 #[iv p0, iv p1, iv p2, iv p3, rv sa1, rv sa5, iv z13, iv z14, iv z18, iv 1, iv z57, iv (own_up z57), iv z57, .unset] [(.int (own_up z57))]))
            refine own_viaW (fun k => XS.iload X66.here hx rfl (hb hby at_151) rfl  k) ?_
            show own_GoW p e below s _ _ (T66.setTop (mkF m 153 #[iv p0, iv p1, iv p2, iv p3, rv sa1, rv sa5, iv z13, iv z14, iv z18, iv 1, iv z57, iv (own_up z57), iv z57, .unset] [(.int z13), (.int (own_up z57))]))
            obtain ⟨_, _, ⟨T69, L69, k69, n69⟩, -, X69, ⟨Lc69, hQ69, l69, y69, z69⟩, st69⟩ := Jvm.LawKit.callS X66 hx (y := (⟨"com/example/grammar_parser/grammarparser/GrammarReader", "digit", "(II)I"⟩ : MethodName)) hown (mvT hZ (hw _ (List.mem_of_getElem? (i := 9) rfl))) (mvT hZ (hw _ (List.mem_of_getElem? (i := 10) rfl))) (mvT hZ (hw _ (List.mem_of_getElem? (i := 11) rfl))) (mvT hZ (hw _ (List.mem_of_getElem? (i := 12) rfl))) (by decide) (backOf (W := 0) (rm1 l Z aw hw [] (own_up z57) z13 h5 n0 Z12) hZ (hw _ (List.mem_of_getElem? (i := 12) rfl)) (hw _ (List.mem_of_getElem? (i := 11) rfl)) (by decide) (by decide)) (g := (mkF m 153 #[iv p0, iv p1, iv p2, iv p3, rv sa1, rv sa5, iv z13, iv z14, iv z18, iv 1, iv z57, iv (own_up z57), iv z57, .unset] [(.int z13), (.int (own_up z57))])) rfl (by rw [hml]; rfl) (argsL := [(.int (own_up z57)), (.int z13)]) (rest := []) (lenOf pd_0 rfl) rfl (by show 2 * 0 + _ ≤ _; exact Nat.le_of_eq rfl) (hb hby at_153) (fun _ _ => ⟨rfl, eh66, (by decide : 4 + 0 ≤ _), (by decide : 136 + 0 ≤ _)⟩)
            dsimp only [Pt.U, Pt.locs, Pt.cells, Pt.slots] at X69 l69 y69 z69 st69 hQ69
            subst l69 y69 z69
            obtain ⟨rfl, N69q, eh69⟩ := hQ69
            have N70 := Fr.app N67 N69q
            refine own_viaW (fun k => st69 _ k) ?_
            show own_GoW p e below s _ _ (T69.setTop (mkF m 156 #[iv p0, iv p1, iv p2, iv p3, rv sa1, rv sa5, iv z13, iv z14, iv z18, iv 1, iv z57, iv (own_up z57), iv z57, .unset] [(.int (own_f1 (own_up z57) z13))]))
            refine own_viaW (fun k => XS.iload X69.here hx rfl (hb hby at_156) rfl  k) ?_
            show own_GoW p e below s _ _ (T69.setTop (mkF m 158 #[iv p0, iv p1, iv p2, iv p3, rv sa1, rv sa5, iv z13, iv z14, iv z18, iv 1, iv z57, iv (own_up z57), iv z57, .unset] [(.int z57), (.int (own_f1 (own_up z57) z13))]))
            refine own_viaW (fun k => XS.icmpNo X69.here hx rfl (hb hby at_158) rfl (teq (own_uy hz57 hc68)).2 k) ?_
            show own_GoW p e below s _ _ (T69.setTop (mkF m 161 #[iv p0, iv p1, iv p2, iv p3, rv sa1, rv sa5, iv z13, iv z14, iv z18, iv 1, iv z57, iv (own_up z57), iv z57, .unset] []))
            refine own_viaW (fun k => XS.iconst X69.here hx rfl (hb hby at_161) (XS.goto X69.here hx rfl (pc0 := 162) (pc' := 166) rfl (hb hby at_162) (by decide) (by decide) (XS.istore X69.here hx rfl (hb hby at_166) rfl (l' := #[iv p0, iv p1, iv p2, iv p3, rv sa1, rv sa5, iv z13, iv z14, iv z18, iv 1, iv z57, iv (own_up z57), iv z57, iv 1]) rfl (XS.iload X69.here hx rfl (hb hby at_168) rfl  k)))) ?_
            show own_GoW p e below s _ _ (T69.setTop (mkF m 170 #[iv p0, iv p1, iv p2, iv p3, rv sa1, rv sa5, iv z13, iv z14, iv z18, iv 1, iv z57, iv (own_up z57), iv z57, iv 1] [(.int 1)]))
            refine own_viaW (fun k => XS.ifNo X69.here hx rfl (hb hby at_170) rfl (by decide) k) ?_
            show own_GoW p e below s _ _ (T69.setTop (mkF m 173 #[iv p0, iv p1, iv p2, iv p3, rv sa1, rv sa5, iv z13, iv z14, iv z18, iv 1, iv z57, iv (own_up z57), iv z57, iv 1] []))
            refine own_viaW (fun k => XS.iload X69.here hx rfl (hb hby at_173) rfl  k) ?_
            show own_GoW p e below s _ _ (T69.setTop (mkF m 175 #[iv p0, iv p1, iv p2, iv p3, rv sa1, rv sa5, iv z13, iv z14, iv z18, iv 1, iv z57, iv (own_up z57), iv z57, iv 1] [(.int 1)]))
            refine own_viaW (fun k => XS.ifNo X69.here hx rfl (hb hby at_175) rfl (by decide) k) ?_
            show own_GoW p e below s _ _ (T69.setTop (mkF m 178 #[iv p0, iv p1, iv p2, iv p3, rv sa1, rv sa5, iv z13, iv z14, iv z18, iv 1, iv z57, iv (own_up z57), iv z57, iv 1] []))
            refine own_viaW (fun k => XS.iconst X69.here hx rfl (hb hby at_178) (XS.goto X69.here hx rfl (pc0 := 179) (pc' := 183) rfl (hb hby at_179) (by decide) (by decide) k)) ?_
            show own_GoW p e below s _ _ (T69.setTop (mkF m 183 #[iv p0, iv p1, iv p2, iv p3, rv sa1, rv sa5, iv z13, iv z14, iv z18, iv 1, iv z57, iv (own_up z57), iv z57, iv 1] [(.int 1)]))
            exact own_retNW X69 hx hlk (t := .boolean) Bd.returns (by simp) (hb hby at_183) SS5 (by rw [eh69]; exact ks5) (Q := (Q0 Z p0 p1 p2 p3 cw G3 h0 n0)) ⟨rfl, N70⟩ (by decide) (by decide)
          · refine own_viaW (fun k => XS.icmpYes X66.here hx rfl (pc0 := 138) (pc' := 146) rfl (hb hby at_138) rfl (flt hc68).2.1 (by decide) (by decide) k) ?_
            show own_GoW p e below s _ _ (T66.setTop (mkF m 146 #[iv p0, iv p1, iv p2, iv p3, rv sa1, rv sa5, iv z13, iv z14, iv z18, iv 1, iv z57, iv (own_up z57), .unset, .unset] []))
            refine own_viaW (fun k => XS.iconst X66.here hx rfl (hb hby at_146) (XS.istore X66.here hx rfl (hb hby at_147) rfl (l' := #[iv p0, iv p1, iv p2, iv p3, rv sa1, rv sa5, iv z13, iv z14, iv z18, iv 1, iv z57, iv (own_up z57), iv (-1), .unset]) rfl (XS.iload X66.here hx rfl (hb hby at_149) rfl  (XS.iload X66.here hx rfl (hb hby at_151) rfl  k)))) ?_
            show own_GoW p e below s _ _ (T66.setTop (mkF m 153 #[iv p0, iv p1, iv p2, iv p3, rv sa1, rv sa5, iv z13, iv z14, iv z18, iv 1, iv z57, iv (own_up z57), iv (-1), .unset] [(.int z13), (.int (own_up z57))]))
            obtain ⟨_, _, ⟨T71, L71, k71, n71⟩, -, X71, ⟨Lc71, hQ71, l71, y71, z71⟩, st71⟩ := Jvm.LawKit.callS X66 hx (y := (⟨"com/example/grammar_parser/grammarparser/GrammarReader", "digit", "(II)I"⟩ : MethodName)) hown (mvT hZ (hw _ (List.mem_of_getElem? (i := 9) rfl))) (mvT hZ (hw _ (List.mem_of_getElem? (i := 10) rfl))) (mvT hZ (hw _ (List.mem_of_getElem? (i := 11) rfl))) (mvT hZ (hw _ (List.mem_of_getElem? (i := 12) rfl))) (by decide) (backOf (W := 0) (rm1 l Z aw hw [] (own_up z57) z13 h5 n0 Z12) hZ (hw _ (List.mem_of_getElem? (i := 12) rfl)) (hw _ (List.mem_of_getElem? (i := 11) rfl)) (by decide) (by decide)) (g := (mkF m 153 #[iv p0, iv p1, iv p2, iv p3, rv sa1, rv sa5, iv z13, iv z14, iv z18, iv 1, iv z57, iv (own_up z57), iv (-1), .unset] [(.int z13), (.int (own_up z57))])) rfl (by rw [hml]; rfl) (argsL := [(.int (own_up z57)), (.int z13)]) (rest := []) (lenOf pd_0 rfl) rfl (by show 2 * 0 + _ ≤ _; exact Nat.le_of_eq rfl) (hb hby at_153) (fun _ _ => ⟨rfl, eh66, (by decide : 4 + 0 ≤ _), (by decide : 136 + 0 ≤ _)⟩)
            dsimp only [Pt.U, Pt.locs, Pt.cells, Pt.slots] at X71 l71 y71 z71 st71 hQ71
            subst l71 y71 z71
            obtain ⟨rfl, N71q, eh71⟩ := hQ71
            have N72 := Fr.app N67 N71q
            refine own_viaW (fun k => st71 _ k) ?_
            show own_GoW p e below s _ _ (T71.setTop (mkF m 156 #[iv p0, iv p1, iv p2, iv p3, rv sa1, rv sa5, iv z13, iv z14, iv z18, iv 1, iv z57, iv (own_up z57), iv (-1), .unset] [(.int (own_f1 (own_up z57) z13))]))
            refine own_viaW (fun k => XS.iload X71.here hx rfl (hb hby at_156) rfl  k) ?_
            show own_GoW p e below s _ _ (T71.setTop (mkF m 158 #[iv p0, iv p1, iv p2, iv p3, rv sa1, rv sa5, iv z13, iv z14, iv z18, iv 1, iv z57, iv (own_up z57), iv (-1), .unset] [(.int (-1)), (.int (own_f1 (own_up z57) z13))]))
            refine own_viaW (fun k => XS.icmpNo X71.here hx rfl (hb hby at_158) rfl (teq (own_un hz57 hc68)).2 k) ?_
            show own_GoW p e below s _ _ (T71.setTop (mkF m 161 #[iv p0, iv p1, iv p2, iv p3, rv sa1, rv sa5, iv z13, iv z14, iv z18, iv 1, iv z57, iv (own_up z57), iv (-1), .unset] []))
            refine own_viaW (fun k => XS.iconst X71.here hx rfl (hb hby at_161) (XS.goto X71.here hx rfl (pc0 := 162) (pc' := 166) rfl (hb hby at_162) (by decide) (by decide) (XS.istore X71.here hx rfl (hb hby at_166) rfl (l' := #[iv p0, iv p1, iv p2, iv p3, rv sa1, rv sa5, iv z13, iv z14, iv z18, iv 1, iv z57, iv (own_up z57), iv (-1), iv 1]) rfl (XS.iload X71.here hx rfl (hb hby at_168) rfl  k)))) ?_
            show own_GoW p e below s _ _ (T71.setTop (mkF m 170 #[iv p0, iv p1, iv p2, iv p3, rv sa1, rv sa5, iv z13, iv z14, iv z18, iv 1, iv z57, iv (own_up z57), iv (-1), iv 1] [(.int 1)]))
            refine own_viaW (fun k => XS.ifNo X71.here hx rfl (hb hby at_170) rfl (by decide) k) ?_
            show own_GoW p e below s _ _ (T71.setTop (mkF m 173 #[iv p0, iv p1, iv p2, iv p3, rv sa1, rv sa5, iv z13, iv z14, iv z18, iv 1, iv z57, iv (own_up z57), iv (-1), iv 1] []))
            refine own_viaW (fun k => XS.iload X71.here hx rfl (hb hby at_173) rfl  k) ?_
            show own_GoW p e below s _ _ (T71.setTop (mkF m 175 #[iv p0, iv p1, iv p2, iv p3, rv sa1, rv sa5, iv z13, iv z14, iv z18, iv 1, iv z57, iv (own_up z57), iv (-1), iv 1] [(.int 1)]))
            refine own_viaW (fun k => XS.ifNo X71.here hx rfl (hb hby at_175) rfl (by decide) k) ?_
            show own_GoW p e below s _ _ (T71.setTop (mkF m 178 #[iv p0, iv p1, iv p2, iv p3, rv sa1, rv sa5, iv z13, iv z14, iv z18, iv 1, iv z57, iv (own_up z57), iv (-1), iv 1] []))
            refine own_viaW (fun k => XS.iconst X71.here hx rfl (hb hby at_178) (XS.goto X71.here hx rfl (pc0 := 179) (pc' := 183) rfl (hb hby at_179) (by decide) (by decide) k)) ?_
            show own_GoW p e below s _ _ (T71.setTop (mkF m 183 #[iv p0, iv p1, iv p2, iv p3, rv sa1, rv sa5, iv z13, iv z14, iv z18, iv 1, iv z57, iv (own_up z57), iv (-1), iv 1] [(.int 1)]))
            exact own_retNW X71 hx hlk (t := .boolean) Bd.returns (by simp) (hb hby at_183) SS5 (by rw [eh71]; exact ks5) (Q := (Q0 Z p0 p1 p2 p3 cw G3 h0 n0)) ⟨rfl, N72⟩ (by decide) (by decide)
  by_cases hc73 : (p3 &&& (1 : Int32)) = (0 : Int32)
  · refine own_viaW (fun k => XS.ifYes X5.here hx rfl (pc0 := 19) (pc' := 26) rfl (hb hby at_19) rfl ((if0 _ _).trans (teq hc73).1) (by decide) (by decide) k) ?_
    show own_GoW p e below s _ _ (T5.setTop (mkF m 26 #[iv p0, iv p1, iv p2, iv p3, rv sa1, rv sa5, iv z13, .unset, .unset, .unset, .unset, .unset, .unset, .unset] []))
    refine own_viaW (fun k => XS.iloadN X5.here hx rfl (hb hby at_26) rfl  (XS.sipush X5.here hx rfl (hb hby at_27) (XS.iand X5.here hx rfl (hb hby at_30) rfl k))) ?_
    show own_GoW p e below s _ _ (T5.setTop (mkF m 31 #[iv p0, iv p1, iv p2, iv p3, rv sa1, rv sa5, iv z13, .unset, .unset, .unset, .unset, .unset, .unset, .unset] [(.int (p0 &&& (255 : Int32)))]))
    exact J15 (p0 &&& (255 : Int32)) (((if_pos hc73).trans rfl)).symm
  · refine own_viaW (fun k => XS.ifNo X5.here hx rfl (hb hby at_19) rfl ((if0 _ _).trans (feq hc73).1) k) ?_
    show own_GoW p e below s _ _ (T5.setTop (mkF m 22 #[iv p0, iv p1, iv p2, iv p3, rv sa1, rv sa5, iv z13, .unset, .unset, .unset, .unset, .unset, .unset, .unset] []))
    refine own_viaW (fun k => XS.iloadN X5.here hx rfl (hb hby at_22) rfl  (XS.goto X5.here hx rfl (pc0 := 23) (pc' := 31) rfl (hb hby at_23) (by decide) (by decide) k)) ?_
    show own_GoW p e below s _ _ (T5.setTop (mkF m 31 #[iv p0, iv p1, iv p2, iv p3, rv sa1, rv sa5, iv z13, .unset, .unset, .unset, .unset, .unset, .unset, .unset] [(.int p0)]))
    exact J15 p0 (((if_neg hc73).trans rfl)).symm
set_option maxRecDepth 65536 in
set_option maxHeartbeats 40000000 in
theorem comes_1 {Post : Tables → Env → Array Value → State → Outcome → State → Prop} (hpost : ∀ tb e args s v u, (limb_1_1.after args s (.returned v) u = true ∧ limb_1_2.after args s (.returned v) u = true ∧ True) → FramedW s (.returned v) u (Jvm.fieldLocs frame_1_writes args s ++ Jvm.arrayLocs frame_1_arrays args s ++ Jvm.staticLocs frame_1_statics s) 8 2112 → Post tb e args s (.returned v) u) :
    ArmFor flags0 classFile x code maxLocals ret World_1 tables_1 room_1 Calls_1 rest_1 Pre_1 Post := by
  intro l hfl _ _ p e ha hc hk s m args below hf hA hF happ hP
  obtain ⟨hcalls, hrest, hpre⟩ := hP
  obtain ⟨-, -, -, hnamed, -, -, -, hat⟩ := (Spec.applies_iff hf).mp happ
  obtain ⟨hg, hn⟩ := and_e (Cond.before_iff.mp (show (Jvm.Cond.and given_1 narrow_1).before args s = true from hpre))
  obtain ⟨g1, g2⟩ := and_e hg
  obtain ⟨g3, g4⟩ := and_e g2
  obtain ⟨g5, g6⟩ := and_e g4
  obtain ⟨g7, g8⟩ := and_e g6
  obtain ⟨w0, w1, w2, w3, rfl⟩ : ∃ w0 w1 w2 w3 : Value, args = #[w0, w1, w2, w3] := by
    have hs : args.size = 4 := by simpa [Cond.value, given_1] using g1
    obtain ⟨L⟩ := args
    match L, hs with
    | [w0, w1, w2, w3], _ => exact ⟨w0, w1, w2, w3, rfl⟩
  have hw := fun d (hd : d ∈ tables_1) => atoms_spec (ws := Jvm.Cond.code x code maxLocals ret :: tables_1) hat d (List.mem_cons_of_mem _ hd)
  obtain ⟨hsets, -⟩ := atoms_of _ (rest_1_c_eq ▸ (show rest_1_c.before _ s = true from hrest))
  obtain ⟨i11, e10⟩ := is_v (Cond.before_iff.mp (hsets _ (List.mem_of_getElem? (i := 1) rfl)))
  have hc2 := hsets _ (List.mem_of_getElem? (i := 2) rfl)
  have S12 : Sta s s.heap "java/lang/String" "COMPACT_STRINGS" "Z" (.int i11) := Sta.start e10 (Or.inl (hsets _ (List.mem_of_getElem? (i := 0) rfl)))
  obtain ⟨v13, e14, r15⟩ := isR_v (Cond.before_iff.mp (hsets _ (List.mem_of_getElem? (i := 8) rfl)))
  have S16 : Sta s s.heap "jdk/internal/util/Preconditions" "SIOOBE_FORMATTER" "Ljava/util/function/BiFunction;" v13 := Sta.start e14 (Or.inl (hsets _ (List.mem_of_getElem? (i := 7) rfl)))
  have c17 : ¬ (i11 = (0 : Int32)) := gotF (Cond.eq_ints e10 (Term.int_eval (0))) (not_v (Cond.before_iff.mp hc2))
  have hh7 : Jvm.Lit.constHeld s "com/example/grammar_parser/grammarparser/GrammarReaderDigitPinLaw" 7 := hcalls.1 ("com/example/grammar_parser/grammarparser/GrammarReaderDigitPinLaw", 7) (List.mem_of_getElem? (i := 0) rfl)
  have hh9 : Jvm.Lit.constHeld s "com/example/grammar_parser/grammarparser/GrammarReaderDigitPinLaw" 9 := hcalls.1 ("com/example/grammar_parser/grammarparser/GrammarReaderDigitPinLaw", 9) (List.mem_of_getElem? (i := 1) rfl)
  obtain ⟨i0, ei0⟩ := is_v g3
  obtain rfl : w0 = (.int i0) := Option.some.inj ei0
  obtain ⟨i1, ei1⟩ := is_v g5
  obtain rfl : w1 = (.int i1) := Option.some.inj ei1
  obtain ⟨i2, ei2⟩ := is_v g7
  obtain rfl : w2 = (.int i2) := Option.some.inj ei2
  obtain ⟨i3, ei3⟩ := is_v g8
  obtain rfl : w3 = (.int i3) := Option.some.inj ei3
  obtain ⟨n, o, h1, h2, h3, _, L, rfl, ⟨rfl, N⟩, hq⟩ := rm0 l s _ hw tables_1 i0 i1 i2 i3 i11 v13 s.heap s.heap.size (Nat.le_refl _) S12 S16 c17 r15 rfl hh7 hh9 hc2 p e ha hc hk s m _ below hf ((Spec.applies_iff_loose hf).mp happ).1 ⟨rfl, rfl, rfl⟩ trivial
  refine ⟨n, _, h1, h2, h3, hpost _ _ _ _ _ _ ⟨Cond.after_iff.mpr rfl, Cond.after_iff.mpr (eq_i res_at (Term.int_eval (1)) rfl), trivial⟩ ⟨hq.1, hq.2.1, hq.2.2.1, (hq.2.2.2.sift fun y hy => Or.inr (N y hy)).mono (by decide) (by decide)⟩⟩
theorem main_1_1 : Claimed_1_1 := comes_1 fun _ _ _ _ _ _ h hF => ⟨h.1, hF⟩
theorem main_1_2 : Claimed_1_2 := comes_1 fun _ _ _ _ _ _ h hF => ⟨h.2.1, hF⟩
end Jvm.Pilot.@@N@@
namespace Jvm.Pilot.@@N@@
open Jvm Jvm.ClassFile Sem Op Lib Jvm.Free Jvm.Stand Jvm.Pilot.@@N@@.Jvm.D
/-! MADE BY PROGRAM (witnessworld.py) out of the Statement's table words and the real class files: 17 classes; the members and pool entries that the words name. The judged class is class 1, her method 1. -/
namespace start1
open Jvm.ClassFile
def u (s : String) : CpInfo := .utf8 (stringToUtf16 s)
/-- a pool by its gaps: so many unusable entries, then the entry; so many at the end -/
def gap : Nat → List CpInfo → List CpInfo
  | 0, r => r
  | n + 1, r => .unusable :: gap n r
def poolList (es : List (Nat × CpInfo)) (last : Nat) : List CpInfo := es.foldr (fun e r => gap e.1 (e.2 :: r)) (gap last [])
def pool (es : List (Nat × CpInfo)) (last : Nat) : Array CpInfo := ⟨poolList es last⟩
def fileOf (pool : Array CpInfo) (this : Nat) (attrs : Array Attribute := #[]) (ms : Array MethodInfo := #[]) (fl : Nat := 33) (sup : Nat := 0) (ifs : Array Nat := #[]) (fds : Array FieldInfo := #[]) : ClassFile where
  minorVersion := 0
  majorVersion := 65
  constantPool := pool
  accessFlags := fl
  thisClass := this
  superClass := sup
  interfaces := ifs
  fields := fds
  methods := ms
  attributes := attrs
def plain (name : String) (sup : Option ClassId) : Class where
  name := name
  kind := .ordinary
  loader := none
  accessFlags := 33
  super := sup
  interfaces := #[]
  cf := none
  fields := #[]
  methods := #[]
  instanceTypes := #[]
  staticTypes := #[]
  resolved := #[]
  callSites := []
  init := .initialized
  statics := none
  mirror := none

def pool0 : Array CpInfo := pool [(5, u "<init>"), (0, u "()V"), (1, .class_ 10), (1, u "java/lang/Object")] 113

def k0m0 : Method := { name := "<init>", desc := "()V", sig := { parameters := [], returnType := none }, accessFlags := 1, code := none }
/-- java/lang/Object -/
def k0 : Class := { plain "java/lang/Object" none with
  accessFlags := 33
  interfaces := #[]
  cf := some (fileOf pool0 8 #[] #[{ accessFlags := 1, nameIndex := 5, descriptorIndex := 6, attributes := #[] }] 33 0 #[] #[])
  fields := #[]
  methods := #[k0m0]
  instanceTypes := #[]
  staticTypes := #[]
  resolved := Array.replicate 124 none
  statics := none }

def pool1 : Array CpInfo := pool [(2, .class_ 4), (1, u "java/lang/Object"), (0, u "<init>"), (0, u "()V"), (0, .string 8), (0, u "0123456789abcdef"), (0, .string 10), (0, u "0123456789ABCDEF"), (0, .methodref 12 13), (0, .class_ 14), (0, .nameAndType 15 16), (0, u "com/example/grammar_parser/grammarparser/GrammarReader"), (0, u "digit"), (0, u "(II)I"), (0, .methodref 18 19), (0, .class_ 20), (0, .nameAndType 21 22), (0, u "java/lang/String"), (0, u "charAt"), (0, u "(I)C"), (0, .class_ 24), (0, u "com/example/grammar_parser/grammarparser/GrammarReaderDigitPinLaw"), (2, u "law"), (0, u "(IIII)Z")] 3

def k1m0 : Method := { name := "<init>", desc := "()V", sig := { parameters := [], returnType := none }, accessFlags := 2, code := none }
def k1c1 : Code := { maxStack := 3, maxLocals := 14, code := code, exceptionTable := #[], attributes := #[] }
def k1m1 : Method := { name := "law", desc := "(IIII)Z", sig := { parameters := [.int, .int, .int, .int], returnType := some .boolean }, accessFlags := 9, code := some k1c1 }
/-- com/example/grammar_parser/grammarparser/GrammarReaderDigitPinLaw -/
def k1 : Class := { plain "com/example/grammar_parser/grammarparser/GrammarReaderDigitPinLaw" (some 0) with
  accessFlags := 49
  interfaces := #[]
  cf := some (fileOf pool1 23 #[] #[{ accessFlags := 2, nameIndex := 5, descriptorIndex := 6, attributes := #[] }, { accessFlags := 9, nameIndex := 27, descriptorIndex := 28, attributes := #[] }] 49 2 #[] #[])
  fields := #[]
  methods := #[k1m0, k1m1]
  instanceTypes := #[]
  staticTypes := #[]
  resolved := Array.replicate 32 none
  statics := none }

def pool2 : Array CpInfo := pool [(1, .class_ 2), (0, u "java/io/Serializable"), (0, .class_ 4), (0, u "java/lang/Object")] 2

/-- java/io/Serializable -/
def k2 : Class := { plain "java/io/Serializable" (some 0) with
  accessFlags := 1537
  interfaces := #[]
  cf := some (fileOf pool2 1 #[] #[] 1537 3 #[] #[])
  fields := #[]
  methods := #[]
  instanceTypes := #[]
  staticTypes := #[]
  resolved := Array.replicate 7 none
  statics := none }

def pool3 : Array CpInfo := pool [(1, .class_ 2), (0, u "java/lang/Comparable"), (0, .class_ 4), (0, u "java/lang/Object")] 7

/-- java/lang/Comparable -/
def k3 : Class := { plain "java/lang/Comparable" (some 0) with
  accessFlags := 1537
  interfaces := #[]
  cf := some (fileOf pool3 1 #[] #[] 1537 3 #[] #[])
  fields := #[]
  methods := #[]
  instanceTypes := #[]
  staticTypes := #[]
  resolved := Array.replicate 12 none
  statics := none }

def pool4 : Array CpInfo := pool [(2, .class_ 4), (1, u "java/lang/CharSequence"), (42, .class_ 48), (0, u "java/lang/CharSequence$1CodePointIterator"), (10, .class_ 60), (0, u "java/lang/CharSequence$1CharIterator"), (5, .class_ 67), (0, u "java/lang/Object")] 63

/-- java/lang/CharSequence -/
def k4 : Class := { plain "java/lang/CharSequence" (some 0) with
  accessFlags := 1537
  interfaces := #[]
  cf := some (fileOf pool4 2 #[.nestMembers #[47, 59]] #[] 1537 66 #[] #[])
  fields := #[]
  methods := #[]
  instanceTypes := #[]
  staticTypes := #[]
  resolved := Array.replicate 131 none
  statics := none }

def pool5 : Array CpInfo := pool [(1, .class_ 2), (0, u "java/lang/constant/Constable"), (0, .class_ 4), (0, u "java/lang/Object")] 6

/-- java/lang/constant/Constable -/
def k5 : Class := { plain "java/lang/constant/Constable" (some 0) with
  accessFlags := 1537
  interfaces := #[]
  cf := some (fileOf pool5 1 #[] #[] 1537 3 #[] #[])
  fields := #[]
  methods := #[]
  instanceTypes := #[]
  staticTypes := #[]
  resolved := Array.replicate 11 none
  statics := none }

def pool6 : Array CpInfo := pool [(1, .class_ 2), (0, u "java/lang/constant/ConstantDesc"), (0, .class_ 4), (0, u "java/lang/Object")] 32

/-- java/lang/constant/ConstantDesc -/
def k6 : Class := { plain "java/lang/constant/ConstantDesc" (some 0) with
  accessFlags := 1537
  interfaces := #[]
  cf := some (fileOf pool6 1 #[] #[] 1537 3 #[] #[])
  fields := #[]
  methods := #[]
  instanceTypes := #[]
  staticTypes := #[]
  resolved := Array.replicate 37 none
  statics := none }

def pool7 : Array CpInfo := pool [(2, .class_ 4), (1, u "java/lang/Object"), (0, u "<init>"), (0, u "()V"), (2, .fieldref 10 11), (0, .class_ 12), (0, .nameAndType 13 14), (0, u "java/lang/String"), (0, u "value"), (0, u "[B"), (0, .fieldref 10 16), (0, .nameAndType 17 18), (0, u "coder"), (0, u "B"), (2, u "hash"), (0, u "I"), (2, u "hashIsZero"), (0, u "Z"), (11, .fieldref 10 39), (0, .nameAndType 40 26), (0, u "COMPACT_STRINGS"), (66, .class_ 109), (1, u "java/lang/StringLatin1"), (32, u "()Z"), (220, u "([BI)C"), (27, u "(II)V"), (35, u "(I)C"), (64, .methodref 10 493), (0, .nameAndType 494 142), (0, u "isLatin1"), (0, .methodref 107 496), (0, .nameAndType 497 363), (0, u "charAt"), (3, u "checkIndex"), (73, .class_ 576), (0, u "java/lang/CharSequence"), (22, u "CASE_INSENSITIVE_ORDER"), (0, u "Ljava/util/Comparator;"), (452, .fieldref 1054 1055), (0, .class_ 1056), (0, .nameAndType 1057 1058), (0, u "jdk/internal/util/Preconditions"), (0, u "SIOOBE_FORMATTER"), (0, u "Ljava/util/function/BiFunction;"), (0, .methodref 1054 1060), (0, .nameAndType 501 1061), (0, u "(IILjava/util/function/BiFunction;)I"), (39, u "serialPersistentFields"), (0, u "[Ljava/io/ObjectStreamField;"), (0, .class_ 1104), (0, u "java/lang/String$CaseInsensitiveComparator"), (1, .class_ 1107), (0, u "java/io/Serializable"), (0, .class_ 1109), (0, u "java/lang/Comparable"), (0, .class_ 1111), (0, u "java/lang/constant/Constable"), (0, .class_ 1113), (0, u "java/lang/constant/ConstantDesc"), (2, u "serialVersionUID"), (0, u "J"), (3, u "REPL"), (0, u "C"), (2, u "LATIN1"), (1, u "UTF16")] 323

def k7m0 : Method := { name := "<init>", desc := "()V", sig := { parameters := [], returnType := none }, accessFlags := 1, code := none }
def k7c1 : Code := { maxStack := 2, maxLocals := 2, code := jdk_42_method_56_code, exceptionTable := #[], attributes := #[] }
def k7m1 : Method := { name := "charAt", desc := "(I)C", sig := { parameters := [.int], returnType := some .char }, accessFlags := 1, code := some k7c1 }
def k7c2 : Code := { maxStack := 1, maxLocals := 1, code := jdk_42_method_154_code, exceptionTable := #[], attributes := #[] }
def k7m2 : Method := { name := "isLatin1", desc := "()Z", sig := { parameters := [], returnType := some .boolean }, accessFlags := 0, code := some k7c2 }
def k7c3 : Code := { maxStack := 3, maxLocals := 2, code := jdk_42_method_155_code, exceptionTable := #[], attributes := #[] }
def k7m3 : Method := { name := "checkIndex", desc := "(II)V", sig := { parameters := [.int, .int], returnType := none }, accessFlags := 8, code := some k7c3 }
/-- java/lang/String -/
def k7 : Class := { plain "java/lang/String" (some 0) with
  accessFlags := 49
  interfaces := #[2, 3, 4, 5, 6]
  cf := some (fileOf pool7 10 #[.nestMembers #[1103]] #[{ accessFlags := 1, nameIndex := 5, descriptorIndex := 6, attributes := #[] }, { accessFlags := 1, nameIndex := 497, descriptorIndex := 427, attributes := #[] }, { accessFlags := 0, nameIndex := 494, descriptorIndex := 142, attributes := #[] }, { accessFlags := 8, nameIndex := 501, descriptorIndex := 391, attributes := #[] }] 49 2 #[1106, 1108, 575, 1110, 1112] #[{ accessFlags := 18, nameIndex := 13, descriptorIndex := 14, attributes := #[] }, { accessFlags := 18, nameIndex := 17, descriptorIndex := 18, attributes := #[] }, { accessFlags := 2, nameIndex := 21, descriptorIndex := 22, attributes := #[] }, { accessFlags := 2, nameIndex := 25, descriptorIndex := 26, attributes := #[] }, { accessFlags := 26, nameIndex := 1116, descriptorIndex := 1117, attributes := #[] }, { accessFlags := 24, nameIndex := 40, descriptorIndex := 26, attributes := #[] }, { accessFlags := 26, nameIndex := 1101, descriptorIndex := 1102, attributes := #[] }, { accessFlags := 26, nameIndex := 1121, descriptorIndex := 1122, attributes := #[] }, { accessFlags := 25, nameIndex := 599, descriptorIndex := 600, attributes := #[] }, { accessFlags := 24, nameIndex := 1125, descriptorIndex := 18, attributes := #[] }, { accessFlags := 24, nameIndex := 1127, descriptorIndex := 18, attributes := #[] }])
  fields := #[{ name := "value", type := (.array .byte), accessFlags := 18, slot := 0, constantValue := 0 }, { name := "coder", type := .byte, accessFlags := 18, slot := 1, constantValue := 0 }, { name := "hash", type := .int, accessFlags := 2, slot := 2, constantValue := 0 }, { name := "hashIsZero", type := .boolean, accessFlags := 2, slot := 3, constantValue := 0 }, { name := "serialVersionUID", type := .long, accessFlags := 26, slot := 0, constantValue := 0 }, { name := "COMPACT_STRINGS", type := .boolean, accessFlags := 24, slot := 1, constantValue := 0 }, { name := "serialPersistentFields", type := (.array (.object "java/io/ObjectStreamField")), accessFlags := 26, slot := 2, constantValue := 0 }, { name := "REPL", type := .char, accessFlags := 26, slot := 3, constantValue := 0 }, { name := "CASE_INSENSITIVE_ORDER", type := (.object "java/util/Comparator"), accessFlags := 25, slot := 4, constantValue := 0 }, { name := "LATIN1", type := .byte, accessFlags := 24, slot := 5, constantValue := 0 }, { name := "UTF16", type := .byte, accessFlags := 24, slot := 6, constantValue := 0 }]
  methods := #[k7m0, k7m1, k7m2, k7m3]
  instanceTypes := #[(.array .byte), .byte, .int, .boolean]
  staticTypes := #[.long, .boolean, (.array (.object "java/io/ObjectStreamField")), .char, (.object "java/util/Comparator"), .byte, .byte]
  resolved := Array.replicate 1451 none
  statics := some 0 }

def pool8 : Array CpInfo := pool [(2, .class_ 4), (1, u "java/lang/Object"), (6, .class_ 13), (1, u "com/example/grammar_parser/grammarparser/GrammarReader"), (0, u "errors"), (0, u "Ljava/util/List;"), (2, u "source"), (0, u "Lcom/example/grammar_parser/grammarparser/SourceText;"), (8, u "limit"), (0, u "I"), (2, u "position"), (2, u "lastEnd"), (18, u "digit"), (0, u "(II)I"), (42, u "END"), (2, u "STRING_NOT_CLOSED"), (0, u "Ljava/lang/String;"), (2, u "RANGE_REVERSED"), (25, .class_ 132), (0, u "com/example/grammar_parser/grammarparser/GrammarReader$Group")] 20

def k8c0 : Code := { maxStack := 2, maxLocals := 3, code := prog_45_method_14_code, exceptionTable := #[], attributes := #[] }
def k8m0 : Method := { name := "digit", desc := "(II)I", sig := { parameters := [.int, .int], returnType := some .int }, accessFlags := 8, code := some k8c0 }
/-- com/example/grammar_parser/grammarparser/GrammarReader -/
def k8 : Class := { plain "com/example/grammar_parser/grammarparser/GrammarReader" (some 0) with
  accessFlags := 1056
  interfaces := #[]
  cf := some (fileOf pool8 11 #[.nestMembers #[131]] #[{ accessFlags := 8, nameIndex := 54, descriptorIndex := 55, attributes := #[] }] 1056 2 #[] #[{ accessFlags := 24, nameIndex := 98, descriptorIndex := 29, attributes := #[] }, { accessFlags := 24, nameIndex := 101, descriptorIndex := 102, attributes := #[] }, { accessFlags := 24, nameIndex := 105, descriptorIndex := 102, attributes := #[] }, { accessFlags := 16, nameIndex := 18, descriptorIndex := 19, attributes := #[] }, { accessFlags := 16, nameIndex := 14, descriptorIndex := 15, attributes := #[] }, { accessFlags := 0, nameIndex := 32, descriptorIndex := 29, attributes := #[] }, { accessFlags := 2, nameIndex := 28, descriptorIndex := 29, attributes := #[] }, { accessFlags := 2, nameIndex := 35, descriptorIndex := 29, attributes := #[] }])
  fields := #[{ name := "END", type := .int, accessFlags := 24, slot := 0, constantValue := 0 }, { name := "STRING_NOT_CLOSED", type := (.object "java/lang/String"), accessFlags := 24, slot := 1, constantValue := 0 }, { name := "RANGE_REVERSED", type := (.object "java/lang/String"), accessFlags := 24, slot := 2, constantValue := 0 }, { name := "source", type := (.object "com/example/grammar_parser/grammarparser/SourceText"), accessFlags := 16, slot := 0, constantValue := 0 }, { name := "errors", type := (.object "java/util/List"), accessFlags := 16, slot := 1, constantValue := 0 }, { name := "position", type := .int, accessFlags := 0, slot := 2, constantValue := 0 }, { name := "limit", type := .int, accessFlags := 2, slot := 3, constantValue := 0 }, { name := "lastEnd", type := .int, accessFlags := 2, slot := 4, constantValue := 0 }]
  methods := #[k8m0]
  instanceTypes := #[(.object "com/example/grammar_parser/grammarparser/SourceText"), (.object "java/util/List"), .int, .int, .int]
  staticTypes := #[.int, (.object "java/lang/String"), (.object "java/lang/String")]
  resolved := Array.replicate 153 none
  statics := none }

def pool9 : Array CpInfo := pool [(1, .class_ 2), (0, u "java/lang/String"), (1, .class_ 6), (1, u "java/lang/Object"), (0, u "<init>"), (0, u "()V"), (0, .methodref 1 10), (0, .nameAndType 11 12), (0, u "checkIndex"), (0, u "(II)V"), (1, .class_ 16), (1, u "java/lang/StringLatin1"), (36, u "([BI)C"), (67, u "$assertionsDisabled"), (0, u "Z"), (98, .class_ 223), (1, u "java/lang/StringLatin1$LinesSpliterator"), (28, u "charAt"), (137, .class_ 391), (0, u "java/lang/StringLatin1$CharsSpliterator")] 3

def k9m0 : Method := { name := "<init>", desc := "()V", sig := { parameters := [], returnType := none }, accessFlags := 0, code := none }
def k9c1 : Code := { maxStack := 2, maxLocals := 2, code := jdk_43_method_2_code, exceptionTable := #[], attributes := #[] }
def k9m1 : Method := { name := "charAt", desc := "([BI)C", sig := { parameters := [(.array .byte), .int], returnType := some .char }, accessFlags := 9, code := some k9c1 }
/-- java/lang/StringLatin1 -/
def k9 : Class := { plain "java/lang/StringLatin1" (some 0) with
  accessFlags := 48
  interfaces := #[]
  cf := some (fileOf pool9 14 #[.nestMembers #[390, 221]] #[{ accessFlags := 0, nameIndex := 7, descriptorIndex := 8, attributes := #[] }, { accessFlags := 9, nameIndex := 252, descriptorIndex := 53, attributes := #[] }] 48 4 #[] #[{ accessFlags := 4120, nameIndex := 121, descriptorIndex := 122, attributes := #[] }])
  fields := #[{ name := "$assertionsDisabled", type := .boolean, accessFlags := 4120, slot := 0, constantValue := 0 }]
  methods := #[k9m0, k9m1]
  instanceTypes := #[]
  staticTypes := #[.boolean]
  resolved := Array.replicate 395 none
  statics := none }

def pool10 : Array CpInfo := pool [(2, .class_ 4), (1, u "java/lang/Object"), (0, u "<init>"), (0, u "()V"), (17, .class_ 26), (1, u "jdk/internal/util/Preconditions"), (6, u "checkIndex"), (21, .class_ 56), (0, u "jdk/internal/util/Preconditions$4"), (57, .class_ 115), (0, u "jdk/internal/util/Preconditions$1"), (7, u "SIOOBE_FORMATTER"), (0, u "Ljava/util/function/BiFunction;"), (0, .class_ 126), (0, u "jdk/internal/util/Preconditions$2"), (3, u "AIOOBE_FORMATTER"), (0, .class_ 132), (0, u "jdk/internal/util/Preconditions$3"), (3, u "IOOBE_FORMATTER"), (41, u "(IILjava/util/function/BiFunction;)I")] 15

def k10m0 : Method := { name := "<init>", desc := "()V", sig := { parameters := [], returnType := none }, accessFlags := 1, code := none }
def k10c1 : Code := { maxStack := 3, maxLocals := 3, code := jdk_41_method_11_code, exceptionTable := #[], attributes := #[] }
def k10m1 : Method := { name := "checkIndex", desc := "(IILjava/util/function/BiFunction;)I", sig := { parameters := [.int, .int, (.object "java/util/function/BiFunction")], returnType := some .int }, accessFlags := 9, code := some k10c1 }
/-- jdk/internal/util/Preconditions -/
def k10 : Class := { plain "jdk/internal/util/Preconditions" (some 0) with
  accessFlags := 33
  interfaces := #[]
  cf := some (fileOf pool10 24 #[.nestMembers #[55, 131, 125, 114]] #[{ accessFlags := 1, nameIndex := 5, descriptorIndex := 6, attributes := #[] }, { accessFlags := 9, nameIndex := 33, descriptorIndex := 178, attributes := #[] }] 33 2 #[] #[{ accessFlags := 25, nameIndex := 123, descriptorIndex := 124, attributes := #[] }, { accessFlags := 25, nameIndex := 130, descriptorIndex := 124, attributes := #[] }, { accessFlags := 25, nameIndex := 136, descriptorIndex := 124, attributes := #[] }])
  fields := #[{ name := "SIOOBE_FORMATTER", type := (.object "java/util/function/BiFunction"), accessFlags := 25, slot := 0, constantValue := 0 }, { name := "AIOOBE_FORMATTER", type := (.object "java/util/function/BiFunction"), accessFlags := 25, slot := 1, constantValue := 0 }, { name := "IOOBE_FORMATTER", type := (.object "java/util/function/BiFunction"), accessFlags := 25, slot := 2, constantValue := 0 }]
  methods := #[k10m0, k10m1]
  instanceTypes := #[]
  staticTypes := #[(.object "java/util/function/BiFunction"), (.object "java/util/function/BiFunction"), (.object "java/util/function/BiFunction")]
  resolved := Array.replicate 194 none
  statics := some 1 }

def pool11 : Array CpInfo := pool [(9, u "<init>"), (6, .class_ 18), (1, u "java/lang/Object"), (0, u "()V"), (1, .class_ 23), (1, u "jdk/internal/util/ArraysSupport"), (0, u "LOG2_ARRAY_LONG_INDEX_SCALE"), (0, u "I"), (2, u "U"), (0, u "Ljdk/internal/misc/Unsafe;"), (8, u "BIG_ENDIAN"), (0, u "Z"), (8, u "LOG2_BYTE_BIT_SIZE"), (4, u "LOG2_ARRAY_INT_INDEX_SCALE"), (54, u "JLA"), (0, u "Ljdk/internal/access/JavaLangAccess;"), (11, u "LOG2_ARRAY_BOOLEAN_INDEX_SCALE"), (9, u "LOG2_ARRAY_BYTE_INDEX_SCALE"), (5, u "LOG2_ARRAY_CHAR_INDEX_SCALE"), (5, u "LOG2_ARRAY_SHORT_INDEX_SCALE"), (18, u "LOG2_ARRAY_FLOAT_INDEX_SCALE"), (24, u "LOG2_ARRAY_DOUBLE_INDEX_SCALE"), (89, u "T_BOOLEAN"), (2, u "T_CHAR"), (1, u "T_FLOAT"), (1, u "T_DOUBLE"), (1, u "T_BYTE"), (1, u "T_SHORT"), (1, u "T_INT"), (1, u "T_LONG"), (1, u "SOFT_MAX_ARRAY_LENGTH")] 83

def k11m0 : Method := { name := "<init>", desc := "()V", sig := { parameters := [], returnType := none }, accessFlags := 2, code := none }
/-- jdk/internal/util/ArraysSupport -/
def k11 : Class := { plain "jdk/internal/util/ArraysSupport" (some 0) with
  accessFlags := 33
  interfaces := #[]
  cf := some (fileOf pool11 21 #[] #[{ accessFlags := 2, nameIndex := 9, descriptorIndex := 19, attributes := #[] }] 33 16 #[] #[{ accessFlags := 24, nameIndex := 28, descriptorIndex := 29, attributes := #[] }, { accessFlags := 26, nameIndex := 38, descriptorIndex := 39, attributes := #[] }, { accessFlags := 25, nameIndex := 121, descriptorIndex := 25, attributes := #[] }, { accessFlags := 25, nameIndex := 131, descriptorIndex := 25, attributes := #[] }, { accessFlags := 25, nameIndex := 137, descriptorIndex := 25, attributes := #[] }, { accessFlags := 25, nameIndex := 143, descriptorIndex := 25, attributes := #[] }, { accessFlags := 25, nameIndex := 53, descriptorIndex := 25, attributes := #[] }, { accessFlags := 25, nameIndex := 24, descriptorIndex := 25, attributes := #[] }, { accessFlags := 25, nameIndex := 162, descriptorIndex := 25, attributes := #[] }, { accessFlags := 25, nameIndex := 187, descriptorIndex := 25, attributes := #[] }, { accessFlags := 26, nameIndex := 48, descriptorIndex := 25, attributes := #[] }, { accessFlags := 25, nameIndex := 277, descriptorIndex := 25, attributes := #[] }, { accessFlags := 25, nameIndex := 280, descriptorIndex := 25, attributes := #[] }, { accessFlags := 25, nameIndex := 282, descriptorIndex := 25, attributes := #[] }, { accessFlags := 25, nameIndex := 284, descriptorIndex := 25, attributes := #[] }, { accessFlags := 25, nameIndex := 286, descriptorIndex := 25, attributes := #[] }, { accessFlags := 25, nameIndex := 288, descriptorIndex := 25, attributes := #[] }, { accessFlags := 25, nameIndex := 290, descriptorIndex := 25, attributes := #[] }, { accessFlags := 25, nameIndex := 292, descriptorIndex := 25, attributes := #[] }, { accessFlags := 26, nameIndex := 108, descriptorIndex := 109, attributes := #[] }, { accessFlags := 25, nameIndex := 294, descriptorIndex := 25, attributes := #[] }])
  fields := #[{ name := "U", type := (.object "jdk/internal/misc/Unsafe"), accessFlags := 24, slot := 0, constantValue := 0 }, { name := "BIG_ENDIAN", type := .boolean, accessFlags := 26, slot := 1, constantValue := 0 }, { name := "LOG2_ARRAY_BOOLEAN_INDEX_SCALE", type := .int, accessFlags := 25, slot := 2, constantValue := 0 }, { name := "LOG2_ARRAY_BYTE_INDEX_SCALE", type := .int, accessFlags := 25, slot := 3, constantValue := 0 }, { name := "LOG2_ARRAY_CHAR_INDEX_SCALE", type := .int, accessFlags := 25, slot := 4, constantValue := 0 }, { name := "LOG2_ARRAY_SHORT_INDEX_SCALE", type := .int, accessFlags := 25, slot := 5, constantValue := 0 }, { name := "LOG2_ARRAY_INT_INDEX_SCALE", type := .int, accessFlags := 25, slot := 6, constantValue := 0 }, { name := "LOG2_ARRAY_LONG_INDEX_SCALE", type := .int, accessFlags := 25, slot := 7, constantValue := 0 }, { name := "LOG2_ARRAY_FLOAT_INDEX_SCALE", type := .int, accessFlags := 25, slot := 8, constantValue := 0 }, { name := "LOG2_ARRAY_DOUBLE_INDEX_SCALE", type := .int, accessFlags := 25, slot := 9, constantValue := 0 }, { name := "LOG2_BYTE_BIT_SIZE", type := .int, accessFlags := 26, slot := 10, constantValue := 0 }, { name := "T_BOOLEAN", type := .int, accessFlags := 25, slot := 11, constantValue := 0 }, { name := "T_CHAR", type := .int, accessFlags := 25, slot := 12, constantValue := 0 }, { name := "T_FLOAT", type := .int, accessFlags := 25, slot := 13, constantValue := 0 }, { name := "T_DOUBLE", type := .int, accessFlags := 25, slot := 14, constantValue := 0 }, { name := "T_BYTE", type := .int, accessFlags := 25, slot := 15, constantValue := 0 }, { name := "T_SHORT", type := .int, accessFlags := 25, slot := 16, constantValue := 0 }, { name := "T_INT", type := .int, accessFlags := 25, slot := 17, constantValue := 0 }, { name := "T_LONG", type := .int, accessFlags := 25, slot := 18, constantValue := 0 }, { name := "JLA", type := (.object "jdk/internal/access/JavaLangAccess"), accessFlags := 26, slot := 19, constantValue := 0 }, { name := "SOFT_MAX_ARRAY_LENGTH", type := .int, accessFlags := 25, slot := 20, constantValue := 0 }]
  methods := #[k11m0]
  instanceTypes := #[]
  staticTypes := #[(.object "jdk/internal/misc/Unsafe"), .boolean, .int, .int, .int, .int, .int, .int, .int, .int, .int, .int, .int, .int, .int, .int, .int, .int, .int, (.object "jdk/internal/access/JavaLangAccess"), .int]
  resolved := Array.replicate 378 none
  statics := none }

def pool12 : Array CpInfo := pool [(1, u "java/lang/Cloneable"), (0, .class_ 1), (0, u "java/lang/Object"), (0, .class_ 3)] 3

/-- java/lang/Cloneable -/
def k12 : Class := { plain "java/lang/Cloneable" (some 0) with
  accessFlags := 1537
  interfaces := #[]
  cf := some (fileOf pool12 2 #[] #[] 1537 4 #[] #[])
  fields := #[]
  methods := #[]
  instanceTypes := #[]
  staticTypes := #[]
  resolved := Array.replicate 8 none
  statics := none }

/-- the primitive byte -/
def k13 : Class := { plain "byte" none with kind := .primitive 'B', accessFlags := 0x411 }
/-- [B -/
def k14 : Class := { plain "[B" (some 0) with kind := .array 13 .byte, interfaces := #[12, 2], accessFlags := 1041 }

/-- the primitive int -/
def k15 : Class := { plain "int" none with kind := .primitive 'I', accessFlags := 0x411 }
/-- [I -/
def k16 : Class := { plain "[I" (some 0) with kind := .array 15 .int, interfaces := #[12, 2], accessFlags := 1041 }

def heap : Heap := #[{ cls := 7, slots := #[.long 0, .int 1, .null, .int 0, .null, .int 0, .int 0], vm := .statics 7 },
  { cls := 10, slots := #[.null, .null, .null], vm := .statics 10 }]
def classes : Array Class := #[k0, k1, k2, k3, k4, k5, k6, k7, k8, k9, k10, k11, k12, k13, k14, k15, k16]
def interned : List (Array UInt16 × Addr) := []
def slotsUsed : Nat := 10
def theMethod : MethodId := ⟨1, 1⟩
def args0 : Array Value := #[.int 53, .int 9, .int 3, .int 1]
def aboutOver (below : List Frame) : State where
  vm := { classes := classes, interned := interned.toArray }
  heap := heap
  slotsUsed := slotsUsed
  threads := #[{ frames := .invoking theMethod args0 :: below }]
def below0 : List Frame := [.native { method := ⟨0, 0⟩, args := #[] }]
def about1 : State := aboutOver below0
def p0 : Program := .bare "" "" ""
def e0 : Env := launch0.env 0 0 0
theorem w_frames : about1.frames = Frame.invoking theMethod args0 :: below0 := rfl
set_option maxRecDepth 65536 in
theorem w_args : argsFit about1.vm theMethod args0 = true := by decide +kernel
set_option maxRecDepth 65536 in
theorem w_heap : heapFits about1 = true := by decide +kernel
set_option maxRecDepth 65536 in
theorem w_runnable : about1.curStatus? = some .runnable := by decide +kernel
set_option maxRecDepth 65536 in
theorem w_alone : about1.alone = true := by decide +kernel
set_option maxRecDepth 65536 in
theorem w_named : about1.methodNamed? x = some theMethod := by decide +kernel
set_option maxRecDepth 65536 in
theorem w_hears : about1.hears theMethod below0 = true := by decide +kernel
set_option maxRecDepth 65536 in
theorem w_ripe : about1.ripe theMethod args0 below0 = true := by decide +kernel
theorem w_running : about1.status = .running := rfl
set_option maxRecDepth 65536 in
theorem w_room : about1.hasRoom e0.platform room_1 = true :=
  launch0.hasRoom_least _ room_1 (by decide +kernel) (by decide +kernel) (by decide +kernel) (by decide +kernel) (by decide +kernel) (by decide +kernel)
theorem allAtoms_all (ts : List Jvm.Cond) (a : Array Jvm.Value) (st : Jvm.State) : (allAtoms ts).before a st = ts.all (fun c => c.before a st) := by
  induction ts with
  | nil => rfl
  | cons c t ih =>
    show (Jvm.Cond.and c (allAtoms t)).before a st = _
    rw [Jvm.Cond.before_and, ih, List.all_cons]
def words1 : List Jvm.Cond := Jvm.Cond.code x code maxLocals ret :: tables_1
/-- a 'code' word, met by the world's own term for the bytes: nothing is compared byte by byte -/
theorem code_word {y : MethodName} {bytes : ByteArray} {mx : Nat} {rt : Option FieldType} {a : Array Value} {s : State} {m : MethodId} {meth : Method} {c : Code} (h1 : s.methodNamed? y = some m) (h2 : s.vm.method? m = some meth) (h3 : meth.code = some c) (h4 : c.code = bytes)
    (h5 : (c.maxLocals == mx && c.exceptionTable.isEmpty && decide (c.maxStack ≤ mostOperands) && decide (meth.sig.returnType = rt) && !meth.locks && decide (parseMethodDescriptor y.desc = some meth.sig)) = true) : (Jvm.Cond.code y bytes mx rt).before a s = true := by
  simp only [Bool.and_eq_true, beq_iff_eq, Bool.not_eq_true', decide_eq_true_eq] at h5
  obtain ⟨⟨⟨⟨⟨g1, g2⟩, g3⟩, g4⟩, g5⟩, g6⟩ := h5
  simp [Cond.before, Cond.holds, Cond.value, h1, h2, h3, h4, g1, g2, g3, g4, g5, g6]
def isCode : Jvm.Cond → Bool
  | .code _ _ _ _ => true
  | _ => false
theorem all_split {L : List Jvm.Cond} {P : Jvm.Cond → Bool} (h1 : L.all (fun c => isCode c || P c) = true) (h2 : ∀ c ∈ L.filter isCode, P c = true) : L.all P = true := by
  refine List.all_eq_true.mpr fun c hc => ?_
  have h := List.all_eq_true.mp h1 c hc
  rcases Bool.eq_false_or_eq_true (isCode c) with hi | hi
  · exact h2 c (List.mem_filter.mpr ⟨hc, hi⟩)
  · simpa [hi] using h
set_option maxRecDepth 65536 in
theorem w_c0 : (Jvm.Cond.code x code maxLocals ret).before args0 about1 = true := code_word (m := ⟨1, 1⟩) (meth := k1m1) (c := k1c1) (by decide +kernel) rfl rfl rfl (by decide +kernel)
set_option maxRecDepth 65536 in
theorem w_c1 : (Jvm.Cond.code ({ cls := "com/example/grammar_parser/grammarparser/GrammarReader", name := "digit", desc := "(II)I" } : Jvm.MethodName) prog_45_method_14_code (3 : Nat) (Option.some Jvm.ClassFile.FieldType.int)).before args0 about1 = true := code_word (m := ⟨8, 0⟩) (meth := k8m0) (c := k8c0) (by decide +kernel) rfl rfl rfl (by decide +kernel)
set_option maxRecDepth 65536 in
theorem w_c2 : (Jvm.Cond.code ({ cls := "java/lang/String", name := "charAt", desc := "(I)C" } : Jvm.MethodName) jdk_42_method_56_code (2 : Nat) (Option.some Jvm.ClassFile.FieldType.char)).before args0 about1 = true := code_word (m := ⟨7, 1⟩) (meth := k7m1) (c := k7c1) (by decide +kernel) rfl rfl rfl (by decide +kernel)
set_option maxRecDepth 65536 in
theorem w_c3 : (Jvm.Cond.code ({ cls := "java/lang/String", name := "isLatin1", desc := "()Z" } : Jvm.MethodName) jdk_42_method_154_code (1 : Nat) (Option.some Jvm.ClassFile.FieldType.boolean)).before args0 about1 = true := code_word (m := ⟨7, 2⟩) (meth := k7m2) (c := k7c2) (by decide +kernel) rfl rfl rfl (by decide +kernel)
set_option maxRecDepth 65536 in
theorem w_c4 : (Jvm.Cond.code ({ cls := "java/lang/StringLatin1", name := "charAt", desc := "([BI)C" } : Jvm.MethodName) jdk_43_method_2_code (2 : Nat) (Option.some Jvm.ClassFile.FieldType.char)).before args0 about1 = true := code_word (m := ⟨9, 1⟩) (meth := k9m1) (c := k9c1) (by decide +kernel) rfl rfl rfl (by decide +kernel)
set_option maxRecDepth 65536 in
theorem w_c5 : (Jvm.Cond.code ({ cls := "java/lang/String", name := "checkIndex", desc := "(II)V" } : Jvm.MethodName) jdk_42_method_155_code (2 : Nat) (Option.none : Option Jvm.ClassFile.FieldType)).before args0 about1 = true := code_word (m := ⟨7, 3⟩) (meth := k7m3) (c := k7c3) (by decide +kernel) rfl rfl rfl (by decide +kernel)
set_option maxRecDepth 65536 in
theorem w_c6 : (Jvm.Cond.code ({ cls := "jdk/internal/util/Preconditions", name := "checkIndex", desc := "(IILjava/util/function/BiFunction;)I" } : Jvm.MethodName) jdk_41_method_11_code (3 : Nat) (Option.some Jvm.ClassFile.FieldType.int)).before args0 about1 = true := code_word (m := ⟨10, 1⟩) (meth := k10m1) (c := k10c1) (by decide +kernel) rfl rfl rfl (by decide +kernel)
def codes1 : List Jvm.Cond := [Jvm.Cond.code x code maxLocals ret, Jvm.Cond.code ({ cls := "com/example/grammar_parser/grammarparser/GrammarReader", name := "digit", desc := "(II)I" } : Jvm.MethodName) prog_45_method_14_code (3 : Nat) (Option.some Jvm.ClassFile.FieldType.int), Jvm.Cond.code ({ cls := "java/lang/String", name := "charAt", desc := "(I)C" } : Jvm.MethodName) jdk_42_method_56_code (2 : Nat) (Option.some Jvm.ClassFile.FieldType.char), Jvm.Cond.code ({ cls := "java/lang/String", name := "isLatin1", desc := "()Z" } : Jvm.MethodName) jdk_42_method_154_code (1 : Nat) (Option.some Jvm.ClassFile.FieldType.boolean), Jvm.Cond.code ({ cls := "java/lang/StringLatin1", name := "charAt", desc := "([BI)C" } : Jvm.MethodName) jdk_43_method_2_code (2 : Nat) (Option.some Jvm.ClassFile.FieldType.char), Jvm.Cond.code ({ cls := "java/lang/String", name := "checkIndex", desc := "(II)V" } : Jvm.MethodName) jdk_42_method_155_code (2 : Nat) (Option.none : Option Jvm.ClassFile.FieldType), Jvm.Cond.code ({ cls := "jdk/internal/util/Preconditions", name := "checkIndex", desc := "(IILjava/util/function/BiFunction;)I" } : Jvm.MethodName) jdk_41_method_11_code (3 : Nat) (Option.some Jvm.ClassFile.FieldType.int)]
set_option maxRecDepth 65536 in
theorem codes_eq : words1.filter isCode = codes1 := rfl
theorem w_codes : ∀ c ∈ words1.filter isCode, c.before args0 about1 = true := by
  rw [codes_eq]
  intro c hc
  simp only [codes1, List.mem_cons, List.not_mem_nil, or_false] at hc
  rcases hc with rfl | rfl | rfl | rfl | rfl | rfl | rfl
  · exact w_c0
  · exact w_c1
  · exact w_c2
  · exact w_c3
  · exact w_c4
  · exact w_c5
  · exact w_c6
set_option maxRecDepth 65536 in
theorem w_t1 : (words1.take 24).all (fun c => isCode c || c.before args0 about1) = true := by decide +kernel
set_option maxRecDepth 65536 in
theorem w_t2 : (words1.drop 24).all (fun c => isCode c || c.before args0 about1) = true := by decide +kernel
theorem w_tables : (allAtoms (Jvm.Cond.code x code maxLocals ret :: tables_1)).before args0 about1 = true := by
  rw [allAtoms_all]
  show words1.all (fun c => c.before args0 about1) = true
  refine all_split ?_ w_codes
  rw [← List.take_append_drop 24 words1, List.all_append, w_t1, w_t2]
  rfl
set_option maxRecDepth 65536 in
theorem w_rest : rest_1_c.before args0 about1 = true := by decide +kernel
set_option maxRecDepth 65536 in
theorem w_case : (Jvm.Cond.and given_1 narrow_1).before args0 about1 = true := by decide +kernel
set_option maxRecDepth 65536 in
theorem w_consts : constsHeld consts_1 about1 := Jvm.Lit.constsHeldB_iff.mp (by decide +kernel)
theorem w_applies : (headSpec (Jvm.Cond.code x code maxLocals ret :: tables_1) room_1).applies x e0.platform about1 = true :=
  (Spec.applies_iff w_frames).mpr ⟨w_running, w_runnable, w_alone, w_named, w_hears, w_ripe, w_room, w_tables⟩
theorem atStart : AtStart classFile x code maxLocals ret World_1 tables_1 room_1 Calls_1 rest_1 Pre_1 launch0 p0 e0 about1 theMethod args0 below0 :=
  ⟨lists_1, trivial, launch0.admits_env _ _ _, launch0.least_env, fairChoices_fair.cas, fairChoices_fair.clock, w_frames, w_args, w_heap, w_applies, ⟨w_consts, trivial⟩, w_rest, w_case⟩
end start1
theorem witness_1 : WitnessClaimed_1 := ⟨start1.p0, start1.e0, start1.about1, start1.theMethod, start1.args0, start1.below0, start1.atStart⟩
end Jvm.Pilot.@@N@@
