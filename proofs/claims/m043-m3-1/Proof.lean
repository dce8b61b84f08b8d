import JvmDerived
import JvmDerived.Pilot.@@N@@Statement
import JvmDerived.Pilot.@@N@@Code
set_option linter.unusedVariables false
set_option linter.unusedSimpArgs false
namespace Jvm.RoadKit
open Sem ClassFile Op Lib Jvm.Stand Jvm.Free Jvm.LawKit
section New
variable {p : Program} {l : Launch} {e : Env} {R : Room} {s : State} {m : MethodId} {args : Array Value} {below : List Frame} {meth : Method} {c : Code} {T : State} {locs : List Loc} {cells slots : Nat}
theorem retI (X : Stand p l e R s m args below meth c T locs cells slots) (hx : p.tables.exec = Jvm.exec) {pc : Nat} {Ls : Array Slot} {z : Int32} {rest : List Value} (hret : meth.sig.returnType = some .int) (hd : decode c.code pc = .ok (.ireturn, 1)) {fs : List Frame}
    (hl : ∀ (f : JFrame) (acts : List Action), f.method = m → f.locked = none → f.entered = [] → (doReturn e (T.setTop f) acts (some (.int z))).1 = T.setFrames fs) : Steps p.tables e below (T.setTop (mkF m pc Ls (.int z :: rest))) (T.setFrames fs) := by
  have hm' : T.vm.method? m = some meth := X.method'
  have hn : narrow .int (.int z) = .int z := rfl
  show Steps p.tables e below (T.setTop { method := m, pc := pc, locals := Ls, stack := _ :: rest, locked := none }) _
  jvm_step X.here [X.here.top, hx, hd, hm', hret, hn]
  first | (intro acts; rw [hl _ acts rfl rfl rfl]) | rw [hl _ _ rfl rfl rfl]
  exact Steps.refl _
abbrev jv (x : Int64) : Slot := .val (.long x)
/-- from the state st the run ends as Q says -/
def own_Go (p : Program) (e : Env) (below : List Frame) (s : State) (Q : Option Value → Heap → List Loc → Prop) (CS : Nat × Nat) (st : State) : Prop :=
  ∃ s₂ o, Steps p.tables e below st s₂ ∧ s₂.status = .running ∧ Ended s₂ below o ∧ ∃ v L, o = .returned v ∧ Q v s₂.heap L ∧ FrameEnd s o s₂ L CS.1 CS.2
variable {Q : Option Value → Heap → List Loc → Prop} {CS : Nat × Nat} {st st' : State}
theorem own_via (h : ∀ {t}, Steps p.tables e below st t → Steps p.tables e below st' t) (g : own_Go p e below s Q CS st) : own_Go p e below s Q CS st' := by
  obtain ⟨s₂, o, h1, h2⟩ := g
  exact ⟨s₂, o, h h1, h2⟩
theorem own_start {g g' : JFrame} (q : g = g') (h : own_Go p e below s Q CS (T.setTop g')) : ∃ s₂ o, Steps p.tables e below (T.setTop g) s₂ ∧ s₂.status = .running ∧ Ended s₂ below o ∧ ∃ v L, o = .returned v ∧ Q v s₂.heap L ∧ FrameEnd s o s₂ L CS.1 CS.2 := q ▸ h
theorem own_retN (X : Stand p l e R s m args below meth c T locs cells slots) (hx : p.tables.exec = Jvm.exec) (hlk : meth.locks = false) {pc : Nat} {Ls : Array Slot} {z : Int32} {t : FieldType} {rest : List Value} (hret : meth.sig.returnType = some t) (ht : t = .boolean ∨ t = .byte ∨ t = .char ∨ t = .short)
    (hd : decode c.code pc = .ok (.ireturn, 1)) (hq : Q (some (.int (nar t z))) T.heap locs) (hc : cells ≤ CS.1) (hs : slots ≤ CS.2) : own_Go p e below s Q CS (T.setTop (mkF m pc Ls (.int z :: rest))) := by
  obtain ⟨fs, hr, hrun, hended, hW, hsame⟩ := X.leave (v := some (.int (nar t z))) (fun h => by rw [hret] at h; cases h) hlk
  exact ⟨_, _, retN X hx hret ht hd hr, hrun, hended, _, _, rfl, hq, ⟨_, rfl⟩, hW, hsame.mono hc hs⟩
theorem own_retI (X : Stand p l e R s m args below meth c T locs cells slots) (hx : p.tables.exec = Jvm.exec) (hlk : meth.locks = false) {pc : Nat} {Ls : Array Slot} {z : Int32} {rest : List Value} (hret : meth.sig.returnType = some .int)
    (hd : decode c.code pc = .ok (.ireturn, 1)) (hq : Q (some (.int z)) T.heap locs) (hc : cells ≤ CS.1) (hs : slots ≤ CS.2) : own_Go p e below s Q CS (T.setTop (mkF m pc Ls (.int z :: rest))) := by
  obtain ⟨fs, hr, hrun, hended, hW, hsame⟩ := X.leave (v := some (.int z)) (fun h => by rw [hret] at h; cases h) hlk
  exact ⟨_, _, retI X hx hret hd hr, hrun, hended, _, _, rfl, hq, ⟨_, rfl⟩, hW, hsame.mono hc hs⟩
theorem own_retL (X : Stand p l e R s m args below meth c T locs cells slots) (hx : p.tables.exec = Jvm.exec) (hlk : meth.locks = false) {pc : Nat} {Ls : Array Slot} {z : Int64} (hret : meth.sig.returnType = some .long)
    (hd : decode c.code pc = .ok (.lreturn, 1)) (hq : Q (some (.long z)) T.heap locs) (hc : cells ≤ CS.1) (hs : slots ≤ CS.2) : own_Go p e below s Q CS (T.setTop (mkF m pc Ls [.long z])) := by
  obtain ⟨fs, hr, hrun, hended, hW, hsame⟩ := X.leave (v := some (.long z)) (fun h => by rw [hret] at h; cases h) hlk
  exact ⟨_, _, X.lreturnOut hx hret hd hr, hrun, hended, _, _, rfl, hq, ⟨_, rfl⟩, hW, hsame.mono hc hs⟩
theorem own_retA (X : Stand p l e R s m args below meth c T locs cells slots) (hx : p.tables.exec = Jvm.exec) (hlk : meth.locks = false) {pc : Nat} {Ls : Array Slot} {w : Value} (hw : w.isRef = true) {t : FieldType} (hret : meth.sig.returnType = some t) (ht : t.isReference = true)
    (hd : decode c.code pc = .ok (.areturn, 1)) (hq : Q (some w) T.heap locs) (hc : cells ≤ CS.1) (hs : slots ≤ CS.2) : own_Go p e below s Q CS (T.setTop (mkF m pc Ls [w])) := by
  obtain ⟨fs, hr, hrun, hended, hW, hsame⟩ := X.leave (v := some w) (fun h => by rw [hret] at h; cases h) hlk
  exact ⟨_, _, X.areturnOut hx hw hret ht hd hr, hrun, hended, _, _, rfl, hq, ⟨_, rfl⟩, hW, hsame.mono hc hs⟩
theorem own_ret0 (X : Stand p l e R s m args below meth c T locs cells slots) (hx : p.tables.exec = Jvm.exec) (hlk : meth.locks = false) {pc : Nat} {Ls : Array Slot} (hret : meth.sig.returnType = none)
    (hd : decode c.code pc = .ok (.return_, 1)) (hq : Q none T.heap locs) (hc : cells ≤ CS.1) (hs : slots ≤ CS.2) : own_Go p e below s Q CS (T.setTop (mkF m pc Ls [])) := by
  obtain ⟨fs, hr, hrun, hended, hW, hsame⟩ := X.leave (v := none) (fun _ => rfl) hlk
  exact ⟨_, _, X.returnOut hx hret hd hr, hrun, hended, _, _, rfl, hq, ⟨_, rfl⟩, hW, hsame.mono hc hs⟩
theorem own_selPriv {s : State} {args args' : Array Value} {y y' : MethodName} {C : String} (w : (Cond.selects C y' y').before args' s = true) (hc : y'.cls = y.cls) (hinst : (Cond.instanceMethod y).before args s = true) (hpriv : s.PrivateAt y) (hy : y.cls ≠ "java/lang/invoke/MethodHandle" ∧ y.cls ≠ "java/lang/invoke/VarHandle") : (Cond.selects y.cls y y).before args s = true := by
  obtain ⟨c2, r2, m2, q1, q2, q3, q4, kP, hkP, hkPi⟩ := Cond.selects_spec w
  exact selects_self_of_private (c := m2.cls) (k := kP) (by rw [← hc]; exact findClass_of_methodNamed q3) hkP hkPi hpriv hinst hy
theorem own_fldI {Z : State} {h : Heap} {a : Addr} {C n d : String} {v w : Int32} (q : v = w) (F : Fld Z h a C n d (.int v)) : Fld Z h a C n d (.int w) := q ▸ F
theorem own_fldJ {Z : State} {h : Heap} {a : Addr} {C n d : String} {v w : Int64} (q : v = w) (F : Fld Z h a C n d (.long v)) : Fld Z h a C n d (.long w) := q ▸ F
theorem own_arv {Z : State} {h : Heap} {a : Addr} {k : ClassId} {ty : FieldType} {n : Int32} {vs vs' : List Value} {d : Value} (q : vs = vs') (F : Arv Z h a k ty n vs d) : Arv Z h a k ty n vs' d := q ▸ F
theorem own_fits {t : FieldType} {v w : Int32} (q : v = w) (F : fits t (.int v) = true) : fits t (.int w) = true := q ▸ F
end New
end Jvm.RoadKit
namespace Jvm.Pilot.@@N@@
open Jvm Jvm.ClassFile Sem Op Lib Jvm.Free Jvm.Stand Jvm.LawKit Jvm.RoadKit Bundle Jvm.Pilot.@@N@@.Jvm.D
theorem own_l32 {x y : Int32} : x < y ↔ x.toInt < y.toInt := Int32.lt_iff_toInt_lt
theorem own_e32 {x y : Int32} : x = y ↔ x.toInt = y.toInt := Int32.toInt_inj.symm
theorem own_l64 {x y : Int64} : x < y ↔ x.toInt < y.toInt := Int64.lt_iff_toInt_lt
theorem own_e64 {x y : Int64} : x = y ↔ x.toInt = y.toInt := Int64.toInt_inj.symm
theorem own_all8 {P : Int8 → Prop} (h : ∀ n : Fin 256, P (Int8.ofBitVec (BitVec.ofFin n))) (i : Int8) : P i := h i.toBitVec.toFin
theorem d1_0 : decode method_3_code 0 = .ok (.iload_n 0, 1) := by decide +kernel
theorem d1_1 : decode method_3_code 1 = .ok (.newarray .byte, 2) := by decide +kernel
theorem d1_3 : decode method_3_code 3 = .ok (.astore 4, 2) := by decide +kernel
theorem d1_5 : decode method_3_code 5 = .ok (.iload_n 0, 1) := by decide +kernel
theorem d1_6 : decode method_3_code 6 = .ok (.ifCond .le 8, 3) := by decide +kernel
theorem d1_14 : decode method_3_code 14 = .ok (.iload_n 0, 1) := by decide +kernel
theorem d1_15 : decode method_3_code 15 = .ok (.iconst 1, 1) := by decide +kernel
theorem d1_16 : decode method_3_code 16 = .ok (.if_icmp .le 8, 3) := by decide +kernel
theorem d1_24 : decode method_3_code 24 = .ok (.iload_n 0, 1) := by decide +kernel
theorem d1_25 : decode method_3_code 25 = .ok (.iconst 2, 1) := by decide +kernel
theorem d1_26 : decode method_3_code 26 = .ok (.if_icmp .le 8, 3) := by decide +kernel
theorem d1_34 : decode method_3_code 34 = .ok (.aload 4, 2) := by decide +kernel
theorem d1_36 : decode method_3_code 36 = .ok (.areturn, 1) := by decide +kernel
theorem pn_1 : plainName "com/example/grant3/grant3/policy/EtagOfPinLaw" = true := by first | (simp [plainName, overriddenIn]; done) | decide +kernel
theorem ef_1_0 (m : MethodId) (x0 : Int32) (x1 : Int32) (x2 : Int32) (x3 : Int32) : entryFrame m #[(.int x0), (.int x1), (.int x2), (.int x3)] 5 = mkF m 0 #[iv x0, iv x1, iv x2, iv x3, .unset] [] := by first | (simp [entryFrame, mkF, argsToLocals, Value.category]; done) | rfl
def Q1_0 (Z : State) (p1 : Int32) (p2 : Int32) (p3 : Int32) (h0 : Heap) (n0 : Nat) (v : Option Value) (h : Heap) (L : List Loc) : Prop := ∃ (b : Addr), ∃ (k : ClassId), v = some (.ref b) ∧ Fr n0 L ∧ Keep h0 h [] ∧ Arv Z h b k .byte (0 : Int32) [] (.int 0) ∧ Exa Z h b "[B" ∧ h0.size ≤ b
set_option maxRecDepth 65536 in
set_option maxHeartbeats 40000000 in
theorem rm1_0 (l : Launch) (Z : State) (aw : Array Value) (hw : ∀ d ∈ tables_1, d.before aw Z = true) (ws : List Jvm.Cond) (p1 : Int32) (p2 : Int32) (p3 : Int32) (h0 : Heap) (n0 : Nat) (Z0 : n0 ≤ h0.size)  :
    MetFree l (⟨"com/example/grant3/grant3/policy/EtagOfPinLaw", "make", "(IBBB)[B"⟩ : MethodName) (head1 (Jvm.Cond.code (⟨"com/example/grant3/grant3/policy/EtagOfPinLaw", "make", "(IBBB)[B"⟩ : MethodName) method_3_code 5 (some (.array .byte)) :: ws) ({ frames := 0, cells := 1, slots := 0, locals := 0 } : Room)) (fun a U => a = #[(.int 0), (.int p1), (.int p2), (.int p3)] ∧ Z.Warmed39 U.vm ∧ U.heap = h0) (fun _ _ _ _ _ => True) (fun _ U o U' => ∃ v L, o = .returned v ∧ Q1_0 Z p1 p2 p3 h0 n0 v U'.heap L ∧ FrameEnd U o U' L ({ frames := 0, cells := 1, slots := 0, locals := 0 } : Room).cells ({ frames := 0, cells := 1, slots := 0, locals := 0 } : Room).slots) := by
  refine MetFree.of_bodySF (plainFor_of_name pn_1) hisR ?_
  intro p e s m args below meth c s₁ Bd hml0 hP hK
  obtain ⟨rfl, hZ, hh⟩ := hP
  have hx := Bd.exec
  have hby := Bd.bytes
  have hml : c.maxLocals = 5 := hml0
  have hown : s.vm.findClass "com/example/grant3/grant3/policy/EtagOfPinLaw" = some m.cls := findClass_of_methodNamed Bd.named
  have hnm := (name_of_methodNamed Bd.named Bd.method).1
  have hlk : meth.locks = false := by first | exact BodyLoose.notSynchronized (by assumption) | exact Body.notSynchronized (by assumption)
  have X0 : Stand p l e ({ frames := 0, cells := 1, slots := 0, locals := 0 } : Room) s m #[(.int 0), (.int p1), (.int p2), (.int p3)] below meth c s₁ [] 0 0 := Stand.of_body Bd
  have e0 : s₁.heap = h0 := by rw [← hh, Bd.state]; rfl
  have N0 := Fr.nil n0
  have K0 : Keep h0 h0 [] := Keep.refl _ _
  refine own_start (CS := (1, 0)) (Q := (Q1_0 Z p1 p2 p3 h0 n0)) (ef_1_0 m (0 : Int32) p1 p2 p3) ?_
  show own_Go p e below s _ _ (s₁.setTop (mkF m 0 #[iv 0, iv p1, iv p2, iv p3, .unset] []))
  refine own_via (fun k => XS.iloadN X0.here hx rfl (hb hby d1_0) rfl  k) ?_
  show own_Go p e below s _ _ (s₁.setTop (mkF m 1 #[iv 0, iv p1, iv p2, iv p3, .unset] [(.int 0)]))
  obtain ⟨T1, h1, k1, X1, e1, E1, A1, AE1, st1⟩ := newPE X0 hx hZ (hw _ (List.mem_of_getElem? (i := 5) rfl)) e0 (g := (mkF m 1 #[iv 0, iv p1, iv p2, iv p3, .unset] [(.int 0)])) rfl (hb hby d1_1) rfl (by decide) (cap := 0) (by decide) (by decide) (by decide) (by decide) (ad := "[B") (by decide)
  obtain ⟨b1, g1⟩ : ∃ z, z = h0.size := ⟨_, rfl⟩
  rw [← g1] at A1 AE1 st1
  refine own_via (fun k => st1 _ k) ?_
  show own_Go p e below s _ _ (T1.setTop (mkF m 3 #[iv 0, iv p1, iv p2, iv p3, .unset] [(.ref b1)]))
  have g2 : n0 ≤ b1 := Nat.le_trans Z0 (Nat.le_of_eq g1.symm)
  have sz3 : h0.size ≤ b1 := Nat.le_trans K0.1 (Nat.le_of_eq g1.symm)
  have K4 : Keep h0 h1 [] := K0.ext E1
  have Z5 : n0 ≤ h1.size := Nat.le_trans Z0 E1.1
  have B6 : Arv Z h1 b1 k1 .byte (0 : Int32) [] (.int 0) := (Arv.new A1 (by decide)).pad (pad_rep [] (.int 0) 0)
  refine own_via (fun k => XS.astore X1.here hx rfl (hb hby d1_3) rfl rfl (l' := #[iv 0, iv p1, iv p2, iv p3, rv b1]) rfl (XS.iloadN X1.here hx rfl (hb hby d1_5) rfl  k)) ?_
  show own_Go p e below s _ _ (T1.setTop (mkF m 6 #[iv 0, iv p1, iv p2, iv p3, rv b1] [(.int 0)]))
  refine own_via (fun k => XS.ifYes X1.here hx rfl (pc0 := 6) (pc' := 14) rfl (hb hby d1_6) rfl (by decide) (by decide) (by decide) k) ?_
  show own_Go p e below s _ _ (T1.setTop (mkF m 14 #[iv 0, iv p1, iv p2, iv p3, rv b1] []))
  refine own_via (fun k => XS.iloadN X1.here hx rfl (hb hby d1_14) rfl  (XS.iconst X1.here hx rfl (hb hby d1_15) k)) ?_
  show own_Go p e below s _ _ (T1.setTop (mkF m 16 #[iv 0, iv p1, iv p2, iv p3, rv b1] [(.int 1), (.int 0)]))
  refine own_via (fun k => XS.icmpYes X1.here hx rfl (pc0 := 16) (pc' := 24) rfl (hb hby d1_16) rfl (by decide) (by decide) (by decide) k) ?_
  show own_Go p e below s _ _ (T1.setTop (mkF m 24 #[iv 0, iv p1, iv p2, iv p3, rv b1] []))
  refine own_via (fun k => XS.iloadN X1.here hx rfl (hb hby d1_24) rfl  (XS.iconst X1.here hx rfl (hb hby d1_25) k)) ?_
  show own_Go p e below s _ _ (T1.setTop (mkF m 26 #[iv 0, iv p1, iv p2, iv p3, rv b1] [(.int 2), (.int 0)]))
  refine own_via (fun k => XS.icmpYes X1.here hx rfl (pc0 := 26) (pc' := 34) rfl (hb hby d1_26) rfl (by decide) (by decide) (by decide) k) ?_
  show own_Go p e below s _ _ (T1.setTop (mkF m 34 #[iv 0, iv p1, iv p2, iv p3, rv b1] []))
  refine own_via (fun k => XS.aload X1.here hx rfl (hb hby d1_34) rfl rfl  k) ?_
  show own_Go p e below s _ _ (T1.setTop (mkF m 36 #[iv 0, iv p1, iv p2, iv p3, rv b1] [(.ref b1)]))
  exact own_retA X1 hx hlk rfl (t := (.array .byte)) Bd.returns rfl (hb hby d1_36) (Q := (Q1_0 Z p1 p2 p3 h0 n0)) ⟨b1, k1, rfl, N0, (by rw [e1]; exact K4), (by rw [e1]; exact B6), (by rw [e1]; exact AE1), sz3⟩ (by decide) (by decide)
theorem d1_9 : decode method_3_code 9 = .ok (.aload 4, 2) := by decide +kernel
theorem d1_11 : decode method_3_code 11 = .ok (.iconst 0, 1) := by decide +kernel
theorem d1_12 : decode method_3_code 12 = .ok (.iload_n 1, 1) := by decide +kernel
theorem d1_13 : decode method_3_code 13 = .ok (.bastore, 1) := by decide +kernel
theorem ef_1_1 (m : MethodId) (x0 : Int32) (x1 : Int32) (x2 : Int32) (x3 : Int32) : entryFrame m #[(.int x0), (.int x1), (.int x2), (.int x3)] 5 = mkF m 0 #[iv x0, iv x1, iv x2, iv x3, .unset] [] := by first | (simp [entryFrame, mkF, argsToLocals, Value.category]; done) | rfl
def Q1_1 (Z : State) (p1 : Int32) (p2 : Int32) (p3 : Int32) (h0 : Heap) (n0 : Nat) (v : Option Value) (h : Heap) (L : List Loc) : Prop := ∃ (b : Addr), ∃ (k : ClassId), v = some (.ref b) ∧ Fr n0 L ∧ Keep h0 h [] ∧ Arv Z h b k .byte (1 : Int32) [(.int (nar .byte p1))] (.int 0) ∧ Exa Z h b "[B" ∧ h0.size ≤ b
set_option maxRecDepth 65536 in
set_option maxHeartbeats 40000000 in
theorem rm1_1 (l : Launch) (Z : State) (aw : Array Value) (hw : ∀ d ∈ tables_1, d.before aw Z = true) (ws : List Jvm.Cond) (p1 : Int32) (p2 : Int32) (p3 : Int32) (h0 : Heap) (n0 : Nat) (Z0 : n0 ≤ h0.size)  :
    MetFree l (⟨"com/example/grant3/grant3/policy/EtagOfPinLaw", "make", "(IBBB)[B"⟩ : MethodName) (head1 (Jvm.Cond.code (⟨"com/example/grant3/grant3/policy/EtagOfPinLaw", "make", "(IBBB)[B"⟩ : MethodName) method_3_code 5 (some (.array .byte)) :: ws) ({ frames := 0, cells := 1, slots := 1, locals := 0 } : Room)) (fun a U => a = #[(.int 1), (.int p1), (.int p2), (.int p3)] ∧ Z.Warmed39 U.vm ∧ U.heap = h0) (fun _ _ _ _ _ => True) (fun _ U o U' => ∃ v L, o = .returned v ∧ Q1_1 Z p1 p2 p3 h0 n0 v U'.heap L ∧ FrameEnd U o U' L ({ frames := 0, cells := 1, slots := 1, locals := 0 } : Room).cells ({ frames := 0, cells := 1, slots := 1, locals := 0 } : Room).slots) := by
  refine MetFree.of_bodySF (plainFor_of_name pn_1) hisR ?_
  intro p e s m args below meth c s₁ Bd hml0 hP hK
  obtain ⟨rfl, hZ, hh⟩ := hP
  have hx := Bd.exec
  have hby := Bd.bytes
  have hml : c.maxLocals = 5 := hml0
  have hown : s.vm.findClass "com/example/grant3/grant3/policy/EtagOfPinLaw" = some m.cls := findClass_of_methodNamed Bd.named
  have hnm := (name_of_methodNamed Bd.named Bd.method).1
  have hlk : meth.locks = false := by first | exact BodyLoose.notSynchronized (by assumption) | exact Body.notSynchronized (by assumption)
  have X0 : Stand p l e ({ frames := 0, cells := 1, slots := 1, locals := 0 } : Room) s m #[(.int 1), (.int p1), (.int p2), (.int p3)] below meth c s₁ [] 0 0 := Stand.of_body Bd
  have e0 : s₁.heap = h0 := by rw [← hh, Bd.state]; rfl
  have N0 := Fr.nil n0
  have K0 : Keep h0 h0 [] := Keep.refl _ _
  refine own_start (CS := (1, 1)) (Q := (Q1_1 Z p1 p2 p3 h0 n0)) (ef_1_1 m (1 : Int32) p1 p2 p3) ?_
  show own_Go p e below s _ _ (s₁.setTop (mkF m 0 #[iv 1, iv p1, iv p2, iv p3, .unset] []))
  refine own_via (fun k => XS.iloadN X0.here hx rfl (hb hby d1_0) rfl  k) ?_
  show own_Go p e below s _ _ (s₁.setTop (mkF m 1 #[iv 1, iv p1, iv p2, iv p3, .unset] [(.int 1)]))
  obtain ⟨T1, h1, k1, X1, e1, E1, A1, AE1, st1⟩ := newPE X0 hx hZ (hw _ (List.mem_of_getElem? (i := 5) rfl)) e0 (g := (mkF m 1 #[iv 1, iv p1, iv p2, iv p3, .unset] [(.int 1)])) rfl (hb hby d1_1) rfl (by decide) (cap := 1) (by decide) (by decide) (by decide) (by decide) (ad := "[B") (by decide)
  obtain ⟨b1, g1⟩ : ∃ z, z = h0.size := ⟨_, rfl⟩
  rw [← g1] at A1 AE1 st1
  refine own_via (fun k => st1 _ k) ?_
  show own_Go p e below s _ _ (T1.setTop (mkF m 3 #[iv 1, iv p1, iv p2, iv p3, .unset] [(.ref b1)]))
  have g2 : n0 ≤ b1 := Nat.le_trans Z0 (Nat.le_of_eq g1.symm)
  have sz3 : h0.size ≤ b1 := Nat.le_trans K0.1 (Nat.le_of_eq g1.symm)
  have K4 : Keep h0 h1 [] := K0.ext E1
  have Z5 : n0 ≤ h1.size := Nat.le_trans Z0 E1.1
  have B6 : Arv Z h1 b1 k1 .byte (1 : Int32) [(.int 0)] (.int 0) := (Arv.new A1 (by decide)).pad (pad_rep [] (.int 0) 1)
  refine own_via (fun k => XS.astore X1.here hx rfl (hb hby d1_3) rfl rfl (l' := #[iv 1, iv p1, iv p2, iv p3, rv b1]) rfl (XS.iloadN X1.here hx rfl (hb hby d1_5) rfl  k)) ?_
  show own_Go p e below s _ _ (T1.setTop (mkF m 6 #[iv 1, iv p1, iv p2, iv p3, rv b1] [(.int 1)]))
  refine own_via (fun k => XS.ifNo X1.here hx rfl (hb hby d1_6) rfl (by decide) k) ?_
  show own_Go p e below s _ _ (T1.setTop (mkF m 9 #[iv 1, iv p1, iv p2, iv p3, rv b1] []))
  refine own_via (fun k => XS.aload X1.here hx rfl (hb hby d1_9) rfl rfl  (XS.iconst X1.here hx rfl (hb hby d1_11) (XS.iloadN X1.here hx rfl (hb hby d1_12) rfl  k))) ?_
  show own_Go p e below s _ _ (T1.setTop (mkF m 13 #[iv 1, iv p1, iv p2, iv p3, rv b1] [(.int p1), (.int 0), (.ref b1)]))
  obtain ⟨cl7, Ar7, q7, S7, NN7, H7, G7⟩ := id B6
  have hin7 : ¬ ((0 : Int32) < 0 ∨ cl7.slots.size ≤ ((0 : Int32)).toNatClampNeg) := inb_of S7 ⟨by decide, by decide⟩
  obtain ⟨T7, h7, X7, e7, W7, st7⟩ := stB X1 hx hZ e1 Ar7 (j := (0 : Int32)) hin7 (g := (mkF m 13 #[iv 1, iv p1, iv p2, iv p3, rv b1] [(.int p1), (.int 0), (.ref b1)])) rfl rfl (hb hby d1_13)
  refine own_via (fun k => st7 _ k) ?_
  show own_Go p e below s _ _ (T7.setTop (mkF m 14 #[iv 1, iv p1, iv p2, iv p3, rv b1] []))
  have B8 := AE1.wr W7
  have B9 : Arv Z h7 b1 k1 .byte (1 : Int32) [(.int (nar .byte p1))] (.int 0) := Arv.set Ar7 q7 S7 NN7 H7 G7 (fits_nar_byte _) W7 0 rfl (Nat.le_of_ble_eq_true rfl)
  have N10 := Fr.snoc X7 N0 g2
  have K11 : Keep h0 h7 [] := K4.wr W7 (Or.inr sz3)
  have Z12 : n0 ≤ h7.size := Nat.le_trans Z5 (Keep.of_wr W7).1
  refine own_via (fun k => XS.iloadN X7.here hx rfl (hb hby d1_14) rfl  (XS.iconst X7.here hx rfl (hb hby d1_15) k)) ?_
  show own_Go p e below s _ _ (T7.setTop (mkF m 16 #[iv 1, iv p1, iv p2, iv p3, rv b1] [(.int 1), (.int 1)]))
  refine own_via (fun k => XS.icmpYes X7.here hx rfl (pc0 := 16) (pc' := 24) rfl (hb hby d1_16) rfl (by decide) (by decide) (by decide) k) ?_
  show own_Go p e below s _ _ (T7.setTop (mkF m 24 #[iv 1, iv p1, iv p2, iv p3, rv b1] []))
  refine own_via (fun k => XS.iloadN X7.here hx rfl (hb hby d1_24) rfl  (XS.iconst X7.here hx rfl (hb hby d1_25) k)) ?_
  show own_Go p e below s _ _ (T7.setTop (mkF m 26 #[iv 1, iv p1, iv p2, iv p3, rv b1] [(.int 2), (.int 1)]))
  refine own_via (fun k => XS.icmpYes X7.here hx rfl (pc0 := 26) (pc' := 34) rfl (hb hby d1_26) rfl (by decide) (by decide) (by decide) k) ?_
  show own_Go p e below s _ _ (T7.setTop (mkF m 34 #[iv 1, iv p1, iv p2, iv p3, rv b1] []))
  refine own_via (fun k => XS.aload X7.here hx rfl (hb hby d1_34) rfl rfl  k) ?_
  show own_Go p e below s _ _ (T7.setTop (mkF m 36 #[iv 1, iv p1, iv p2, iv p3, rv b1] [(.ref b1)]))
  exact own_retA X7 hx hlk rfl (t := (.array .byte)) Bd.returns rfl (hb hby d1_36) (Q := (Q1_1 Z p1 p2 p3 h0 n0)) ⟨b1, k1, rfl, N10, (by rw [e7]; exact K11), (by rw [e7]; exact B9), (by rw [e7]; exact B8), sz3⟩ (by decide) (by decide)
theorem d1_19 : decode method_3_code 19 = .ok (.aload 4, 2) := by decide +kernel
theorem d1_21 : decode method_3_code 21 = .ok (.iconst 1, 1) := by decide +kernel
theorem d1_22 : decode method_3_code 22 = .ok (.iload_n 2, 1) := by decide +kernel
theorem d1_23 : decode method_3_code 23 = .ok (.bastore, 1) := by decide +kernel
theorem ef_1_2 (m : MethodId) (x0 : Int32) (x1 : Int32) (x2 : Int32) (x3 : Int32) : entryFrame m #[(.int x0), (.int x1), (.int x2), (.int x3)] 5 = mkF m 0 #[iv x0, iv x1, iv x2, iv x3, .unset] [] := by first | (simp [entryFrame, mkF, argsToLocals, Value.category]; done) | rfl
def Q1_2 (Z : State) (p1 : Int32) (p2 : Int32) (p3 : Int32) (h0 : Heap) (n0 : Nat) (v : Option Value) (h : Heap) (L : List Loc) : Prop := ∃ (b : Addr), ∃ (k : ClassId), v = some (.ref b) ∧ Fr n0 L ∧ Keep h0 h [] ∧ Arv Z h b k .byte (2 : Int32) [(.int (nar .byte p1)), (.int (nar .byte p2))] (.int 0) ∧ Exa Z h b "[B" ∧ h0.size ≤ b
set_option maxRecDepth 65536 in
set_option maxHeartbeats 40000000 in
theorem rm1_2 (l : Launch) (Z : State) (aw : Array Value) (hw : ∀ d ∈ tables_1, d.before aw Z = true) (ws : List Jvm.Cond) (p1 : Int32) (p2 : Int32) (p3 : Int32) (h0 : Heap) (n0 : Nat) (Z0 : n0 ≤ h0.size)  :
    MetFree l (⟨"com/example/grant3/grant3/policy/EtagOfPinLaw", "make", "(IBBB)[B"⟩ : MethodName) (head1 (Jvm.Cond.code (⟨"com/example/grant3/grant3/policy/EtagOfPinLaw", "make", "(IBBB)[B"⟩ : MethodName) method_3_code 5 (some (.array .byte)) :: ws) ({ frames := 0, cells := 1, slots := 2, locals := 0 } : Room)) (fun a U => a = #[(.int 2), (.int p1), (.int p2), (.int p3)] ∧ Z.Warmed39 U.vm ∧ U.heap = h0) (fun _ _ _ _ _ => True) (fun _ U o U' => ∃ v L, o = .returned v ∧ Q1_2 Z p1 p2 p3 h0 n0 v U'.heap L ∧ FrameEnd U o U' L ({ frames := 0, cells := 1, slots := 2, locals := 0 } : Room).cells ({ frames := 0, cells := 1, slots := 2, locals := 0 } : Room).slots) := by
  refine MetFree.of_bodySF (plainFor_of_name pn_1) hisR ?_
  intro p e s m args below meth c s₁ Bd hml0 hP hK
  obtain ⟨rfl, hZ, hh⟩ := hP
  have hx := Bd.exec
  have hby := Bd.bytes
  have hml : c.maxLocals = 5 := hml0
  have hown : s.vm.findClass "com/example/grant3/grant3/policy/EtagOfPinLaw" = some m.cls := findClass_of_methodNamed Bd.named
  have hnm := (name_of_methodNamed Bd.named Bd.method).1
  have hlk : meth.locks = false := by first | exact BodyLoose.notSynchronized (by assumption) | exact Body.notSynchronized (by assumption)
  have X0 : Stand p l e ({ frames := 0, cells := 1, slots := 2, locals := 0 } : Room) s m #[(.int 2), (.int p1), (.int p2), (.int p3)] below meth c s₁ [] 0 0 := Stand.of_body Bd
  have e0 : s₁.heap = h0 := by rw [← hh, Bd.state]; rfl
  have N0 := Fr.nil n0
  have K0 : Keep h0 h0 [] := Keep.refl _ _
  refine own_start (CS := (1, 2)) (Q := (Q1_2 Z p1 p2 p3 h0 n0)) (ef_1_2 m (2 : Int32) p1 p2 p3) ?_
  show own_Go p e below s _ _ (s₁.setTop (mkF m 0 #[iv 2, iv p1, iv p2, iv p3, .unset] []))
  refine own_via (fun k => XS.iloadN X0.here hx rfl (hb hby d1_0) rfl  k) ?_
  show own_Go p e below s _ _ (s₁.setTop (mkF m 1 #[iv 2, iv p1, iv p2, iv p3, .unset] [(.int 2)]))
  obtain ⟨T1, h1, k1, X1, e1, E1, A1, AE1, st1⟩ := newPE X0 hx hZ (hw _ (List.mem_of_getElem? (i := 5) rfl)) e0 (g := (mkF m 1 #[iv 2, iv p1, iv p2, iv p3, .unset] [(.int 2)])) rfl (hb hby d1_1) rfl (by decide) (cap := 2) (by decide) (by decide) (by decide) (by decide) (ad := "[B") (by decide)
  obtain ⟨b1, g1⟩ : ∃ z, z = h0.size := ⟨_, rfl⟩
  rw [← g1] at A1 AE1 st1
  refine own_via (fun k => st1 _ k) ?_
  show own_Go p e below s _ _ (T1.setTop (mkF m 3 #[iv 2, iv p1, iv p2, iv p3, .unset] [(.ref b1)]))
  have g2 : n0 ≤ b1 := Nat.le_trans Z0 (Nat.le_of_eq g1.symm)
  have sz3 : h0.size ≤ b1 := Nat.le_trans K0.1 (Nat.le_of_eq g1.symm)
  have K4 : Keep h0 h1 [] := K0.ext E1
  have Z5 : n0 ≤ h1.size := Nat.le_trans Z0 E1.1
  have B6 : Arv Z h1 b1 k1 .byte (2 : Int32) [(.int 0), (.int 0)] (.int 0) := (Arv.new A1 (by decide)).pad (pad_rep [] (.int 0) 2)
  refine own_via (fun k => XS.astore X1.here hx rfl (hb hby d1_3) rfl rfl (l' := #[iv 2, iv p1, iv p2, iv p3, rv b1]) rfl (XS.iloadN X1.here hx rfl (hb hby d1_5) rfl  k)) ?_
  show own_Go p e below s _ _ (T1.setTop (mkF m 6 #[iv 2, iv p1, iv p2, iv p3, rv b1] [(.int 2)]))
  refine own_via (fun k => XS.ifNo X1.here hx rfl (hb hby d1_6) rfl (by decide) k) ?_
  show own_Go p e below s _ _ (T1.setTop (mkF m 9 #[iv 2, iv p1, iv p2, iv p3, rv b1] []))
  refine own_via (fun k => XS.aload X1.here hx rfl (hb hby d1_9) rfl rfl  (XS.iconst X1.here hx rfl (hb hby d1_11) (XS.iloadN X1.here hx rfl (hb hby d1_12) rfl  k))) ?_
  show own_Go p e below s _ _ (T1.setTop (mkF m 13 #[iv 2, iv p1, iv p2, iv p3, rv b1] [(.int p1), (.int 0), (.ref b1)]))
  obtain ⟨cl7, Ar7, q7, S7, NN7, H7, G7⟩ := id B6
  have hin7 : ¬ ((0 : Int32) < 0 ∨ cl7.slots.size ≤ ((0 : Int32)).toNatClampNeg) := inb_of S7 ⟨by decide, by decide⟩
  obtain ⟨T7, h7, X7, e7, W7, st7⟩ := stB X1 hx hZ e1 Ar7 (j := (0 : Int32)) hin7 (g := (mkF m 13 #[iv 2, iv p1, iv p2, iv p3, rv b1] [(.int p1), (.int 0), (.ref b1)])) rfl rfl (hb hby d1_13)
  refine own_via (fun k => st7 _ k) ?_
  show own_Go p e below s _ _ (T7.setTop (mkF m 14 #[iv 2, iv p1, iv p2, iv p3, rv b1] []))
  have B8 := AE1.wr W7
  have B9 : Arv Z h7 b1 k1 .byte (2 : Int32) [(.int (nar .byte p1)), (.int 0)] (.int 0) := Arv.set Ar7 q7 S7 NN7 H7 G7 (fits_nar_byte _) W7 0 rfl (Nat.le_of_ble_eq_true rfl)
  have N10 := Fr.snoc X7 N0 g2
  have K11 : Keep h0 h7 [] := K4.wr W7 (Or.inr sz3)
  have Z12 : n0 ≤ h7.size := Nat.le_trans Z5 (Keep.of_wr W7).1
  refine own_via (fun k => XS.iloadN X7.here hx rfl (hb hby d1_14) rfl  (XS.iconst X7.here hx rfl (hb hby d1_15) k)) ?_
  show own_Go p e below s _ _ (T7.setTop (mkF m 16 #[iv 2, iv p1, iv p2, iv p3, rv b1] [(.int 1), (.int 2)]))
  refine own_via (fun k => XS.icmpNo X7.here hx rfl (hb hby d1_16) rfl (by decide) k) ?_
  show own_Go p e below s _ _ (T7.setTop (mkF m 19 #[iv 2, iv p1, iv p2, iv p3, rv b1] []))
  refine own_via (fun k => XS.aload X7.here hx rfl (hb hby d1_19) rfl rfl  (XS.iconst X7.here hx rfl (hb hby d1_21) (XS.iloadN X7.here hx rfl (hb hby d1_22) rfl  k))) ?_
  show own_Go p e below s _ _ (T7.setTop (mkF m 23 #[iv 2, iv p1, iv p2, iv p3, rv b1] [(.int p2), (.int 1), (.ref b1)]))
  obtain ⟨cl13, Ar13, q13, S13, NN13, H13, G13⟩ := id B9
  have hin13 : ¬ ((1 : Int32) < 0 ∨ cl13.slots.size ≤ ((1 : Int32)).toNatClampNeg) := inb_of S13 ⟨by decide, by decide⟩
  obtain ⟨T13, h13, X13, e13, W13, st13⟩ := stB X7 hx hZ e7 Ar13 (j := (1 : Int32)) hin13 (g := (mkF m 23 #[iv 2, iv p1, iv p2, iv p3, rv b1] [(.int p2), (.int 1), (.ref b1)])) rfl rfl (hb hby d1_23)
  refine own_via (fun k => st13 _ k) ?_
  show own_Go p e below s _ _ (T13.setTop (mkF m 24 #[iv 2, iv p1, iv p2, iv p3, rv b1] []))
  have B14 := B8.wr W13
  have B15 : Arv Z h13 b1 k1 .byte (2 : Int32) [(.int (nar .byte p1)), (.int (nar .byte p2))] (.int 0) := Arv.set Ar13 q13 S13 NN13 H13 G13 (fits_nar_byte _) W13 1 rfl (Nat.le_of_ble_eq_true rfl)
  have N16 := Fr.snoc X13 N10 g2
  have K17 : Keep h0 h13 [] := K11.wr W13 (Or.inr sz3)
  have Z18 : n0 ≤ h13.size := Nat.le_trans Z12 (Keep.of_wr W13).1
  refine own_via (fun k => XS.iloadN X13.here hx rfl (hb hby d1_24) rfl  (XS.iconst X13.here hx rfl (hb hby d1_25) k)) ?_
  show own_Go p e below s _ _ (T13.setTop (mkF m 26 #[iv 2, iv p1, iv p2, iv p3, rv b1] [(.int 2), (.int 2)]))
  refine own_via (fun k => XS.icmpYes X13.here hx rfl (pc0 := 26) (pc' := 34) rfl (hb hby d1_26) rfl (by decide) (by decide) (by decide) k) ?_
  show own_Go p e below s _ _ (T13.setTop (mkF m 34 #[iv 2, iv p1, iv p2, iv p3, rv b1] []))
  refine own_via (fun k => XS.aload X13.here hx rfl (hb hby d1_34) rfl rfl  k) ?_
  show own_Go p e below s _ _ (T13.setTop (mkF m 36 #[iv 2, iv p1, iv p2, iv p3, rv b1] [(.ref b1)]))
  exact own_retA X13 hx hlk rfl (t := (.array .byte)) Bd.returns rfl (hb hby d1_36) (Q := (Q1_2 Z p1 p2 p3 h0 n0)) ⟨b1, k1, rfl, N16, (by rw [e13]; exact K17), (by rw [e13]; exact B15), (by rw [e13]; exact B14), sz3⟩ (by decide) (by decide)
theorem d1_29 : decode method_3_code 29 = .ok (.aload 4, 2) := by decide +kernel
theorem d1_31 : decode method_3_code 31 = .ok (.iconst 2, 1) := by decide +kernel
theorem d1_32 : decode method_3_code 32 = .ok (.iload_n 3, 1) := by decide +kernel
theorem d1_33 : decode method_3_code 33 = .ok (.bastore, 1) := by decide +kernel
theorem ef_1_3 (m : MethodId) (x0 : Int32) (x1 : Int32) (x2 : Int32) (x3 : Int32) : entryFrame m #[(.int x0), (.int x1), (.int x2), (.int x3)] 5 = mkF m 0 #[iv x0, iv x1, iv x2, iv x3, .unset] [] := by first | (simp [entryFrame, mkF, argsToLocals, Value.category]; done) | rfl
def Q1_3 (Z : State) (p1 : Int32) (p2 : Int32) (p3 : Int32) (h0 : Heap) (n0 : Nat) (v : Option Value) (h : Heap) (L : List Loc) : Prop := ∃ (b : Addr), ∃ (k : ClassId), v = some (.ref b) ∧ Fr n0 L ∧ Keep h0 h [] ∧ Arv Z h b k .byte (3 : Int32) [(.int (nar .byte p1)), (.int (nar .byte p2)), (.int (nar .byte p3))] (.int 0) ∧ Exa Z h b "[B" ∧ h0.size ≤ b
set_option maxRecDepth 65536 in
set_option maxHeartbeats 40000000 in
theorem rm1_3 (l : Launch) (Z : State) (aw : Array Value) (hw : ∀ d ∈ tables_1, d.before aw Z = true) (ws : List Jvm.Cond) (p1 : Int32) (p2 : Int32) (p3 : Int32) (h0 : Heap) (n0 : Nat) (Z0 : n0 ≤ h0.size)  :
    MetFree l (⟨"com/example/grant3/grant3/policy/EtagOfPinLaw", "make", "(IBBB)[B"⟩ : MethodName) (head1 (Jvm.Cond.code (⟨"com/example/grant3/grant3/policy/EtagOfPinLaw", "make", "(IBBB)[B"⟩ : MethodName) method_3_code 5 (some (.array .byte)) :: ws) ({ frames := 0, cells := 1, slots := 3, locals := 0 } : Room)) (fun a U => a = #[(.int 3), (.int p1), (.int p2), (.int p3)] ∧ Z.Warmed39 U.vm ∧ U.heap = h0) (fun _ _ _ _ _ => True) (fun _ U o U' => ∃ v L, o = .returned v ∧ Q1_3 Z p1 p2 p3 h0 n0 v U'.heap L ∧ FrameEnd U o U' L ({ frames := 0, cells := 1, slots := 3, locals := 0 } : Room).cells ({ frames := 0, cells := 1, slots := 3, locals := 0 } : Room).slots) := by
  refine MetFree.of_bodySF (plainFor_of_name pn_1) hisR ?_
  intro p e s m args below meth c s₁ Bd hml0 hP hK
  obtain ⟨rfl, hZ, hh⟩ := hP
  have hx := Bd.exec
  have hby := Bd.bytes
  have hml : c.maxLocals = 5 := hml0
  have hown : s.vm.findClass "com/example/grant3/grant3/policy/EtagOfPinLaw" = some m.cls := findClass_of_methodNamed Bd.named
  have hnm := (name_of_methodNamed Bd.named Bd.method).1
  have hlk : meth.locks = false := by first | exact BodyLoose.notSynchronized (by assumption) | exact Body.notSynchronized (by assumption)
  have X0 : Stand p l e ({ frames := 0, cells := 1, slots := 3, locals := 0 } : Room) s m #[(.int 3), (.int p1), (.int p2), (.int p3)] below meth c s₁ [] 0 0 := Stand.of_body Bd
  have e0 : s₁.heap = h0 := by rw [← hh, Bd.state]; rfl
  have N0 := Fr.nil n0
  have K0 : Keep h0 h0 [] := Keep.refl _ _
  refine own_start (CS := (1, 3)) (Q := (Q1_3 Z p1 p2 p3 h0 n0)) (ef_1_3 m (3 : Int32) p1 p2 p3) ?_
  show own_Go p e below s _ _ (s₁.setTop (mkF m 0 #[iv 3, iv p1, iv p2, iv p3, .unset] []))
  refine own_via (fun k => XS.iloadN X0.here hx rfl (hb hby d1_0) rfl  k) ?_
  show own_Go p e below s _ _ (s₁.setTop (mkF m 1 #[iv 3, iv p1, iv p2, iv p3, .unset] [(.int 3)]))
  obtain ⟨T1, h1, k1, X1, e1, E1, A1, AE1, st1⟩ := newPE X0 hx hZ (hw _ (List.mem_of_getElem? (i := 5) rfl)) e0 (g := (mkF m 1 #[iv 3, iv p1, iv p2, iv p3, .unset] [(.int 3)])) rfl (hb hby d1_1) rfl (by decide) (cap := 3) (by decide) (by decide) (by decide) (by decide) (ad := "[B") (by decide)
  obtain ⟨b1, g1⟩ : ∃ z, z = h0.size := ⟨_, rfl⟩
  rw [← g1] at A1 AE1 st1
  refine own_via (fun k => st1 _ k) ?_
  show own_Go p e below s _ _ (T1.setTop (mkF m 3 #[iv 3, iv p1, iv p2, iv p3, .unset] [(.ref b1)]))
  have g2 : n0 ≤ b1 := Nat.le_trans Z0 (Nat.le_of_eq g1.symm)
  have sz3 : h0.size ≤ b1 := Nat.le_trans K0.1 (Nat.le_of_eq g1.symm)
  have K4 : Keep h0 h1 [] := K0.ext E1
  have Z5 : n0 ≤ h1.size := Nat.le_trans Z0 E1.1
  have B6 : Arv Z h1 b1 k1 .byte (3 : Int32) [(.int 0), (.int 0), (.int 0)] (.int 0) := (Arv.new A1 (by decide)).pad (pad_rep [] (.int 0) 3)
  refine own_via (fun k => XS.astore X1.here hx rfl (hb hby d1_3) rfl rfl (l' := #[iv 3, iv p1, iv p2, iv p3, rv b1]) rfl (XS.iloadN X1.here hx rfl (hb hby d1_5) rfl  k)) ?_
  show own_Go p e below s _ _ (T1.setTop (mkF m 6 #[iv 3, iv p1, iv p2, iv p3, rv b1] [(.int 3)]))
  refine own_via (fun k => XS.ifNo X1.here hx rfl (hb hby d1_6) rfl (by decide) k) ?_
  show own_Go p e below s _ _ (T1.setTop (mkF m 9 #[iv 3, iv p1, iv p2, iv p3, rv b1] []))
  refine own_via (fun k => XS.aload X1.here hx rfl (hb hby d1_9) rfl rfl  (XS.iconst X1.here hx rfl (hb hby d1_11) (XS.iloadN X1.here hx rfl (hb hby d1_12) rfl  k))) ?_
  show own_Go p e below s _ _ (T1.setTop (mkF m 13 #[iv 3, iv p1, iv p2, iv p3, rv b1] [(.int p1), (.int 0), (.ref b1)]))
  obtain ⟨cl7, Ar7, q7, S7, NN7, H7, G7⟩ := id B6
  have hin7 : ¬ ((0 : Int32) < 0 ∨ cl7.slots.size ≤ ((0 : Int32)).toNatClampNeg) := inb_of S7 ⟨by decide, by decide⟩
  obtain ⟨T7, h7, X7, e7, W7, st7⟩ := stB X1 hx hZ e1 Ar7 (j := (0 : Int32)) hin7 (g := (mkF m 13 #[iv 3, iv p1, iv p2, iv p3, rv b1] [(.int p1), (.int 0), (.ref b1)])) rfl rfl (hb hby d1_13)
  refine own_via (fun k => st7 _ k) ?_
  show own_Go p e below s _ _ (T7.setTop (mkF m 14 #[iv 3, iv p1, iv p2, iv p3, rv b1] []))
  have B8 := AE1.wr W7
  have B9 : Arv Z h7 b1 k1 .byte (3 : Int32) [(.int (nar .byte p1)), (.int 0), (.int 0)] (.int 0) := Arv.set Ar7 q7 S7 NN7 H7 G7 (fits_nar_byte _) W7 0 rfl (Nat.le_of_ble_eq_true rfl)
  have N10 := Fr.snoc X7 N0 g2
  have K11 : Keep h0 h7 [] := K4.wr W7 (Or.inr sz3)
  have Z12 : n0 ≤ h7.size := Nat.le_trans Z5 (Keep.of_wr W7).1
  refine own_via (fun k => XS.iloadN X7.here hx rfl (hb hby d1_14) rfl  (XS.iconst X7.here hx rfl (hb hby d1_15) k)) ?_
  show own_Go p e below s _ _ (T7.setTop (mkF m 16 #[iv 3, iv p1, iv p2, iv p3, rv b1] [(.int 1), (.int 3)]))
  refine own_via (fun k => XS.icmpNo X7.here hx rfl (hb hby d1_16) rfl (by decide) k) ?_
  show own_Go p e below s _ _ (T7.setTop (mkF m 19 #[iv 3, iv p1, iv p2, iv p3, rv b1] []))
  refine own_via (fun k => XS.aload X7.here hx rfl (hb hby d1_19) rfl rfl  (XS.iconst X7.here hx rfl (hb hby d1_21) (XS.iloadN X7.here hx rfl (hb hby d1_22) rfl  k))) ?_
  show own_Go p e below s _ _ (T7.setTop (mkF m 23 #[iv 3, iv p1, iv p2, iv p3, rv b1] [(.int p2), (.int 1), (.ref b1)]))
  obtain ⟨cl13, Ar13, q13, S13, NN13, H13, G13⟩ := id B9
  have hin13 : ¬ ((1 : Int32) < 0 ∨ cl13.slots.size ≤ ((1 : Int32)).toNatClampNeg) := inb_of S13 ⟨by decide, by decide⟩
  obtain ⟨T13, h13, X13, e13, W13, st13⟩ := stB X7 hx hZ e7 Ar13 (j := (1 : Int32)) hin13 (g := (mkF m 23 #[iv 3, iv p1, iv p2, iv p3, rv b1] [(.int p2), (.int 1), (.ref b1)])) rfl rfl (hb hby d1_23)
  refine own_via (fun k => st13 _ k) ?_
  show own_Go p e below s _ _ (T13.setTop (mkF m 24 #[iv 3, iv p1, iv p2, iv p3, rv b1] []))
  have B14 := B8.wr W13
  have B15 : Arv Z h13 b1 k1 .byte (3 : Int32) [(.int (nar .byte p1)), (.int (nar .byte p2)), (.int 0)] (.int 0) := Arv.set Ar13 q13 S13 NN13 H13 G13 (fits_nar_byte _) W13 1 rfl (Nat.le_of_ble_eq_true rfl)
  have N16 := Fr.snoc X13 N10 g2
  have K17 : Keep h0 h13 [] := K11.wr W13 (Or.inr sz3)
  have Z18 : n0 ≤ h13.size := Nat.le_trans Z12 (Keep.of_wr W13).1
  refine own_via (fun k => XS.iloadN X13.here hx rfl (hb hby d1_24) rfl  (XS.iconst X13.here hx rfl (hb hby d1_25) k)) ?_
  show own_Go p e below s _ _ (T13.setTop (mkF m 26 #[iv 3, iv p1, iv p2, iv p3, rv b1] [(.int 2), (.int 3)]))
  refine own_via (fun k => XS.icmpNo X13.here hx rfl (hb hby d1_26) rfl (by decide) k) ?_
  show own_Go p e below s _ _ (T13.setTop (mkF m 29 #[iv 3, iv p1, iv p2, iv p3, rv b1] []))
  refine own_via (fun k => XS.aload X13.here hx rfl (hb hby d1_29) rfl rfl  (XS.iconst X13.here hx rfl (hb hby d1_31) (XS.iloadN X13.here hx rfl (hb hby d1_32) rfl  k))) ?_
  show own_Go p e below s _ _ (T13.setTop (mkF m 33 #[iv 3, iv p1, iv p2, iv p3, rv b1] [(.int p3), (.int 2), (.ref b1)]))
  obtain ⟨cl19, Ar19, q19, S19, NN19, H19, G19⟩ := id B15
  have hin19 : ¬ ((2 : Int32) < 0 ∨ cl19.slots.size ≤ ((2 : Int32)).toNatClampNeg) := inb_of S19 ⟨by decide, by decide⟩
  obtain ⟨T19, h19, X19, e19, W19, st19⟩ := stB X13 hx hZ e13 Ar19 (j := (2 : Int32)) hin19 (g := (mkF m 33 #[iv 3, iv p1, iv p2, iv p3, rv b1] [(.int p3), (.int 2), (.ref b1)])) rfl rfl (hb hby d1_33)
  refine own_via (fun k => st19 _ k) ?_
  show own_Go p e below s _ _ (T19.setTop (mkF m 34 #[iv 3, iv p1, iv p2, iv p3, rv b1] []))
  have B20 := B14.wr W19
  have B21 : Arv Z h19 b1 k1 .byte (3 : Int32) [(.int (nar .byte p1)), (.int (nar .byte p2)), (.int (nar .byte p3))] (.int 0) := Arv.set Ar19 q19 S19 NN19 H19 G19 (fits_nar_byte _) W19 2 rfl (Nat.le_of_ble_eq_true rfl)
  have N22 := Fr.snoc X19 N16 g2
  have K23 : Keep h0 h19 [] := K17.wr W19 (Or.inr sz3)
  have Z24 : n0 ≤ h19.size := Nat.le_trans Z18 (Keep.of_wr W19).1
  refine own_via (fun k => XS.aload X19.here hx rfl (hb hby d1_34) rfl rfl  k) ?_
  show own_Go p e below s _ _ (T19.setTop (mkF m 36 #[iv 3, iv p1, iv p2, iv p3, rv b1] [(.ref b1)]))
  exact own_retA X19 hx hlk rfl (t := (.array .byte)) Bd.returns rfl (hb hby d1_36) (Q := (Q1_3 Z p1 p2 p3 h0 n0)) ⟨b1, k1, rfl, N22, (by rw [e19]; exact K23), (by rw [e19]; exact B21), (by rw [e19]; exact B20), sz3⟩ (by decide) (by decide)
theorem d3_0 : decode prog_14_method_1_code 0 = .ok (.aload_n 0, 1) := by decide +kernel
theorem d3_1 : decode prog_14_method_1_code 1 = .ok (.invokespecial 1, 3) := by decide +kernel
theorem d3_4 : decode prog_14_method_1_code 4 = .ok (.aload_n 0, 1) := by decide +kernel
theorem d3_5 : decode prog_14_method_1_code 5 = .ok (.aload_n 1, 1) := by decide +kernel
theorem d3_6 : decode prog_14_method_1_code 6 = .ok (.putfield 7, 3) := by decide +kernel
theorem d3_9 : decode prog_14_method_1_code 9 = .ok (.return_, 1) := by decide +kernel
theorem pn_3 : plainName "com/example/grant3/grant3/policy/Etag" = true := by first | (simp [plainName, overriddenIn]; done) | decide +kernel
theorem ef_3 (m : MethodId) (x0 : Addr) (x1 : Addr) : entryFrame m #[(.ref x0), (.ref x1)] 2 = mkF m 0 #[rv x0, rv x1] [] := by first | (simp [entryFrame, mkF, argsToLocals, Value.category]; done) | rfl
def Q3 (Z : State) (a0 : Addr) (a1 : Addr) (h0 : Heap) (n0 : Nat) (v : Option Value) (h : Heap) (L : List Loc) : Prop := v = none ∧ Fr n0 L ∧ Keep h0 h [a0] ∧ Fld Z h a0 "com/example/grant3/grant3/policy/Etag" "bytes" "[B" (.ref a1)
set_option maxRecDepth 65536 in
set_option maxHeartbeats 40000000 in
theorem rm3 (l : Launch) (Z : State) (aw : Array Value) (hw : ∀ d ∈ tables_1, d.before aw Z = true) (ws : List Jvm.Cond) (a0 : Addr) (a1 : Addr) (h0 : Heap) (n0 : Nat) (Z0 : n0 ≤ h0.size) (P0 : Fld Z h0 a0 "com/example/grant3/grant3/policy/Etag" "bytes" "[B" .null) (P1 : Exa Z h0 a0 "com/example/grant3/grant3/policy/Etag") (ge0 : n0 ≤ a0) :
    MetFree l (⟨"com/example/grant3/grant3/policy/Etag", "<init>", "([B)V"⟩ : MethodName) (head1 (Jvm.Cond.code (⟨"com/example/grant3/grant3/policy/Etag", "<init>", "([B)V"⟩ : MethodName) prog_14_method_1_code 2 none :: ws) ({ frames := 1, cells := 0, slots := 0, locals := 12 } : Room)) (fun a U => a = #[(.ref a0), (.ref a1)] ∧ Z.Warmed39 U.vm ∧ U.heap = h0) (fun _ _ _ _ _ => True) (fun _ U o U' => ∃ v L, o = .returned v ∧ Q3 Z a0 a1 h0 n0 v U'.heap L ∧ FrameEnd U o U' L ({ frames := 1, cells := 0, slots := 0, locals := 12 } : Room).cells ({ frames := 1, cells := 0, slots := 0, locals := 12 } : Room).slots) := by
  refine MetFree.of_bodySF (plainFor_of_name pn_3) hisR ?_
  intro p e s m args below meth c s₁ Bd hml0 hP hK
  obtain ⟨rfl, hZ, hh⟩ := hP
  have hx := Bd.exec
  have hby := Bd.bytes
  have hml : c.maxLocals = 2 := hml0
  have hown : s.vm.findClass "com/example/grant3/grant3/policy/Etag" = some m.cls := findClass_of_methodNamed Bd.named
  have hnm := (name_of_methodNamed Bd.named Bd.method).1
  have hlk : meth.locks = false := by first | exact BodyLoose.notSynchronized (by assumption) | exact Body.notSynchronized (by assumption)
  have X0 : Stand p l e ({ frames := 1, cells := 0, slots := 0, locals := 12 } : Room) s m #[(.ref a0), (.ref a1)] below meth c s₁ [] 0 0 := Stand.of_body Bd
  have e0 : s₁.heap = h0 := by rw [← hh, Bd.state]; rfl
  have N0 := Fr.nil n0
  have K0 : Keep h0 h0 [a0] := Keep.refl _ _
  refine own_start (CS := (0, 0)) (Q := (Q3 Z a0 a1 h0 n0)) (ef_3 m a0 a1) ?_
  show own_Go p e below s _ _ (s₁.setTop (mkF m 0 #[rv a0, rv a1] []))
  refine own_via (fun k => XS.aloadN X0.here hx rfl (hb hby d3_0) rfl rfl  k) ?_
  show own_Go p e below s _ _ (s₁.setTop (mkF m 1 #[rv a0, rv a1] [(.ref a0)]))
  obtain ⟨T1, X1, e1, st1⟩ := initO X0 hx hZ hown (hw _ (List.mem_of_getElem? (i := 24) rfl)) (hw _ (List.mem_of_getElem? (i := 25) rfl)) (hw _ (List.mem_of_getElem? (i := 26) rfl)) e0 (g := (mkF m 1 #[rv a0, rv a1] [(.ref a0)])) rfl (by rw [hml]; rfl) rfl (hb hby d3_1) (by decide) (W := 0) (by show 2 * 0 + _ ≤ _; exact Nat.le_of_eq rfl) (by decide)
  refine own_via (fun k => st1 _ k) ?_
  show own_Go p e below s _ _ (T1.setTop (mkF m 4 #[rv a0, rv a1] []))
  refine own_via (fun k => XS.aloadN X1.here hx rfl (hb hby d3_4) rfl rfl  (XS.aloadN X1.here hx rfl (hb hby d3_5) rfl rfl  k)) ?_
  show own_Go p e below s _ _ (T1.setTop (mkF m 6 #[rv a0, rv a1] [(.ref a1), (.ref a0)]))
  obtain ⟨T2, h2, X2, e2, W2, st2⟩ := putF X1 hx hZ hown (host := "") (Or.inl (hw _ (List.mem_of_getElem? (i := 27) rfl))) Via.refl e1 P0 P1 (Or.inr ⟨(hw _ (List.mem_of_getElem? (i := 28) rfl)), rfl, hnm⟩) (hw _ (List.mem_of_getElem? (i := 11) rfl)) (ty := (.array .byte)) (by decide) rfl rfl (g := (mkF m 6 #[rv a0, rv a1] [(.ref a1), (.ref a0)])) rfl rfl (hb hby d3_6)
  refine own_via (fun k => st2 _ k) ?_
  show own_Go p e below s _ _ (T2.setTop (mkF m 9 #[rv a0, rv a1] []))
  have B3 := P1.wr W2
  have B4 : Fld Z h2 a0 "com/example/grant3/grant3/policy/Etag" "bytes" "[B" (.ref a1) := P0.same W2
  have N5 := Fr.snoc X2 N0 ge0
  have K6 : Keep h0 h2 [a0] := K0.wr W2 (Or.inl (List.mem_of_getElem? (i := 0) rfl))
  have Z7 : n0 ≤ h2.size := Nat.le_trans Z0 (Keep.of_wr W2).1
  exact own_ret0 X2 hx hlk Bd.returns (hb hby d3_9) (Q := (Q3 Z a0 a1 h0 n0)) ⟨rfl, N5, (by rw [e2]; exact K6), (by rw [e2]; exact B4)⟩ (by decide) (by decide)
theorem d2_0 : decode prog_14_method_2_code 0 = .ok (.new 8, 3) := by decide +kernel
theorem d2_3 : decode prog_14_method_2_code 3 = .ok (.dup, 1) := by decide +kernel
theorem d2_4 : decode prog_14_method_2_code 4 = .ok (.aload_n 0, 1) := by decide +kernel
theorem d2_5 : decode prog_14_method_2_code 5 = .ok (.invokevirtual 13, 3) := by decide +kernel
theorem d2_8 : decode prog_14_method_2_code 8 = .ok (.checkcast 14, 3) := by decide +kernel
theorem d2_11 : decode prog_14_method_2_code 11 = .ok (.invokespecial 18, 3) := by decide +kernel
theorem d2_14 : decode prog_14_method_2_code 14 = .ok (.areturn, 1) := by decide +kernel
theorem pn_2 : plainName "com/example/grant3/grant3/policy/Etag" = true := by first | (simp [plainName, overriddenIn]; done) | decide +kernel
theorem pd_3 : parseMethodDescriptor "([B)V" = some ⟨[(.array .byte)], none⟩ := by decide +kernel
theorem ef_2_0 (m : MethodId) (x0 : Addr) : entryFrame m #[(.ref x0)] 1 = mkF m 0 #[rv x0] [] := by first | (simp [entryFrame, mkF, argsToLocals, Value.category]; done) | rfl
def Q2_0 (Z : State) (a0 : Addr) (k : ClassId) (h0 : Heap) (n0 : Nat) (v : Option Value) (h : Heap) (L : List Loc) : Prop := ∃ (ob : Addr), ∃ (cb : Addr), v = some (.ref ob) ∧ Fr n0 L ∧ Keep h0 h [] ∧ Exa Z h ob "com/example/grant3/grant3/policy/Etag" ∧ Fld Z h ob "com/example/grant3/grant3/policy/Etag" "bytes" "[B" (.ref cb) ∧ Arv Z h cb k .byte (0 : Int32) [] (.int 0) ∧ Exa Z h cb "[B" ∧ h0.size ≤ ob ∧ h0.size ≤ cb
set_option maxRecDepth 65536 in
set_option maxHeartbeats 40000000 in
theorem rm2_0 (l : Launch) (Z : State) (aw : Array Value) (hw : ∀ d ∈ tables_1, d.before aw Z = true) (ws : List Jvm.Cond) (a0 : Addr) (k : ClassId) (h0 : Heap) (n0 : Nat) (Z0 : n0 ≤ h0.size) (P0 : Arv Z h0 a0 k .byte (0 : Int32) [] (.int 0)) (P1 : Exa Z h0 a0 "[B") :
    MetFree l (⟨"com/example/grant3/grant3/policy/Etag", "of", "([B)Lcom/example/grant3/grant3/policy/Etag;"⟩ : MethodName) (head1 (Jvm.Cond.code (⟨"com/example/grant3/grant3/policy/Etag", "of", "([B)Lcom/example/grant3/grant3/policy/Etag;"⟩ : MethodName) prog_14_method_2_code 1 (some (.object "com/example/grant3/grant3/policy/Etag")) :: ws) ({ frames := 2, cells := 2, slots := 1, locals := 26 } : Room)) (fun a U => a = #[(.ref a0)] ∧ Z.Warmed39 U.vm ∧ U.heap = h0) (fun _ _ _ _ _ => True) (fun _ U o U' => ∃ v L, o = .returned v ∧ Q2_0 Z a0 k h0 n0 v U'.heap L ∧ FrameEnd U o U' L ({ frames := 2, cells := 2, slots := 1, locals := 26 } : Room).cells ({ frames := 2, cells := 2, slots := 1, locals := 26 } : Room).slots) := by
  refine MetFree.of_bodySF (plainFor_of_name pn_2) hisR ?_
  intro p e s m args below meth c s₁ Bd hml0 hP hK
  obtain ⟨rfl, hZ, hh⟩ := hP
  have hx := Bd.exec
  have hby := Bd.bytes
  have hml : c.maxLocals = 1 := hml0
  have hown : s.vm.findClass "com/example/grant3/grant3/policy/Etag" = some m.cls := findClass_of_methodNamed Bd.named
  have hnm := (name_of_methodNamed Bd.named Bd.method).1
  have hlk : meth.locks = false := by first | exact BodyLoose.notSynchronized (by assumption) | exact Body.notSynchronized (by assumption)
  have X0 : Stand p l e ({ frames := 2, cells := 2, slots := 1, locals := 26 } : Room) s m #[(.ref a0)] below meth c s₁ [] 0 0 := Stand.of_body Bd
  have e0 : s₁.heap = h0 := by rw [← hh, Bd.state]; rfl
  have N0 := Fr.nil n0
  have K0 : Keep h0 h0 [] := Keep.refl _ _
  refine own_start (CS := (2, 1)) (Q := (Q2_0 Z a0 k h0 n0)) (ef_2_0 m a0) ?_
  show own_Go p e below s _ _ (s₁.setTop (mkF m 0 #[rv a0] []))
  obtain ⟨T1, h1, X1, e1, E1, A1, D1, -, st1⟩ := newO X0 hx hZ hown (hw _ (List.mem_of_getElem? (i := 10) rfl)) (hw _ (List.mem_of_getElem? (i := 11) rfl)) (hw _ (List.mem_of_getElem? (i := 8) rfl)) e0 (g := (mkF m 0 #[rv a0] [])) rfl (hb hby d2_0) (by decide) (by decide)
  obtain ⟨b1, g1⟩ : ∃ z, z = h0.size := ⟨_, rfl⟩
  rw [← g1] at A1 D1 st1
  refine own_via (fun k => st1 _ k) ?_
  show own_Go p e below s _ _ (T1.setTop (mkF m 3 #[rv a0] [(.ref b1)]))
  have g2 : n0 ≤ b1 := Nat.le_trans Z0 (Nat.le_of_eq g1.symm)
  have sz3 : h0.size ≤ b1 := Nat.le_trans K0.1 (Nat.le_of_eq g1.symm)
  have ne4 : a0 ≠ b1 := Nat.ne_of_lt (Nat.lt_of_lt_of_le P0.lt (Nat.le_of_eq g1.symm))
  have B5 := P0.ext E1
  have B6 := P1.ext E1
  have K7 : Keep h0 h1 [] := K0.ext E1
  have Z8 : n0 ≤ h1.size := Nat.le_trans Z0 E1.1
  have B9 : Fld Z h1 b1 "com/example/grant3/grant3/policy/Etag" "bytes" "[B" .null := D1 (Or.inr (hw _ (List.mem_of_getElem? (i := 28) rfl))) (ty := (.array .byte)) (by decide)
  refine own_via (fun k => XS.dup X1.here hx rfl (hb hby d2_3) rfl rfl (XS.aloadN X1.here hx rfl (hb hby d2_4) rfl rfl  k)) ?_
  show own_Go p e below s _ _ (T1.setTop (mkF m 5 #[rv a0] [(.ref a0), (.ref b1), (.ref b1)]))
  obtain ⟨T10, h10, X10, e10, E10, A10, AE10, st10⟩ := cloneH X1 hx hZ hown (hw _ (List.mem_of_getElem? (i := 12) rfl)) (hw _ (List.mem_of_getElem? (i := 13) rfl)) (hw _ (List.mem_of_getElem? (i := 17) rfl)) (hw _ (List.mem_of_getElem? (i := 15) rfl)) (hw _ (List.mem_of_getElem? (i := 16) rfl)) (hw _ (List.mem_of_getElem? (i := 18) rfl)) e1 B5.arh B6 (g := (mkF m 5 #[rv a0] [(.ref a0), (.ref b1), (.ref b1)])) rfl (by rw [hml]; rfl) rfl (hb hby d2_5) (by decide) (W := 2) (cap := 0) (by show 2 * 0 + _ ≤ _; exact Nat.le_of_eq rfl) (by decide) (by decide) (by decide) (by decide)
  obtain ⟨b10, g10⟩ : ∃ z, z = h1.size := ⟨_, rfl⟩
  rw [← g10] at A10 AE10 st10
  refine own_via (fun k => st10 _ k) ?_
  show own_Go p e below s _ _ (T10.setTop (mkF m 8 #[rv a0] [(.ref b10), (.ref b1), (.ref b1)]))
  have g11 : n0 ≤ b10 := Nat.le_trans Z8 (Nat.le_of_eq g10.symm)
  have sz12 : h0.size ≤ b10 := Nat.le_trans K7.1 (Nat.le_of_eq g10.symm)
  have ne13 : a0 ≠ b10 := Nat.ne_of_lt (Nat.lt_of_lt_of_le B5.lt (Nat.le_of_eq g10.symm))
  have ne14 : b1 ≠ b10 := Nat.ne_of_lt (Nat.lt_of_lt_of_le A1.lt (Nat.le_of_eq g10.symm))
  have B15 := B5.ext E10
  have B16 := B6.ext E10
  have B17 := A1.ext E10
  have B18 := B9.ext E10
  have K19 : Keep h0 h10 [] := K7.ext E10
  have Z20 : n0 ≤ h10.size := Nat.le_trans Z8 E10.1
  have B21 : Arv Z h10 b10 k .byte (0 : Int32) [] (.int 0) := A10
  obtain ⟨T22, X22, e22, st22⟩ := castY X10 hx hZ hown (hw _ (List.mem_of_getElem? (i := 19) rfl)) e10 (Ins.self AE10) (g := (mkF m 8 #[rv a0] [(.ref b10), (.ref b1), (.ref b1)])) rfl rfl (hb hby d2_8)
  refine own_via (fun k => st22 _ k) ?_
  show own_Go p e below s _ _ (T22.setTop (mkF m 11 #[rv a0] [(.ref b10), (.ref b1), (.ref b1)]))
  obtain ⟨_, _, ⟨T23, L23, k23, n23⟩, -, X23, ⟨Lc23, hQ23, l23, y23, z23⟩, st23⟩ := X22.specialBack hx (y := (⟨"com/example/grant3/grant3/policy/Etag", "<init>", "([B)V"⟩ : MethodName)) rfl hown (mvT hZ (hw _ (List.mem_of_getElem? (i := 21) rfl))) (mvT hZ (hw _ (List.mem_of_getElem? (i := 22) rfl))) (mvT hZ (hw _ (List.mem_of_getElem? (i := 23) rfl))) (by decide) (backOf (W := 1) (rm3 l Z aw hw [] b1 b10 h10 n0 Z20 B18 B17 g2) hZ (hw _ (List.mem_of_getElem? (i := 23) rfl)) (hw _ (List.mem_of_getElem? (i := 8) rfl)) (by decide) (by decide)) (g := (mkF m 11 #[rv a0] [(.ref b10), (.ref b1), (.ref b1)])) rfl (by rw [hml]; rfl) (Steps.refl _) (a := b1) (argsL := [(.ref b10)]) (rest := [(.ref b1)]) (lenOf pd_3 rfl) rfl (by show 2 * 0 + _ ≤ _; exact Nat.le_of_eq rfl) (hb hby d2_11) (fun _ _ => ⟨rfl, e22, (by decide : 2 + 0 ≤ _), (by decide : 1 + 0 ≤ _)⟩)
  dsimp only [Pt.U, Pt.locs, Pt.cells, Pt.slots] at X23 l23 y23 z23 st23 hQ23
  subst l23 y23 z23
  obtain ⟨rfl, N23q, K23, B24⟩ := hQ23
  have N25 := Fr.app N0 N23q
  have B26 := B15.keep K23 (ninS ne4 nin0)
  have B27 := B16.keep K23
  have B28 := B17.keep K23
  have B29 := B21.keep K23 (ninS (Ne.symm ne14) nin0)
  have B30 := AE10.keep K23
  have Z31 : n0 ≤ T23.heap.size := Nat.le_trans Z20 K23.1
  have K32 : Keep h0 T23.heap [] := K19.trans K23 (allS (Or.inr sz3) all0)
  refine own_via (fun k => st23.trans k) ?_
  show own_Go p e below s _ _ (T23.setTop (mkF m 14 #[rv a0] [(.ref b1)]))
  exact own_retA X23 hx hlk rfl (t := (.object "com/example/grant3/grant3/policy/Etag")) Bd.returns rfl (hb hby d2_14) (Q := (Q2_0 Z a0 k h0 n0)) ⟨b1, b10, rfl, N25, (K32), (B28), (B24), (B29), (B30), sz3, sz12⟩ (by decide) (by decide)
theorem ef_2_1 (m : MethodId) (x0 : Addr) : entryFrame m #[(.ref x0)] 1 = mkF m 0 #[rv x0] [] := by first | (simp [entryFrame, mkF, argsToLocals, Value.category]; done) | rfl
def Q2_1 (Z : State) (a0 : Addr) (k : ClassId) (w0 : Int32) (h0 : Heap) (n0 : Nat) (v : Option Value) (h : Heap) (L : List Loc) : Prop := ∃ (ob : Addr), ∃ (cb : Addr), v = some (.ref ob) ∧ Fr n0 L ∧ Keep h0 h [] ∧ Exa Z h ob "com/example/grant3/grant3/policy/Etag" ∧ Fld Z h ob "com/example/grant3/grant3/policy/Etag" "bytes" "[B" (.ref cb) ∧ Arv Z h cb k .byte (1 : Int32) [(.int w0)] (.int 0) ∧ Exa Z h cb "[B" ∧ h0.size ≤ ob ∧ h0.size ≤ cb
set_option maxRecDepth 65536 in
set_option maxHeartbeats 40000000 in
theorem rm2_1 (l : Launch) (Z : State) (aw : Array Value) (hw : ∀ d ∈ tables_1, d.before aw Z = true) (ws : List Jvm.Cond) (a0 : Addr) (k : ClassId) (w0 : Int32) (h0 : Heap) (n0 : Nat) (Z0 : n0 ≤ h0.size) (P0 : Arv Z h0 a0 k .byte (1 : Int32) [(.int w0)] (.int 0)) (P1 : Exa Z h0 a0 "[B") :
    MetFree l (⟨"com/example/grant3/grant3/policy/Etag", "of", "([B)Lcom/example/grant3/grant3/policy/Etag;"⟩ : MethodName) (head1 (Jvm.Cond.code (⟨"com/example/grant3/grant3/policy/Etag", "of", "([B)Lcom/example/grant3/grant3/policy/Etag;"⟩ : MethodName) prog_14_method_2_code 1 (some (.object "com/example/grant3/grant3/policy/Etag")) :: ws) ({ frames := 2, cells := 2, slots := 2, locals := 26 } : Room)) (fun a U => a = #[(.ref a0)] ∧ Z.Warmed39 U.vm ∧ U.heap = h0) (fun _ _ _ _ _ => True) (fun _ U o U' => ∃ v L, o = .returned v ∧ Q2_1 Z a0 k w0 h0 n0 v U'.heap L ∧ FrameEnd U o U' L ({ frames := 2, cells := 2, slots := 2, locals := 26 } : Room).cells ({ frames := 2, cells := 2, slots := 2, locals := 26 } : Room).slots) := by
  refine MetFree.of_bodySF (plainFor_of_name pn_2) hisR ?_
  intro p e s m args below meth c s₁ Bd hml0 hP hK
  obtain ⟨rfl, hZ, hh⟩ := hP
  have hx := Bd.exec
  have hby := Bd.bytes
  have hml : c.maxLocals = 1 := hml0
  have hown : s.vm.findClass "com/example/grant3/grant3/policy/Etag" = some m.cls := findClass_of_methodNamed Bd.named
  have hnm := (name_of_methodNamed Bd.named Bd.method).1
  have hlk : meth.locks = false := by first | exact BodyLoose.notSynchronized (by assumption) | exact Body.notSynchronized (by assumption)
  have X0 : Stand p l e ({ frames := 2, cells := 2, slots := 2, locals := 26 } : Room) s m #[(.ref a0)] below meth c s₁ [] 0 0 := Stand.of_body Bd
  have e0 : s₁.heap = h0 := by rw [← hh, Bd.state]; rfl
  have N0 := Fr.nil n0
  have K0 : Keep h0 h0 [] := Keep.refl _ _
  refine own_start (CS := (2, 2)) (Q := (Q2_1 Z a0 k w0 h0 n0)) (ef_2_1 m a0) ?_
  show own_Go p e below s _ _ (s₁.setTop (mkF m 0 #[rv a0] []))
  obtain ⟨T1, h1, X1, e1, E1, A1, D1, -, st1⟩ := newO X0 hx hZ hown (hw _ (List.mem_of_getElem? (i := 10) rfl)) (hw _ (List.mem_of_getElem? (i := 11) rfl)) (hw _ (List.mem_of_getElem? (i := 8) rfl)) e0 (g := (mkF m 0 #[rv a0] [])) rfl (hb hby d2_0) (by decide) (by decide)
  obtain ⟨b1, g1⟩ : ∃ z, z = h0.size := ⟨_, rfl⟩
  rw [← g1] at A1 D1 st1
  refine own_via (fun k => st1 _ k) ?_
  show own_Go p e below s _ _ (T1.setTop (mkF m 3 #[rv a0] [(.ref b1)]))
  have g2 : n0 ≤ b1 := Nat.le_trans Z0 (Nat.le_of_eq g1.symm)
  have sz3 : h0.size ≤ b1 := Nat.le_trans K0.1 (Nat.le_of_eq g1.symm)
  have ne4 : a0 ≠ b1 := Nat.ne_of_lt (Nat.lt_of_lt_of_le P0.lt (Nat.le_of_eq g1.symm))
  have B5 := P0.ext E1
  have B6 := P1.ext E1
  have K7 : Keep h0 h1 [] := K0.ext E1
  have Z8 : n0 ≤ h1.size := Nat.le_trans Z0 E1.1
  have B9 : Fld Z h1 b1 "com/example/grant3/grant3/policy/Etag" "bytes" "[B" .null := D1 (Or.inr (hw _ (List.mem_of_getElem? (i := 28) rfl))) (ty := (.array .byte)) (by decide)
  refine own_via (fun k => XS.dup X1.here hx rfl (hb hby d2_3) rfl rfl (XS.aloadN X1.here hx rfl (hb hby d2_4) rfl rfl  k)) ?_
  show own_Go p e below s _ _ (T1.setTop (mkF m 5 #[rv a0] [(.ref a0), (.ref b1), (.ref b1)]))
  obtain ⟨T10, h10, X10, e10, E10, A10, AE10, st10⟩ := cloneH X1 hx hZ hown (hw _ (List.mem_of_getElem? (i := 12) rfl)) (hw _ (List.mem_of_getElem? (i := 13) rfl)) (hw _ (List.mem_of_getElem? (i := 17) rfl)) (hw _ (List.mem_of_getElem? (i := 15) rfl)) (hw _ (List.mem_of_getElem? (i := 16) rfl)) (hw _ (List.mem_of_getElem? (i := 18) rfl)) e1 B5.arh B6 (g := (mkF m 5 #[rv a0] [(.ref a0), (.ref b1), (.ref b1)])) rfl (by rw [hml]; rfl) rfl (hb hby d2_5) (by decide) (W := 2) (cap := 1) (by show 2 * 0 + _ ≤ _; exact Nat.le_of_eq rfl) (by decide) (by decide) (by decide) (by decide)
  obtain ⟨b10, g10⟩ : ∃ z, z = h1.size := ⟨_, rfl⟩
  rw [← g10] at A10 AE10 st10
  refine own_via (fun k => st10 _ k) ?_
  show own_Go p e below s _ _ (T10.setTop (mkF m 8 #[rv a0] [(.ref b10), (.ref b1), (.ref b1)]))
  have g11 : n0 ≤ b10 := Nat.le_trans Z8 (Nat.le_of_eq g10.symm)
  have sz12 : h0.size ≤ b10 := Nat.le_trans K7.1 (Nat.le_of_eq g10.symm)
  have ne13 : a0 ≠ b10 := Nat.ne_of_lt (Nat.lt_of_lt_of_le B5.lt (Nat.le_of_eq g10.symm))
  have ne14 : b1 ≠ b10 := Nat.ne_of_lt (Nat.lt_of_lt_of_le A1.lt (Nat.le_of_eq g10.symm))
  have B15 := B5.ext E10
  have B16 := B6.ext E10
  have B17 := A1.ext E10
  have B18 := B9.ext E10
  have K19 : Keep h0 h10 [] := K7.ext E10
  have Z20 : n0 ≤ h10.size := Nat.le_trans Z8 E10.1
  have B21 : Arv Z h10 b10 k .byte (1 : Int32) [(.int w0)] (.int 0) := A10
  obtain ⟨T22, X22, e22, st22⟩ := castY X10 hx hZ hown (hw _ (List.mem_of_getElem? (i := 19) rfl)) e10 (Ins.self AE10) (g := (mkF m 8 #[rv a0] [(.ref b10), (.ref b1), (.ref b1)])) rfl rfl (hb hby d2_8)
  refine own_via (fun k => st22 _ k) ?_
  show own_Go p e below s _ _ (T22.setTop (mkF m 11 #[rv a0] [(.ref b10), (.ref b1), (.ref b1)]))
  obtain ⟨_, _, ⟨T23, L23, k23, n23⟩, -, X23, ⟨Lc23, hQ23, l23, y23, z23⟩, st23⟩ := X22.specialBack hx (y := (⟨"com/example/grant3/grant3/policy/Etag", "<init>", "([B)V"⟩ : MethodName)) rfl hown (mvT hZ (hw _ (List.mem_of_getElem? (i := 21) rfl))) (mvT hZ (hw _ (List.mem_of_getElem? (i := 22) rfl))) (mvT hZ (hw _ (List.mem_of_getElem? (i := 23) rfl))) (by decide) (backOf (W := 1) (rm3 l Z aw hw [] b1 b10 h10 n0 Z20 B18 B17 g2) hZ (hw _ (List.mem_of_getElem? (i := 23) rfl)) (hw _ (List.mem_of_getElem? (i := 8) rfl)) (by decide) (by decide)) (g := (mkF m 11 #[rv a0] [(.ref b10), (.ref b1), (.ref b1)])) rfl (by rw [hml]; rfl) (Steps.refl _) (a := b1) (argsL := [(.ref b10)]) (rest := [(.ref b1)]) (lenOf pd_3 rfl) rfl (by show 2 * 0 + _ ≤ _; exact Nat.le_of_eq rfl) (hb hby d2_11) (fun _ _ => ⟨rfl, e22, (by decide : 2 + 0 ≤ _), (by decide : 2 + 0 ≤ _)⟩)
  dsimp only [Pt.U, Pt.locs, Pt.cells, Pt.slots] at X23 l23 y23 z23 st23 hQ23
  subst l23 y23 z23
  obtain ⟨rfl, N23q, K23, B24⟩ := hQ23
  have N25 := Fr.app N0 N23q
  have B26 := B15.keep K23 (ninS ne4 nin0)
  have B27 := B16.keep K23
  have B28 := B17.keep K23
  have B29 := B21.keep K23 (ninS (Ne.symm ne14) nin0)
  have B30 := AE10.keep K23
  have Z31 : n0 ≤ T23.heap.size := Nat.le_trans Z20 K23.1
  have K32 : Keep h0 T23.heap [] := K19.trans K23 (allS (Or.inr sz3) all0)
  refine own_via (fun k => st23.trans k) ?_
  show own_Go p e below s _ _ (T23.setTop (mkF m 14 #[rv a0] [(.ref b1)]))
  exact own_retA X23 hx hlk rfl (t := (.object "com/example/grant3/grant3/policy/Etag")) Bd.returns rfl (hb hby d2_14) (Q := (Q2_1 Z a0 k w0 h0 n0)) ⟨b1, b10, rfl, N25, (K32), (B28), (B24), (B29), (B30), sz3, sz12⟩ (by decide) (by decide)
theorem ef_2_2 (m : MethodId) (x0 : Addr) : entryFrame m #[(.ref x0)] 1 = mkF m 0 #[rv x0] [] := by first | (simp [entryFrame, mkF, argsToLocals, Value.category]; done) | rfl
def Q2_2 (Z : State) (a0 : Addr) (k : ClassId) (w0 : Int32) (w1 : Int32) (h0 : Heap) (n0 : Nat) (v : Option Value) (h : Heap) (L : List Loc) : Prop := ∃ (ob : Addr), ∃ (cb : Addr), v = some (.ref ob) ∧ Fr n0 L ∧ Keep h0 h [] ∧ Exa Z h ob "com/example/grant3/grant3/policy/Etag" ∧ Fld Z h ob "com/example/grant3/grant3/policy/Etag" "bytes" "[B" (.ref cb) ∧ Arv Z h cb k .byte (2 : Int32) [(.int w0), (.int w1)] (.int 0) ∧ Exa Z h cb "[B" ∧ h0.size ≤ ob ∧ h0.size ≤ cb
set_option maxRecDepth 65536 in
set_option maxHeartbeats 40000000 in
theorem rm2_2 (l : Launch) (Z : State) (aw : Array Value) (hw : ∀ d ∈ tables_1, d.before aw Z = true) (ws : List Jvm.Cond) (a0 : Addr) (k : ClassId) (w0 : Int32) (w1 : Int32) (h0 : Heap) (n0 : Nat) (Z0 : n0 ≤ h0.size) (P0 : Arv Z h0 a0 k .byte (2 : Int32) [(.int w0), (.int w1)] (.int 0)) (P1 : Exa Z h0 a0 "[B") :
    MetFree l (⟨"com/example/grant3/grant3/policy/Etag", "of", "([B)Lcom/example/grant3/grant3/policy/Etag;"⟩ : MethodName) (head1 (Jvm.Cond.code (⟨"com/example/grant3/grant3/policy/Etag", "of", "([B)Lcom/example/grant3/grant3/policy/Etag;"⟩ : MethodName) prog_14_method_2_code 1 (some (.object "com/example/grant3/grant3/policy/Etag")) :: ws) ({ frames := 2, cells := 2, slots := 3, locals := 26 } : Room)) (fun a U => a = #[(.ref a0)] ∧ Z.Warmed39 U.vm ∧ U.heap = h0) (fun _ _ _ _ _ => True) (fun _ U o U' => ∃ v L, o = .returned v ∧ Q2_2 Z a0 k w0 w1 h0 n0 v U'.heap L ∧ FrameEnd U o U' L ({ frames := 2, cells := 2, slots := 3, locals := 26 } : Room).cells ({ frames := 2, cells := 2, slots := 3, locals := 26 } : Room).slots) := by
  refine MetFree.of_bodySF (plainFor_of_name pn_2) hisR ?_
  intro p e s m args below meth c s₁ Bd hml0 hP hK
  obtain ⟨rfl, hZ, hh⟩ := hP
  have hx := Bd.exec
  have hby := Bd.bytes
  have hml : c.maxLocals = 1 := hml0
  have hown : s.vm.findClass "com/example/grant3/grant3/policy/Etag" = some m.cls := findClass_of_methodNamed Bd.named
  have hnm := (name_of_methodNamed Bd.named Bd.method).1
  have hlk : meth.locks = false := by first | exact BodyLoose.notSynchronized (by assumption) | exact Body.notSynchronized (by assumption)
  have X0 : Stand p l e ({ frames := 2, cells := 2, slots := 3, locals := 26 } : Room) s m #[(.ref a0)] below meth c s₁ [] 0 0 := Stand.of_body Bd
  have e0 : s₁.heap = h0 := by rw [← hh, Bd.state]; rfl
  have N0 := Fr.nil n0
  have K0 : Keep h0 h0 [] := Keep.refl _ _
  refine own_start (CS := (2, 3)) (Q := (Q2_2 Z a0 k w0 w1 h0 n0)) (ef_2_2 m a0) ?_
  show own_Go p e below s _ _ (s₁.setTop (mkF m 0 #[rv a0] []))
  obtain ⟨T1, h1, X1, e1, E1, A1, D1, -, st1⟩ := newO X0 hx hZ hown (hw _ (List.mem_of_getElem? (i := 10) rfl)) (hw _ (List.mem_of_getElem? (i := 11) rfl)) (hw _ (List.mem_of_getElem? (i := 8) rfl)) e0 (g := (mkF m 0 #[rv a0] [])) rfl (hb hby d2_0) (by decide) (by decide)
  obtain ⟨b1, g1⟩ : ∃ z, z = h0.size := ⟨_, rfl⟩
  rw [← g1] at A1 D1 st1
  refine own_via (fun k => st1 _ k) ?_
  show own_Go p e below s _ _ (T1.setTop (mkF m 3 #[rv a0] [(.ref b1)]))
  have g2 : n0 ≤ b1 := Nat.le_trans Z0 (Nat.le_of_eq g1.symm)
  have sz3 : h0.size ≤ b1 := Nat.le_trans K0.1 (Nat.le_of_eq g1.symm)
  have ne4 : a0 ≠ b1 := Nat.ne_of_lt (Nat.lt_of_lt_of_le P0.lt (Nat.le_of_eq g1.symm))
  have B5 := P0.ext E1
  have B6 := P1.ext E1
  have K7 : Keep h0 h1 [] := K0.ext E1
  have Z8 : n0 ≤ h1.size := Nat.le_trans Z0 E1.1
  have B9 : Fld Z h1 b1 "com/example/grant3/grant3/policy/Etag" "bytes" "[B" .null := D1 (Or.inr (hw _ (List.mem_of_getElem? (i := 28) rfl))) (ty := (.array .byte)) (by decide)
  refine own_via (fun k => XS.dup X1.here hx rfl (hb hby d2_3) rfl rfl (XS.aloadN X1.here hx rfl (hb hby d2_4) rfl rfl  k)) ?_
  show own_Go p e below s _ _ (T1.setTop (mkF m 5 #[rv a0] [(.ref a0), (.ref b1), (.ref b1)]))
  obtain ⟨T10, h10, X10, e10, E10, A10, AE10, st10⟩ := cloneH X1 hx hZ hown (hw _ (List.mem_of_getElem? (i := 12) rfl)) (hw _ (List.mem_of_getElem? (i := 13) rfl)) (hw _ (List.mem_of_getElem? (i := 17) rfl)) (hw _ (List.mem_of_getElem? (i := 15) rfl)) (hw _ (List.mem_of_getElem? (i := 16) rfl)) (hw _ (List.mem_of_getElem? (i := 18) rfl)) e1 B5.arh B6 (g := (mkF m 5 #[rv a0] [(.ref a0), (.ref b1), (.ref b1)])) rfl (by rw [hml]; rfl) rfl (hb hby d2_5) (by decide) (W := 2) (cap := 2) (by show 2 * 0 + _ ≤ _; exact Nat.le_of_eq rfl) (by decide) (by decide) (by decide) (by decide)
  obtain ⟨b10, g10⟩ : ∃ z, z = h1.size := ⟨_, rfl⟩
  rw [← g10] at A10 AE10 st10
  refine own_via (fun k => st10 _ k) ?_
  show own_Go p e below s _ _ (T10.setTop (mkF m 8 #[rv a0] [(.ref b10), (.ref b1), (.ref b1)]))
  have g11 : n0 ≤ b10 := Nat.le_trans Z8 (Nat.le_of_eq g10.symm)
  have sz12 : h0.size ≤ b10 := Nat.le_trans K7.1 (Nat.le_of_eq g10.symm)
  have ne13 : a0 ≠ b10 := Nat.ne_of_lt (Nat.lt_of_lt_of_le B5.lt (Nat.le_of_eq g10.symm))
  have ne14 : b1 ≠ b10 := Nat.ne_of_lt (Nat.lt_of_lt_of_le A1.lt (Nat.le_of_eq g10.symm))
  have B15 := B5.ext E10
  have B16 := B6.ext E10
  have B17 := A1.ext E10
  have B18 := B9.ext E10
  have K19 : Keep h0 h10 [] := K7.ext E10
  have Z20 : n0 ≤ h10.size := Nat.le_trans Z8 E10.1
  have B21 : Arv Z h10 b10 k .byte (2 : Int32) [(.int w0), (.int w1)] (.int 0) := A10
  obtain ⟨T22, X22, e22, st22⟩ := castY X10 hx hZ hown (hw _ (List.mem_of_getElem? (i := 19) rfl)) e10 (Ins.self AE10) (g := (mkF m 8 #[rv a0] [(.ref b10), (.ref b1), (.ref b1)])) rfl rfl (hb hby d2_8)
  refine own_via (fun k => st22 _ k) ?_
  show own_Go p e below s _ _ (T22.setTop (mkF m 11 #[rv a0] [(.ref b10), (.ref b1), (.ref b1)]))
  obtain ⟨_, _, ⟨T23, L23, k23, n23⟩, -, X23, ⟨Lc23, hQ23, l23, y23, z23⟩, st23⟩ := X22.specialBack hx (y := (⟨"com/example/grant3/grant3/policy/Etag", "<init>", "([B)V"⟩ : MethodName)) rfl hown (mvT hZ (hw _ (List.mem_of_getElem? (i := 21) rfl))) (mvT hZ (hw _ (List.mem_of_getElem? (i := 22) rfl))) (mvT hZ (hw _ (List.mem_of_getElem? (i := 23) rfl))) (by decide) (backOf (W := 1) (rm3 l Z aw hw [] b1 b10 h10 n0 Z20 B18 B17 g2) hZ (hw _ (List.mem_of_getElem? (i := 23) rfl)) (hw _ (List.mem_of_getElem? (i := 8) rfl)) (by decide) (by decide)) (g := (mkF m 11 #[rv a0] [(.ref b10), (.ref b1), (.ref b1)])) rfl (by rw [hml]; rfl) (Steps.refl _) (a := b1) (argsL := [(.ref b10)]) (rest := [(.ref b1)]) (lenOf pd_3 rfl) rfl (by show 2 * 0 + _ ≤ _; exact Nat.le_of_eq rfl) (hb hby d2_11) (fun _ _ => ⟨rfl, e22, (by decide : 2 + 0 ≤ _), (by decide : 3 + 0 ≤ _)⟩)
  dsimp only [Pt.U, Pt.locs, Pt.cells, Pt.slots] at X23 l23 y23 z23 st23 hQ23
  subst l23 y23 z23
  obtain ⟨rfl, N23q, K23, B24⟩ := hQ23
  have N25 := Fr.app N0 N23q
  have B26 := B15.keep K23 (ninS ne4 nin0)
  have B27 := B16.keep K23
  have B28 := B17.keep K23
  have B29 := B21.keep K23 (ninS (Ne.symm ne14) nin0)
  have B30 := AE10.keep K23
  have Z31 : n0 ≤ T23.heap.size := Nat.le_trans Z20 K23.1
  have K32 : Keep h0 T23.heap [] := K19.trans K23 (allS (Or.inr sz3) all0)
  refine own_via (fun k => st23.trans k) ?_
  show own_Go p e below s _ _ (T23.setTop (mkF m 14 #[rv a0] [(.ref b1)]))
  exact own_retA X23 hx hlk rfl (t := (.object "com/example/grant3/grant3/policy/Etag")) Bd.returns rfl (hb hby d2_14) (Q := (Q2_2 Z a0 k w0 w1 h0 n0)) ⟨b1, b10, rfl, N25, (K32), (B28), (B24), (B29), (B30), sz3, sz12⟩ (by decide) (by decide)
theorem ef_2_3 (m : MethodId) (x0 : Addr) : entryFrame m #[(.ref x0)] 1 = mkF m 0 #[rv x0] [] := by first | (simp [entryFrame, mkF, argsToLocals, Value.category]; done) | rfl
def Q2_3 (Z : State) (a0 : Addr) (k : ClassId) (w0 : Int32) (w1 : Int32) (w2 : Int32) (h0 : Heap) (n0 : Nat) (v : Option Value) (h : Heap) (L : List Loc) : Prop := ∃ (ob : Addr), ∃ (cb : Addr), v = some (.ref ob) ∧ Fr n0 L ∧ Keep h0 h [] ∧ Exa Z h ob "com/example/grant3/grant3/policy/Etag" ∧ Fld Z h ob "com/example/grant3/grant3/policy/Etag" "bytes" "[B" (.ref cb) ∧ Arv Z h cb k .byte (3 : Int32) [(.int w0), (.int w1), (.int w2)] (.int 0) ∧ Exa Z h cb "[B" ∧ h0.size ≤ ob ∧ h0.size ≤ cb
set_option maxRecDepth 65536 in
set_option maxHeartbeats 40000000 in
theorem rm2_3 (l : Launch) (Z : State) (aw : Array Value) (hw : ∀ d ∈ tables_1, d.before aw Z = true) (ws : List Jvm.Cond) (a0 : Addr) (k : ClassId) (w0 : Int32) (w1 : Int32) (w2 : Int32) (h0 : Heap) (n0 : Nat) (Z0 : n0 ≤ h0.size) (P0 : Arv Z h0 a0 k .byte (3 : Int32) [(.int w0), (.int w1), (.int w2)] (.int 0)) (P1 : Exa Z h0 a0 "[B") :
    MetFree l (⟨"com/example/grant3/grant3/policy/Etag", "of", "([B)Lcom/example/grant3/grant3/policy/Etag;"⟩ : MethodName) (head1 (Jvm.Cond.code (⟨"com/example/grant3/grant3/policy/Etag", "of", "([B)Lcom/example/grant3/grant3/policy/Etag;"⟩ : MethodName) prog_14_method_2_code 1 (some (.object "com/example/grant3/grant3/policy/Etag")) :: ws) ({ frames := 2, cells := 2, slots := 4, locals := 26 } : Room)) (fun a U => a = #[(.ref a0)] ∧ Z.Warmed39 U.vm ∧ U.heap = h0) (fun _ _ _ _ _ => True) (fun _ U o U' => ∃ v L, o = .returned v ∧ Q2_3 Z a0 k w0 w1 w2 h0 n0 v U'.heap L ∧ FrameEnd U o U' L ({ frames := 2, cells := 2, slots := 4, locals := 26 } : Room).cells ({ frames := 2, cells := 2, slots := 4, locals := 26 } : Room).slots) := by
  refine MetFree.of_bodySF (plainFor_of_name pn_2) hisR ?_
  intro p e s m args below meth c s₁ Bd hml0 hP hK
  obtain ⟨rfl, hZ, hh⟩ := hP
  have hx := Bd.exec
  have hby := Bd.bytes
  have hml : c.maxLocals = 1 := hml0
  have hown : s.vm.findClass "com/example/grant3/grant3/policy/Etag" = some m.cls := findClass_of_methodNamed Bd.named
  have hnm := (name_of_methodNamed Bd.named Bd.method).1
  have hlk : meth.locks = false := by first | exact BodyLoose.notSynchronized (by assumption) | exact Body.notSynchronized (by assumption)
  have X0 : Stand p l e ({ frames := 2, cells := 2, slots := 4, locals := 26 } : Room) s m #[(.ref a0)] below meth c s₁ [] 0 0 := Stand.of_body Bd
  have e0 : s₁.heap = h0 := by rw [← hh, Bd.state]; rfl
  have N0 := Fr.nil n0
  have K0 : Keep h0 h0 [] := Keep.refl _ _
  refine own_start (CS := (2, 4)) (Q := (Q2_3 Z a0 k w0 w1 w2 h0 n0)) (ef_2_3 m a0) ?_
  show own_Go p e below s _ _ (s₁.setTop (mkF m 0 #[rv a0] []))
  obtain ⟨T1, h1, X1, e1, E1, A1, D1, -, st1⟩ := newO X0 hx hZ hown (hw _ (List.mem_of_getElem? (i := 10) rfl)) (hw _ (List.mem_of_getElem? (i := 11) rfl)) (hw _ (List.mem_of_getElem? (i := 8) rfl)) e0 (g := (mkF m 0 #[rv a0] [])) rfl (hb hby d2_0) (by decide) (by decide)
  obtain ⟨b1, g1⟩ : ∃ z, z = h0.size := ⟨_, rfl⟩
  rw [← g1] at A1 D1 st1
  refine own_via (fun k => st1 _ k) ?_
  show own_Go p e below s _ _ (T1.setTop (mkF m 3 #[rv a0] [(.ref b1)]))
  have g2 : n0 ≤ b1 := Nat.le_trans Z0 (Nat.le_of_eq g1.symm)
  have sz3 : h0.size ≤ b1 := Nat.le_trans K0.1 (Nat.le_of_eq g1.symm)
  have ne4 : a0 ≠ b1 := Nat.ne_of_lt (Nat.lt_of_lt_of_le P0.lt (Nat.le_of_eq g1.symm))
  have B5 := P0.ext E1
  have B6 := P1.ext E1
  have K7 : Keep h0 h1 [] := K0.ext E1
  have Z8 : n0 ≤ h1.size := Nat.le_trans Z0 E1.1
  have B9 : Fld Z h1 b1 "com/example/grant3/grant3/policy/Etag" "bytes" "[B" .null := D1 (Or.inr (hw _ (List.mem_of_getElem? (i := 28) rfl))) (ty := (.array .byte)) (by decide)
  refine own_via (fun k => XS.dup X1.here hx rfl (hb hby d2_3) rfl rfl (XS.aloadN X1.here hx rfl (hb hby d2_4) rfl rfl  k)) ?_
  show own_Go p e below s _ _ (T1.setTop (mkF m 5 #[rv a0] [(.ref a0), (.ref b1), (.ref b1)]))
  obtain ⟨T10, h10, X10, e10, E10, A10, AE10, st10⟩ := cloneH X1 hx hZ hown (hw _ (List.mem_of_getElem? (i := 12) rfl)) (hw _ (List.mem_of_getElem? (i := 13) rfl)) (hw _ (List.mem_of_getElem? (i := 17) rfl)) (hw _ (List.mem_of_getElem? (i := 15) rfl)) (hw _ (List.mem_of_getElem? (i := 16) rfl)) (hw _ (List.mem_of_getElem? (i := 18) rfl)) e1 B5.arh B6 (g := (mkF m 5 #[rv a0] [(.ref a0), (.ref b1), (.ref b1)])) rfl (by rw [hml]; rfl) rfl (hb hby d2_5) (by decide) (W := 2) (cap := 3) (by show 2 * 0 + _ ≤ _; exact Nat.le_of_eq rfl) (by decide) (by decide) (by decide) (by decide)
  obtain ⟨b10, g10⟩ : ∃ z, z = h1.size := ⟨_, rfl⟩
  rw [← g10] at A10 AE10 st10
  refine own_via (fun k => st10 _ k) ?_
  show own_Go p e below s _ _ (T10.setTop (mkF m 8 #[rv a0] [(.ref b10), (.ref b1), (.ref b1)]))
  have g11 : n0 ≤ b10 := Nat.le_trans Z8 (Nat.le_of_eq g10.symm)
  have sz12 : h0.size ≤ b10 := Nat.le_trans K7.1 (Nat.le_of_eq g10.symm)
  have ne13 : a0 ≠ b10 := Nat.ne_of_lt (Nat.lt_of_lt_of_le B5.lt (Nat.le_of_eq g10.symm))
  have ne14 : b1 ≠ b10 := Nat.ne_of_lt (Nat.lt_of_lt_of_le A1.lt (Nat.le_of_eq g10.symm))
  have B15 := B5.ext E10
  have B16 := B6.ext E10
  have B17 := A1.ext E10
  have B18 := B9.ext E10
  have K19 : Keep h0 h10 [] := K7.ext E10
  have Z20 : n0 ≤ h10.size := Nat.le_trans Z8 E10.1
  have B21 : Arv Z h10 b10 k .byte (3 : Int32) [(.int w0), (.int w1), (.int w2)] (.int 0) := A10
  obtain ⟨T22, X22, e22, st22⟩ := castY X10 hx hZ hown (hw _ (List.mem_of_getElem? (i := 19) rfl)) e10 (Ins.self AE10) (g := (mkF m 8 #[rv a0] [(.ref b10), (.ref b1), (.ref b1)])) rfl rfl (hb hby d2_8)
  refine own_via (fun k => st22 _ k) ?_
  show own_Go p e below s _ _ (T22.setTop (mkF m 11 #[rv a0] [(.ref b10), (.ref b1), (.ref b1)]))
  obtain ⟨_, _, ⟨T23, L23, k23, n23⟩, -, X23, ⟨Lc23, hQ23, l23, y23, z23⟩, st23⟩ := X22.specialBack hx (y := (⟨"com/example/grant3/grant3/policy/Etag", "<init>", "([B)V"⟩ : MethodName)) rfl hown (mvT hZ (hw _ (List.mem_of_getElem? (i := 21) rfl))) (mvT hZ (hw _ (List.mem_of_getElem? (i := 22) rfl))) (mvT hZ (hw _ (List.mem_of_getElem? (i := 23) rfl))) (by decide) (backOf (W := 1) (rm3 l Z aw hw [] b1 b10 h10 n0 Z20 B18 B17 g2) hZ (hw _ (List.mem_of_getElem? (i := 23) rfl)) (hw _ (List.mem_of_getElem? (i := 8) rfl)) (by decide) (by decide)) (g := (mkF m 11 #[rv a0] [(.ref b10), (.ref b1), (.ref b1)])) rfl (by rw [hml]; rfl) (Steps.refl _) (a := b1) (argsL := [(.ref b10)]) (rest := [(.ref b1)]) (lenOf pd_3 rfl) rfl (by show 2 * 0 + _ ≤ _; exact Nat.le_of_eq rfl) (hb hby d2_11) (fun _ _ => ⟨rfl, e22, (by decide : 2 + 0 ≤ _), (by decide : 4 + 0 ≤ _)⟩)
  dsimp only [Pt.U, Pt.locs, Pt.cells, Pt.slots] at X23 l23 y23 z23 st23 hQ23
  subst l23 y23 z23
  obtain ⟨rfl, N23q, K23, B24⟩ := hQ23
  have N25 := Fr.app N0 N23q
  have B26 := B15.keep K23 (ninS ne4 nin0)
  have B27 := B16.keep K23
  have B28 := B17.keep K23
  have B29 := B21.keep K23 (ninS (Ne.symm ne14) nin0)
  have B30 := AE10.keep K23
  have Z31 : n0 ≤ T23.heap.size := Nat.le_trans Z20 K23.1
  have K32 : Keep h0 T23.heap [] := K19.trans K23 (allS (Or.inr sz3) all0)
  refine own_via (fun k => st23.trans k) ?_
  show own_Go p e below s _ _ (T23.setTop (mkF m 14 #[rv a0] [(.ref b1)]))
  exact own_retA X23 hx hlk rfl (t := (.object "com/example/grant3/grant3/policy/Etag")) Bd.returns rfl (hb hby d2_14) (Q := (Q2_3 Z a0 k w0 w1 w2 h0 n0)) ⟨b1, b10, rfl, N25, (K32), (B28), (B24), (B29), (B30), sz3, sz12⟩ (by decide) (by decide)
theorem d5_0 : decode method_4_code 0 = .ok (.iconst 1, 1) := by decide +kernel
theorem d5_1 : decode method_4_code 1 = .ok (.istore 4, 2) := by decide +kernel
theorem d5_3 : decode method_4_code 3 = .ok (.iload_n 0, 1) := by decide +kernel
theorem d5_4 : decode method_4_code 4 = .ok (.ifCond .le 12, 3) := by decide +kernel
theorem d5_16 : decode method_4_code 16 = .ok (.iload_n 0, 1) := by decide +kernel
theorem d5_17 : decode method_4_code 17 = .ok (.iconst 1, 1) := by decide +kernel
theorem d5_18 : decode method_4_code 18 = .ok (.if_icmp .le 12, 3) := by decide +kernel
theorem d5_30 : decode method_4_code 30 = .ok (.iload_n 0, 1) := by decide +kernel
theorem d5_31 : decode method_4_code 31 = .ok (.iconst 2, 1) := by decide +kernel
theorem d5_32 : decode method_4_code 32 = .ok (.if_icmp .le 12, 3) := by decide +kernel
theorem d5_44 : decode method_4_code 44 = .ok (.iload 4, 2) := by decide +kernel
theorem d5_46 : decode method_4_code 46 = .ok (.ireturn, 1) := by decide +kernel
theorem pn_5 : plainName "com/example/grant3/grant3/policy/EtagOfPinLaw" = true := by first | (simp [plainName, overriddenIn]; done) | decide +kernel
theorem ef_5_0 (m : MethodId) (x0 : Int32) (x1 : Int32) (x2 : Int32) (x3 : Int32) : entryFrame m #[(.int x0), (.int x1), (.int x2), (.int x3)] 5 = mkF m 0 #[iv x0, iv x1, iv x2, iv x3, .unset] [] := by first | (simp [entryFrame, mkF, argsToLocals, Value.category]; done) | rfl
def own_f5_0  : Int32 := (1 : Int32)
def Q5_0 (Z : State) (p1 : Int32) (p2 : Int32) (p3 : Int32) (h0 : Heap) (n0 : Nat) (v : Option Value) (h : Heap) (L : List Loc) : Prop := v = some (.int own_f5_0) ∧ Fr n0 L ∧ h = h0
set_option maxRecDepth 65536 in
set_option maxHeartbeats 40000000 in
theorem rm5_0 (l : Launch) (Z : State) (aw : Array Value) (hw : ∀ d ∈ tables_1, d.before aw Z = true) (ws : List Jvm.Cond) (p1 : Int32) (p2 : Int32) (p3 : Int32) (h0 : Heap) (n0 : Nat) (Z0 : n0 ≤ h0.size)  :
    MetFree l (⟨"com/example/grant3/grant3/policy/EtagOfPinLaw", "refHash", "(IBBB)I"⟩ : MethodName) (head1 (Jvm.Cond.code (⟨"com/example/grant3/grant3/policy/EtagOfPinLaw", "refHash", "(IBBB)I"⟩ : MethodName) method_4_code 5 (some .int) :: ws) ({ frames := 0, cells := 0, slots := 0, locals := 0 } : Room)) (fun a U => a = #[(.int 0), (.int p1), (.int p2), (.int p3)] ∧ Z.Warmed39 U.vm ∧ U.heap = h0) (fun _ _ _ _ _ => True) (fun _ U o U' => ∃ v L, o = .returned v ∧ Q5_0 Z p1 p2 p3 h0 n0 v U'.heap L ∧ FrameEnd U o U' L ({ frames := 0, cells := 0, slots := 0, locals := 0 } : Room).cells ({ frames := 0, cells := 0, slots := 0, locals := 0 } : Room).slots) := by
  refine MetFree.of_bodySF (plainFor_of_name pn_5) hisR ?_
  intro p e s m args below meth c s₁ Bd hml0 hP hK
  obtain ⟨rfl, hZ, hh⟩ := hP
  have hx := Bd.exec
  have hby := Bd.bytes
  have hml : c.maxLocals = 5 := hml0
  have hown : s.vm.findClass "com/example/grant3/grant3/policy/EtagOfPinLaw" = some m.cls := findClass_of_methodNamed Bd.named
  have hnm := (name_of_methodNamed Bd.named Bd.method).1
  have hlk : meth.locks = false := by first | exact BodyLoose.notSynchronized (by assumption) | exact Body.notSynchronized (by assumption)
  have X0 : Stand p l e ({ frames := 0, cells := 0, slots := 0, locals := 0 } : Room) s m #[(.int 0), (.int p1), (.int p2), (.int p3)] below meth c s₁ [] 0 0 := Stand.of_body Bd
  have e0 : s₁.heap = h0 := by rw [← hh, Bd.state]; rfl
  have N0 := Fr.nil n0
  have K0 : Keep h0 h0 [] := Keep.refl _ _
  refine own_start (CS := (0, 0)) (Q := (Q5_0 Z p1 p2 p3 h0 n0)) (ef_5_0 m (0 : Int32) p1 p2 p3) ?_
  show own_Go p e below s _ _ (s₁.setTop (mkF m 0 #[iv 0, iv p1, iv p2, iv p3, .unset] []))
  refine own_via (fun k => XS.iconst X0.here hx rfl (hb hby d5_0) (XS.istore X0.here hx rfl (hb hby d5_1) rfl (l' := #[iv 0, iv p1, iv p2, iv p3, iv 1]) rfl (XS.iloadN X0.here hx rfl (hb hby d5_3) rfl  k))) ?_
  show own_Go p e below s _ _ (s₁.setTop (mkF m 4 #[iv 0, iv p1, iv p2, iv p3, iv 1] [(.int 0)]))
  refine own_via (fun k => XS.ifYes X0.here hx rfl (pc0 := 4) (pc' := 16) rfl (hb hby d5_4) rfl (by decide) (by decide) (by decide) k) ?_
  show own_Go p e below s _ _ (s₁.setTop (mkF m 16 #[iv 0, iv p1, iv p2, iv p3, iv 1] []))
  refine own_via (fun k => XS.iloadN X0.here hx rfl (hb hby d5_16) rfl  (XS.iconst X0.here hx rfl (hb hby d5_17) k)) ?_
  show own_Go p e below s _ _ (s₁.setTop (mkF m 18 #[iv 0, iv p1, iv p2, iv p3, iv 1] [(.int 1), (.int 0)]))
  refine own_via (fun k => XS.icmpYes X0.here hx rfl (pc0 := 18) (pc' := 30) rfl (hb hby d5_18) rfl (by decide) (by decide) (by decide) k) ?_
  show own_Go p e below s _ _ (s₁.setTop (mkF m 30 #[iv 0, iv p1, iv p2, iv p3, iv 1] []))
  refine own_via (fun k => XS.iloadN X0.here hx rfl (hb hby d5_30) rfl  (XS.iconst X0.here hx rfl (hb hby d5_31) k)) ?_
  show own_Go p e below s _ _ (s₁.setTop (mkF m 32 #[iv 0, iv p1, iv p2, iv p3, iv 1] [(.int 2), (.int 0)]))
  refine own_via (fun k => XS.icmpYes X0.here hx rfl (pc0 := 32) (pc' := 44) rfl (hb hby d5_32) rfl (by decide) (by decide) (by decide) k) ?_
  show own_Go p e below s _ _ (s₁.setTop (mkF m 44 #[iv 0, iv p1, iv p2, iv p3, iv 1] []))
  refine own_via (fun k => XS.iload X0.here hx rfl (hb hby d5_44) rfl  k) ?_
  show own_Go p e below s _ _ (s₁.setTop (mkF m 46 #[iv 0, iv p1, iv p2, iv p3, iv 1] [(.int 1)]))
  exact own_retI X0 hx hlk Bd.returns (hb hby d5_46) (Q := (Q5_0 Z p1 p2 p3 h0 n0)) ⟨(congrArg (fun z => some (Value.int z)) (show (1 : Int32) = own_f5_0 from rfl)), N0, e0⟩ (by decide) (by decide)
theorem d5_7 : decode method_4_code 7 = .ok (.bipush 31, 2) := by decide +kernel
theorem d5_9 : decode method_4_code 9 = .ok (.iload 4, 2) := by decide +kernel
theorem d5_11 : decode method_4_code 11 = .ok (.imul, 1) := by decide +kernel
theorem d5_12 : decode method_4_code 12 = .ok (.iload_n 1, 1) := by decide +kernel
theorem d5_13 : decode method_4_code 13 = .ok (.iadd, 1) := by decide +kernel
theorem d5_14 : decode method_4_code 14 = .ok (.istore 4, 2) := by decide +kernel
theorem ef_5_1 (m : MethodId) (x0 : Int32) (x1 : Int32) (x2 : Int32) (x3 : Int32) : entryFrame m #[(.int x0), (.int x1), (.int x2), (.int x3)] 5 = mkF m 0 #[iv x0, iv x1, iv x2, iv x3, .unset] [] := by first | (simp [entryFrame, mkF, argsToLocals, Value.category]; done) | rfl
def own_f5_1 (p1 : Int32) : Int32 := ((31 : Int32) + p1)
def Q5_1 (Z : State) (p1 : Int32) (p2 : Int32) (p3 : Int32) (h0 : Heap) (n0 : Nat) (v : Option Value) (h : Heap) (L : List Loc) : Prop := v = some (.int (own_f5_1 p1)) ∧ Fr n0 L ∧ h = h0
set_option maxRecDepth 65536 in
set_option maxHeartbeats 40000000 in
theorem rm5_1 (l : Launch) (Z : State) (aw : Array Value) (hw : ∀ d ∈ tables_1, d.before aw Z = true) (ws : List Jvm.Cond) (p1 : Int32) (p2 : Int32) (p3 : Int32) (h0 : Heap) (n0 : Nat) (Z0 : n0 ≤ h0.size)  :
    MetFree l (⟨"com/example/grant3/grant3/policy/EtagOfPinLaw", "refHash", "(IBBB)I"⟩ : MethodName) (head1 (Jvm.Cond.code (⟨"com/example/grant3/grant3/policy/EtagOfPinLaw", "refHash", "(IBBB)I"⟩ : MethodName) method_4_code 5 (some .int) :: ws) ({ frames := 0, cells := 0, slots := 0, locals := 0 } : Room)) (fun a U => a = #[(.int 1), (.int p1), (.int p2), (.int p3)] ∧ Z.Warmed39 U.vm ∧ U.heap = h0) (fun _ _ _ _ _ => True) (fun _ U o U' => ∃ v L, o = .returned v ∧ Q5_1 Z p1 p2 p3 h0 n0 v U'.heap L ∧ FrameEnd U o U' L ({ frames := 0, cells := 0, slots := 0, locals := 0 } : Room).cells ({ frames := 0, cells := 0, slots := 0, locals := 0 } : Room).slots) := by
  refine MetFree.of_bodySF (plainFor_of_name pn_5) hisR ?_
  intro p e s m args below meth c s₁ Bd hml0 hP hK
  obtain ⟨rfl, hZ, hh⟩ := hP
  have hx := Bd.exec
  have hby := Bd.bytes
  have hml : c.maxLocals = 5 := hml0
  have hown : s.vm.findClass "com/example/grant3/grant3/policy/EtagOfPinLaw" = some m.cls := findClass_of_methodNamed Bd.named
  have hnm := (name_of_methodNamed Bd.named Bd.method).1
  have hlk : meth.locks = false := by first | exact BodyLoose.notSynchronized (by assumption) | exact Body.notSynchronized (by assumption)
  have X0 : Stand p l e ({ frames := 0, cells := 0, slots := 0, locals := 0 } : Room) s m #[(.int 1), (.int p1), (.int p2), (.int p3)] below meth c s₁ [] 0 0 := Stand.of_body Bd
  have e0 : s₁.heap = h0 := by rw [← hh, Bd.state]; rfl
  have N0 := Fr.nil n0
  have K0 : Keep h0 h0 [] := Keep.refl _ _
  refine own_start (CS := (0, 0)) (Q := (Q5_1 Z p1 p2 p3 h0 n0)) (ef_5_1 m (1 : Int32) p1 p2 p3) ?_
  show own_Go p e below s _ _ (s₁.setTop (mkF m 0 #[iv 1, iv p1, iv p2, iv p3, .unset] []))
  refine own_via (fun k => XS.iconst X0.here hx rfl (hb hby d5_0) (XS.istore X0.here hx rfl (hb hby d5_1) rfl (l' := #[iv 1, iv p1, iv p2, iv p3, iv 1]) rfl (XS.iloadN X0.here hx rfl (hb hby d5_3) rfl  k))) ?_
  show own_Go p e below s _ _ (s₁.setTop (mkF m 4 #[iv 1, iv p1, iv p2, iv p3, iv 1] [(.int 1)]))
  refine own_via (fun k => XS.ifNo X0.here hx rfl (hb hby d5_4) rfl (by decide) k) ?_
  show own_Go p e below s _ _ (s₁.setTop (mkF m 7 #[iv 1, iv p1, iv p2, iv p3, iv 1] []))
  refine own_via (fun k => XS.bipush X0.here hx rfl (hb hby d5_7) (XS.iload X0.here hx rfl (hb hby d5_9) rfl  (XS.imul X0.here hx rfl (hb hby d5_11) rfl (XS.iloadN X0.here hx rfl (hb hby d5_12) rfl  k)))) ?_
  show own_Go p e below s _ _ (s₁.setTop (mkF m 13 #[iv 1, iv p1, iv p2, iv p3, iv 1] [(.int p1), (.int 31)]))
  refine own_via (fun k => XS.iadd X0.here hx rfl (hb hby d5_13) rfl (XS.istore X0.here hx rfl (hb hby d5_14) rfl (l' := #[iv 1, iv p1, iv p2, iv p3, iv ((31 : Int32) + p1)]) rfl (XS.iloadN X0.here hx rfl (hb hby d5_16) rfl  (XS.iconst X0.here hx rfl (hb hby d5_17) k)))) ?_
  show own_Go p e below s _ _ (s₁.setTop (mkF m 18 #[iv 1, iv p1, iv p2, iv p3, iv ((31 : Int32) + p1)] [(.int 1), (.int 1)]))
  refine own_via (fun k => XS.icmpYes X0.here hx rfl (pc0 := 18) (pc' := 30) rfl (hb hby d5_18) rfl (by decide) (by decide) (by decide) k) ?_
  show own_Go p e below s _ _ (s₁.setTop (mkF m 30 #[iv 1, iv p1, iv p2, iv p3, iv ((31 : Int32) + p1)] []))
  refine own_via (fun k => XS.iloadN X0.here hx rfl (hb hby d5_30) rfl  (XS.iconst X0.here hx rfl (hb hby d5_31) k)) ?_
  show own_Go p e below s _ _ (s₁.setTop (mkF m 32 #[iv 1, iv p1, iv p2, iv p3, iv ((31 : Int32) + p1)] [(.int 2), (.int 1)]))
  refine own_via (fun k => XS.icmpYes X0.here hx rfl (pc0 := 32) (pc' := 44) rfl (hb hby d5_32) rfl (by decide) (by decide) (by decide) k) ?_
  show own_Go p e below s _ _ (s₁.setTop (mkF m 44 #[iv 1, iv p1, iv p2, iv p3, iv ((31 : Int32) + p1)] []))
  refine own_via (fun k => XS.iload X0.here hx rfl (hb hby d5_44) rfl  k) ?_
  show own_Go p e below s _ _ (s₁.setTop (mkF m 46 #[iv 1, iv p1, iv p2, iv p3, iv ((31 : Int32) + p1)] [(.int ((31 : Int32) + p1))]))
  exact own_retI X0 hx hlk Bd.returns (hb hby d5_46) (Q := (Q5_1 Z p1 p2 p3 h0 n0)) ⟨(congrArg (fun z => some (Value.int z)) (show ((31 : Int32) + p1) = (own_f5_1 p1) from rfl)), N0, e0⟩ (by decide) (by decide)
theorem d5_21 : decode method_4_code 21 = .ok (.bipush 31, 2) := by decide +kernel
theorem d5_23 : decode method_4_code 23 = .ok (.iload 4, 2) := by decide +kernel
theorem d5_25 : decode method_4_code 25 = .ok (.imul, 1) := by decide +kernel
theorem d5_26 : decode method_4_code 26 = .ok (.iload_n 2, 1) := by decide +kernel
theorem d5_27 : decode method_4_code 27 = .ok (.iadd, 1) := by decide +kernel
theorem d5_28 : decode method_4_code 28 = .ok (.istore 4, 2) := by decide +kernel
theorem ef_5_2 (m : MethodId) (x0 : Int32) (x1 : Int32) (x2 : Int32) (x3 : Int32) : entryFrame m #[(.int x0), (.int x1), (.int x2), (.int x3)] 5 = mkF m 0 #[iv x0, iv x1, iv x2, iv x3, .unset] [] := by first | (simp [entryFrame, mkF, argsToLocals, Value.category]; done) | rfl
def own_f5_2 (p1 : Int32) (p2 : Int32) : Int32 := (((31 : Int32) * ((31 : Int32) + p1)) + p2)
def Q5_2 (Z : State) (p1 : Int32) (p2 : Int32) (p3 : Int32) (h0 : Heap) (n0 : Nat) (v : Option Value) (h : Heap) (L : List Loc) : Prop := v = some (.int (own_f5_2 p1 p2)) ∧ Fr n0 L ∧ h = h0
set_option maxRecDepth 65536 in
set_option maxHeartbeats 40000000 in
theorem rm5_2 (l : Launch) (Z : State) (aw : Array Value) (hw : ∀ d ∈ tables_1, d.before aw Z = true) (ws : List Jvm.Cond) (p1 : Int32) (p2 : Int32) (p3 : Int32) (h0 : Heap) (n0 : Nat) (Z0 : n0 ≤ h0.size)  :
    MetFree l (⟨"com/example/grant3/grant3/policy/EtagOfPinLaw", "refHash", "(IBBB)I"⟩ : MethodName) (head1 (Jvm.Cond.code (⟨"com/example/grant3/grant3/policy/EtagOfPinLaw", "refHash", "(IBBB)I"⟩ : MethodName) method_4_code 5 (some .int) :: ws) ({ frames := 0, cells := 0, slots := 0, locals := 0 } : Room)) (fun a U => a = #[(.int 2), (.int p1), (.int p2), (.int p3)] ∧ Z.Warmed39 U.vm ∧ U.heap = h0) (fun _ _ _ _ _ => True) (fun _ U o U' => ∃ v L, o = .returned v ∧ Q5_2 Z p1 p2 p3 h0 n0 v U'.heap L ∧ FrameEnd U o U' L ({ frames := 0, cells := 0, slots := 0, locals := 0 } : Room).cells ({ frames := 0, cells := 0, slots := 0, locals := 0 } : Room).slots) := by
  refine MetFree.of_bodySF (plainFor_of_name pn_5) hisR ?_
  intro p e s m args below meth c s₁ Bd hml0 hP hK
  obtain ⟨rfl, hZ, hh⟩ := hP
  have hx := Bd.exec
  have hby := Bd.bytes
  have hml : c.maxLocals = 5 := hml0
  have hown : s.vm.findClass "com/example/grant3/grant3/policy/EtagOfPinLaw" = some m.cls := findClass_of_methodNamed Bd.named
  have hnm := (name_of_methodNamed Bd.named Bd.method).1
  have hlk : meth.locks = false := by first | exact BodyLoose.notSynchronized (by assumption) | exact Body.notSynchronized (by assumption)
  have X0 : Stand p l e ({ frames := 0, cells := 0, slots := 0, locals := 0 } : Room) s m #[(.int 2), (.int p1), (.int p2), (.int p3)] below meth c s₁ [] 0 0 := Stand.of_body Bd
  have e0 : s₁.heap = h0 := by rw [← hh, Bd.state]; rfl
  have N0 := Fr.nil n0
  have K0 : Keep h0 h0 [] := Keep.refl _ _
  refine own_start (CS := (0, 0)) (Q := (Q5_2 Z p1 p2 p3 h0 n0)) (ef_5_2 m (2 : Int32) p1 p2 p3) ?_
  show own_Go p e below s _ _ (s₁.setTop (mkF m 0 #[iv 2, iv p1, iv p2, iv p3, .unset] []))
  refine own_via (fun k => XS.iconst X0.here hx rfl (hb hby d5_0) (XS.istore X0.here hx rfl (hb hby d5_1) rfl (l' := #[iv 2, iv p1, iv p2, iv p3, iv 1]) rfl (XS.iloadN X0.here hx rfl (hb hby d5_3) rfl  k))) ?_
  show own_Go p e below s _ _ (s₁.setTop (mkF m 4 #[iv 2, iv p1, iv p2, iv p3, iv 1] [(.int 2)]))
  refine own_via (fun k => XS.ifNo X0.here hx rfl (hb hby d5_4) rfl (by decide) k) ?_
  show own_Go p e below s _ _ (s₁.setTop (mkF m 7 #[iv 2, iv p1, iv p2, iv p3, iv 1] []))
  refine own_via (fun k => XS.bipush X0.here hx rfl (hb hby d5_7) (XS.iload X0.here hx rfl (hb hby d5_9) rfl  (XS.imul X0.here hx rfl (hb hby d5_11) rfl (XS.iloadN X0.here hx rfl (hb hby d5_12) rfl  k)))) ?_
  show own_Go p e below s _ _ (s₁.setTop (mkF m 13 #[iv 2, iv p1, iv p2, iv p3, iv 1] [(.int p1), (.int 31)]))
  refine own_via (fun k => XS.iadd X0.here hx rfl (hb hby d5_13) rfl (XS.istore X0.here hx rfl (hb hby d5_14) rfl (l' := #[iv 2, iv p1, iv p2, iv p3, iv ((31 : Int32) + p1)]) rfl (XS.iloadN X0.here hx rfl (hb hby d5_16) rfl  (XS.iconst X0.here hx rfl (hb hby d5_17) k)))) ?_
  show own_Go p e below s _ _ (s₁.setTop (mkF m 18 #[iv 2, iv p1, iv p2, iv p3, iv ((31 : Int32) + p1)] [(.int 1), (.int 2)]))
  refine own_via (fun k => XS.icmpNo X0.here hx rfl (hb hby d5_18) rfl (by decide) k) ?_
  show own_Go p e below s _ _ (s₁.setTop (mkF m 21 #[iv 2, iv p1, iv p2, iv p3, iv ((31 : Int32) + p1)] []))
  refine own_via (fun k => XS.bipush X0.here hx rfl (hb hby d5_21) (XS.iload X0.here hx rfl (hb hby d5_23) rfl  (XS.imul X0.here hx rfl (hb hby d5_25) rfl (XS.iloadN X0.here hx rfl (hb hby d5_26) rfl  k)))) ?_
  show own_Go p e below s _ _ (s₁.setTop (mkF m 27 #[iv 2, iv p1, iv p2, iv p3, iv ((31 : Int32) + p1)] [(.int p2), (.int ((31 : Int32) * ((31 : Int32) + p1)))]))
  refine own_via (fun k => XS.iadd X0.here hx rfl (hb hby d5_27) rfl (XS.istore X0.here hx rfl (hb hby d5_28) rfl (l' := #[iv 2, iv p1, iv p2, iv p3, iv (((31 : Int32) * ((31 : Int32) + p1)) + p2)]) rfl (XS.iloadN X0.here hx rfl (hb hby d5_30) rfl  (XS.iconst X0.here hx rfl (hb hby d5_31) k)))) ?_
  show own_Go p e below s _ _ (s₁.setTop (mkF m 32 #[iv 2, iv p1, iv p2, iv p3, iv (((31 : Int32) * ((31 : Int32) + p1)) + p2)] [(.int 2), (.int 2)]))
  refine own_via (fun k => XS.icmpYes X0.here hx rfl (pc0 := 32) (pc' := 44) rfl (hb hby d5_32) rfl (by decide) (by decide) (by decide) k) ?_
  show own_Go p e below s _ _ (s₁.setTop (mkF m 44 #[iv 2, iv p1, iv p2, iv p3, iv (((31 : Int32) * ((31 : Int32) + p1)) + p2)] []))
  refine own_via (fun k => XS.iload X0.here hx rfl (hb hby d5_44) rfl  k) ?_
  show own_Go p e below s _ _ (s₁.setTop (mkF m 46 #[iv 2, iv p1, iv p2, iv p3, iv (((31 : Int32) * ((31 : Int32) + p1)) + p2)] [(.int (((31 : Int32) * ((31 : Int32) + p1)) + p2))]))
  exact own_retI X0 hx hlk Bd.returns (hb hby d5_46) (Q := (Q5_2 Z p1 p2 p3 h0 n0)) ⟨(congrArg (fun z => some (Value.int z)) (show (((31 : Int32) * ((31 : Int32) + p1)) + p2) = (own_f5_2 p1 p2) from rfl)), N0, e0⟩ (by decide) (by decide)
theorem d5_35 : decode method_4_code 35 = .ok (.bipush 31, 2) := by decide +kernel
theorem d5_37 : decode method_4_code 37 = .ok (.iload 4, 2) := by decide +kernel
theorem d5_39 : decode method_4_code 39 = .ok (.imul, 1) := by decide +kernel
theorem d5_40 : decode method_4_code 40 = .ok (.iload_n 3, 1) := by decide +kernel
theorem d5_41 : decode method_4_code 41 = .ok (.iadd, 1) := by decide +kernel
theorem d5_42 : decode method_4_code 42 = .ok (.istore 4, 2) := by decide +kernel
theorem ef_5_3 (m : MethodId) (x0 : Int32) (x1 : Int32) (x2 : Int32) (x3 : Int32) : entryFrame m #[(.int x0), (.int x1), (.int x2), (.int x3)] 5 = mkF m 0 #[iv x0, iv x1, iv x2, iv x3, .unset] [] := by first | (simp [entryFrame, mkF, argsToLocals, Value.category]; done) | rfl
def own_f5_3 (p1 : Int32) (p2 : Int32) (p3 : Int32) : Int32 := (((31 : Int32) * (((31 : Int32) * ((31 : Int32) + p1)) + p2)) + p3)
def Q5_3 (Z : State) (p1 : Int32) (p2 : Int32) (p3 : Int32) (h0 : Heap) (n0 : Nat) (v : Option Value) (h : Heap) (L : List Loc) : Prop := v = some (.int (own_f5_3 p1 p2 p3)) ∧ Fr n0 L ∧ h = h0
set_option maxRecDepth 65536 in
set_option maxHeartbeats 40000000 in
theorem rm5_3 (l : Launch) (Z : State) (aw : Array Value) (hw : ∀ d ∈ tables_1, d.before aw Z = true) (ws : List Jvm.Cond) (p1 : Int32) (p2 : Int32) (p3 : Int32) (h0 : Heap) (n0 : Nat) (Z0 : n0 ≤ h0.size)  :
    MetFree l (⟨"com/example/grant3/grant3/policy/EtagOfPinLaw", "refHash", "(IBBB)I"⟩ : MethodName) (head1 (Jvm.Cond.code (⟨"com/example/grant3/grant3/policy/EtagOfPinLaw", "refHash", "(IBBB)I"⟩ : MethodName) method_4_code 5 (some .int) :: ws) ({ frames := 0, cells := 0, slots := 0, locals := 0 } : Room)) (fun a U => a = #[(.int 3), (.int p1), (.int p2), (.int p3)] ∧ Z.Warmed39 U.vm ∧ U.heap = h0) (fun _ _ _ _ _ => True) (fun _ U o U' => ∃ v L, o = .returned v ∧ Q5_3 Z p1 p2 p3 h0 n0 v U'.heap L ∧ FrameEnd U o U' L ({ frames := 0, cells := 0, slots := 0, locals := 0 } : Room).cells ({ frames := 0, cells := 0, slots := 0, locals := 0 } : Room).slots) := by
  refine MetFree.of_bodySF (plainFor_of_name pn_5) hisR ?_
  intro p e s m args below meth c s₁ Bd hml0 hP hK
  obtain ⟨rfl, hZ, hh⟩ := hP
  have hx := Bd.exec
  have hby := Bd.bytes
  have hml : c.maxLocals = 5 := hml0
  have hown : s.vm.findClass "com/example/grant3/grant3/policy/EtagOfPinLaw" = some m.cls := findClass_of_methodNamed Bd.named
  have hnm := (name_of_methodNamed Bd.named Bd.method).1
  have hlk : meth.locks = false := by first | exact BodyLoose.notSynchronized (by assumption) | exact Body.notSynchronized (by assumption)
  have X0 : Stand p l e ({ frames := 0, cells := 0, slots := 0, locals := 0 } : Room) s m #[(.int 3), (.int p1), (.int p2), (.int p3)] below meth c s₁ [] 0 0 := Stand.of_body Bd
  have e0 : s₁.heap = h0 := by rw [← hh, Bd.state]; rfl
  have N0 := Fr.nil n0
  have K0 : Keep h0 h0 [] := Keep.refl _ _
  refine own_start (CS := (0, 0)) (Q := (Q5_3 Z p1 p2 p3 h0 n0)) (ef_5_3 m (3 : Int32) p1 p2 p3) ?_
  show own_Go p e below s _ _ (s₁.setTop (mkF m 0 #[iv 3, iv p1, iv p2, iv p3, .unset] []))
  refine own_via (fun k => XS.iconst X0.here hx rfl (hb hby d5_0) (XS.istore X0.here hx rfl (hb hby d5_1) rfl (l' := #[iv 3, iv p1, iv p2, iv p3, iv 1]) rfl (XS.iloadN X0.here hx rfl (hb hby d5_3) rfl  k))) ?_
  show own_Go p e below s _ _ (s₁.setTop (mkF m 4 #[iv 3, iv p1, iv p2, iv p3, iv 1] [(.int 3)]))
  refine own_via (fun k => XS.ifNo X0.here hx rfl (hb hby d5_4) rfl (by decide) k) ?_
  show own_Go p e below s _ _ (s₁.setTop (mkF m 7 #[iv 3, iv p1, iv p2, iv p3, iv 1] []))
  refine own_via (fun k => XS.bipush X0.here hx rfl (hb hby d5_7) (XS.iload X0.here hx rfl (hb hby d5_9) rfl  (XS.imul X0.here hx rfl (hb hby d5_11) rfl (XS.iloadN X0.here hx rfl (hb hby d5_12) rfl  k)))) ?_
  show own_Go p e below s _ _ (s₁.setTop (mkF m 13 #[iv 3, iv p1, iv p2, iv p3, iv 1] [(.int p1), (.int 31)]))
  refine own_via (fun k => XS.iadd X0.here hx rfl (hb hby d5_13) rfl (XS.istore X0.here hx rfl (hb hby d5_14) rfl (l' := #[iv 3, iv p1, iv p2, iv p3, iv ((31 : Int32) + p1)]) rfl (XS.iloadN X0.here hx rfl (hb hby d5_16) rfl  (XS.iconst X0.here hx rfl (hb hby d5_17) k)))) ?_
  show own_Go p e below s _ _ (s₁.setTop (mkF m 18 #[iv 3, iv p1, iv p2, iv p3, iv ((31 : Int32) + p1)] [(.int 1), (.int 3)]))
  refine own_via (fun k => XS.icmpNo X0.here hx rfl (hb hby d5_18) rfl (by decide) k) ?_
  show own_Go p e below s _ _ (s₁.setTop (mkF m 21 #[iv 3, iv p1, iv p2, iv p3, iv ((31 : Int32) + p1)] []))
  refine own_via (fun k => XS.bipush X0.here hx rfl (hb hby d5_21) (XS.iload X0.here hx rfl (hb hby d5_23) rfl  (XS.imul X0.here hx rfl (hb hby d5_25) rfl (XS.iloadN X0.here hx rfl (hb hby d5_26) rfl  k)))) ?_
  show own_Go p e below s _ _ (s₁.setTop (mkF m 27 #[iv 3, iv p1, iv p2, iv p3, iv ((31 : Int32) + p1)] [(.int p2), (.int ((31 : Int32) * ((31 : Int32) + p1)))]))
  refine own_via (fun k => XS.iadd X0.here hx rfl (hb hby d5_27) rfl (XS.istore X0.here hx rfl (hb hby d5_28) rfl (l' := #[iv 3, iv p1, iv p2, iv p3, iv (((31 : Int32) * ((31 : Int32) + p1)) + p2)]) rfl (XS.iloadN X0.here hx rfl (hb hby d5_30) rfl  (XS.iconst X0.here hx rfl (hb hby d5_31) k)))) ?_
  show own_Go p e below s _ _ (s₁.setTop (mkF m 32 #[iv 3, iv p1, iv p2, iv p3, iv (((31 : Int32) * ((31 : Int32) + p1)) + p2)] [(.int 2), (.int 3)]))
  refine own_via (fun k => XS.icmpNo X0.here hx rfl (hb hby d5_32) rfl (by decide) k) ?_
  show own_Go p e below s _ _ (s₁.setTop (mkF m 35 #[iv 3, iv p1, iv p2, iv p3, iv (((31 : Int32) * ((31 : Int32) + p1)) + p2)] []))
  refine own_via (fun k => XS.bipush X0.here hx rfl (hb hby d5_35) (XS.iload X0.here hx rfl (hb hby d5_37) rfl  (XS.imul X0.here hx rfl (hb hby d5_39) rfl (XS.iloadN X0.here hx rfl (hb hby d5_40) rfl  k)))) ?_
  show own_Go p e below s _ _ (s₁.setTop (mkF m 41 #[iv 3, iv p1, iv p2, iv p3, iv (((31 : Int32) * ((31 : Int32) + p1)) + p2)] [(.int p3), (.int ((31 : Int32) * (((31 : Int32) * ((31 : Int32) + p1)) + p2)))]))
  refine own_via (fun k => XS.iadd X0.here hx rfl (hb hby d5_41) rfl (XS.istore X0.here hx rfl (hb hby d5_42) rfl (l' := #[iv 3, iv p1, iv p2, iv p3, iv (((31 : Int32) * (((31 : Int32) * ((31 : Int32) + p1)) + p2)) + p3)]) rfl (XS.iload X0.here hx rfl (hb hby d5_44) rfl  k))) ?_
  show own_Go p e below s _ _ (s₁.setTop (mkF m 46 #[iv 3, iv p1, iv p2, iv p3, iv (((31 : Int32) * (((31 : Int32) * ((31 : Int32) + p1)) + p2)) + p3)] [(.int (((31 : Int32) * (((31 : Int32) * ((31 : Int32) + p1)) + p2)) + p3))]))
  exact own_retI X0 hx hlk Bd.returns (hb hby d5_46) (Q := (Q5_3 Z p1 p2 p3 h0 n0)) ⟨(congrArg (fun z => some (Value.int z)) (show (((31 : Int32) * (((31 : Int32) * ((31 : Int32) + p1)) + p2)) + p3) = (own_f5_3 p1 p2 p3) from rfl)), N0, e0⟩ (by decide) (by decide)
theorem d8_0 : decode jdk_48_method_13_code 0 = .ok (.iconst 0, 1) := by decide +kernel
theorem d8_1 : decode jdk_48_method_13_code 1 = .ok (.istore_n 3, 1) := by decide +kernel
theorem d8_2 : decode jdk_48_method_13_code 2 = .ok (.iload_n 2, 1) := by decide +kernel
theorem d8_3 : decode jdk_48_method_13_code 3 = .ok (.bipush 7, 2) := by decide +kernel
theorem d8_5 : decode jdk_48_method_13_code 5 = .ok (.if_icmp .le 44, 3) := by decide +kernel
theorem d8_49 : decode jdk_48_method_13_code 49 = .ok (.iload_n 3, 1) := by decide +kernel
theorem d8_50 : decode jdk_48_method_13_code 50 = .ok (.iload_n 2, 1) := by decide +kernel
theorem d8_51 : decode jdk_48_method_13_code 51 = .ok (.if_icmp .ge 20, 3) := by decide +kernel
theorem d8_71 : decode jdk_48_method_13_code 71 = .ok (.iconst (-1), 1) := by decide +kernel
theorem d8_72 : decode jdk_48_method_13_code 72 = .ok (.ireturn, 1) := by decide +kernel
theorem pn_8 : plainName "jdk/internal/util/ArraysSupport" = true := by first | (simp [plainName, overriddenIn]; done) | decide +kernel
theorem ef_8_0 (m : MethodId) (x0 : Addr) (x1 : Addr) (x2 : Int32) : entryFrame m #[(.ref x0), (.ref x1), (.int x2)] 4 = mkF m 0 #[rv x0, rv x1, iv x2, .unset] [] := by first | (simp [entryFrame, mkF, argsToLocals, Value.category]; done) | rfl
def own_f8_0  : Int32 := (-1 : Int32)
def Q8_0 (Z : State) (a0 : Addr) (a1 : Addr) (k0 : ClassId) (k1 : ClassId) (h0 : Heap) (n0 : Nat) (v : Option Value) (h : Heap) (L : List Loc) : Prop := v = some (.int own_f8_0) ∧ Fr n0 L ∧ h = h0
set_option maxRecDepth 65536 in
set_option maxHeartbeats 40000000 in
theorem rm8_0 (l : Launch) (Z : State) (aw : Array Value) (hw : ∀ d ∈ tables_1, d.before aw Z = true) (ws : List Jvm.Cond) (a0 : Addr) (a1 : Addr) (k0 : ClassId) (k1 : ClassId) (h0 : Heap) (n0 : Nat) (Z0 : n0 ≤ h0.size) (P0 : Arv Z h0 a0 k0 .byte (0 : Int32) [] (.int 0)) (P1 : Arv Z h0 a1 k1 .byte (0 : Int32) [] (.int 0)) :
    MetFree l (⟨"jdk/internal/util/ArraysSupport", "mismatch", "([B[BI)I"⟩ : MethodName) (head1 (Jvm.Cond.code (⟨"jdk/internal/util/ArraysSupport", "mismatch", "([B[BI)I"⟩ : MethodName) jdk_48_method_13_code 4 (some .int) :: ws) ({ frames := 0, cells := 0, slots := 0, locals := 0 } : Room)) (fun a U => a = #[(.ref a0), (.ref a1), (.int 0)] ∧ Z.Warmed39 U.vm ∧ U.heap = h0) (fun _ _ _ _ _ => True) (fun _ U o U' => ∃ v L, o = .returned v ∧ Q8_0 Z a0 a1 k0 k1 h0 n0 v U'.heap L ∧ FrameEnd U o U' L ({ frames := 0, cells := 0, slots := 0, locals := 0 } : Room).cells ({ frames := 0, cells := 0, slots := 0, locals := 0 } : Room).slots) := by
  refine MetFree.of_bodySF (plainFor_of_name pn_8) hisR ?_
  intro p e s m args below meth c s₁ Bd hml0 hP hK
  obtain ⟨rfl, hZ, hh⟩ := hP
  have hx := Bd.exec
  have hby := Bd.bytes
  have hml : c.maxLocals = 4 := hml0
  have hown : s.vm.findClass "jdk/internal/util/ArraysSupport" = some m.cls := findClass_of_methodNamed Bd.named
  have hnm := (name_of_methodNamed Bd.named Bd.method).1
  have hlk : meth.locks = false := by first | exact BodyLoose.notSynchronized (by assumption) | exact Body.notSynchronized (by assumption)
  have X0 : Stand p l e ({ frames := 0, cells := 0, slots := 0, locals := 0 } : Room) s m #[(.ref a0), (.ref a1), (.int 0)] below meth c s₁ [] 0 0 := Stand.of_body Bd
  have e0 : s₁.heap = h0 := by rw [← hh, Bd.state]; rfl
  have N0 := Fr.nil n0
  have K0 : Keep h0 h0 [] := Keep.refl _ _
  refine own_start (CS := (0, 0)) (Q := (Q8_0 Z a0 a1 k0 k1 h0 n0)) (ef_8_0 m a0 a1 (0 : Int32)) ?_
  show own_Go p e below s _ _ (s₁.setTop (mkF m 0 #[rv a0, rv a1, iv 0, .unset] []))
  refine own_via (fun k => XS.iconst X0.here hx rfl (hb hby d8_0) (XS.istoreN X0.here hx rfl (hb hby d8_1) rfl (l' := #[rv a0, rv a1, iv 0, iv 0]) rfl (XS.iloadN X0.here hx rfl (hb hby d8_2) rfl  (XS.bipush X0.here hx rfl (hb hby d8_3) k)))) ?_
  show own_Go p e below s _ _ (s₁.setTop (mkF m 5 #[rv a0, rv a1, iv 0, iv 0] [(.int 7), (.int 0)]))
  refine own_via (fun k => XS.icmpYes X0.here hx rfl (pc0 := 5) (pc' := 49) rfl (hb hby d8_5) rfl (by decide) (by decide) (by decide) k) ?_
  show own_Go p e below s _ _ (s₁.setTop (mkF m 49 #[rv a0, rv a1, iv 0, iv 0] []))
  refine own_via (fun k => XS.iloadN X0.here hx rfl (hb hby d8_49) rfl  (XS.iloadN X0.here hx rfl (hb hby d8_50) rfl  k)) ?_
  show own_Go p e below s _ _ (s₁.setTop (mkF m 51 #[rv a0, rv a1, iv 0, iv 0] [(.int 0), (.int 0)]))
  refine own_via (fun k => XS.icmpYes X0.here hx rfl (pc0 := 51) (pc' := 71) rfl (hb hby d8_51) rfl (by decide) (by decide) (by decide) k) ?_
  show own_Go p e below s _ _ (s₁.setTop (mkF m 71 #[rv a0, rv a1, iv 0, iv 0] []))
  refine own_via (fun k => XS.iconst X0.here hx rfl (hb hby d8_71) k) ?_
  show own_Go p e below s _ _ (s₁.setTop (mkF m 72 #[rv a0, rv a1, iv 0, iv 0] [(.int (-1))]))
  exact own_retI X0 hx hlk Bd.returns (hb hby d8_72) (Q := (Q8_0 Z a0 a1 k0 k1 h0 n0)) ⟨(congrArg (fun z => some (Value.int z)) (show (-1 : Int32) = own_f8_0 from rfl)), N0, e0⟩ (by decide) (by decide)
theorem d8_54 : decode jdk_48_method_13_code 54 = .ok (.aload_n 0, 1) := by decide +kernel
theorem d8_55 : decode jdk_48_method_13_code 55 = .ok (.iload_n 3, 1) := by decide +kernel
theorem d8_56 : decode jdk_48_method_13_code 56 = .ok (.baload, 1) := by decide +kernel
theorem d8_57 : decode jdk_48_method_13_code 57 = .ok (.aload_n 1, 1) := by decide +kernel
theorem d8_58 : decode jdk_48_method_13_code 58 = .ok (.iload_n 3, 1) := by decide +kernel
theorem d8_59 : decode jdk_48_method_13_code 59 = .ok (.baload, 1) := by decide +kernel
theorem d8_60 : decode jdk_48_method_13_code 60 = .ok (.if_icmp .eq 5, 3) := by decide +kernel
theorem d8_63 : decode jdk_48_method_13_code 63 = .ok (.iload_n 3, 1) := by decide +kernel
theorem d8_64 : decode jdk_48_method_13_code 64 = .ok (.ireturn, 1) := by decide +kernel
theorem d8_65 : decode jdk_48_method_13_code 65 = .ok (.iinc 3 1, 3) := by decide +kernel
theorem d8_68 : decode jdk_48_method_13_code 68 = .ok (.goto (-19), 3) := by decide +kernel
theorem ef_8_1 (m : MethodId) (x0 : Addr) (x1 : Addr) (x2 : Int32) : entryFrame m #[(.ref x0), (.ref x1), (.int x2)] 4 = mkF m 0 #[rv x0, rv x1, iv x2, .unset] [] := by first | (simp [entryFrame, mkF, argsToLocals, Value.category]; done) | rfl
def own_f8_1 (w0 : Int32) (v0 : Int32) : Int32 := (if w0 = v0 then (-1 : Int32) else (0 : Int32))
def Q8_1 (Z : State) (a0 : Addr) (a1 : Addr) (k0 : ClassId) (k1 : ClassId) (w0 : Int32) (v0 : Int32) (h0 : Heap) (n0 : Nat) (v : Option Value) (h : Heap) (L : List Loc) : Prop := v = some (.int (own_f8_1 w0 v0)) ∧ Fr n0 L ∧ h = h0
set_option maxRecDepth 65536 in
set_option maxHeartbeats 40000000 in
theorem rm8_1 (l : Launch) (Z : State) (aw : Array Value) (hw : ∀ d ∈ tables_1, d.before aw Z = true) (ws : List Jvm.Cond) (a0 : Addr) (a1 : Addr) (k0 : ClassId) (k1 : ClassId) (w0 : Int32) (v0 : Int32) (h0 : Heap) (n0 : Nat) (Z0 : n0 ≤ h0.size) (P0 : Arv Z h0 a0 k0 .byte (1 : Int32) [(.int w0)] (.int 0)) (P1 : Arv Z h0 a1 k1 .byte (1 : Int32) [(.int v0)] (.int 0)) :
    MetFree l (⟨"jdk/internal/util/ArraysSupport", "mismatch", "([B[BI)I"⟩ : MethodName) (head1 (Jvm.Cond.code (⟨"jdk/internal/util/ArraysSupport", "mismatch", "([B[BI)I"⟩ : MethodName) jdk_48_method_13_code 4 (some .int) :: ws) ({ frames := 0, cells := 0, slots := 0, locals := 0 } : Room)) (fun a U => a = #[(.ref a0), (.ref a1), (.int 1)] ∧ Z.Warmed39 U.vm ∧ U.heap = h0) (fun _ _ _ _ _ => True) (fun _ U o U' => ∃ v L, o = .returned v ∧ Q8_1 Z a0 a1 k0 k1 w0 v0 h0 n0 v U'.heap L ∧ FrameEnd U o U' L ({ frames := 0, cells := 0, slots := 0, locals := 0 } : Room).cells ({ frames := 0, cells := 0, slots := 0, locals := 0 } : Room).slots) := by
  refine MetFree.of_bodySF (plainFor_of_name pn_8) hisR ?_
  intro p e s m args below meth c s₁ Bd hml0 hP hK
  obtain ⟨rfl, hZ, hh⟩ := hP
  have hx := Bd.exec
  have hby := Bd.bytes
  have hml : c.maxLocals = 4 := hml0
  have hown : s.vm.findClass "jdk/internal/util/ArraysSupport" = some m.cls := findClass_of_methodNamed Bd.named
  have hnm := (name_of_methodNamed Bd.named Bd.method).1
  have hlk : meth.locks = false := by first | exact BodyLoose.notSynchronized (by assumption) | exact Body.notSynchronized (by assumption)
  have X0 : Stand p l e ({ frames := 0, cells := 0, slots := 0, locals := 0 } : Room) s m #[(.ref a0), (.ref a1), (.int 1)] below meth c s₁ [] 0 0 := Stand.of_body Bd
  have e0 : s₁.heap = h0 := by rw [← hh, Bd.state]; rfl
  have N0 := Fr.nil n0
  have K0 : Keep h0 h0 [] := Keep.refl _ _
  refine own_start (CS := (0, 0)) (Q := (Q8_1 Z a0 a1 k0 k1 w0 v0 h0 n0)) (ef_8_1 m a0 a1 (1 : Int32)) ?_
  show own_Go p e below s _ _ (s₁.setTop (mkF m 0 #[rv a0, rv a1, iv 1, .unset] []))
  refine own_via (fun k => XS.iconst X0.here hx rfl (hb hby d8_0) (XS.istoreN X0.here hx rfl (hb hby d8_1) rfl (l' := #[rv a0, rv a1, iv 1, iv 0]) rfl (XS.iloadN X0.here hx rfl (hb hby d8_2) rfl  (XS.bipush X0.here hx rfl (hb hby d8_3) k)))) ?_
  show own_Go p e below s _ _ (s₁.setTop (mkF m 5 #[rv a0, rv a1, iv 1, iv 0] [(.int 7), (.int 1)]))
  refine own_via (fun k => XS.icmpYes X0.here hx rfl (pc0 := 5) (pc' := 49) rfl (hb hby d8_5) rfl (by decide) (by decide) (by decide) k) ?_
  show own_Go p e below s _ _ (s₁.setTop (mkF m 49 #[rv a0, rv a1, iv 1, iv 0] []))
  refine own_via (fun k => XS.iloadN X0.here hx rfl (hb hby d8_49) rfl  (XS.iloadN X0.here hx rfl (hb hby d8_50) rfl  k)) ?_
  show own_Go p e below s _ _ (s₁.setTop (mkF m 51 #[rv a0, rv a1, iv 1, iv 0] [(.int 1), (.int 0)]))
  refine own_via (fun k => XS.icmpNo X0.here hx rfl (hb hby d8_51) rfl (by decide) k) ?_
  show own_Go p e below s _ _ (s₁.setTop (mkF m 54 #[rv a0, rv a1, iv 1, iv 0] []))
  refine own_via (fun k => XS.aloadN X0.here hx rfl (hb hby d8_54) rfl rfl  (XS.iloadN X0.here hx rfl (hb hby d8_55) rfl  k)) ?_
  show own_Go p e below s _ _ (s₁.setTop (mkF m 56 #[rv a0, rv a1, iv 1, iv 0] [(.int 0), (.ref a0)]))
  obtain ⟨cl1, Ar1, q1, S1, NN1, H1, G1⟩ := id P0
  have hin1 : ¬ ((0 : Int32) < 0 ∨ cl1.slots.size ≤ ((0 : Int32)).toNatClampNeg) := inb_of S1 ⟨by decide, by decide⟩
  have hat1 : cl1.slots[((0 : Int32)).toNatClampNeg]? = some (.int w0) := H1.at hin1 rfl
  refine own_via (fun k => X0.baloadBytes hx (j := (0 : Int32)) (v := (.int w0)) (by rw [e0]; exact Ar1.1) (State.isArrayOf_alike hZ.alike Ar1.2.1) Ar1.2.2 hin1 hat1 (g := (mkF m 56 #[rv a0, rv a1, iv 1, iv 0] [(.int 0), (.ref a0)])) rfl rfl (hb hby d8_56) _ k) ?_
  show own_Go p e below s _ _ (s₁.setTop (mkF m 57 #[rv a0, rv a1, iv 1, iv 0] [(.int w0)]))
  refine own_via (fun k => XS.aloadN X0.here hx rfl (hb hby d8_57) rfl rfl  (XS.iloadN X0.here hx rfl (hb hby d8_58) rfl  k)) ?_
  show own_Go p e below s _ _ (s₁.setTop (mkF m 59 #[rv a0, rv a1, iv 1, iv 0] [(.int 0), (.ref a1), (.int w0)]))
  obtain ⟨cl2, Ar2, q2, S2, NN2, H2, G2⟩ := id P1
  have hin2 : ¬ ((0 : Int32) < 0 ∨ cl2.slots.size ≤ ((0 : Int32)).toNatClampNeg) := inb_of S2 ⟨by decide, by decide⟩
  have hat2 : cl2.slots[((0 : Int32)).toNatClampNeg]? = some (.int v0) := H2.at hin2 rfl
  refine own_via (fun k => X0.baloadBytes hx (j := (0 : Int32)) (v := (.int v0)) (by rw [e0]; exact Ar2.1) (State.isArrayOf_alike hZ.alike Ar2.2.1) Ar2.2.2 hin2 hat2 (g := (mkF m 59 #[rv a0, rv a1, iv 1, iv 0] [(.int 0), (.ref a1), (.int w0)])) rfl rfl (hb hby d8_59) _ k) ?_
  show own_Go p e below s _ _ (s₁.setTop (mkF m 60 #[rv a0, rv a1, iv 1, iv 0] [(.int v0), (.int w0)]))
  by_cases hc3 : w0 = v0
  · refine own_via (fun k => XS.icmpYes X0.here hx rfl (pc0 := 60) (pc' := 65) rfl (hb hby d8_60) rfl (teq hc3).1 (by decide) (by decide) k) ?_
    show own_Go p e below s _ _ (s₁.setTop (mkF m 65 #[rv a0, rv a1, iv 1, iv 0] []))
    refine own_via (fun k => XS.iinc X0.here hx rfl (hb hby d8_65) rfl (l' := #[rv a0, rv a1, iv 1, iv 1]) rfl (XS.goto X0.here hx rfl (pc0 := 68) (pc' := 49) rfl (hb hby d8_68) (by decide) (by decide) (XS.iloadN X0.here hx rfl (hb hby d8_49) rfl  (XS.iloadN X0.here hx rfl (hb hby d8_50) rfl  k)))) ?_
    show own_Go p e below s _ _ (s₁.setTop (mkF m 51 #[rv a0, rv a1, iv 1, iv 1] [(.int 1), (.int 1)]))
    refine own_via (fun k => XS.icmpYes X0.here hx rfl (pc0 := 51) (pc' := 71) rfl (hb hby d8_51) rfl (by decide) (by decide) (by decide) k) ?_
    show own_Go p e below s _ _ (s₁.setTop (mkF m 71 #[rv a0, rv a1, iv 1, iv 1] []))
    refine own_via (fun k => XS.iconst X0.here hx rfl (hb hby d8_71) k) ?_
    show own_Go p e below s _ _ (s₁.setTop (mkF m 72 #[rv a0, rv a1, iv 1, iv 1] [(.int (-1))]))
    exact own_retI X0 hx hlk Bd.returns (hb hby d8_72) (Q := (Q8_1 Z a0 a1 k0 k1 w0 v0 h0 n0)) ⟨(congrArg (fun z => some (Value.int z)) (show (-1 : Int32) = (own_f8_1 w0 v0) from (by unfold own_f8_1; exact ((if_pos hc3).trans rfl).symm))), N0, e0⟩ (by decide) (by decide)
  · refine own_via (fun k => XS.icmpNo X0.here hx rfl (hb hby d8_60) rfl (feq hc3).1 k) ?_
    show own_Go p e below s _ _ (s₁.setTop (mkF m 63 #[rv a0, rv a1, iv 1, iv 0] []))
    refine own_via (fun k => XS.iloadN X0.here hx rfl (hb hby d8_63) rfl  k) ?_
    show own_Go p e below s _ _ (s₁.setTop (mkF m 64 #[rv a0, rv a1, iv 1, iv 0] [(.int 0)]))
    exact own_retI X0 hx hlk Bd.returns (hb hby d8_64) (Q := (Q8_1 Z a0 a1 k0 k1 w0 v0 h0 n0)) ⟨(congrArg (fun z => some (Value.int z)) (show (0 : Int32) = (own_f8_1 w0 v0) from (by unfold own_f8_1; exact ((if_neg hc3).trans rfl).symm))), N0, e0⟩ (by decide) (by decide)
theorem ef_8_2 (m : MethodId) (x0 : Addr) (x1 : Addr) (x2 : Int32) : entryFrame m #[(.ref x0), (.ref x1), (.int x2)] 4 = mkF m 0 #[rv x0, rv x1, iv x2, .unset] [] := by first | (simp [entryFrame, mkF, argsToLocals, Value.category]; done) | rfl
def own_f8_2 (w0 : Int32) (w1 : Int32) (v0 : Int32) (v1 : Int32) : Int32 := (if w0 = v0 then (if w1 = v1 then (-1 : Int32) else (1 : Int32)) else (0 : Int32))
def Q8_2 (Z : State) (a0 : Addr) (a1 : Addr) (k0 : ClassId) (k1 : ClassId) (w0 : Int32) (w1 : Int32) (v0 : Int32) (v1 : Int32) (h0 : Heap) (n0 : Nat) (v : Option Value) (h : Heap) (L : List Loc) : Prop := v = some (.int (own_f8_2 w0 w1 v0 v1)) ∧ Fr n0 L ∧ h = h0
set_option maxRecDepth 65536 in
set_option maxHeartbeats 40000000 in
theorem rm8_2 (l : Launch) (Z : State) (aw : Array Value) (hw : ∀ d ∈ tables_1, d.before aw Z = true) (ws : List Jvm.Cond) (a0 : Addr) (a1 : Addr) (k0 : ClassId) (k1 : ClassId) (w0 : Int32) (w1 : Int32) (v0 : Int32) (v1 : Int32) (h0 : Heap) (n0 : Nat) (Z0 : n0 ≤ h0.size) (P0 : Arv Z h0 a0 k0 .byte (2 : Int32) [(.int w0), (.int w1)] (.int 0)) (P1 : Arv Z h0 a1 k1 .byte (2 : Int32) [(.int v0), (.int v1)] (.int 0)) :
    MetFree l (⟨"jdk/internal/util/ArraysSupport", "mismatch", "([B[BI)I"⟩ : MethodName) (head1 (Jvm.Cond.code (⟨"jdk/internal/util/ArraysSupport", "mismatch", "([B[BI)I"⟩ : MethodName) jdk_48_method_13_code 4 (some .int) :: ws) ({ frames := 0, cells := 0, slots := 0, locals := 0 } : Room)) (fun a U => a = #[(.ref a0), (.ref a1), (.int 2)] ∧ Z.Warmed39 U.vm ∧ U.heap = h0) (fun _ _ _ _ _ => True) (fun _ U o U' => ∃ v L, o = .returned v ∧ Q8_2 Z a0 a1 k0 k1 w0 w1 v0 v1 h0 n0 v U'.heap L ∧ FrameEnd U o U' L ({ frames := 0, cells := 0, slots := 0, locals := 0 } : Room).cells ({ frames := 0, cells := 0, slots := 0, locals := 0 } : Room).slots) := by
  refine MetFree.of_bodySF (plainFor_of_name pn_8) hisR ?_
  intro p e s m args below meth c s₁ Bd hml0 hP hK
  obtain ⟨rfl, hZ, hh⟩ := hP
  have hx := Bd.exec
  have hby := Bd.bytes
  have hml : c.maxLocals = 4 := hml0
  have hown : s.vm.findClass "jdk/internal/util/ArraysSupport" = some m.cls := findClass_of_methodNamed Bd.named
  have hnm := (name_of_methodNamed Bd.named Bd.method).1
  have hlk : meth.locks = false := by first | exact BodyLoose.notSynchronized (by assumption) | exact Body.notSynchronized (by assumption)
  have X0 : Stand p l e ({ frames := 0, cells := 0, slots := 0, locals := 0 } : Room) s m #[(.ref a0), (.ref a1), (.int 2)] below meth c s₁ [] 0 0 := Stand.of_body Bd
  have e0 : s₁.heap = h0 := by rw [← hh, Bd.state]; rfl
  have N0 := Fr.nil n0
  have K0 : Keep h0 h0 [] := Keep.refl _ _
  refine own_start (CS := (0, 0)) (Q := (Q8_2 Z a0 a1 k0 k1 w0 w1 v0 v1 h0 n0)) (ef_8_2 m a0 a1 (2 : Int32)) ?_
  show own_Go p e below s _ _ (s₁.setTop (mkF m 0 #[rv a0, rv a1, iv 2, .unset] []))
  refine own_via (fun k => XS.iconst X0.here hx rfl (hb hby d8_0) (XS.istoreN X0.here hx rfl (hb hby d8_1) rfl (l' := #[rv a0, rv a1, iv 2, iv 0]) rfl (XS.iloadN X0.here hx rfl (hb hby d8_2) rfl  (XS.bipush X0.here hx rfl (hb hby d8_3) k)))) ?_
  show own_Go p e below s _ _ (s₁.setTop (mkF m 5 #[rv a0, rv a1, iv 2, iv 0] [(.int 7), (.int 2)]))
  refine own_via (fun k => XS.icmpYes X0.here hx rfl (pc0 := 5) (pc' := 49) rfl (hb hby d8_5) rfl (by decide) (by decide) (by decide) k) ?_
  show own_Go p e below s _ _ (s₁.setTop (mkF m 49 #[rv a0, rv a1, iv 2, iv 0] []))
  refine own_via (fun k => XS.iloadN X0.here hx rfl (hb hby d8_49) rfl  (XS.iloadN X0.here hx rfl (hb hby d8_50) rfl  k)) ?_
  show own_Go p e below s _ _ (s₁.setTop (mkF m 51 #[rv a0, rv a1, iv 2, iv 0] [(.int 2), (.int 0)]))
  refine own_via (fun k => XS.icmpNo X0.here hx rfl (hb hby d8_51) rfl (by decide) k) ?_
  show own_Go p e below s _ _ (s₁.setTop (mkF m 54 #[rv a0, rv a1, iv 2, iv 0] []))
  refine own_via (fun k => XS.aloadN X0.here hx rfl (hb hby d8_54) rfl rfl  (XS.iloadN X0.here hx rfl (hb hby d8_55) rfl  k)) ?_
  show own_Go p e below s _ _ (s₁.setTop (mkF m 56 #[rv a0, rv a1, iv 2, iv 0] [(.int 0), (.ref a0)]))
  obtain ⟨cl1, Ar1, q1, S1, NN1, H1, G1⟩ := id P0
  have hin1 : ¬ ((0 : Int32) < 0 ∨ cl1.slots.size ≤ ((0 : Int32)).toNatClampNeg) := inb_of S1 ⟨by decide, by decide⟩
  have hat1 : cl1.slots[((0 : Int32)).toNatClampNeg]? = some (.int w0) := H1.at hin1 rfl
  refine own_via (fun k => X0.baloadBytes hx (j := (0 : Int32)) (v := (.int w0)) (by rw [e0]; exact Ar1.1) (State.isArrayOf_alike hZ.alike Ar1.2.1) Ar1.2.2 hin1 hat1 (g := (mkF m 56 #[rv a0, rv a1, iv 2, iv 0] [(.int 0), (.ref a0)])) rfl rfl (hb hby d8_56) _ k) ?_
  show own_Go p e below s _ _ (s₁.setTop (mkF m 57 #[rv a0, rv a1, iv 2, iv 0] [(.int w0)]))
  refine own_via (fun k => XS.aloadN X0.here hx rfl (hb hby d8_57) rfl rfl  (XS.iloadN X0.here hx rfl (hb hby d8_58) rfl  k)) ?_
  show own_Go p e below s _ _ (s₁.setTop (mkF m 59 #[rv a0, rv a1, iv 2, iv 0] [(.int 0), (.ref a1), (.int w0)]))
  obtain ⟨cl2, Ar2, q2, S2, NN2, H2, G2⟩ := id P1
  have hin2 : ¬ ((0 : Int32) < 0 ∨ cl2.slots.size ≤ ((0 : Int32)).toNatClampNeg) := inb_of S2 ⟨by decide, by decide⟩
  have hat2 : cl2.slots[((0 : Int32)).toNatClampNeg]? = some (.int v0) := H2.at hin2 rfl
  refine own_via (fun k => X0.baloadBytes hx (j := (0 : Int32)) (v := (.int v0)) (by rw [e0]; exact Ar2.1) (State.isArrayOf_alike hZ.alike Ar2.2.1) Ar2.2.2 hin2 hat2 (g := (mkF m 59 #[rv a0, rv a1, iv 2, iv 0] [(.int 0), (.ref a1), (.int w0)])) rfl rfl (hb hby d8_59) _ k) ?_
  show own_Go p e below s _ _ (s₁.setTop (mkF m 60 #[rv a0, rv a1, iv 2, iv 0] [(.int v0), (.int w0)]))
  by_cases hc3 : w0 = v0
  · refine own_via (fun k => XS.icmpYes X0.here hx rfl (pc0 := 60) (pc' := 65) rfl (hb hby d8_60) rfl (teq hc3).1 (by decide) (by decide) k) ?_
    show own_Go p e below s _ _ (s₁.setTop (mkF m 65 #[rv a0, rv a1, iv 2, iv 0] []))
    refine own_via (fun k => XS.iinc X0.here hx rfl (hb hby d8_65) rfl (l' := #[rv a0, rv a1, iv 2, iv 1]) rfl (XS.goto X0.here hx rfl (pc0 := 68) (pc' := 49) rfl (hb hby d8_68) (by decide) (by decide) (XS.iloadN X0.here hx rfl (hb hby d8_49) rfl  (XS.iloadN X0.here hx rfl (hb hby d8_50) rfl  k)))) ?_
    show own_Go p e below s _ _ (s₁.setTop (mkF m 51 #[rv a0, rv a1, iv 2, iv 1] [(.int 2), (.int 1)]))
    refine own_via (fun k => XS.icmpNo X0.here hx rfl (hb hby d8_51) rfl (by decide) k) ?_
    show own_Go p e below s _ _ (s₁.setTop (mkF m 54 #[rv a0, rv a1, iv 2, iv 1] []))
    refine own_via (fun k => XS.aloadN X0.here hx rfl (hb hby d8_54) rfl rfl  (XS.iloadN X0.here hx rfl (hb hby d8_55) rfl  k)) ?_
    show own_Go p e below s _ _ (s₁.setTop (mkF m 56 #[rv a0, rv a1, iv 2, iv 1] [(.int 1), (.ref a0)]))
    obtain ⟨cl4, Ar4, q4, S4, NN4, H4, G4⟩ := id P0
    have hin4 : ¬ ((1 : Int32) < 0 ∨ cl4.slots.size ≤ ((1 : Int32)).toNatClampNeg) := inb_of S4 ⟨by decide, by decide⟩
    have hat4 : cl4.slots[((1 : Int32)).toNatClampNeg]? = some (.int w1) := H4.at hin4 rfl
    refine own_via (fun k => X0.baloadBytes hx (j := (1 : Int32)) (v := (.int w1)) (by rw [e0]; exact Ar4.1) (State.isArrayOf_alike hZ.alike Ar4.2.1) Ar4.2.2 hin4 hat4 (g := (mkF m 56 #[rv a0, rv a1, iv 2, iv 1] [(.int 1), (.ref a0)])) rfl rfl (hb hby d8_56) _ k) ?_
    show own_Go p e below s _ _ (s₁.setTop (mkF m 57 #[rv a0, rv a1, iv 2, iv 1] [(.int w1)]))
    refine own_via (fun k => XS.aloadN X0.here hx rfl (hb hby d8_57) rfl rfl  (XS.iloadN X0.here hx rfl (hb hby d8_58) rfl  k)) ?_
    show own_Go p e below s _ _ (s₁.setTop (mkF m 59 #[rv a0, rv a1, iv 2, iv 1] [(.int 1), (.ref a1), (.int w1)]))
    obtain ⟨cl5, Ar5, q5, S5, NN5, H5, G5⟩ := id P1
    have hin5 : ¬ ((1 : Int32) < 0 ∨ cl5.slots.size ≤ ((1 : Int32)).toNatClampNeg) := inb_of S5 ⟨by decide, by decide⟩
    have hat5 : cl5.slots[((1 : Int32)).toNatClampNeg]? = some (.int v1) := H5.at hin5 rfl
    refine own_via (fun k => X0.baloadBytes hx (j := (1 : Int32)) (v := (.int v1)) (by rw [e0]; exact Ar5.1) (State.isArrayOf_alike hZ.alike Ar5.2.1) Ar5.2.2 hin5 hat5 (g := (mkF m 59 #[rv a0, rv a1, iv 2, iv 1] [(.int 1), (.ref a1), (.int w1)])) rfl rfl (hb hby d8_59) _ k) ?_
    show own_Go p e below s _ _ (s₁.setTop (mkF m 60 #[rv a0, rv a1, iv 2, iv 1] [(.int v1), (.int w1)]))
    by_cases hc6 : w1 = v1
    · refine own_via (fun k => XS.icmpYes X0.here hx rfl (pc0 := 60) (pc' := 65) rfl (hb hby d8_60) rfl (teq hc6).1 (by decide) (by decide) k) ?_
      show own_Go p e below s _ _ (s₁.setTop (mkF m 65 #[rv a0, rv a1, iv 2, iv 1] []))
      refine own_via (fun k => XS.iinc X0.here hx rfl (hb hby d8_65) rfl (l' := #[rv a0, rv a1, iv 2, iv 2]) rfl (XS.goto X0.here hx rfl (pc0 := 68) (pc' := 49) rfl (hb hby d8_68) (by decide) (by decide) (XS.iloadN X0.here hx rfl (hb hby d8_49) rfl  (XS.iloadN X0.here hx rfl (hb hby d8_50) rfl  k)))) ?_
      show own_Go p e below s _ _ (s₁.setTop (mkF m 51 #[rv a0, rv a1, iv 2, iv 2] [(.int 2), (.int 2)]))
      refine own_via (fun k => XS.icmpYes X0.here hx rfl (pc0 := 51) (pc' := 71) rfl (hb hby d8_51) rfl (by decide) (by decide) (by decide) k) ?_
      show own_Go p e below s _ _ (s₁.setTop (mkF m 71 #[rv a0, rv a1, iv 2, iv 2] []))
      refine own_via (fun k => XS.iconst X0.here hx rfl (hb hby d8_71) k) ?_
      show own_Go p e below s _ _ (s₁.setTop (mkF m 72 #[rv a0, rv a1, iv 2, iv 2] [(.int (-1))]))
      exact own_retI X0 hx hlk Bd.returns (hb hby d8_72) (Q := (Q8_2 Z a0 a1 k0 k1 w0 w1 v0 v1 h0 n0)) ⟨(congrArg (fun z => some (Value.int z)) (show (-1 : Int32) = (own_f8_2 w0 w1 v0 v1) from (by unfold own_f8_2; exact ((if_pos hc3).trans ((if_pos hc6).trans rfl)).symm))), N0, e0⟩ (by decide) (by decide)
    · refine own_via (fun k => XS.icmpNo X0.here hx rfl (hb hby d8_60) rfl (feq hc6).1 k) ?_
      show own_Go p e below s _ _ (s₁.setTop (mkF m 63 #[rv a0, rv a1, iv 2, iv 1] []))
      refine own_via (fun k => XS.iloadN X0.here hx rfl (hb hby d8_63) rfl  k) ?_
      show own_Go p e below s _ _ (s₁.setTop (mkF m 64 #[rv a0, rv a1, iv 2, iv 1] [(.int 1)]))
      exact own_retI X0 hx hlk Bd.returns (hb hby d8_64) (Q := (Q8_2 Z a0 a1 k0 k1 w0 w1 v0 v1 h0 n0)) ⟨(congrArg (fun z => some (Value.int z)) (show (1 : Int32) = (own_f8_2 w0 w1 v0 v1) from (by unfold own_f8_2; exact ((if_pos hc3).trans ((if_neg hc6).trans rfl)).symm))), N0, e0⟩ (by decide) (by decide)
  · refine own_via (fun k => XS.icmpNo X0.here hx rfl (hb hby d8_60) rfl (feq hc3).1 k) ?_
    show own_Go p e below s _ _ (s₁.setTop (mkF m 63 #[rv a0, rv a1, iv 2, iv 0] []))
    refine own_via (fun k => XS.iloadN X0.here hx rfl (hb hby d8_63) rfl  k) ?_
    show own_Go p e below s _ _ (s₁.setTop (mkF m 64 #[rv a0, rv a1, iv 2, iv 0] [(.int 0)]))
    exact own_retI X0 hx hlk Bd.returns (hb hby d8_64) (Q := (Q8_2 Z a0 a1 k0 k1 w0 w1 v0 v1 h0 n0)) ⟨(congrArg (fun z => some (Value.int z)) (show (0 : Int32) = (own_f8_2 w0 w1 v0 v1) from (by unfold own_f8_2; exact ((if_neg hc3).trans rfl).symm))), N0, e0⟩ (by decide) (by decide)
theorem ef_8_3 (m : MethodId) (x0 : Addr) (x1 : Addr) (x2 : Int32) : entryFrame m #[(.ref x0), (.ref x1), (.int x2)] 4 = mkF m 0 #[rv x0, rv x1, iv x2, .unset] [] := by first | (simp [entryFrame, mkF, argsToLocals, Value.category]; done) | rfl
def own_f8_3 (w0 : Int32) (w1 : Int32) (w2 : Int32) (v0 : Int32) (v1 : Int32) (v2 : Int32) : Int32 := (if w0 = v0 then (if w1 = v1 then (if w2 = v2 then (-1 : Int32) else (2 : Int32)) else (1 : Int32)) else (0 : Int32))
def Q8_3 (Z : State) (a0 : Addr) (a1 : Addr) (k0 : ClassId) (k1 : ClassId) (w0 : Int32) (w1 : Int32) (w2 : Int32) (v0 : Int32) (v1 : Int32) (v2 : Int32) (h0 : Heap) (n0 : Nat) (v : Option Value) (h : Heap) (L : List Loc) : Prop := v = some (.int (own_f8_3 w0 w1 w2 v0 v1 v2)) ∧ Fr n0 L ∧ h = h0
set_option maxRecDepth 65536 in
set_option maxHeartbeats 40000000 in
theorem rm8_3 (l : Launch) (Z : State) (aw : Array Value) (hw : ∀ d ∈ tables_1, d.before aw Z = true) (ws : List Jvm.Cond) (a0 : Addr) (a1 : Addr) (k0 : ClassId) (k1 : ClassId) (w0 : Int32) (w1 : Int32) (w2 : Int32) (v0 : Int32) (v1 : Int32) (v2 : Int32) (h0 : Heap) (n0 : Nat) (Z0 : n0 ≤ h0.size) (P0 : Arv Z h0 a0 k0 .byte (3 : Int32) [(.int w0), (.int w1), (.int w2)] (.int 0)) (P1 : Arv Z h0 a1 k1 .byte (3 : Int32) [(.int v0), (.int v1), (.int v2)] (.int 0)) :
    MetFree l (⟨"jdk/internal/util/ArraysSupport", "mismatch", "([B[BI)I"⟩ : MethodName) (head1 (Jvm.Cond.code (⟨"jdk/internal/util/ArraysSupport", "mismatch", "([B[BI)I"⟩ : MethodName) jdk_48_method_13_code 4 (some .int) :: ws) ({ frames := 0, cells := 0, slots := 0, locals := 0 } : Room)) (fun a U => a = #[(.ref a0), (.ref a1), (.int 3)] ∧ Z.Warmed39 U.vm ∧ U.heap = h0) (fun _ _ _ _ _ => True) (fun _ U o U' => ∃ v L, o = .returned v ∧ Q8_3 Z a0 a1 k0 k1 w0 w1 w2 v0 v1 v2 h0 n0 v U'.heap L ∧ FrameEnd U o U' L ({ frames := 0, cells := 0, slots := 0, locals := 0 } : Room).cells ({ frames := 0, cells := 0, slots := 0, locals := 0 } : Room).slots) := by
  refine MetFree.of_bodySF (plainFor_of_name pn_8) hisR ?_
  intro p e s m args below meth c s₁ Bd hml0 hP hK
  obtain ⟨rfl, hZ, hh⟩ := hP
  have hx := Bd.exec
  have hby := Bd.bytes
  have hml : c.maxLocals = 4 := hml0
  have hown : s.vm.findClass "jdk/internal/util/ArraysSupport" = some m.cls := findClass_of_methodNamed Bd.named
  have hnm := (name_of_methodNamed Bd.named Bd.method).1
  have hlk : meth.locks = false := by first | exact BodyLoose.notSynchronized (by assumption) | exact Body.notSynchronized (by assumption)
  have X0 : Stand p l e ({ frames := 0, cells := 0, slots := 0, locals := 0 } : Room) s m #[(.ref a0), (.ref a1), (.int 3)] below meth c s₁ [] 0 0 := Stand.of_body Bd
  have e0 : s₁.heap = h0 := by rw [← hh, Bd.state]; rfl
  have N0 := Fr.nil n0
  have K0 : Keep h0 h0 [] := Keep.refl _ _
  refine own_start (CS := (0, 0)) (Q := (Q8_3 Z a0 a1 k0 k1 w0 w1 w2 v0 v1 v2 h0 n0)) (ef_8_3 m a0 a1 (3 : Int32)) ?_
  show own_Go p e below s _ _ (s₁.setTop (mkF m 0 #[rv a0, rv a1, iv 3, .unset] []))
  refine own_via (fun k => XS.iconst X0.here hx rfl (hb hby d8_0) (XS.istoreN X0.here hx rfl (hb hby d8_1) rfl (l' := #[rv a0, rv a1, iv 3, iv 0]) rfl (XS.iloadN X0.here hx rfl (hb hby d8_2) rfl  (XS.bipush X0.here hx rfl (hb hby d8_3) k)))) ?_
  show own_Go p e below s _ _ (s₁.setTop (mkF m 5 #[rv a0, rv a1, iv 3, iv 0] [(.int 7), (.int 3)]))
  refine own_via (fun k => XS.icmpYes X0.here hx rfl (pc0 := 5) (pc' := 49) rfl (hb hby d8_5) rfl (by decide) (by decide) (by decide) k) ?_
  show own_Go p e below s _ _ (s₁.setTop (mkF m 49 #[rv a0, rv a1, iv 3, iv 0] []))
  refine own_via (fun k => XS.iloadN X0.here hx rfl (hb hby d8_49) rfl  (XS.iloadN X0.here hx rfl (hb hby d8_50) rfl  k)) ?_
  show own_Go p e below s _ _ (s₁.setTop (mkF m 51 #[rv a0, rv a1, iv 3, iv 0] [(.int 3), (.int 0)]))
  refine own_via (fun k => XS.icmpNo X0.here hx rfl (hb hby d8_51) rfl (by decide) k) ?_
  show own_Go p e below s _ _ (s₁.setTop (mkF m 54 #[rv a0, rv a1, iv 3, iv 0] []))
  refine own_via (fun k => XS.aloadN X0.here hx rfl (hb hby d8_54) rfl rfl  (XS.iloadN X0.here hx rfl (hb hby d8_55) rfl  k)) ?_
  show own_Go p e below s _ _ (s₁.setTop (mkF m 56 #[rv a0, rv a1, iv 3, iv 0] [(.int 0), (.ref a0)]))
  obtain ⟨cl1, Ar1, q1, S1, NN1, H1, G1⟩ := id P0
  have hin1 : ¬ ((0 : Int32) < 0 ∨ cl1.slots.size ≤ ((0 : Int32)).toNatClampNeg) := inb_of S1 ⟨by decide, by decide⟩
  have hat1 : cl1.slots[((0 : Int32)).toNatClampNeg]? = some (.int w0) := H1.at hin1 rfl
  refine own_via (fun k => X0.baloadBytes hx (j := (0 : Int32)) (v := (.int w0)) (by rw [e0]; exact Ar1.1) (State.isArrayOf_alike hZ.alike Ar1.2.1) Ar1.2.2 hin1 hat1 (g := (mkF m 56 #[rv a0, rv a1, iv 3, iv 0] [(.int 0), (.ref a0)])) rfl rfl (hb hby d8_56) _ k) ?_
  show own_Go p e below s _ _ (s₁.setTop (mkF m 57 #[rv a0, rv a1, iv 3, iv 0] [(.int w0)]))
  refine own_via (fun k => XS.aloadN X0.here hx rfl (hb hby d8_57) rfl rfl  (XS.iloadN X0.here hx rfl (hb hby d8_58) rfl  k)) ?_
  show own_Go p e below s _ _ (s₁.setTop (mkF m 59 #[rv a0, rv a1, iv 3, iv 0] [(.int 0), (.ref a1), (.int w0)]))
  obtain ⟨cl2, Ar2, q2, S2, NN2, H2, G2⟩ := id P1
  have hin2 : ¬ ((0 : Int32) < 0 ∨ cl2.slots.size ≤ ((0 : Int32)).toNatClampNeg) := inb_of S2 ⟨by decide, by decide⟩
  have hat2 : cl2.slots[((0 : Int32)).toNatClampNeg]? = some (.int v0) := H2.at hin2 rfl
  refine own_via (fun k => X0.baloadBytes hx (j := (0 : Int32)) (v := (.int v0)) (by rw [e0]; exact Ar2.1) (State.isArrayOf_alike hZ.alike Ar2.2.1) Ar2.2.2 hin2 hat2 (g := (mkF m 59 #[rv a0, rv a1, iv 3, iv 0] [(.int 0), (.ref a1), (.int w0)])) rfl rfl (hb hby d8_59) _ k) ?_
  show own_Go p e below s _ _ (s₁.setTop (mkF m 60 #[rv a0, rv a1, iv 3, iv 0] [(.int v0), (.int w0)]))
  by_cases hc3 : w0 = v0
  · refine own_via (fun k => XS.icmpYes X0.here hx rfl (pc0 := 60) (pc' := 65) rfl (hb hby d8_60) rfl (teq hc3).1 (by decide) (by decide) k) ?_
    show own_Go p e below s _ _ (s₁.setTop (mkF m 65 #[rv a0, rv a1, iv 3, iv 0] []))
    refine own_via (fun k => XS.iinc X0.here hx rfl (hb hby d8_65) rfl (l' := #[rv a0, rv a1, iv 3, iv 1]) rfl (XS.goto X0.here hx rfl (pc0 := 68) (pc' := 49) rfl (hb hby d8_68) (by decide) (by decide) (XS.iloadN X0.here hx rfl (hb hby d8_49) rfl  (XS.iloadN X0.here hx rfl (hb hby d8_50) rfl  k)))) ?_
    show own_Go p e below s _ _ (s₁.setTop (mkF m 51 #[rv a0, rv a1, iv 3, iv 1] [(.int 3), (.int 1)]))
    refine own_via (fun k => XS.icmpNo X0.here hx rfl (hb hby d8_51) rfl (by decide) k) ?_
    show own_Go p e below s _ _ (s₁.setTop (mkF m 54 #[rv a0, rv a1, iv 3, iv 1] []))
    refine own_via (fun k => XS.aloadN X0.here hx rfl (hb hby d8_54) rfl rfl  (XS.iloadN X0.here hx rfl (hb hby d8_55) rfl  k)) ?_
    show own_Go p e below s _ _ (s₁.setTop (mkF m 56 #[rv a0, rv a1, iv 3, iv 1] [(.int 1), (.ref a0)]))
    obtain ⟨cl4, Ar4, q4, S4, NN4, H4, G4⟩ := id P0
    have hin4 : ¬ ((1 : Int32) < 0 ∨ cl4.slots.size ≤ ((1 : Int32)).toNatClampNeg) := inb_of S4 ⟨by decide, by decide⟩
    have hat4 : cl4.slots[((1 : Int32)).toNatClampNeg]? = some (.int w1) := H4.at hin4 rfl
    refine own_via (fun k => X0.baloadBytes hx (j := (1 : Int32)) (v := (.int w1)) (by rw [e0]; exact Ar4.1) (State.isArrayOf_alike hZ.alike Ar4.2.1) Ar4.2.2 hin4 hat4 (g := (mkF m 56 #[rv a0, rv a1, iv 3, iv 1] [(.int 1), (.ref a0)])) rfl rfl (hb hby d8_56) _ k) ?_
    show own_Go p e below s _ _ (s₁.setTop (mkF m 57 #[rv a0, rv a1, iv 3, iv 1] [(.int w1)]))
    refine own_via (fun k => XS.aloadN X0.here hx rfl (hb hby d8_57) rfl rfl  (XS.iloadN X0.here hx rfl (hb hby d8_58) rfl  k)) ?_
    show own_Go p e below s _ _ (s₁.setTop (mkF m 59 #[rv a0, rv a1, iv 3, iv 1] [(.int 1), (.ref a1), (.int w1)]))
    obtain ⟨cl5, Ar5, q5, S5, NN5, H5, G5⟩ := id P1
    have hin5 : ¬ ((1 : Int32) < 0 ∨ cl5.slots.size ≤ ((1 : Int32)).toNatClampNeg) := inb_of S5 ⟨by decide, by decide⟩
    have hat5 : cl5.slots[((1 : Int32)).toNatClampNeg]? = some (.int v1) := H5.at hin5 rfl
    refine own_via (fun k => X0.baloadBytes hx (j := (1 : Int32)) (v := (.int v1)) (by rw [e0]; exact Ar5.1) (State.isArrayOf_alike hZ.alike Ar5.2.1) Ar5.2.2 hin5 hat5 (g := (mkF m 59 #[rv a0, rv a1, iv 3, iv 1] [(.int 1), (.ref a1), (.int w1)])) rfl rfl (hb hby d8_59) _ k) ?_
    show own_Go p e below s _ _ (s₁.setTop (mkF m 60 #[rv a0, rv a1, iv 3, iv 1] [(.int v1), (.int w1)]))
    by_cases hc6 : w1 = v1
    · refine own_via (fun k => XS.icmpYes X0.here hx rfl (pc0 := 60) (pc' := 65) rfl (hb hby d8_60) rfl (teq hc6).1 (by decide) (by decide) k) ?_
      show own_Go p e below s _ _ (s₁.setTop (mkF m 65 #[rv a0, rv a1, iv 3, iv 1] []))
      refine own_via (fun k => XS.iinc X0.here hx rfl (hb hby d8_65) rfl (l' := #[rv a0, rv a1, iv 3, iv 2]) rfl (XS.goto X0.here hx rfl (pc0 := 68) (pc' := 49) rfl (hb hby d8_68) (by decide) (by decide) (XS.iloadN X0.here hx rfl (hb hby d8_49) rfl  (XS.iloadN X0.here hx rfl (hb hby d8_50) rfl  k)))) ?_
      show own_Go p e below s _ _ (s₁.setTop (mkF m 51 #[rv a0, rv a1, iv 3, iv 2] [(.int 3), (.int 2)]))
      refine own_via (fun k => XS.icmpNo X0.here hx rfl (hb hby d8_51) rfl (by decide) k) ?_
      show own_Go p e below s _ _ (s₁.setTop (mkF m 54 #[rv a0, rv a1, iv 3, iv 2] []))
      refine own_via (fun k => XS.aloadN X0.here hx rfl (hb hby d8_54) rfl rfl  (XS.iloadN X0.here hx rfl (hb hby d8_55) rfl  k)) ?_
      show own_Go p e below s _ _ (s₁.setTop (mkF m 56 #[rv a0, rv a1, iv 3, iv 2] [(.int 2), (.ref a0)]))
      obtain ⟨cl7, Ar7, q7, S7, NN7, H7, G7⟩ := id P0
      have hin7 : ¬ ((2 : Int32) < 0 ∨ cl7.slots.size ≤ ((2 : Int32)).toNatClampNeg) := inb_of S7 ⟨by decide, by decide⟩
      have hat7 : cl7.slots[((2 : Int32)).toNatClampNeg]? = some (.int w2) := H7.at hin7 rfl
      refine own_via (fun k => X0.baloadBytes hx (j := (2 : Int32)) (v := (.int w2)) (by rw [e0]; exact Ar7.1) (State.isArrayOf_alike hZ.alike Ar7.2.1) Ar7.2.2 hin7 hat7 (g := (mkF m 56 #[rv a0, rv a1, iv 3, iv 2] [(.int 2), (.ref a0)])) rfl rfl (hb hby d8_56) _ k) ?_
      show own_Go p e below s _ _ (s₁.setTop (mkF m 57 #[rv a0, rv a1, iv 3, iv 2] [(.int w2)]))
      refine own_via (fun k => XS.aloadN X0.here hx rfl (hb hby d8_57) rfl rfl  (XS.iloadN X0.here hx rfl (hb hby d8_58) rfl  k)) ?_
      show own_Go p e below s _ _ (s₁.setTop (mkF m 59 #[rv a0, rv a1, iv 3, iv 2] [(.int 2), (.ref a1), (.int w2)]))
      obtain ⟨cl8, Ar8, q8, S8, NN8, H8, G8⟩ := id P1
      have hin8 : ¬ ((2 : Int32) < 0 ∨ cl8.slots.size ≤ ((2 : Int32)).toNatClampNeg) := inb_of S8 ⟨by decide, by decide⟩
      have hat8 : cl8.slots[((2 : Int32)).toNatClampNeg]? = some (.int v2) := H8.at hin8 rfl
      refine own_via (fun k => X0.baloadBytes hx (j := (2 : Int32)) (v := (.int v2)) (by rw [e0]; exact Ar8.1) (State.isArrayOf_alike hZ.alike Ar8.2.1) Ar8.2.2 hin8 hat8 (g := (mkF m 59 #[rv a0, rv a1, iv 3, iv 2] [(.int 2), (.ref a1), (.int w2)])) rfl rfl (hb hby d8_59) _ k) ?_
      show own_Go p e below s _ _ (s₁.setTop (mkF m 60 #[rv a0, rv a1, iv 3, iv 2] [(.int v2), (.int w2)]))
      by_cases hc9 : w2 = v2
      · refine own_via (fun k => XS.icmpYes X0.here hx rfl (pc0 := 60) (pc' := 65) rfl (hb hby d8_60) rfl (teq hc9).1 (by decide) (by decide) k) ?_
        show own_Go p e below s _ _ (s₁.setTop (mkF m 65 #[rv a0, rv a1, iv 3, iv 2] []))
        refine own_via (fun k => XS.iinc X0.here hx rfl (hb hby d8_65) rfl (l' := #[rv a0, rv a1, iv 3, iv 3]) rfl (XS.goto X0.here hx rfl (pc0 := 68) (pc' := 49) rfl (hb hby d8_68) (by decide) (by decide) (XS.iloadN X0.here hx rfl (hb hby d8_49) rfl  (XS.iloadN X0.here hx rfl (hb hby d8_50) rfl  k)))) ?_
        show own_Go p e below s _ _ (s₁.setTop (mkF m 51 #[rv a0, rv a1, iv 3, iv 3] [(.int 3), (.int 3)]))
        refine own_via (fun k => XS.icmpYes X0.here hx rfl (pc0 := 51) (pc' := 71) rfl (hb hby d8_51) rfl (by decide) (by decide) (by decide) k) ?_
        show own_Go p e below s _ _ (s₁.setTop (mkF m 71 #[rv a0, rv a1, iv 3, iv 3] []))
        refine own_via (fun k => XS.iconst X0.here hx rfl (hb hby d8_71) k) ?_
        show own_Go p e below s _ _ (s₁.setTop (mkF m 72 #[rv a0, rv a1, iv 3, iv 3] [(.int (-1))]))
        exact own_retI X0 hx hlk Bd.returns (hb hby d8_72) (Q := (Q8_3 Z a0 a1 k0 k1 w0 w1 w2 v0 v1 v2 h0 n0)) ⟨(congrArg (fun z => some (Value.int z)) (show (-1 : Int32) = (own_f8_3 w0 w1 w2 v0 v1 v2) from (by unfold own_f8_3; exact ((if_pos hc3).trans ((if_pos hc6).trans ((if_pos hc9).trans rfl))).symm))), N0, e0⟩ (by decide) (by decide)
      · refine own_via (fun k => XS.icmpNo X0.here hx rfl (hb hby d8_60) rfl (feq hc9).1 k) ?_
        show own_Go p e below s _ _ (s₁.setTop (mkF m 63 #[rv a0, rv a1, iv 3, iv 2] []))
        refine own_via (fun k => XS.iloadN X0.here hx rfl (hb hby d8_63) rfl  k) ?_
        show own_Go p e below s _ _ (s₁.setTop (mkF m 64 #[rv a0, rv a1, iv 3, iv 2] [(.int 2)]))
        exact own_retI X0 hx hlk Bd.returns (hb hby d8_64) (Q := (Q8_3 Z a0 a1 k0 k1 w0 w1 w2 v0 v1 v2 h0 n0)) ⟨(congrArg (fun z => some (Value.int z)) (show (2 : Int32) = (own_f8_3 w0 w1 w2 v0 v1 v2) from (by unfold own_f8_3; exact ((if_pos hc3).trans ((if_pos hc6).trans ((if_neg hc9).trans rfl))).symm))), N0, e0⟩ (by decide) (by decide)
    · refine own_via (fun k => XS.icmpNo X0.here hx rfl (hb hby d8_60) rfl (feq hc6).1 k) ?_
      show own_Go p e below s _ _ (s₁.setTop (mkF m 63 #[rv a0, rv a1, iv 3, iv 1] []))
      refine own_via (fun k => XS.iloadN X0.here hx rfl (hb hby d8_63) rfl  k) ?_
      show own_Go p e below s _ _ (s₁.setTop (mkF m 64 #[rv a0, rv a1, iv 3, iv 1] [(.int 1)]))
      exact own_retI X0 hx hlk Bd.returns (hb hby d8_64) (Q := (Q8_3 Z a0 a1 k0 k1 w0 w1 w2 v0 v1 v2 h0 n0)) ⟨(congrArg (fun z => some (Value.int z)) (show (1 : Int32) = (own_f8_3 w0 w1 w2 v0 v1 v2) from (by unfold own_f8_3; exact ((if_pos hc3).trans ((if_neg hc6).trans rfl)).symm))), N0, e0⟩ (by decide) (by decide)
  · refine own_via (fun k => XS.icmpNo X0.here hx rfl (hb hby d8_60) rfl (feq hc3).1 k) ?_
    show own_Go p e below s _ _ (s₁.setTop (mkF m 63 #[rv a0, rv a1, iv 3, iv 0] []))
    refine own_via (fun k => XS.iloadN X0.here hx rfl (hb hby d8_63) rfl  k) ?_
    show own_Go p e below s _ _ (s₁.setTop (mkF m 64 #[rv a0, rv a1, iv 3, iv 0] [(.int 0)]))
    exact own_retI X0 hx hlk Bd.returns (hb hby d8_64) (Q := (Q8_3 Z a0 a1 k0 k1 w0 w1 w2 v0 v1 v2 h0 n0)) ⟨(congrArg (fun z => some (Value.int z)) (show (0 : Int32) = (own_f8_3 w0 w1 w2 v0 v1 v2) from (by unfold own_f8_3; exact ((if_neg hc3).trans rfl).symm))), N0, e0⟩ (by decide) (by decide)
theorem d7_0 : decode jdk_65_method_89_code 0 = .ok (.aload_n 0, 1) := by decide +kernel
theorem d7_1 : decode jdk_65_method_89_code 1 = .ok (.aload_n 1, 1) := by decide +kernel
theorem d7_2 : decode jdk_65_method_89_code 2 = .ok (.if_acmp .ne 5, 3) := by decide +kernel
theorem d7_7 : decode jdk_65_method_89_code 7 = .ok (.aload_n 0, 1) := by decide +kernel
theorem d7_8 : decode jdk_65_method_89_code 8 = .ok (.ifnull 7, 3) := by decide +kernel
theorem d7_11 : decode jdk_65_method_89_code 11 = .ok (.aload_n 1, 1) := by decide +kernel
theorem d7_12 : decode jdk_65_method_89_code 12 = .ok (.ifnonnull 5, 3) := by decide +kernel
theorem d7_17 : decode jdk_65_method_89_code 17 = .ok (.aload_n 0, 1) := by decide +kernel
theorem d7_18 : decode jdk_65_method_89_code 18 = .ok (.arraylength, 1) := by decide +kernel
theorem d7_19 : decode jdk_65_method_89_code 19 = .ok (.istore_n 2, 1) := by decide +kernel
theorem d7_20 : decode jdk_65_method_89_code 20 = .ok (.aload_n 1, 1) := by decide +kernel
theorem d7_21 : decode jdk_65_method_89_code 21 = .ok (.arraylength, 1) := by decide +kernel
theorem d7_22 : decode jdk_65_method_89_code 22 = .ok (.iload_n 2, 1) := by decide +kernel
theorem d7_23 : decode jdk_65_method_89_code 23 = .ok (.if_icmp .eq 5, 3) := by decide +kernel
theorem d7_28 : decode jdk_65_method_89_code 28 = .ok (.aload_n 0, 1) := by decide +kernel
theorem d7_29 : decode jdk_65_method_89_code 29 = .ok (.aload_n 1, 1) := by decide +kernel
theorem d7_30 : decode jdk_65_method_89_code 30 = .ok (.iload_n 2, 1) := by decide +kernel
theorem d7_31 : decode jdk_65_method_89_code 31 = .ok (.invokestatic 272, 3) := by decide +kernel
theorem d7_34 : decode jdk_65_method_89_code 34 = .ok (.ifCond .ge 7, 3) := by decide +kernel
theorem d7_37 : decode jdk_65_method_89_code 37 = .ok (.iconst 1, 1) := by decide +kernel
theorem d7_38 : decode jdk_65_method_89_code 38 = .ok (.goto 4, 3) := by decide +kernel
theorem d7_41 : decode jdk_65_method_89_code 41 = .ok (.iconst 0, 1) := by decide +kernel
theorem d7_42 : decode jdk_65_method_89_code 42 = .ok (.ireturn, 1) := by decide +kernel
theorem pn_7 : plainName "java/util/Arrays" = true := by first | (simp [plainName, overriddenIn]; done) | decide +kernel
theorem pd_8 : parseMethodDescriptor "([B[BI)I" = some ⟨[(.array .byte), (.array .byte), .int], some .int⟩ := by decide +kernel
theorem ef_7_0 (m : MethodId) (x0 : Addr) (x1 : Addr) : entryFrame m #[(.ref x0), (.ref x1)] 3 = mkF m 0 #[rv x0, rv x1, .unset] [] := by first | (simp [entryFrame, mkF, argsToLocals, Value.category]; done) | rfl
def own_f7_0  : Int32 := (if own_f8_0 < (0 : Int32) then (1 : Int32) else (0 : Int32))
def Q7_0 (Z : State) (a0 : Addr) (a1 : Addr) (k0 : ClassId) (k1 : ClassId) (h0 : Heap) (n0 : Nat) (v : Option Value) (h : Heap) (L : List Loc) : Prop := v = some (.int own_f7_0) ∧ Fr n0 L ∧ h = h0
set_option maxRecDepth 65536 in
set_option maxHeartbeats 40000000 in
theorem rm7_0 (l : Launch) (Z : State) (aw : Array Value) (hw : ∀ d ∈ tables_1, d.before aw Z = true) (ws : List Jvm.Cond) (a0 : Addr) (a1 : Addr) (k0 : ClassId) (k1 : ClassId) (h0 : Heap) (n0 : Nat) (Z0 : n0 ≤ h0.size) (P0 : Arv Z h0 a0 k0 .byte (0 : Int32) [] (.int 0)) (P1 : Arv Z h0 a1 k1 .byte (0 : Int32) [] (.int 0)) (nx0 : a0 ≠ a1) :
    MetFree l (⟨"java/util/Arrays", "equals", "([B[B)Z"⟩ : MethodName) (head1 (Jvm.Cond.code (⟨"java/util/Arrays", "equals", "([B[B)Z"⟩ : MethodName) jdk_65_method_89_code 3 (some .boolean) :: ws) ({ frames := 1, cells := 0, slots := 0, locals := 15 } : Room)) (fun a U => a = #[(.ref a0), (.ref a1)] ∧ Z.Warmed39 U.vm ∧ U.heap = h0) (fun _ _ _ _ _ => True) (fun _ U o U' => ∃ v L, o = .returned v ∧ Q7_0 Z a0 a1 k0 k1 h0 n0 v U'.heap L ∧ FrameEnd U o U' L ({ frames := 1, cells := 0, slots := 0, locals := 15 } : Room).cells ({ frames := 1, cells := 0, slots := 0, locals := 15 } : Room).slots) := by
  refine MetFree.of_bodySF (plainFor_of_name pn_7) hisR ?_
  intro p e s m args below meth c s₁ Bd hml0 hP hK
  obtain ⟨rfl, hZ, hh⟩ := hP
  have hx := Bd.exec
  have hby := Bd.bytes
  have hml : c.maxLocals = 3 := hml0
  have hown : s.vm.findClass "java/util/Arrays" = some m.cls := findClass_of_methodNamed Bd.named
  have hnm := (name_of_methodNamed Bd.named Bd.method).1
  have hlk : meth.locks = false := by first | exact BodyLoose.notSynchronized (by assumption) | exact Body.notSynchronized (by assumption)
  have X0 : Stand p l e ({ frames := 1, cells := 0, slots := 0, locals := 15 } : Room) s m #[(.ref a0), (.ref a1)] below meth c s₁ [] 0 0 := Stand.of_body Bd
  have e0 : s₁.heap = h0 := by rw [← hh, Bd.state]; rfl
  have N0 := Fr.nil n0
  have K0 : Keep h0 h0 [] := Keep.refl _ _
  refine own_start (CS := (0, 0)) (Q := (Q7_0 Z a0 a1 k0 k1 h0 n0)) (ef_7_0 m a0 a1) ?_
  show own_Go p e below s _ _ (s₁.setTop (mkF m 0 #[rv a0, rv a1, .unset] []))
  refine own_via (fun k => XS.aloadN X0.here hx rfl (hb hby d7_0) rfl rfl  (XS.aloadN X0.here hx rfl (hb hby d7_1) rfl rfl  k)) ?_
  show own_Go p e below s _ _ (s₁.setTop (mkF m 2 #[rv a0, rv a1, .unset] [(.ref a1), (.ref a0)]))
  refine own_via (fun k => Jvm.RoadKit.acmp (g := (mkF m 2 #[rv a0, rv a1, .unset] [(.ref a1), (.ref a0)])) X0 hx rfl rfl rfl (pc0 := 2) (pc' := 7) (same := false) rfl (hb hby d7_2) rfl (decide_eq_false fun q => nx0 (Value.ref.inj q)) (by decide) (by decide) k) ?_
  show own_Go p e below s _ _ (s₁.setTop (mkF m 7 #[rv a0, rv a1, .unset] []))
  refine own_via (fun k => XS.aloadN X0.here hx rfl (hb hby d7_7) rfl rfl  k) ?_
  show own_Go p e below s _ _ (s₁.setTop (mkF m 8 #[rv a0, rv a1, .unset] [(.ref a0)]))
  refine own_via (fun k => XS.ifnullNo X0.here hx rfl (hb hby d7_8) rfl k) ?_
  show own_Go p e below s _ _ (s₁.setTop (mkF m 11 #[rv a0, rv a1, .unset] []))
  refine own_via (fun k => XS.aloadN X0.here hx rfl (hb hby d7_11) rfl rfl  k) ?_
  show own_Go p e below s _ _ (s₁.setTop (mkF m 12 #[rv a0, rv a1, .unset] [(.ref a1)]))
  refine own_via (fun k => XS.ifnonnullYes X0.here hx rfl (pc0 := 12) (pc' := 17) rfl (hb hby d7_12) rfl (by decide) (by decide) k) ?_
  show own_Go p e below s _ _ (s₁.setTop (mkF m 17 #[rv a0, rv a1, .unset] []))
  refine own_via (fun k => XS.aloadN X0.here hx rfl (hb hby d7_17) rfl rfl  k) ?_
  show own_Go p e below s _ _ (s₁.setTop (mkF m 18 #[rv a0, rv a1, .unset] [(.ref a0)]))
  obtain ⟨cl2, Ar2, -, S2, NN2, -, -⟩ := id P0
  refine own_via (fun k => X0.arraylength hx (by rw [e0]; exact Ar2.1) (State.isArrayOf_alike hZ.alike Ar2.2.1) (g := (mkF m 18 #[rv a0, rv a1, .unset] [(.ref a0)])) rfl rfl (hb hby d7_18) _ k) ?_
  rw [len_of S2 NN2]
  show own_Go p e below s _ _ (s₁.setTop (mkF m 19 #[rv a0, rv a1, .unset] [(.int 0)]))
  refine own_via (fun k => XS.istoreN X0.here hx rfl (hb hby d7_19) rfl (l' := #[rv a0, rv a1, iv 0]) rfl (XS.aloadN X0.here hx rfl (hb hby d7_20) rfl rfl  k)) ?_
  show own_Go p e below s _ _ (s₁.setTop (mkF m 21 #[rv a0, rv a1, iv 0] [(.ref a1)]))
  obtain ⟨cl3, Ar3, -, S3, NN3, -, -⟩ := id P1
  refine own_via (fun k => X0.arraylength hx (by rw [e0]; exact Ar3.1) (State.isArrayOf_alike hZ.alike Ar3.2.1) (g := (mkF m 21 #[rv a0, rv a1, iv 0] [(.ref a1)])) rfl rfl (hb hby d7_21) _ k) ?_
  rw [len_of S3 NN3]
  show own_Go p e below s _ _ (s₁.setTop (mkF m 22 #[rv a0, rv a1, iv 0] [(.int 0)]))
  refine own_via (fun k => XS.iloadN X0.here hx rfl (hb hby d7_22) rfl  k) ?_
  show own_Go p e below s _ _ (s₁.setTop (mkF m 23 #[rv a0, rv a1, iv 0] [(.int 0), (.int 0)]))
  refine own_via (fun k => XS.icmpYes X0.here hx rfl (pc0 := 23) (pc' := 28) rfl (hb hby d7_23) rfl (by decide) (by decide) (by decide) k) ?_
  show own_Go p e below s _ _ (s₁.setTop (mkF m 28 #[rv a0, rv a1, iv 0] []))
  refine own_via (fun k => XS.aloadN X0.here hx rfl (hb hby d7_28) rfl rfl  (XS.aloadN X0.here hx rfl (hb hby d7_29) rfl rfl  (XS.iloadN X0.here hx rfl (hb hby d7_30) rfl  k))) ?_
  show own_Go p e below s _ _ (s₁.setTop (mkF m 31 #[rv a0, rv a1, iv 0] [(.int 0), (.ref a1), (.ref a0)]))
  obtain ⟨_, _, ⟨T4, L4, k4, n4⟩, -, X4, ⟨Lc4, hQ4, l4, y4, z4⟩, st4⟩ := Jvm.LawKit.callS X0 hx (y := (⟨"jdk/internal/util/ArraysSupport", "mismatch", "([B[BI)I"⟩ : MethodName)) hown (mvT hZ (hw _ (List.mem_of_getElem? (i := 42) rfl))) (mvT hZ (hw _ (List.mem_of_getElem? (i := 43) rfl))) (mvT hZ (hw _ (List.mem_of_getElem? (i := 44) rfl))) (mvT hZ (hw _ (List.mem_of_getElem? (i := 45) rfl))) (by decide) (backOf (W := 0) (rm8_0 l Z aw hw [] a0 a1 k0 k1 h0 n0 Z0 P0 P1) hZ (hw _ (List.mem_of_getElem? (i := 45) rfl)) (hw _ (List.mem_of_getElem? (i := 44) rfl)) (by decide) (by decide)) (g := (mkF m 31 #[rv a0, rv a1, iv 0] [(.int 0), (.ref a1), (.ref a0)])) rfl (by rw [hml]; rfl) (argsL := [(.ref a0), (.ref a1), (.int 0)]) (rest := []) (lenOf pd_8 rfl) rfl (by show 2 * 0 + _ ≤ _; exact Nat.le_of_eq rfl) (hb hby d7_31) (fun _ _ => ⟨rfl, e0, (by decide : 0 + 0 ≤ _), (by decide : 0 + 0 ≤ _)⟩)
  dsimp only [Pt.U, Pt.locs, Pt.cells, Pt.slots] at X4 l4 y4 z4 st4 hQ4
  subst l4 y4 z4
  obtain ⟨rfl, N4q, eh4⟩ := hQ4
  have N5 := Fr.app N0 N4q
  refine own_via (fun k => st4 _ k) ?_
  show own_Go p e below s _ _ (T4.setTop (mkF m 34 #[rv a0, rv a1, iv 0] [(.int own_f8_0)]))
  by_cases hc6 : own_f8_0 < (0 : Int32)
  · refine own_via (fun k => XS.ifNo X4.here hx rfl (hb hby d7_34) rfl ((if0 _ _).trans (tlt hc6).2.1) k) ?_
    show own_Go p e below s _ _ (T4.setTop (mkF m 37 #[rv a0, rv a1, iv 0] []))
    refine own_via (fun k => XS.iconst X4.here hx rfl (hb hby d7_37) (XS.goto X4.here hx rfl (pc0 := 38) (pc' := 42) rfl (hb hby d7_38) (by decide) (by decide) k)) ?_
    show own_Go p e below s _ _ (T4.setTop (mkF m 42 #[rv a0, rv a1, iv 0] [(.int 1)]))
    exact own_retN X4 hx hlk (t := .boolean) Bd.returns (by simp) (hb hby d7_42) (Q := (Q7_0 Z a0 a1 k0 k1 h0 n0)) ⟨(congrArg (fun z => some (Value.int z)) (show (1 : Int32) = own_f7_0 from (by unfold own_f7_0; exact ((if_pos hc6).trans rfl).symm))), N5, eh4⟩ (by decide) (by decide)
  · refine own_via (fun k => XS.ifYes X4.here hx rfl (pc0 := 34) (pc' := 41) rfl (hb hby d7_34) rfl ((if0 _ _).trans (flt hc6).2.1) (by decide) (by decide) k) ?_
    show own_Go p e below s _ _ (T4.setTop (mkF m 41 #[rv a0, rv a1, iv 0] []))
    refine own_via (fun k => XS.iconst X4.here hx rfl (hb hby d7_41) k) ?_
    show own_Go p e below s _ _ (T4.setTop (mkF m 42 #[rv a0, rv a1, iv 0] [(.int 0)]))
    exact own_retN X4 hx hlk (t := .boolean) Bd.returns (by simp) (hb hby d7_42) (Q := (Q7_0 Z a0 a1 k0 k1 h0 n0)) ⟨(congrArg (fun z => some (Value.int z)) (show (0 : Int32) = own_f7_0 from (by unfold own_f7_0; exact ((if_neg hc6).trans rfl).symm))), N5, eh4⟩ (by decide) (by decide)
theorem ef_7_1 (m : MethodId) (x0 : Addr) (x1 : Addr) : entryFrame m #[(.ref x0), (.ref x1)] 3 = mkF m 0 #[rv x0, rv x1, .unset] [] := by first | (simp [entryFrame, mkF, argsToLocals, Value.category]; done) | rfl
def own_f7_1 (w0 : Int32) (v0 : Int32) : Int32 := (if (own_f8_1 w0 v0) < (0 : Int32) then (1 : Int32) else (0 : Int32))
def Q7_1 (Z : State) (a0 : Addr) (a1 : Addr) (k0 : ClassId) (k1 : ClassId) (w0 : Int32) (v0 : Int32) (h0 : Heap) (n0 : Nat) (v : Option Value) (h : Heap) (L : List Loc) : Prop := v = some (.int (own_f7_1 w0 v0)) ∧ Fr n0 L ∧ h = h0
set_option maxRecDepth 65536 in
set_option maxHeartbeats 40000000 in
theorem rm7_1 (l : Launch) (Z : State) (aw : Array Value) (hw : ∀ d ∈ tables_1, d.before aw Z = true) (ws : List Jvm.Cond) (a0 : Addr) (a1 : Addr) (k0 : ClassId) (k1 : ClassId) (w0 : Int32) (v0 : Int32) (h0 : Heap) (n0 : Nat) (Z0 : n0 ≤ h0.size) (P0 : Arv Z h0 a0 k0 .byte (1 : Int32) [(.int w0)] (.int 0)) (P1 : Arv Z h0 a1 k1 .byte (1 : Int32) [(.int v0)] (.int 0)) (nx0 : a0 ≠ a1) :
    MetFree l (⟨"java/util/Arrays", "equals", "([B[B)Z"⟩ : MethodName) (head1 (Jvm.Cond.code (⟨"java/util/Arrays", "equals", "([B[B)Z"⟩ : MethodName) jdk_65_method_89_code 3 (some .boolean) :: ws) ({ frames := 1, cells := 0, slots := 0, locals := 15 } : Room)) (fun a U => a = #[(.ref a0), (.ref a1)] ∧ Z.Warmed39 U.vm ∧ U.heap = h0) (fun _ _ _ _ _ => True) (fun _ U o U' => ∃ v L, o = .returned v ∧ Q7_1 Z a0 a1 k0 k1 w0 v0 h0 n0 v U'.heap L ∧ FrameEnd U o U' L ({ frames := 1, cells := 0, slots := 0, locals := 15 } : Room).cells ({ frames := 1, cells := 0, slots := 0, locals := 15 } : Room).slots) := by
  refine MetFree.of_bodySF (plainFor_of_name pn_7) hisR ?_
  intro p e s m args below meth c s₁ Bd hml0 hP hK
  obtain ⟨rfl, hZ, hh⟩ := hP
  have hx := Bd.exec
  have hby := Bd.bytes
  have hml : c.maxLocals = 3 := hml0
  have hown : s.vm.findClass "java/util/Arrays" = some m.cls := findClass_of_methodNamed Bd.named
  have hnm := (name_of_methodNamed Bd.named Bd.method).1
  have hlk : meth.locks = false := by first | exact BodyLoose.notSynchronized (by assumption) | exact Body.notSynchronized (by assumption)
  have X0 : Stand p l e ({ frames := 1, cells := 0, slots := 0, locals := 15 } : Room) s m #[(.ref a0), (.ref a1)] below meth c s₁ [] 0 0 := Stand.of_body Bd
  have e0 : s₁.heap = h0 := by rw [← hh, Bd.state]; rfl
  have N0 := Fr.nil n0
  have K0 : Keep h0 h0 [] := Keep.refl _ _
  refine own_start (CS := (0, 0)) (Q := (Q7_1 Z a0 a1 k0 k1 w0 v0 h0 n0)) (ef_7_1 m a0 a1) ?_
  show own_Go p e below s _ _ (s₁.setTop (mkF m 0 #[rv a0, rv a1, .unset] []))
  refine own_via (fun k => XS.aloadN X0.here hx rfl (hb hby d7_0) rfl rfl  (XS.aloadN X0.here hx rfl (hb hby d7_1) rfl rfl  k)) ?_
  show own_Go p e below s _ _ (s₁.setTop (mkF m 2 #[rv a0, rv a1, .unset] [(.ref a1), (.ref a0)]))
  refine own_via (fun k => Jvm.RoadKit.acmp (g := (mkF m 2 #[rv a0, rv a1, .unset] [(.ref a1), (.ref a0)])) X0 hx rfl rfl rfl (pc0 := 2) (pc' := 7) (same := false) rfl (hb hby d7_2) rfl (decide_eq_false fun q => nx0 (Value.ref.inj q)) (by decide) (by decide) k) ?_
  show own_Go p e below s _ _ (s₁.setTop (mkF m 7 #[rv a0, rv a1, .unset] []))
  refine own_via (fun k => XS.aloadN X0.here hx rfl (hb hby d7_7) rfl rfl  k) ?_
  show own_Go p e below s _ _ (s₁.setTop (mkF m 8 #[rv a0, rv a1, .unset] [(.ref a0)]))
  refine own_via (fun k => XS.ifnullNo X0.here hx rfl (hb hby d7_8) rfl k) ?_
  show own_Go p e below s _ _ (s₁.setTop (mkF m 11 #[rv a0, rv a1, .unset] []))
  refine own_via (fun k => XS.aloadN X0.here hx rfl (hb hby d7_11) rfl rfl  k) ?_
  show own_Go p e below s _ _ (s₁.setTop (mkF m 12 #[rv a0, rv a1, .unset] [(.ref a1)]))
  refine own_via (fun k => XS.ifnonnullYes X0.here hx rfl (pc0 := 12) (pc' := 17) rfl (hb hby d7_12) rfl (by decide) (by decide) k) ?_
  show own_Go p e below s _ _ (s₁.setTop (mkF m 17 #[rv a0, rv a1, .unset] []))
  refine own_via (fun k => XS.aloadN X0.here hx rfl (hb hby d7_17) rfl rfl  k) ?_
  show own_Go p e below s _ _ (s₁.setTop (mkF m 18 #[rv a0, rv a1, .unset] [(.ref a0)]))
  obtain ⟨cl2, Ar2, -, S2, NN2, -, -⟩ := id P0
  refine own_via (fun k => X0.arraylength hx (by rw [e0]; exact Ar2.1) (State.isArrayOf_alike hZ.alike Ar2.2.1) (g := (mkF m 18 #[rv a0, rv a1, .unset] [(.ref a0)])) rfl rfl (hb hby d7_18) _ k) ?_
  rw [len_of S2 NN2]
  show own_Go p e below s _ _ (s₁.setTop (mkF m 19 #[rv a0, rv a1, .unset] [(.int 1)]))
  refine own_via (fun k => XS.istoreN X0.here hx rfl (hb hby d7_19) rfl (l' := #[rv a0, rv a1, iv 1]) rfl (XS.aloadN X0.here hx rfl (hb hby d7_20) rfl rfl  k)) ?_
  show own_Go p e below s _ _ (s₁.setTop (mkF m 21 #[rv a0, rv a1, iv 1] [(.ref a1)]))
  obtain ⟨cl3, Ar3, -, S3, NN3, -, -⟩ := id P1
  refine own_via (fun k => X0.arraylength hx (by rw [e0]; exact Ar3.1) (State.isArrayOf_alike hZ.alike Ar3.2.1) (g := (mkF m 21 #[rv a0, rv a1, iv 1] [(.ref a1)])) rfl rfl (hb hby d7_21) _ k) ?_
  rw [len_of S3 NN3]
  show own_Go p e below s _ _ (s₁.setTop (mkF m 22 #[rv a0, rv a1, iv 1] [(.int 1)]))
  refine own_via (fun k => XS.iloadN X0.here hx rfl (hb hby d7_22) rfl  k) ?_
  show own_Go p e below s _ _ (s₁.setTop (mkF m 23 #[rv a0, rv a1, iv 1] [(.int 1), (.int 1)]))
  refine own_via (fun k => XS.icmpYes X0.here hx rfl (pc0 := 23) (pc' := 28) rfl (hb hby d7_23) rfl (by decide) (by decide) (by decide) k) ?_
  show own_Go p e below s _ _ (s₁.setTop (mkF m 28 #[rv a0, rv a1, iv 1] []))
  refine own_via (fun k => XS.aloadN X0.here hx rfl (hb hby d7_28) rfl rfl  (XS.aloadN X0.here hx rfl (hb hby d7_29) rfl rfl  (XS.iloadN X0.here hx rfl (hb hby d7_30) rfl  k))) ?_
  show own_Go p e below s _ _ (s₁.setTop (mkF m 31 #[rv a0, rv a1, iv 1] [(.int 1), (.ref a1), (.ref a0)]))
  obtain ⟨_, _, ⟨T4, L4, k4, n4⟩, -, X4, ⟨Lc4, hQ4, l4, y4, z4⟩, st4⟩ := Jvm.LawKit.callS X0 hx (y := (⟨"jdk/internal/util/ArraysSupport", "mismatch", "([B[BI)I"⟩ : MethodName)) hown (mvT hZ (hw _ (List.mem_of_getElem? (i := 42) rfl))) (mvT hZ (hw _ (List.mem_of_getElem? (i := 43) rfl))) (mvT hZ (hw _ (List.mem_of_getElem? (i := 44) rfl))) (mvT hZ (hw _ (List.mem_of_getElem? (i := 45) rfl))) (by decide) (backOf (W := 0) (rm8_1 l Z aw hw [] a0 a1 k0 k1 w0 v0 h0 n0 Z0 P0 P1) hZ (hw _ (List.mem_of_getElem? (i := 45) rfl)) (hw _ (List.mem_of_getElem? (i := 44) rfl)) (by decide) (by decide)) (g := (mkF m 31 #[rv a0, rv a1, iv 1] [(.int 1), (.ref a1), (.ref a0)])) rfl (by rw [hml]; rfl) (argsL := [(.ref a0), (.ref a1), (.int 1)]) (rest := []) (lenOf pd_8 rfl) rfl (by show 2 * 0 + _ ≤ _; exact Nat.le_of_eq rfl) (hb hby d7_31) (fun _ _ => ⟨rfl, e0, (by decide : 0 + 0 ≤ _), (by decide : 0 + 0 ≤ _)⟩)
  dsimp only [Pt.U, Pt.locs, Pt.cells, Pt.slots] at X4 l4 y4 z4 st4 hQ4
  subst l4 y4 z4
  obtain ⟨rfl, N4q, eh4⟩ := hQ4
  have N5 := Fr.app N0 N4q
  refine own_via (fun k => st4 _ k) ?_
  show own_Go p e below s _ _ (T4.setTop (mkF m 34 #[rv a0, rv a1, iv 1] [(.int (own_f8_1 w0 v0))]))
  by_cases hc6 : (own_f8_1 w0 v0) < (0 : Int32)
  · refine own_via (fun k => XS.ifNo X4.here hx rfl (hb hby d7_34) rfl ((if0 _ _).trans (tlt hc6).2.1) k) ?_
    show own_Go p e below s _ _ (T4.setTop (mkF m 37 #[rv a0, rv a1, iv 1] []))
    refine own_via (fun k => XS.iconst X4.here hx rfl (hb hby d7_37) (XS.goto X4.here hx rfl (pc0 := 38) (pc' := 42) rfl (hb hby d7_38) (by decide) (by decide) k)) ?_
    show own_Go p e below s _ _ (T4.setTop (mkF m 42 #[rv a0, rv a1, iv 1] [(.int 1)]))
    exact own_retN X4 hx hlk (t := .boolean) Bd.returns (by simp) (hb hby d7_42) (Q := (Q7_1 Z a0 a1 k0 k1 w0 v0 h0 n0)) ⟨(congrArg (fun z => some (Value.int z)) (show (1 : Int32) = (own_f7_1 w0 v0) from (by unfold own_f7_1; exact ((if_pos hc6).trans rfl).symm))), N5, eh4⟩ (by decide) (by decide)
  · refine own_via (fun k => XS.ifYes X4.here hx rfl (pc0 := 34) (pc' := 41) rfl (hb hby d7_34) rfl ((if0 _ _).trans (flt hc6).2.1) (by decide) (by decide) k) ?_
    show own_Go p e below s _ _ (T4.setTop (mkF m 41 #[rv a0, rv a1, iv 1] []))
    refine own_via (fun k => XS.iconst X4.here hx rfl (hb hby d7_41) k) ?_
    show own_Go p e below s _ _ (T4.setTop (mkF m 42 #[rv a0, rv a1, iv 1] [(.int 0)]))
    exact own_retN X4 hx hlk (t := .boolean) Bd.returns (by simp) (hb hby d7_42) (Q := (Q7_1 Z a0 a1 k0 k1 w0 v0 h0 n0)) ⟨(congrArg (fun z => some (Value.int z)) (show (0 : Int32) = (own_f7_1 w0 v0) from (by unfold own_f7_1; exact ((if_neg hc6).trans rfl).symm))), N5, eh4⟩ (by decide) (by decide)
theorem ef_7_2 (m : MethodId) (x0 : Addr) (x1 : Addr) : entryFrame m #[(.ref x0), (.ref x1)] 3 = mkF m 0 #[rv x0, rv x1, .unset] [] := by first | (simp [entryFrame, mkF, argsToLocals, Value.category]; done) | rfl
def own_f7_2 (w0 : Int32) (w1 : Int32) (v0 : Int32) (v1 : Int32) : Int32 := (if (own_f8_2 w0 w1 v0 v1) < (0 : Int32) then (1 : Int32) else (0 : Int32))
def Q7_2 (Z : State) (a0 : Addr) (a1 : Addr) (k0 : ClassId) (k1 : ClassId) (w0 : Int32) (w1 : Int32) (v0 : Int32) (v1 : Int32) (h0 : Heap) (n0 : Nat) (v : Option Value) (h : Heap) (L : List Loc) : Prop := v = some (.int (own_f7_2 w0 w1 v0 v1)) ∧ Fr n0 L ∧ h = h0
set_option maxRecDepth 65536 in
set_option maxHeartbeats 40000000 in
theorem rm7_2 (l : Launch) (Z : State) (aw : Array Value) (hw : ∀ d ∈ tables_1, d.before aw Z = true) (ws : List Jvm.Cond) (a0 : Addr) (a1 : Addr) (k0 : ClassId) (k1 : ClassId) (w0 : Int32) (w1 : Int32) (v0 : Int32) (v1 : Int32) (h0 : Heap) (n0 : Nat) (Z0 : n0 ≤ h0.size) (P0 : Arv Z h0 a0 k0 .byte (2 : Int32) [(.int w0), (.int w1)] (.int 0)) (P1 : Arv Z h0 a1 k1 .byte (2 : Int32) [(.int v0), (.int v1)] (.int 0)) (nx0 : a0 ≠ a1) :
    MetFree l (⟨"java/util/Arrays", "equals", "([B[B)Z"⟩ : MethodName) (head1 (Jvm.Cond.code (⟨"java/util/Arrays", "equals", "([B[B)Z"⟩ : MethodName) jdk_65_method_89_code 3 (some .boolean) :: ws) ({ frames := 1, cells := 0, slots := 0, locals := 15 } : Room)) (fun a U => a = #[(.ref a0), (.ref a1)] ∧ Z.Warmed39 U.vm ∧ U.heap = h0) (fun _ _ _ _ _ => True) (fun _ U o U' => ∃ v L, o = .returned v ∧ Q7_2 Z a0 a1 k0 k1 w0 w1 v0 v1 h0 n0 v U'.heap L ∧ FrameEnd U o U' L ({ frames := 1, cells := 0, slots := 0, locals := 15 } : Room).cells ({ frames := 1, cells := 0, slots := 0, locals := 15 } : Room).slots) := by
  refine MetFree.of_bodySF (plainFor_of_name pn_7) hisR ?_
  intro p e s m args below meth c s₁ Bd hml0 hP hK
  obtain ⟨rfl, hZ, hh⟩ := hP
  have hx := Bd.exec
  have hby := Bd.bytes
  have hml : c.maxLocals = 3 := hml0
  have hown : s.vm.findClass "java/util/Arrays" = some m.cls := findClass_of_methodNamed Bd.named
  have hnm := (name_of_methodNamed Bd.named Bd.method).1
  have hlk : meth.locks = false := by first | exact BodyLoose.notSynchronized (by assumption) | exact Body.notSynchronized (by assumption)
  have X0 : Stand p l e ({ frames := 1, cells := 0, slots := 0, locals := 15 } : Room) s m #[(.ref a0), (.ref a1)] below meth c s₁ [] 0 0 := Stand.of_body Bd
  have e0 : s₁.heap = h0 := by rw [← hh, Bd.state]; rfl
  have N0 := Fr.nil n0
  have K0 : Keep h0 h0 [] := Keep.refl _ _
  refine own_start (CS := (0, 0)) (Q := (Q7_2 Z a0 a1 k0 k1 w0 w1 v0 v1 h0 n0)) (ef_7_2 m a0 a1) ?_
  show own_Go p e below s _ _ (s₁.setTop (mkF m 0 #[rv a0, rv a1, .unset] []))
  refine own_via (fun k => XS.aloadN X0.here hx rfl (hb hby d7_0) rfl rfl  (XS.aloadN X0.here hx rfl (hb hby d7_1) rfl rfl  k)) ?_
  show own_Go p e below s _ _ (s₁.setTop (mkF m 2 #[rv a0, rv a1, .unset] [(.ref a1), (.ref a0)]))
  refine own_via (fun k => Jvm.RoadKit.acmp (g := (mkF m 2 #[rv a0, rv a1, .unset] [(.ref a1), (.ref a0)])) X0 hx rfl rfl rfl (pc0 := 2) (pc' := 7) (same := false) rfl (hb hby d7_2) rfl (decide_eq_false fun q => nx0 (Value.ref.inj q)) (by decide) (by decide) k) ?_
  show own_Go p e below s _ _ (s₁.setTop (mkF m 7 #[rv a0, rv a1, .unset] []))
  refine own_via (fun k => XS.aloadN X0.here hx rfl (hb hby d7_7) rfl rfl  k) ?_
  show own_Go p e below s _ _ (s₁.setTop (mkF m 8 #[rv a0, rv a1, .unset] [(.ref a0)]))
  refine own_via (fun k => XS.ifnullNo X0.here hx rfl (hb hby d7_8) rfl k) ?_
  show own_Go p e below s _ _ (s₁.setTop (mkF m 11 #[rv a0, rv a1, .unset] []))
  refine own_via (fun k => XS.aloadN X0.here hx rfl (hb hby d7_11) rfl rfl  k) ?_
  show own_Go p e below s _ _ (s₁.setTop (mkF m 12 #[rv a0, rv a1, .unset] [(.ref a1)]))
  refine own_via (fun k => XS.ifnonnullYes X0.here hx rfl (pc0 := 12) (pc' := 17) rfl (hb hby d7_12) rfl (by decide) (by decide) k) ?_
  show own_Go p e below s _ _ (s₁.setTop (mkF m 17 #[rv a0, rv a1, .unset] []))
  refine own_via (fun k => XS.aloadN X0.here hx rfl (hb hby d7_17) rfl rfl  k) ?_
  show own_Go p e below s _ _ (s₁.setTop (mkF m 18 #[rv a0, rv a1, .unset] [(.ref a0)]))
  obtain ⟨cl2, Ar2, -, S2, NN2, -, -⟩ := id P0
  refine own_via (fun k => X0.arraylength hx (by rw [e0]; exact Ar2.1) (State.isArrayOf_alike hZ.alike Ar2.2.1) (g := (mkF m 18 #[rv a0, rv a1, .unset] [(.ref a0)])) rfl rfl (hb hby d7_18) _ k) ?_
  rw [len_of S2 NN2]
  show own_Go p e below s _ _ (s₁.setTop (mkF m 19 #[rv a0, rv a1, .unset] [(.int 2)]))
  refine own_via (fun k => XS.istoreN X0.here hx rfl (hb hby d7_19) rfl (l' := #[rv a0, rv a1, iv 2]) rfl (XS.aloadN X0.here hx rfl (hb hby d7_20) rfl rfl  k)) ?_
  show own_Go p e below s _ _ (s₁.setTop (mkF m 21 #[rv a0, rv a1, iv 2] [(.ref a1)]))
  obtain ⟨cl3, Ar3, -, S3, NN3, -, -⟩ := id P1
  refine own_via (fun k => X0.arraylength hx (by rw [e0]; exact Ar3.1) (State.isArrayOf_alike hZ.alike Ar3.2.1) (g := (mkF m 21 #[rv a0, rv a1, iv 2] [(.ref a1)])) rfl rfl (hb hby d7_21) _ k) ?_
  rw [len_of S3 NN3]
  show own_Go p e below s _ _ (s₁.setTop (mkF m 22 #[rv a0, rv a1, iv 2] [(.int 2)]))
  refine own_via (fun k => XS.iloadN X0.here hx rfl (hb hby d7_22) rfl  k) ?_
  show own_Go p e below s _ _ (s₁.setTop (mkF m 23 #[rv a0, rv a1, iv 2] [(.int 2), (.int 2)]))
  refine own_via (fun k => XS.icmpYes X0.here hx rfl (pc0 := 23) (pc' := 28) rfl (hb hby d7_23) rfl (by decide) (by decide) (by decide) k) ?_
  show own_Go p e below s _ _ (s₁.setTop (mkF m 28 #[rv a0, rv a1, iv 2] []))
  refine own_via (fun k => XS.aloadN X0.here hx rfl (hb hby d7_28) rfl rfl  (XS.aloadN X0.here hx rfl (hb hby d7_29) rfl rfl  (XS.iloadN X0.here hx rfl (hb hby d7_30) rfl  k))) ?_
  show own_Go p e below s _ _ (s₁.setTop (mkF m 31 #[rv a0, rv a1, iv 2] [(.int 2), (.ref a1), (.ref a0)]))
  obtain ⟨_, _, ⟨T4, L4, k4, n4⟩, -, X4, ⟨Lc4, hQ4, l4, y4, z4⟩, st4⟩ := Jvm.LawKit.callS X0 hx (y := (⟨"jdk/internal/util/ArraysSupport", "mismatch", "([B[BI)I"⟩ : MethodName)) hown (mvT hZ (hw _ (List.mem_of_getElem? (i := 42) rfl))) (mvT hZ (hw _ (List.mem_of_getElem? (i := 43) rfl))) (mvT hZ (hw _ (List.mem_of_getElem? (i := 44) rfl))) (mvT hZ (hw _ (List.mem_of_getElem? (i := 45) rfl))) (by decide) (backOf (W := 0) (rm8_2 l Z aw hw [] a0 a1 k0 k1 w0 w1 v0 v1 h0 n0 Z0 P0 P1) hZ (hw _ (List.mem_of_getElem? (i := 45) rfl)) (hw _ (List.mem_of_getElem? (i := 44) rfl)) (by decide) (by decide)) (g := (mkF m 31 #[rv a0, rv a1, iv 2] [(.int 2), (.ref a1), (.ref a0)])) rfl (by rw [hml]; rfl) (argsL := [(.ref a0), (.ref a1), (.int 2)]) (rest := []) (lenOf pd_8 rfl) rfl (by show 2 * 0 + _ ≤ _; exact Nat.le_of_eq rfl) (hb hby d7_31) (fun _ _ => ⟨rfl, e0, (by decide : 0 + 0 ≤ _), (by decide : 0 + 0 ≤ _)⟩)
  dsimp only [Pt.U, Pt.locs, Pt.cells, Pt.slots] at X4 l4 y4 z4 st4 hQ4
  subst l4 y4 z4
  obtain ⟨rfl, N4q, eh4⟩ := hQ4
  have N5 := Fr.app N0 N4q
  refine own_via (fun k => st4 _ k) ?_
  show own_Go p e below s _ _ (T4.setTop (mkF m 34 #[rv a0, rv a1, iv 2] [(.int (own_f8_2 w0 w1 v0 v1))]))
  by_cases hc6 : (own_f8_2 w0 w1 v0 v1) < (0 : Int32)
  · refine own_via (fun k => XS.ifNo X4.here hx rfl (hb hby d7_34) rfl ((if0 _ _).trans (tlt hc6).2.1) k) ?_
    show own_Go p e below s _ _ (T4.setTop (mkF m 37 #[rv a0, rv a1, iv 2] []))
    refine own_via (fun k => XS.iconst X4.here hx rfl (hb hby d7_37) (XS.goto X4.here hx rfl (pc0 := 38) (pc' := 42) rfl (hb hby d7_38) (by decide) (by decide) k)) ?_
    show own_Go p e below s _ _ (T4.setTop (mkF m 42 #[rv a0, rv a1, iv 2] [(.int 1)]))
    exact own_retN X4 hx hlk (t := .boolean) Bd.returns (by simp) (hb hby d7_42) (Q := (Q7_2 Z a0 a1 k0 k1 w0 w1 v0 v1 h0 n0)) ⟨(congrArg (fun z => some (Value.int z)) (show (1 : Int32) = (own_f7_2 w0 w1 v0 v1) from (by unfold own_f7_2; exact ((if_pos hc6).trans rfl).symm))), N5, eh4⟩ (by decide) (by decide)
  · refine own_via (fun k => XS.ifYes X4.here hx rfl (pc0 := 34) (pc' := 41) rfl (hb hby d7_34) rfl ((if0 _ _).trans (flt hc6).2.1) (by decide) (by decide) k) ?_
    show own_Go p e below s _ _ (T4.setTop (mkF m 41 #[rv a0, rv a1, iv 2] []))
    refine own_via (fun k => XS.iconst X4.here hx rfl (hb hby d7_41) k) ?_
    show own_Go p e below s _ _ (T4.setTop (mkF m 42 #[rv a0, rv a1, iv 2] [(.int 0)]))
    exact own_retN X4 hx hlk (t := .boolean) Bd.returns (by simp) (hb hby d7_42) (Q := (Q7_2 Z a0 a1 k0 k1 w0 w1 v0 v1 h0 n0)) ⟨(congrArg (fun z => some (Value.int z)) (show (0 : Int32) = (own_f7_2 w0 w1 v0 v1) from (by unfold own_f7_2; exact ((if_neg hc6).trans rfl).symm))), N5, eh4⟩ (by decide) (by decide)
theorem ef_7_3 (m : MethodId) (x0 : Addr) (x1 : Addr) : entryFrame m #[(.ref x0), (.ref x1)] 3 = mkF m 0 #[rv x0, rv x1, .unset] [] := by first | (simp [entryFrame, mkF, argsToLocals, Value.category]; done) | rfl
def own_f7_3 (w0 : Int32) (w1 : Int32) (w2 : Int32) (v0 : Int32) (v1 : Int32) (v2 : Int32) : Int32 := (if (own_f8_3 w0 w1 w2 v0 v1 v2) < (0 : Int32) then (1 : Int32) else (0 : Int32))
def Q7_3 (Z : State) (a0 : Addr) (a1 : Addr) (k0 : ClassId) (k1 : ClassId) (w0 : Int32) (w1 : Int32) (w2 : Int32) (v0 : Int32) (v1 : Int32) (v2 : Int32) (h0 : Heap) (n0 : Nat) (v : Option Value) (h : Heap) (L : List Loc) : Prop := v = some (.int (own_f7_3 w0 w1 w2 v0 v1 v2)) ∧ Fr n0 L ∧ h = h0
set_option maxRecDepth 65536 in
set_option maxHeartbeats 40000000 in
theorem rm7_3 (l : Launch) (Z : State) (aw : Array Value) (hw : ∀ d ∈ tables_1, d.before aw Z = true) (ws : List Jvm.Cond) (a0 : Addr) (a1 : Addr) (k0 : ClassId) (k1 : ClassId) (w0 : Int32) (w1 : Int32) (w2 : Int32) (v0 : Int32) (v1 : Int32) (v2 : Int32) (h0 : Heap) (n0 : Nat) (Z0 : n0 ≤ h0.size) (P0 : Arv Z h0 a0 k0 .byte (3 : Int32) [(.int w0), (.int w1), (.int w2)] (.int 0)) (P1 : Arv Z h0 a1 k1 .byte (3 : Int32) [(.int v0), (.int v1), (.int v2)] (.int 0)) (nx0 : a0 ≠ a1) :
    MetFree l (⟨"java/util/Arrays", "equals", "([B[B)Z"⟩ : MethodName) (head1 (Jvm.Cond.code (⟨"java/util/Arrays", "equals", "([B[B)Z"⟩ : MethodName) jdk_65_method_89_code 3 (some .boolean) :: ws) ({ frames := 1, cells := 0, slots := 0, locals := 15 } : Room)) (fun a U => a = #[(.ref a0), (.ref a1)] ∧ Z.Warmed39 U.vm ∧ U.heap = h0) (fun _ _ _ _ _ => True) (fun _ U o U' => ∃ v L, o = .returned v ∧ Q7_3 Z a0 a1 k0 k1 w0 w1 w2 v0 v1 v2 h0 n0 v U'.heap L ∧ FrameEnd U o U' L ({ frames := 1, cells := 0, slots := 0, locals := 15 } : Room).cells ({ frames := 1, cells := 0, slots := 0, locals := 15 } : Room).slots) := by
  refine MetFree.of_bodySF (plainFor_of_name pn_7) hisR ?_
  intro p e s m args below meth c s₁ Bd hml0 hP hK
  obtain ⟨rfl, hZ, hh⟩ := hP
  have hx := Bd.exec
  have hby := Bd.bytes
  have hml : c.maxLocals = 3 := hml0
  have hown : s.vm.findClass "java/util/Arrays" = some m.cls := findClass_of_methodNamed Bd.named
  have hnm := (name_of_methodNamed Bd.named Bd.method).1
  have hlk : meth.locks = false := by first | exact BodyLoose.notSynchronized (by assumption) | exact Body.notSynchronized (by assumption)
  have X0 : Stand p l e ({ frames := 1, cells := 0, slots := 0, locals := 15 } : Room) s m #[(.ref a0), (.ref a1)] below meth c s₁ [] 0 0 := Stand.of_body Bd
  have e0 : s₁.heap = h0 := by rw [← hh, Bd.state]; rfl
  have N0 := Fr.nil n0
  have K0 : Keep h0 h0 [] := Keep.refl _ _
  refine own_start (CS := (0, 0)) (Q := (Q7_3 Z a0 a1 k0 k1 w0 w1 w2 v0 v1 v2 h0 n0)) (ef_7_3 m a0 a1) ?_
  show own_Go p e below s _ _ (s₁.setTop (mkF m 0 #[rv a0, rv a1, .unset] []))
  refine own_via (fun k => XS.aloadN X0.here hx rfl (hb hby d7_0) rfl rfl  (XS.aloadN X0.here hx rfl (hb hby d7_1) rfl rfl  k)) ?_
  show own_Go p e below s _ _ (s₁.setTop (mkF m 2 #[rv a0, rv a1, .unset] [(.ref a1), (.ref a0)]))
  refine own_via (fun k => Jvm.RoadKit.acmp (g := (mkF m 2 #[rv a0, rv a1, .unset] [(.ref a1), (.ref a0)])) X0 hx rfl rfl rfl (pc0 := 2) (pc' := 7) (same := false) rfl (hb hby d7_2) rfl (decide_eq_false fun q => nx0 (Value.ref.inj q)) (by decide) (by decide) k) ?_
  show own_Go p e below s _ _ (s₁.setTop (mkF m 7 #[rv a0, rv a1, .unset] []))
  refine own_via (fun k => XS.aloadN X0.here hx rfl (hb hby d7_7) rfl rfl  k) ?_
  show own_Go p e below s _ _ (s₁.setTop (mkF m 8 #[rv a0, rv a1, .unset] [(.ref a0)]))
  refine own_via (fun k => XS.ifnullNo X0.here hx rfl (hb hby d7_8) rfl k) ?_
  show own_Go p e below s _ _ (s₁.setTop (mkF m 11 #[rv a0, rv a1, .unset] []))
  refine own_via (fun k => XS.aloadN X0.here hx rfl (hb hby d7_11) rfl rfl  k) ?_
  show own_Go p e below s _ _ (s₁.setTop (mkF m 12 #[rv a0, rv a1, .unset] [(.ref a1)]))
  refine own_via (fun k => XS.ifnonnullYes X0.here hx rfl (pc0 := 12) (pc' := 17) rfl (hb hby d7_12) rfl (by decide) (by decide) k) ?_
  show own_Go p e below s _ _ (s₁.setTop (mkF m 17 #[rv a0, rv a1, .unset] []))
  refine own_via (fun k => XS.aloadN X0.here hx rfl (hb hby d7_17) rfl rfl  k) ?_
  show own_Go p e below s _ _ (s₁.setTop (mkF m 18 #[rv a0, rv a1, .unset] [(.ref a0)]))
  obtain ⟨cl2, Ar2, -, S2, NN2, -, -⟩ := id P0
  refine own_via (fun k => X0.arraylength hx (by rw [e0]; exact Ar2.1) (State.isArrayOf_alike hZ.alike Ar2.2.1) (g := (mkF m 18 #[rv a0, rv a1, .unset] [(.ref a0)])) rfl rfl (hb hby d7_18) _ k) ?_
  rw [len_of S2 NN2]
  show own_Go p e below s _ _ (s₁.setTop (mkF m 19 #[rv a0, rv a1, .unset] [(.int 3)]))
  refine own_via (fun k => XS.istoreN X0.here hx rfl (hb hby d7_19) rfl (l' := #[rv a0, rv a1, iv 3]) rfl (XS.aloadN X0.here hx rfl (hb hby d7_20) rfl rfl  k)) ?_
  show own_Go p e below s _ _ (s₁.setTop (mkF m 21 #[rv a0, rv a1, iv 3] [(.ref a1)]))
  obtain ⟨cl3, Ar3, -, S3, NN3, -, -⟩ := id P1
  refine own_via (fun k => X0.arraylength hx (by rw [e0]; exact Ar3.1) (State.isArrayOf_alike hZ.alike Ar3.2.1) (g := (mkF m 21 #[rv a0, rv a1, iv 3] [(.ref a1)])) rfl rfl (hb hby d7_21) _ k) ?_
  rw [len_of S3 NN3]
  show own_Go p e below s _ _ (s₁.setTop (mkF m 22 #[rv a0, rv a1, iv 3] [(.int 3)]))
  refine own_via (fun k => XS.iloadN X0.here hx rfl (hb hby d7_22) rfl  k) ?_
  show own_Go p e below s _ _ (s₁.setTop (mkF m 23 #[rv a0, rv a1, iv 3] [(.int 3), (.int 3)]))
  refine own_via (fun k => XS.icmpYes X0.here hx rfl (pc0 := 23) (pc' := 28) rfl (hb hby d7_23) rfl (by decide) (by decide) (by decide) k) ?_
  show own_Go p e below s _ _ (s₁.setTop (mkF m 28 #[rv a0, rv a1, iv 3] []))
  refine own_via (fun k => XS.aloadN X0.here hx rfl (hb hby d7_28) rfl rfl  (XS.aloadN X0.here hx rfl (hb hby d7_29) rfl rfl  (XS.iloadN X0.here hx rfl (hb hby d7_30) rfl  k))) ?_
  show own_Go p e below s _ _ (s₁.setTop (mkF m 31 #[rv a0, rv a1, iv 3] [(.int 3), (.ref a1), (.ref a0)]))
  obtain ⟨_, _, ⟨T4, L4, k4, n4⟩, -, X4, ⟨Lc4, hQ4, l4, y4, z4⟩, st4⟩ := Jvm.LawKit.callS X0 hx (y := (⟨"jdk/internal/util/ArraysSupport", "mismatch", "([B[BI)I"⟩ : MethodName)) hown (mvT hZ (hw _ (List.mem_of_getElem? (i := 42) rfl))) (mvT hZ (hw _ (List.mem_of_getElem? (i := 43) rfl))) (mvT hZ (hw _ (List.mem_of_getElem? (i := 44) rfl))) (mvT hZ (hw _ (List.mem_of_getElem? (i := 45) rfl))) (by decide) (backOf (W := 0) (rm8_3 l Z aw hw [] a0 a1 k0 k1 w0 w1 w2 v0 v1 v2 h0 n0 Z0 P0 P1) hZ (hw _ (List.mem_of_getElem? (i := 45) rfl)) (hw _ (List.mem_of_getElem? (i := 44) rfl)) (by decide) (by decide)) (g := (mkF m 31 #[rv a0, rv a1, iv 3] [(.int 3), (.ref a1), (.ref a0)])) rfl (by rw [hml]; rfl) (argsL := [(.ref a0), (.ref a1), (.int 3)]) (rest := []) (lenOf pd_8 rfl) rfl (by show 2 * 0 + _ ≤ _; exact Nat.le_of_eq rfl) (hb hby d7_31) (fun _ _ => ⟨rfl, e0, (by decide : 0 + 0 ≤ _), (by decide : 0 + 0 ≤ _)⟩)
  dsimp only [Pt.U, Pt.locs, Pt.cells, Pt.slots] at X4 l4 y4 z4 st4 hQ4
  subst l4 y4 z4
  obtain ⟨rfl, N4q, eh4⟩ := hQ4
  have N5 := Fr.app N0 N4q
  refine own_via (fun k => st4 _ k) ?_
  show own_Go p e below s _ _ (T4.setTop (mkF m 34 #[rv a0, rv a1, iv 3] [(.int (own_f8_3 w0 w1 w2 v0 v1 v2))]))
  by_cases hc6 : (own_f8_3 w0 w1 w2 v0 v1 v2) < (0 : Int32)
  · refine own_via (fun k => XS.ifNo X4.here hx rfl (hb hby d7_34) rfl ((if0 _ _).trans (tlt hc6).2.1) k) ?_
    show own_Go p e below s _ _ (T4.setTop (mkF m 37 #[rv a0, rv a1, iv 3] []))
    refine own_via (fun k => XS.iconst X4.here hx rfl (hb hby d7_37) (XS.goto X4.here hx rfl (pc0 := 38) (pc' := 42) rfl (hb hby d7_38) (by decide) (by decide) k)) ?_
    show own_Go p e below s _ _ (T4.setTop (mkF m 42 #[rv a0, rv a1, iv 3] [(.int 1)]))
    exact own_retN X4 hx hlk (t := .boolean) Bd.returns (by simp) (hb hby d7_42) (Q := (Q7_3 Z a0 a1 k0 k1 w0 w1 w2 v0 v1 v2 h0 n0)) ⟨(congrArg (fun z => some (Value.int z)) (show (1 : Int32) = (own_f7_3 w0 w1 w2 v0 v1 v2) from (by unfold own_f7_3; exact ((if_pos hc6).trans rfl).symm))), N5, eh4⟩ (by decide) (by decide)
  · refine own_via (fun k => XS.ifYes X4.here hx rfl (pc0 := 34) (pc' := 41) rfl (hb hby d7_34) rfl ((if0 _ _).trans (flt hc6).2.1) (by decide) (by decide) k) ?_
    show own_Go p e below s _ _ (T4.setTop (mkF m 41 #[rv a0, rv a1, iv 3] []))
    refine own_via (fun k => XS.iconst X4.here hx rfl (hb hby d7_41) k) ?_
    show own_Go p e below s _ _ (T4.setTop (mkF m 42 #[rv a0, rv a1, iv 3] [(.int 0)]))
    exact own_retN X4 hx hlk (t := .boolean) Bd.returns (by simp) (hb hby d7_42) (Q := (Q7_3 Z a0 a1 k0 k1 w0 w1 w2 v0 v1 v2 h0 n0)) ⟨(congrArg (fun z => some (Value.int z)) (show (0 : Int32) = (own_f7_3 w0 w1 w2 v0 v1 v2) from (by unfold own_f7_3; exact ((if_neg hc6).trans rfl).symm))), N5, eh4⟩ (by decide) (by decide)
theorem d6_0 : decode prog_14_method_5_code 0 = .ok (.aload_n 1, 1) := by decide +kernel
theorem d6_1 : decode prog_14_method_5_code 1 = .ok (.instanceof 8, 3) := by decide +kernel
theorem d6_4 : decode prog_14_method_5_code 4 = .ok (.ifCond .eq 26, 3) := by decide +kernel
theorem d6_7 : decode prog_14_method_5_code 7 = .ok (.aload_n 1, 1) := by decide +kernel
theorem d6_8 : decode prog_14_method_5_code 8 = .ok (.checkcast 8, 3) := by decide +kernel
theorem d6_11 : decode prog_14_method_5_code 11 = .ok (.astore_n 2, 1) := by decide +kernel
theorem d6_12 : decode prog_14_method_5_code 12 = .ok (.aload_n 0, 1) := by decide +kernel
theorem d6_13 : decode prog_14_method_5_code 13 = .ok (.getfield 7, 3) := by decide +kernel
theorem d6_16 : decode prog_14_method_5_code 16 = .ok (.aload_n 2, 1) := by decide +kernel
theorem d6_17 : decode prog_14_method_5_code 17 = .ok (.getfield 7, 3) := by decide +kernel
theorem d6_20 : decode prog_14_method_5_code 20 = .ok (.invokestatic 49, 3) := by decide +kernel
theorem d6_23 : decode prog_14_method_5_code 23 = .ok (.ifCond .eq 7, 3) := by decide +kernel
theorem d6_26 : decode prog_14_method_5_code 26 = .ok (.iconst 1, 1) := by decide +kernel
theorem d6_27 : decode prog_14_method_5_code 27 = .ok (.goto 4, 3) := by decide +kernel
theorem d6_30 : decode prog_14_method_5_code 30 = .ok (.iconst 0, 1) := by decide +kernel
theorem d6_31 : decode prog_14_method_5_code 31 = .ok (.ireturn, 1) := by decide +kernel
theorem pn_6 : plainName "com/example/grant3/grant3/policy/Etag" = true := by first | (simp [plainName, overriddenIn]; done) | decide +kernel
theorem pd_7 : parseMethodDescriptor "([B[B)Z" = some ⟨[(.array .byte), (.array .byte)], some .boolean⟩ := by decide +kernel
theorem ef_6_0 (m : MethodId) (x0 : Addr) (x1 : Addr) : entryFrame m #[(.ref x0), (.ref x1)] 3 = mkF m 0 #[rv x0, rv x1, .unset] [] := by first | (simp [entryFrame, mkF, argsToLocals, Value.category]; done) | rfl
def own_f6_0  : Int32 := (if own_f7_0 = (0 : Int32) then (0 : Int32) else (1 : Int32))
def Q6_0 (Z : State) (a0 : Addr) (a1 : Addr) (c0 : Addr) (c1 : Addr) (k0 : ClassId) (k1 : ClassId) (h0 : Heap) (n0 : Nat) (v : Option Value) (h : Heap) (L : List Loc) : Prop := v = some (.int own_f6_0) ∧ Fr n0 L ∧ h = h0
set_option maxRecDepth 65536 in
set_option maxHeartbeats 40000000 in
theorem rm6_0 (l : Launch) (Z : State) (aw : Array Value) (hw : ∀ d ∈ tables_1, d.before aw Z = true) (ws : List Jvm.Cond) (a0 : Addr) (a1 : Addr) (c0 : Addr) (c1 : Addr) (k0 : ClassId) (k1 : ClassId) (h0 : Heap) (n0 : Nat) (Z0 : n0 ≤ h0.size) (P0 : Fld Z h0 a0 "com/example/grant3/grant3/policy/Etag" "bytes" "[B" (.ref c0)) (P1 : Fld Z h0 a1 "com/example/grant3/grant3/policy/Etag" "bytes" "[B" (.ref c1)) (P2 : Exa Z h0 a1 "com/example/grant3/grant3/policy/Etag") (P3 : Arv Z h0 c0 k0 .byte (0 : Int32) [] (.int 0)) (P4 : Arv Z h0 c1 k1 .byte (0 : Int32) [] (.int 0)) (nx0 : c0 ≠ c1) :
    MetFree l (⟨"com/example/grant3/grant3/policy/Etag", "equals", "(Ljava/lang/Object;)Z"⟩ : MethodName) (head1 (Jvm.Cond.code (⟨"com/example/grant3/grant3/policy/Etag", "equals", "(Ljava/lang/Object;)Z"⟩ : MethodName) prog_14_method_5_code 3 (some .boolean) :: ws) ({ frames := 2, cells := 0, slots := 0, locals := 29 } : Room)) (fun a U => a = #[(.ref a0), (.ref a1)] ∧ Z.Warmed39 U.vm ∧ U.heap = h0) (fun _ _ _ _ _ => True) (fun _ U o U' => ∃ v L, o = .returned v ∧ Q6_0 Z a0 a1 c0 c1 k0 k1 h0 n0 v U'.heap L ∧ FrameEnd U o U' L ({ frames := 2, cells := 0, slots := 0, locals := 29 } : Room).cells ({ frames := 2, cells := 0, slots := 0, locals := 29 } : Room).slots) := by
  refine MetFree.of_bodySF (plainFor_of_name pn_6) hisR ?_
  intro p e s m args below meth c s₁ Bd hml0 hP hK
  obtain ⟨rfl, hZ, hh⟩ := hP
  have hx := Bd.exec
  have hby := Bd.bytes
  have hml : c.maxLocals = 3 := hml0
  have hown : s.vm.findClass "com/example/grant3/grant3/policy/Etag" = some m.cls := findClass_of_methodNamed Bd.named
  have hnm := (name_of_methodNamed Bd.named Bd.method).1
  have hlk : meth.locks = false := by first | exact BodyLoose.notSynchronized (by assumption) | exact Body.notSynchronized (by assumption)
  have X0 : Stand p l e ({ frames := 2, cells := 0, slots := 0, locals := 29 } : Room) s m #[(.ref a0), (.ref a1)] below meth c s₁ [] 0 0 := Stand.of_body Bd
  have e0 : s₁.heap = h0 := by rw [← hh, Bd.state]; rfl
  have N0 := Fr.nil n0
  have K0 : Keep h0 h0 [] := Keep.refl _ _
  refine own_start (CS := (0, 0)) (Q := (Q6_0 Z a0 a1 c0 c1 k0 k1 h0 n0)) (ef_6_0 m a0 a1) ?_
  show own_Go p e below s _ _ (s₁.setTop (mkF m 0 #[rv a0, rv a1, .unset] []))
  refine own_via (fun k => XS.aloadN X0.here hx rfl (hb hby d6_0) rfl rfl  k) ?_
  show own_Go p e below s _ _ (s₁.setTop (mkF m 1 #[rv a0, rv a1, .unset] [(.ref a1)]))
  obtain ⟨T1, X1, e1, st1⟩ := instY X0 hx hZ hown (hw _ (List.mem_of_getElem? (i := 10) rfl)) e0 (Ins.self P2) (g := (mkF m 1 #[rv a0, rv a1, .unset] [(.ref a1)])) rfl rfl (hb hby d6_1)
  refine own_via (fun k => st1 _ k) ?_
  show own_Go p e below s _ _ (T1.setTop (mkF m 4 #[rv a0, rv a1, .unset] [(.int 1)]))
  refine own_via (fun k => XS.ifNo X1.here hx rfl (hb hby d6_4) rfl (by decide) k) ?_
  show own_Go p e below s _ _ (T1.setTop (mkF m 7 #[rv a0, rv a1, .unset] []))
  refine own_via (fun k => XS.aloadN X1.here hx rfl (hb hby d6_7) rfl rfl  k) ?_
  show own_Go p e below s _ _ (T1.setTop (mkF m 8 #[rv a0, rv a1, .unset] [(.ref a1)]))
  obtain ⟨T2, X2, e2, st2⟩ := castY X1 hx hZ hown (hw _ (List.mem_of_getElem? (i := 10) rfl)) e1 (Ins.self P2) (g := (mkF m 8 #[rv a0, rv a1, .unset] [(.ref a1)])) rfl rfl (hb hby d6_8)
  refine own_via (fun k => st2 _ k) ?_
  show own_Go p e below s _ _ (T2.setTop (mkF m 11 #[rv a0, rv a1, .unset] [(.ref a1)]))
  refine own_via (fun k => XS.astoreN X2.here hx rfl (hb hby d6_11) rfl rfl (l' := #[rv a0, rv a1, rv a1]) rfl (XS.aloadN X2.here hx rfl (hb hby d6_12) rfl rfl  k)) ?_
  show own_Go p e below s _ _ (T2.setTop (mkF m 13 #[rv a0, rv a1, rv a1] [(.ref a0)]))
  obtain ⟨T3, X3, e3, st3⟩ := getF X2 hx hZ hown (host := "") (Or.inl (hw _ (List.mem_of_getElem? (i := 27) rfl))) Via.refl e2 P0 (g := (mkF m 13 #[rv a0, rv a1, rv a1] [(.ref a0)])) rfl rfl (hb hby d6_13)
  refine own_via (fun k => st3 _ k) ?_
  show own_Go p e below s _ _ (T3.setTop (mkF m 16 #[rv a0, rv a1, rv a1] [(.ref c0)]))
  refine own_via (fun k => XS.aloadN X3.here hx rfl (hb hby d6_16) rfl rfl  k) ?_
  show own_Go p e below s _ _ (T3.setTop (mkF m 17 #[rv a0, rv a1, rv a1] [(.ref a1), (.ref c0)]))
  obtain ⟨T4, X4, e4, st4⟩ := getF X3 hx hZ hown (host := "") (Or.inl (hw _ (List.mem_of_getElem? (i := 27) rfl))) Via.refl e3 P1 (g := (mkF m 17 #[rv a0, rv a1, rv a1] [(.ref a1), (.ref c0)])) rfl rfl (hb hby d6_17)
  refine own_via (fun k => st4 _ k) ?_
  show own_Go p e below s _ _ (T4.setTop (mkF m 20 #[rv a0, rv a1, rv a1] [(.ref c1), (.ref c0)]))
  obtain ⟨_, _, ⟨T5, L5, k5, n5⟩, -, X5, ⟨Lc5, hQ5, l5, y5, z5⟩, st5⟩ := Jvm.LawKit.callS X4 hx (y := (⟨"java/util/Arrays", "equals", "([B[B)Z"⟩ : MethodName)) hown (mvT hZ (hw _ (List.mem_of_getElem? (i := 38) rfl))) (mvT hZ (hw _ (List.mem_of_getElem? (i := 39) rfl))) (mvT hZ (hw _ (List.mem_of_getElem? (i := 40) rfl))) (mvT hZ (hw _ (List.mem_of_getElem? (i := 41) rfl))) (by decide) (backOf (W := 0) (rm7_0 l Z aw hw [] c0 c1 k0 k1 h0 n0 Z0 P3 P4 nx0) hZ (hw _ (List.mem_of_getElem? (i := 41) rfl)) (hw _ (List.mem_of_getElem? (i := 40) rfl)) (by decide) (by decide)) (g := (mkF m 20 #[rv a0, rv a1, rv a1] [(.ref c1), (.ref c0)])) rfl (by rw [hml]; rfl) (argsL := [(.ref c0), (.ref c1)]) (rest := []) (lenOf pd_7 rfl) rfl (by show 2 * 0 + _ ≤ _; exact Nat.le_of_eq rfl) (hb hby d6_20) (fun _ _ => ⟨rfl, e4, (by decide : 0 + 0 ≤ _), (by decide : 0 + 0 ≤ _)⟩)
  dsimp only [Pt.U, Pt.locs, Pt.cells, Pt.slots] at X5 l5 y5 z5 st5 hQ5
  subst l5 y5 z5
  obtain ⟨rfl, N5q, eh5⟩ := hQ5
  have N6 := Fr.app N0 N5q
  refine own_via (fun k => st5 _ k) ?_
  show own_Go p e below s _ _ (T5.setTop (mkF m 23 #[rv a0, rv a1, rv a1] [(.int own_f7_0)]))
  by_cases hc7 : own_f7_0 = (0 : Int32)
  · refine own_via (fun k => XS.ifYes X5.here hx rfl (pc0 := 23) (pc' := 30) rfl (hb hby d6_23) rfl ((if0 _ _).trans (teq hc7).1) (by decide) (by decide) k) ?_
    show own_Go p e below s _ _ (T5.setTop (mkF m 30 #[rv a0, rv a1, rv a1] []))
    refine own_via (fun k => XS.iconst X5.here hx rfl (hb hby d6_30) k) ?_
    show own_Go p e below s _ _ (T5.setTop (mkF m 31 #[rv a0, rv a1, rv a1] [(.int 0)]))
    exact own_retN X5 hx hlk (t := .boolean) Bd.returns (by simp) (hb hby d6_31) (Q := (Q6_0 Z a0 a1 c0 c1 k0 k1 h0 n0)) ⟨(congrArg (fun z => some (Value.int z)) (show (0 : Int32) = own_f6_0 from (by unfold own_f6_0; exact ((if_pos hc7).trans rfl).symm))), N6, eh5⟩ (by decide) (by decide)
  · refine own_via (fun k => XS.ifNo X5.here hx rfl (hb hby d6_23) rfl ((if0 _ _).trans (feq hc7).1) k) ?_
    show own_Go p e below s _ _ (T5.setTop (mkF m 26 #[rv a0, rv a1, rv a1] []))
    refine own_via (fun k => XS.iconst X5.here hx rfl (hb hby d6_26) (XS.goto X5.here hx rfl (pc0 := 27) (pc' := 31) rfl (hb hby d6_27) (by decide) (by decide) k)) ?_
    show own_Go p e below s _ _ (T5.setTop (mkF m 31 #[rv a0, rv a1, rv a1] [(.int 1)]))
    exact own_retN X5 hx hlk (t := .boolean) Bd.returns (by simp) (hb hby d6_31) (Q := (Q6_0 Z a0 a1 c0 c1 k0 k1 h0 n0)) ⟨(congrArg (fun z => some (Value.int z)) (show (1 : Int32) = own_f6_0 from (by unfold own_f6_0; exact ((if_neg hc7).trans rfl).symm))), N6, eh5⟩ (by decide) (by decide)
theorem ef_6_1 (m : MethodId) (x0 : Addr) (x1 : Addr) : entryFrame m #[(.ref x0), (.ref x1)] 3 = mkF m 0 #[rv x0, rv x1, .unset] [] := by first | (simp [entryFrame, mkF, argsToLocals, Value.category]; done) | rfl
def own_f6_1 (w0 : Int32) (v0 : Int32) : Int32 := (if (own_f7_1 w0 v0) = (0 : Int32) then (0 : Int32) else (1 : Int32))
def Q6_1 (Z : State) (a0 : Addr) (a1 : Addr) (c0 : Addr) (c1 : Addr) (k0 : ClassId) (k1 : ClassId) (w0 : Int32) (v0 : Int32) (h0 : Heap) (n0 : Nat) (v : Option Value) (h : Heap) (L : List Loc) : Prop := v = some (.int (own_f6_1 w0 v0)) ∧ Fr n0 L ∧ h = h0
set_option maxRecDepth 65536 in
set_option maxHeartbeats 40000000 in
theorem rm6_1 (l : Launch) (Z : State) (aw : Array Value) (hw : ∀ d ∈ tables_1, d.before aw Z = true) (ws : List Jvm.Cond) (a0 : Addr) (a1 : Addr) (c0 : Addr) (c1 : Addr) (k0 : ClassId) (k1 : ClassId) (w0 : Int32) (v0 : Int32) (h0 : Heap) (n0 : Nat) (Z0 : n0 ≤ h0.size) (P0 : Fld Z h0 a0 "com/example/grant3/grant3/policy/Etag" "bytes" "[B" (.ref c0)) (P1 : Fld Z h0 a1 "com/example/grant3/grant3/policy/Etag" "bytes" "[B" (.ref c1)) (P2 : Exa Z h0 a1 "com/example/grant3/grant3/policy/Etag") (P3 : Arv Z h0 c0 k0 .byte (1 : Int32) [(.int w0)] (.int 0)) (P4 : Arv Z h0 c1 k1 .byte (1 : Int32) [(.int v0)] (.int 0)) (nx0 : c0 ≠ c1) :
    MetFree l (⟨"com/example/grant3/grant3/policy/Etag", "equals", "(Ljava/lang/Object;)Z"⟩ : MethodName) (head1 (Jvm.Cond.code (⟨"com/example/grant3/grant3/policy/Etag", "equals", "(Ljava/lang/Object;)Z"⟩ : MethodName) prog_14_method_5_code 3 (some .boolean) :: ws) ({ frames := 2, cells := 0, slots := 0, locals := 29 } : Room)) (fun a U => a = #[(.ref a0), (.ref a1)] ∧ Z.Warmed39 U.vm ∧ U.heap = h0) (fun _ _ _ _ _ => True) (fun _ U o U' => ∃ v L, o = .returned v ∧ Q6_1 Z a0 a1 c0 c1 k0 k1 w0 v0 h0 n0 v U'.heap L ∧ FrameEnd U o U' L ({ frames := 2, cells := 0, slots := 0, locals := 29 } : Room).cells ({ frames := 2, cells := 0, slots := 0, locals := 29 } : Room).slots) := by
  refine MetFree.of_bodySF (plainFor_of_name pn_6) hisR ?_
  intro p e s m args below meth c s₁ Bd hml0 hP hK
  obtain ⟨rfl, hZ, hh⟩ := hP
  have hx := Bd.exec
  have hby := Bd.bytes
  have hml : c.maxLocals = 3 := hml0
  have hown : s.vm.findClass "com/example/grant3/grant3/policy/Etag" = some m.cls := findClass_of_methodNamed Bd.named
  have hnm := (name_of_methodNamed Bd.named Bd.method).1
  have hlk : meth.locks = false := by first | exact BodyLoose.notSynchronized (by assumption) | exact Body.notSynchronized (by assumption)
  have X0 : Stand p l e ({ frames := 2, cells := 0, slots := 0, locals := 29 } : Room) s m #[(.ref a0), (.ref a1)] below meth c s₁ [] 0 0 := Stand.of_body Bd
  have e0 : s₁.heap = h0 := by rw [← hh, Bd.state]; rfl
  have N0 := Fr.nil n0
  have K0 : Keep h0 h0 [] := Keep.refl _ _
  refine own_start (CS := (0, 0)) (Q := (Q6_1 Z a0 a1 c0 c1 k0 k1 w0 v0 h0 n0)) (ef_6_1 m a0 a1) ?_
  show own_Go p e below s _ _ (s₁.setTop (mkF m 0 #[rv a0, rv a1, .unset] []))
  refine own_via (fun k => XS.aloadN X0.here hx rfl (hb hby d6_0) rfl rfl  k) ?_
  show own_Go p e below s _ _ (s₁.setTop (mkF m 1 #[rv a0, rv a1, .unset] [(.ref a1)]))
  obtain ⟨T1, X1, e1, st1⟩ := instY X0 hx hZ hown (hw _ (List.mem_of_getElem? (i := 10) rfl)) e0 (Ins.self P2) (g := (mkF m 1 #[rv a0, rv a1, .unset] [(.ref a1)])) rfl rfl (hb hby d6_1)
  refine own_via (fun k => st1 _ k) ?_
  show own_Go p e below s _ _ (T1.setTop (mkF m 4 #[rv a0, rv a1, .unset] [(.int 1)]))
  refine own_via (fun k => XS.ifNo X1.here hx rfl (hb hby d6_4) rfl (by decide) k) ?_
  show own_Go p e below s _ _ (T1.setTop (mkF m 7 #[rv a0, rv a1, .unset] []))
  refine own_via (fun k => XS.aloadN X1.here hx rfl (hb hby d6_7) rfl rfl  k) ?_
  show own_Go p e below s _ _ (T1.setTop (mkF m 8 #[rv a0, rv a1, .unset] [(.ref a1)]))
  obtain ⟨T2, X2, e2, st2⟩ := castY X1 hx hZ hown (hw _ (List.mem_of_getElem? (i := 10) rfl)) e1 (Ins.self P2) (g := (mkF m 8 #[rv a0, rv a1, .unset] [(.ref a1)])) rfl rfl (hb hby d6_8)
  refine own_via (fun k => st2 _ k) ?_
  show own_Go p e below s _ _ (T2.setTop (mkF m 11 #[rv a0, rv a1, .unset] [(.ref a1)]))
  refine own_via (fun k => XS.astoreN X2.here hx rfl (hb hby d6_11) rfl rfl (l' := #[rv a0, rv a1, rv a1]) rfl (XS.aloadN X2.here hx rfl (hb hby d6_12) rfl rfl  k)) ?_
  show own_Go p e below s _ _ (T2.setTop (mkF m 13 #[rv a0, rv a1, rv a1] [(.ref a0)]))
  obtain ⟨T3, X3, e3, st3⟩ := getF X2 hx hZ hown (host := "") (Or.inl (hw _ (List.mem_of_getElem? (i := 27) rfl))) Via.refl e2 P0 (g := (mkF m 13 #[rv a0, rv a1, rv a1] [(.ref a0)])) rfl rfl (hb hby d6_13)
  refine own_via (fun k => st3 _ k) ?_
  show own_Go p e below s _ _ (T3.setTop (mkF m 16 #[rv a0, rv a1, rv a1] [(.ref c0)]))
  refine own_via (fun k => XS.aloadN X3.here hx rfl (hb hby d6_16) rfl rfl  k) ?_
  show own_Go p e below s _ _ (T3.setTop (mkF m 17 #[rv a0, rv a1, rv a1] [(.ref a1), (.ref c0)]))
  obtain ⟨T4, X4, e4, st4⟩ := getF X3 hx hZ hown (host := "") (Or.inl (hw _ (List.mem_of_getElem? (i := 27) rfl))) Via.refl e3 P1 (g := (mkF m 17 #[rv a0, rv a1, rv a1] [(.ref a1), (.ref c0)])) rfl rfl (hb hby d6_17)
  refine own_via (fun k => st4 _ k) ?_
  show own_Go p e below s _ _ (T4.setTop (mkF m 20 #[rv a0, rv a1, rv a1] [(.ref c1), (.ref c0)]))
  obtain ⟨_, _, ⟨T5, L5, k5, n5⟩, -, X5, ⟨Lc5, hQ5, l5, y5, z5⟩, st5⟩ := Jvm.LawKit.callS X4 hx (y := (⟨"java/util/Arrays", "equals", "([B[B)Z"⟩ : MethodName)) hown (mvT hZ (hw _ (List.mem_of_getElem? (i := 38) rfl))) (mvT hZ (hw _ (List.mem_of_getElem? (i := 39) rfl))) (mvT hZ (hw _ (List.mem_of_getElem? (i := 40) rfl))) (mvT hZ (hw _ (List.mem_of_getElem? (i := 41) rfl))) (by decide) (backOf (W := 0) (rm7_1 l Z aw hw [] c0 c1 k0 k1 w0 v0 h0 n0 Z0 P3 P4 nx0) hZ (hw _ (List.mem_of_getElem? (i := 41) rfl)) (hw _ (List.mem_of_getElem? (i := 40) rfl)) (by decide) (by decide)) (g := (mkF m 20 #[rv a0, rv a1, rv a1] [(.ref c1), (.ref c0)])) rfl (by rw [hml]; rfl) (argsL := [(.ref c0), (.ref c1)]) (rest := []) (lenOf pd_7 rfl) rfl (by show 2 * 0 + _ ≤ _; exact Nat.le_of_eq rfl) (hb hby d6_20) (fun _ _ => ⟨rfl, e4, (by decide : 0 + 0 ≤ _), (by decide : 0 + 0 ≤ _)⟩)
  dsimp only [Pt.U, Pt.locs, Pt.cells, Pt.slots] at X5 l5 y5 z5 st5 hQ5
  subst l5 y5 z5
  obtain ⟨rfl, N5q, eh5⟩ := hQ5
  have N6 := Fr.app N0 N5q
  refine own_via (fun k => st5 _ k) ?_
  show own_Go p e below s _ _ (T5.setTop (mkF m 23 #[rv a0, rv a1, rv a1] [(.int (own_f7_1 w0 v0))]))
  by_cases hc7 : (own_f7_1 w0 v0) = (0 : Int32)
  · refine own_via (fun k => XS.ifYes X5.here hx rfl (pc0 := 23) (pc' := 30) rfl (hb hby d6_23) rfl ((if0 _ _).trans (teq hc7).1) (by decide) (by decide) k) ?_
    show own_Go p e below s _ _ (T5.setTop (mkF m 30 #[rv a0, rv a1, rv a1] []))
    refine own_via (fun k => XS.iconst X5.here hx rfl (hb hby d6_30) k) ?_
    show own_Go p e below s _ _ (T5.setTop (mkF m 31 #[rv a0, rv a1, rv a1] [(.int 0)]))
    exact own_retN X5 hx hlk (t := .boolean) Bd.returns (by simp) (hb hby d6_31) (Q := (Q6_1 Z a0 a1 c0 c1 k0 k1 w0 v0 h0 n0)) ⟨(congrArg (fun z => some (Value.int z)) (show (0 : Int32) = (own_f6_1 w0 v0) from (by unfold own_f6_1; exact ((if_pos hc7).trans rfl).symm))), N6, eh5⟩ (by decide) (by decide)
  · refine own_via (fun k => XS.ifNo X5.here hx rfl (hb hby d6_23) rfl ((if0 _ _).trans (feq hc7).1) k) ?_
    show own_Go p e below s _ _ (T5.setTop (mkF m 26 #[rv a0, rv a1, rv a1] []))
    refine own_via (fun k => XS.iconst X5.here hx rfl (hb hby d6_26) (XS.goto X5.here hx rfl (pc0 := 27) (pc' := 31) rfl (hb hby d6_27) (by decide) (by decide) k)) ?_
    show own_Go p e below s _ _ (T5.setTop (mkF m 31 #[rv a0, rv a1, rv a1] [(.int 1)]))
    exact own_retN X5 hx hlk (t := .boolean) Bd.returns (by simp) (hb hby d6_31) (Q := (Q6_1 Z a0 a1 c0 c1 k0 k1 w0 v0 h0 n0)) ⟨(congrArg (fun z => some (Value.int z)) (show (1 : Int32) = (own_f6_1 w0 v0) from (by unfold own_f6_1; exact ((if_neg hc7).trans rfl).symm))), N6, eh5⟩ (by decide) (by decide)
theorem ef_6_2 (m : MethodId) (x0 : Addr) (x1 : Addr) : entryFrame m #[(.ref x0), (.ref x1)] 3 = mkF m 0 #[rv x0, rv x1, .unset] [] := by first | (simp [entryFrame, mkF, argsToLocals, Value.category]; done) | rfl
def own_f6_2 (w0 : Int32) (w1 : Int32) (v0 : Int32) (v1 : Int32) : Int32 := (if (own_f7_2 w0 w1 v0 v1) = (0 : Int32) then (0 : Int32) else (1 : Int32))
def Q6_2 (Z : State) (a0 : Addr) (a1 : Addr) (c0 : Addr) (c1 : Addr) (k0 : ClassId) (k1 : ClassId) (w0 : Int32) (w1 : Int32) (v0 : Int32) (v1 : Int32) (h0 : Heap) (n0 : Nat) (v : Option Value) (h : Heap) (L : List Loc) : Prop := v = some (.int (own_f6_2 w0 w1 v0 v1)) ∧ Fr n0 L ∧ h = h0
set_option maxRecDepth 65536 in
set_option maxHeartbeats 40000000 in
theorem rm6_2 (l : Launch) (Z : State) (aw : Array Value) (hw : ∀ d ∈ tables_1, d.before aw Z = true) (ws : List Jvm.Cond) (a0 : Addr) (a1 : Addr) (c0 : Addr) (c1 : Addr) (k0 : ClassId) (k1 : ClassId) (w0 : Int32) (w1 : Int32) (v0 : Int32) (v1 : Int32) (h0 : Heap) (n0 : Nat) (Z0 : n0 ≤ h0.size) (P0 : Fld Z h0 a0 "com/example/grant3/grant3/policy/Etag" "bytes" "[B" (.ref c0)) (P1 : Fld Z h0 a1 "com/example/grant3/grant3/policy/Etag" "bytes" "[B" (.ref c1)) (P2 : Exa Z h0 a1 "com/example/grant3/grant3/policy/Etag") (P3 : Arv Z h0 c0 k0 .byte (2 : Int32) [(.int w0), (.int w1)] (.int 0)) (P4 : Arv Z h0 c1 k1 .byte (2 : Int32) [(.int v0), (.int v1)] (.int 0)) (nx0 : c0 ≠ c1) :
    MetFree l (⟨"com/example/grant3/grant3/policy/Etag", "equals", "(Ljava/lang/Object;)Z"⟩ : MethodName) (head1 (Jvm.Cond.code (⟨"com/example/grant3/grant3/policy/Etag", "equals", "(Ljava/lang/Object;)Z"⟩ : MethodName) prog_14_method_5_code 3 (some .boolean) :: ws) ({ frames := 2, cells := 0, slots := 0, locals := 29 } : Room)) (fun a U => a = #[(.ref a0), (.ref a1)] ∧ Z.Warmed39 U.vm ∧ U.heap = h0) (fun _ _ _ _ _ => True) (fun _ U o U' => ∃ v L, o = .returned v ∧ Q6_2 Z a0 a1 c0 c1 k0 k1 w0 w1 v0 v1 h0 n0 v U'.heap L ∧ FrameEnd U o U' L ({ frames := 2, cells := 0, slots := 0, locals := 29 } : Room).cells ({ frames := 2, cells := 0, slots := 0, locals := 29 } : Room).slots) := by
  refine MetFree.of_bodySF (plainFor_of_name pn_6) hisR ?_
  intro p e s m args below meth c s₁ Bd hml0 hP hK
  obtain ⟨rfl, hZ, hh⟩ := hP
  have hx := Bd.exec
  have hby := Bd.bytes
  have hml : c.maxLocals = 3 := hml0
  have hown : s.vm.findClass "com/example/grant3/grant3/policy/Etag" = some m.cls := findClass_of_methodNamed Bd.named
  have hnm := (name_of_methodNamed Bd.named Bd.method).1
  have hlk : meth.locks = false := by first | exact BodyLoose.notSynchronized (by assumption) | exact Body.notSynchronized (by assumption)
  have X0 : Stand p l e ({ frames := 2, cells := 0, slots := 0, locals := 29 } : Room) s m #[(.ref a0), (.ref a1)] below meth c s₁ [] 0 0 := Stand.of_body Bd
  have e0 : s₁.heap = h0 := by rw [← hh, Bd.state]; rfl
  have N0 := Fr.nil n0
  have K0 : Keep h0 h0 [] := Keep.refl _ _
  refine own_start (CS := (0, 0)) (Q := (Q6_2 Z a0 a1 c0 c1 k0 k1 w0 w1 v0 v1 h0 n0)) (ef_6_2 m a0 a1) ?_
  show own_Go p e below s _ _ (s₁.setTop (mkF m 0 #[rv a0, rv a1, .unset] []))
  refine own_via (fun k => XS.aloadN X0.here hx rfl (hb hby d6_0) rfl rfl  k) ?_
  show own_Go p e below s _ _ (s₁.setTop (mkF m 1 #[rv a0, rv a1, .unset] [(.ref a1)]))
  obtain ⟨T1, X1, e1, st1⟩ := instY X0 hx hZ hown (hw _ (List.mem_of_getElem? (i := 10) rfl)) e0 (Ins.self P2) (g := (mkF m 1 #[rv a0, rv a1, .unset] [(.ref a1)])) rfl rfl (hb hby d6_1)
  refine own_via (fun k => st1 _ k) ?_
  show own_Go p e below s _ _ (T1.setTop (mkF m 4 #[rv a0, rv a1, .unset] [(.int 1)]))
  refine own_via (fun k => XS.ifNo X1.here hx rfl (hb hby d6_4) rfl (by decide) k) ?_
  show own_Go p e below s _ _ (T1.setTop (mkF m 7 #[rv a0, rv a1, .unset] []))
  refine own_via (fun k => XS.aloadN X1.here hx rfl (hb hby d6_7) rfl rfl  k) ?_
  show own_Go p e below s _ _ (T1.setTop (mkF m 8 #[rv a0, rv a1, .unset] [(.ref a1)]))
  obtain ⟨T2, X2, e2, st2⟩ := castY X1 hx hZ hown (hw _ (List.mem_of_getElem? (i := 10) rfl)) e1 (Ins.self P2) (g := (mkF m 8 #[rv a0, rv a1, .unset] [(.ref a1)])) rfl rfl (hb hby d6_8)
  refine own_via (fun k => st2 _ k) ?_
  show own_Go p e below s _ _ (T2.setTop (mkF m 11 #[rv a0, rv a1, .unset] [(.ref a1)]))
  refine own_via (fun k => XS.astoreN X2.here hx rfl (hb hby d6_11) rfl rfl (l' := #[rv a0, rv a1, rv a1]) rfl (XS.aloadN X2.here hx rfl (hb hby d6_12) rfl rfl  k)) ?_
  show own_Go p e below s _ _ (T2.setTop (mkF m 13 #[rv a0, rv a1, rv a1] [(.ref a0)]))
  obtain ⟨T3, X3, e3, st3⟩ := getF X2 hx hZ hown (host := "") (Or.inl (hw _ (List.mem_of_getElem? (i := 27) rfl))) Via.refl e2 P0 (g := (mkF m 13 #[rv a0, rv a1, rv a1] [(.ref a0)])) rfl rfl (hb hby d6_13)
  refine own_via (fun k => st3 _ k) ?_
  show own_Go p e below s _ _ (T3.setTop (mkF m 16 #[rv a0, rv a1, rv a1] [(.ref c0)]))
  refine own_via (fun k => XS.aloadN X3.here hx rfl (hb hby d6_16) rfl rfl  k) ?_
  show own_Go p e below s _ _ (T3.setTop (mkF m 17 #[rv a0, rv a1, rv a1] [(.ref a1), (.ref c0)]))
  obtain ⟨T4, X4, e4, st4⟩ := getF X3 hx hZ hown (host := "") (Or.inl (hw _ (List.mem_of_getElem? (i := 27) rfl))) Via.refl e3 P1 (g := (mkF m 17 #[rv a0, rv a1, rv a1] [(.ref a1), (.ref c0)])) rfl rfl (hb hby d6_17)
  refine own_via (fun k => st4 _ k) ?_
  show own_Go p e below s _ _ (T4.setTop (mkF m 20 #[rv a0, rv a1, rv a1] [(.ref c1), (.ref c0)]))
  obtain ⟨_, _, ⟨T5, L5, k5, n5⟩, -, X5, ⟨Lc5, hQ5, l5, y5, z5⟩, st5⟩ := Jvm.LawKit.callS X4 hx (y := (⟨"java/util/Arrays", "equals", "([B[B)Z"⟩ : MethodName)) hown (mvT hZ (hw _ (List.mem_of_getElem? (i := 38) rfl))) (mvT hZ (hw _ (List.mem_of_getElem? (i := 39) rfl))) (mvT hZ (hw _ (List.mem_of_getElem? (i := 40) rfl))) (mvT hZ (hw _ (List.mem_of_getElem? (i := 41) rfl))) (by decide) (backOf (W := 0) (rm7_2 l Z aw hw [] c0 c1 k0 k1 w0 w1 v0 v1 h0 n0 Z0 P3 P4 nx0) hZ (hw _ (List.mem_of_getElem? (i := 41) rfl)) (hw _ (List.mem_of_getElem? (i := 40) rfl)) (by decide) (by decide)) (g := (mkF m 20 #[rv a0, rv a1, rv a1] [(.ref c1), (.ref c0)])) rfl (by rw [hml]; rfl) (argsL := [(.ref c0), (.ref c1)]) (rest := []) (lenOf pd_7 rfl) rfl (by show 2 * 0 + _ ≤ _; exact Nat.le_of_eq rfl) (hb hby d6_20) (fun _ _ => ⟨rfl, e4, (by decide : 0 + 0 ≤ _), (by decide : 0 + 0 ≤ _)⟩)
  dsimp only [Pt.U, Pt.locs, Pt.cells, Pt.slots] at X5 l5 y5 z5 st5 hQ5
  subst l5 y5 z5
  obtain ⟨rfl, N5q, eh5⟩ := hQ5
  have N6 := Fr.app N0 N5q
  refine own_via (fun k => st5 _ k) ?_
  show own_Go p e below s _ _ (T5.setTop (mkF m 23 #[rv a0, rv a1, rv a1] [(.int (own_f7_2 w0 w1 v0 v1))]))
  by_cases hc7 : (own_f7_2 w0 w1 v0 v1) = (0 : Int32)
  · refine own_via (fun k => XS.ifYes X5.here hx rfl (pc0 := 23) (pc' := 30) rfl (hb hby d6_23) rfl ((if0 _ _).trans (teq hc7).1) (by decide) (by decide) k) ?_
    show own_Go p e below s _ _ (T5.setTop (mkF m 30 #[rv a0, rv a1, rv a1] []))
    refine own_via (fun k => XS.iconst X5.here hx rfl (hb hby d6_30) k) ?_
    show own_Go p e below s _ _ (T5.setTop (mkF m 31 #[rv a0, rv a1, rv a1] [(.int 0)]))
    exact own_retN X5 hx hlk (t := .boolean) Bd.returns (by simp) (hb hby d6_31) (Q := (Q6_2 Z a0 a1 c0 c1 k0 k1 w0 w1 v0 v1 h0 n0)) ⟨(congrArg (fun z => some (Value.int z)) (show (0 : Int32) = (own_f6_2 w0 w1 v0 v1) from (by unfold own_f6_2; exact ((if_pos hc7).trans rfl).symm))), N6, eh5⟩ (by decide) (by decide)
  · refine own_via (fun k => XS.ifNo X5.here hx rfl (hb hby d6_23) rfl ((if0 _ _).trans (feq hc7).1) k) ?_
    show own_Go p e below s _ _ (T5.setTop (mkF m 26 #[rv a0, rv a1, rv a1] []))
    refine own_via (fun k => XS.iconst X5.here hx rfl (hb hby d6_26) (XS.goto X5.here hx rfl (pc0 := 27) (pc' := 31) rfl (hb hby d6_27) (by decide) (by decide) k)) ?_
    show own_Go p e below s _ _ (T5.setTop (mkF m 31 #[rv a0, rv a1, rv a1] [(.int 1)]))
    exact own_retN X5 hx hlk (t := .boolean) Bd.returns (by simp) (hb hby d6_31) (Q := (Q6_2 Z a0 a1 c0 c1 k0 k1 w0 w1 v0 v1 h0 n0)) ⟨(congrArg (fun z => some (Value.int z)) (show (1 : Int32) = (own_f6_2 w0 w1 v0 v1) from (by unfold own_f6_2; exact ((if_neg hc7).trans rfl).symm))), N6, eh5⟩ (by decide) (by decide)
theorem ef_6_3 (m : MethodId) (x0 : Addr) (x1 : Addr) : entryFrame m #[(.ref x0), (.ref x1)] 3 = mkF m 0 #[rv x0, rv x1, .unset] [] := by first | (simp [entryFrame, mkF, argsToLocals, Value.category]; done) | rfl
def own_f6_3 (w0 : Int32) (w1 : Int32) (w2 : Int32) (v0 : Int32) (v1 : Int32) (v2 : Int32) : Int32 := (if (own_f7_3 w0 w1 w2 v0 v1 v2) = (0 : Int32) then (0 : Int32) else (1 : Int32))
def Q6_3 (Z : State) (a0 : Addr) (a1 : Addr) (c0 : Addr) (c1 : Addr) (k0 : ClassId) (k1 : ClassId) (w0 : Int32) (w1 : Int32) (w2 : Int32) (v0 : Int32) (v1 : Int32) (v2 : Int32) (h0 : Heap) (n0 : Nat) (v : Option Value) (h : Heap) (L : List Loc) : Prop := v = some (.int (own_f6_3 w0 w1 w2 v0 v1 v2)) ∧ Fr n0 L ∧ h = h0
set_option maxRecDepth 65536 in
set_option maxHeartbeats 40000000 in
theorem rm6_3 (l : Launch) (Z : State) (aw : Array Value) (hw : ∀ d ∈ tables_1, d.before aw Z = true) (ws : List Jvm.Cond) (a0 : Addr) (a1 : Addr) (c0 : Addr) (c1 : Addr) (k0 : ClassId) (k1 : ClassId) (w0 : Int32) (w1 : Int32) (w2 : Int32) (v0 : Int32) (v1 : Int32) (v2 : Int32) (h0 : Heap) (n0 : Nat) (Z0 : n0 ≤ h0.size) (P0 : Fld Z h0 a0 "com/example/grant3/grant3/policy/Etag" "bytes" "[B" (.ref c0)) (P1 : Fld Z h0 a1 "com/example/grant3/grant3/policy/Etag" "bytes" "[B" (.ref c1)) (P2 : Exa Z h0 a1 "com/example/grant3/grant3/policy/Etag") (P3 : Arv Z h0 c0 k0 .byte (3 : Int32) [(.int w0), (.int w1), (.int w2)] (.int 0)) (P4 : Arv Z h0 c1 k1 .byte (3 : Int32) [(.int v0), (.int v1), (.int v2)] (.int 0)) (nx0 : c0 ≠ c1) :
    MetFree l (⟨"com/example/grant3/grant3/policy/Etag", "equals", "(Ljava/lang/Object;)Z"⟩ : MethodName) (head1 (Jvm.Cond.code (⟨"com/example/grant3/grant3/policy/Etag", "equals", "(Ljava/lang/Object;)Z"⟩ : MethodName) prog_14_method_5_code 3 (some .boolean) :: ws) ({ frames := 2, cells := 0, slots := 0, locals := 29 } : Room)) (fun a U => a = #[(.ref a0), (.ref a1)] ∧ Z.Warmed39 U.vm ∧ U.heap = h0) (fun _ _ _ _ _ => True) (fun _ U o U' => ∃ v L, o = .returned v ∧ Q6_3 Z a0 a1 c0 c1 k0 k1 w0 w1 w2 v0 v1 v2 h0 n0 v U'.heap L ∧ FrameEnd U o U' L ({ frames := 2, cells := 0, slots := 0, locals := 29 } : Room).cells ({ frames := 2, cells := 0, slots := 0, locals := 29 } : Room).slots) := by
  refine MetFree.of_bodySF (plainFor_of_name pn_6) hisR ?_
  intro p e s m args below meth c s₁ Bd hml0 hP hK
  obtain ⟨rfl, hZ, hh⟩ := hP
  have hx := Bd.exec
  have hby := Bd.bytes
  have hml : c.maxLocals = 3 := hml0
  have hown : s.vm.findClass "com/example/grant3/grant3/policy/Etag" = some m.cls := findClass_of_methodNamed Bd.named
  have hnm := (name_of_methodNamed Bd.named Bd.method).1
  have hlk : meth.locks = false := by first | exact BodyLoose.notSynchronized (by assumption) | exact Body.notSynchronized (by assumption)
  have X0 : Stand p l e ({ frames := 2, cells := 0, slots := 0, locals := 29 } : Room) s m #[(.ref a0), (.ref a1)] below meth c s₁ [] 0 0 := Stand.of_body Bd
  have e0 : s₁.heap = h0 := by rw [← hh, Bd.state]; rfl
  have N0 := Fr.nil n0
  have K0 : Keep h0 h0 [] := Keep.refl _ _
  refine own_start (CS := (0, 0)) (Q := (Q6_3 Z a0 a1 c0 c1 k0 k1 w0 w1 w2 v0 v1 v2 h0 n0)) (ef_6_3 m a0 a1) ?_
  show own_Go p e below s _ _ (s₁.setTop (mkF m 0 #[rv a0, rv a1, .unset] []))
  refine own_via (fun k => XS.aloadN X0.here hx rfl (hb hby d6_0) rfl rfl  k) ?_
  show own_Go p e below s _ _ (s₁.setTop (mkF m 1 #[rv a0, rv a1, .unset] [(.ref a1)]))
  obtain ⟨T1, X1, e1, st1⟩ := instY X0 hx hZ hown (hw _ (List.mem_of_getElem? (i := 10) rfl)) e0 (Ins.self P2) (g := (mkF m 1 #[rv a0, rv a1, .unset] [(.ref a1)])) rfl rfl (hb hby d6_1)
  refine own_via (fun k => st1 _ k) ?_
  show own_Go p e below s _ _ (T1.setTop (mkF m 4 #[rv a0, rv a1, .unset] [(.int 1)]))
  refine own_via (fun k => XS.ifNo X1.here hx rfl (hb hby d6_4) rfl (by decide) k) ?_
  show own_Go p e below s _ _ (T1.setTop (mkF m 7 #[rv a0, rv a1, .unset] []))
  refine own_via (fun k => XS.aloadN X1.here hx rfl (hb hby d6_7) rfl rfl  k) ?_
  show own_Go p e below s _ _ (T1.setTop (mkF m 8 #[rv a0, rv a1, .unset] [(.ref a1)]))
  obtain ⟨T2, X2, e2, st2⟩ := castY X1 hx hZ hown (hw _ (List.mem_of_getElem? (i := 10) rfl)) e1 (Ins.self P2) (g := (mkF m 8 #[rv a0, rv a1, .unset] [(.ref a1)])) rfl rfl (hb hby d6_8)
  refine own_via (fun k => st2 _ k) ?_
  show own_Go p e below s _ _ (T2.setTop (mkF m 11 #[rv a0, rv a1, .unset] [(.ref a1)]))
  refine own_via (fun k => XS.astoreN X2.here hx rfl (hb hby d6_11) rfl rfl (l' := #[rv a0, rv a1, rv a1]) rfl (XS.aloadN X2.here hx rfl (hb hby d6_12) rfl rfl  k)) ?_
  show own_Go p e below s _ _ (T2.setTop (mkF m 13 #[rv a0, rv a1, rv a1] [(.ref a0)]))
  obtain ⟨T3, X3, e3, st3⟩ := getF X2 hx hZ hown (host := "") (Or.inl (hw _ (List.mem_of_getElem? (i := 27) rfl))) Via.refl e2 P0 (g := (mkF m 13 #[rv a0, rv a1, rv a1] [(.ref a0)])) rfl rfl (hb hby d6_13)
  refine own_via (fun k => st3 _ k) ?_
  show own_Go p e below s _ _ (T3.setTop (mkF m 16 #[rv a0, rv a1, rv a1] [(.ref c0)]))
  refine own_via (fun k => XS.aloadN X3.here hx rfl (hb hby d6_16) rfl rfl  k) ?_
  show own_Go p e below s _ _ (T3.setTop (mkF m 17 #[rv a0, rv a1, rv a1] [(.ref a1), (.ref c0)]))
  obtain ⟨T4, X4, e4, st4⟩ := getF X3 hx hZ hown (host := "") (Or.inl (hw _ (List.mem_of_getElem? (i := 27) rfl))) Via.refl e3 P1 (g := (mkF m 17 #[rv a0, rv a1, rv a1] [(.ref a1), (.ref c0)])) rfl rfl (hb hby d6_17)
  refine own_via (fun k => st4 _ k) ?_
  show own_Go p e below s _ _ (T4.setTop (mkF m 20 #[rv a0, rv a1, rv a1] [(.ref c1), (.ref c0)]))
  obtain ⟨_, _, ⟨T5, L5, k5, n5⟩, -, X5, ⟨Lc5, hQ5, l5, y5, z5⟩, st5⟩ := Jvm.LawKit.callS X4 hx (y := (⟨"java/util/Arrays", "equals", "([B[B)Z"⟩ : MethodName)) hown (mvT hZ (hw _ (List.mem_of_getElem? (i := 38) rfl))) (mvT hZ (hw _ (List.mem_of_getElem? (i := 39) rfl))) (mvT hZ (hw _ (List.mem_of_getElem? (i := 40) rfl))) (mvT hZ (hw _ (List.mem_of_getElem? (i := 41) rfl))) (by decide) (backOf (W := 0) (rm7_3 l Z aw hw [] c0 c1 k0 k1 w0 w1 w2 v0 v1 v2 h0 n0 Z0 P3 P4 nx0) hZ (hw _ (List.mem_of_getElem? (i := 41) rfl)) (hw _ (List.mem_of_getElem? (i := 40) rfl)) (by decide) (by decide)) (g := (mkF m 20 #[rv a0, rv a1, rv a1] [(.ref c1), (.ref c0)])) rfl (by rw [hml]; rfl) (argsL := [(.ref c0), (.ref c1)]) (rest := []) (lenOf pd_7 rfl) rfl (by show 2 * 0 + _ ≤ _; exact Nat.le_of_eq rfl) (hb hby d6_20) (fun _ _ => ⟨rfl, e4, (by decide : 0 + 0 ≤ _), (by decide : 0 + 0 ≤ _)⟩)
  dsimp only [Pt.U, Pt.locs, Pt.cells, Pt.slots] at X5 l5 y5 z5 st5 hQ5
  subst l5 y5 z5
  obtain ⟨rfl, N5q, eh5⟩ := hQ5
  have N6 := Fr.app N0 N5q
  refine own_via (fun k => st5 _ k) ?_
  show own_Go p e below s _ _ (T5.setTop (mkF m 23 #[rv a0, rv a1, rv a1] [(.int (own_f7_3 w0 w1 w2 v0 v1 v2))]))
  by_cases hc7 : (own_f7_3 w0 w1 w2 v0 v1 v2) = (0 : Int32)
  · refine own_via (fun k => XS.ifYes X5.here hx rfl (pc0 := 23) (pc' := 30) rfl (hb hby d6_23) rfl ((if0 _ _).trans (teq hc7).1) (by decide) (by decide) k) ?_
    show own_Go p e below s _ _ (T5.setTop (mkF m 30 #[rv a0, rv a1, rv a1] []))
    refine own_via (fun k => XS.iconst X5.here hx rfl (hb hby d6_30) k) ?_
    show own_Go p e below s _ _ (T5.setTop (mkF m 31 #[rv a0, rv a1, rv a1] [(.int 0)]))
    exact own_retN X5 hx hlk (t := .boolean) Bd.returns (by simp) (hb hby d6_31) (Q := (Q6_3 Z a0 a1 c0 c1 k0 k1 w0 w1 w2 v0 v1 v2 h0 n0)) ⟨(congrArg (fun z => some (Value.int z)) (show (0 : Int32) = (own_f6_3 w0 w1 w2 v0 v1 v2) from (by unfold own_f6_3; exact ((if_pos hc7).trans rfl).symm))), N6, eh5⟩ (by decide) (by decide)
  · refine own_via (fun k => XS.ifNo X5.here hx rfl (hb hby d6_23) rfl ((if0 _ _).trans (feq hc7).1) k) ?_
    show own_Go p e below s _ _ (T5.setTop (mkF m 26 #[rv a0, rv a1, rv a1] []))
    refine own_via (fun k => XS.iconst X5.here hx rfl (hb hby d6_26) (XS.goto X5.here hx rfl (pc0 := 27) (pc' := 31) rfl (hb hby d6_27) (by decide) (by decide) k)) ?_
    show own_Go p e below s _ _ (T5.setTop (mkF m 31 #[rv a0, rv a1, rv a1] [(.int 1)]))
    exact own_retN X5 hx hlk (t := .boolean) Bd.returns (by simp) (hb hby d6_31) (Q := (Q6_3 Z a0 a1 c0 c1 k0 k1 w0 w1 w2 v0 v1 v2 h0 n0)) ⟨(congrArg (fun z => some (Value.int z)) (show (1 : Int32) = (own_f6_3 w0 w1 w2 v0 v1 v2) from (by unfold own_f6_3; exact ((if_neg hc7).trans rfl).symm))), N6, eh5⟩ (by decide) (by decide)
theorem d12_0 : decode jdk_48_method_6_code 0 = .ok (.iload_n 2, 1) := by decide +kernel
theorem d12_1 : decode jdk_48_method_6_code 1 = .ok (.iload_n 3, 1) := by decide +kernel
theorem d12_2 : decode jdk_48_method_6_code 2 = .ok (.iadd, 1) := by decide +kernel
theorem d12_3 : decode jdk_48_method_6_code 3 = .ok (.istore 4, 2) := by decide +kernel
theorem d12_5 : decode jdk_48_method_6_code 5 = .ok (.iload_n 2, 1) := by decide +kernel
theorem d12_6 : decode jdk_48_method_6_code 6 = .ok (.istore 5, 2) := by decide +kernel
theorem d12_8 : decode jdk_48_method_6_code 8 = .ok (.iload 5, 2) := by decide +kernel
theorem d12_10 : decode jdk_48_method_6_code 10 = .ok (.iload 4, 2) := by decide +kernel
theorem d12_12 : decode jdk_48_method_6_code 12 = .ok (.if_icmp .ge 19, 3) := by decide +kernel
theorem d12_15 : decode jdk_48_method_6_code 15 = .ok (.bipush 31, 2) := by decide +kernel
theorem d12_17 : decode jdk_48_method_6_code 17 = .ok (.iload_n 0, 1) := by decide +kernel
theorem d12_18 : decode jdk_48_method_6_code 18 = .ok (.imul, 1) := by decide +kernel
theorem d12_19 : decode jdk_48_method_6_code 19 = .ok (.aload_n 1, 1) := by decide +kernel
theorem d12_20 : decode jdk_48_method_6_code 20 = .ok (.iload 5, 2) := by decide +kernel
theorem d12_22 : decode jdk_48_method_6_code 22 = .ok (.baload, 1) := by decide +kernel
theorem d12_23 : decode jdk_48_method_6_code 23 = .ok (.iadd, 1) := by decide +kernel
theorem d12_24 : decode jdk_48_method_6_code 24 = .ok (.istore_n 0, 1) := by decide +kernel
theorem d12_25 : decode jdk_48_method_6_code 25 = .ok (.iinc 5 1, 3) := by decide +kernel
theorem d12_28 : decode jdk_48_method_6_code 28 = .ok (.goto (-20), 3) := by decide +kernel
theorem d12_31 : decode jdk_48_method_6_code 31 = .ok (.iload_n 0, 1) := by decide +kernel
theorem d12_32 : decode jdk_48_method_6_code 32 = .ok (.ireturn, 1) := by decide +kernel
theorem pn_12 : plainName "jdk/internal/util/ArraysSupport" = true := by first | (simp [plainName, overriddenIn]; done) | decide +kernel
theorem ef_12_2 (m : MethodId) (x0 : Int32) (x1 : Addr) (x2 : Int32) (x3 : Int32) : entryFrame m #[(.int x0), (.ref x1), (.int x2), (.int x3)] 6 = mkF m 0 #[iv x0, rv x1, iv x2, iv x3, .unset, .unset] [] := by first | (simp [entryFrame, mkF, argsToLocals, Value.category]; done) | rfl
def own_f12_2 (w0 : Int32) (w1 : Int32) : Int32 := (((31 : Int32) * ((31 : Int32) + w0)) + w1)
def Q12_2 (Z : State) (a1 : Addr) (k : ClassId) (w0 : Int32) (w1 : Int32) (h0 : Heap) (n0 : Nat) (v : Option Value) (h : Heap) (L : List Loc) : Prop := v = some (.int (own_f12_2 w0 w1)) ∧ Fr n0 L ∧ h = h0
set_option maxRecDepth 65536 in
set_option maxHeartbeats 40000000 in
theorem rm12_2 (l : Launch) (Z : State) (aw : Array Value) (hw : ∀ d ∈ tables_1, d.before aw Z = true) (ws : List Jvm.Cond) (a1 : Addr) (k : ClassId) (w0 : Int32) (w1 : Int32) (h0 : Heap) (n0 : Nat) (Z0 : n0 ≤ h0.size) (P0 : Arv Z h0 a1 k .byte (2 : Int32) [(.int w0), (.int w1)] (.int 0)) :
    MetFree l (⟨"jdk/internal/util/ArraysSupport", "hashCode", "(I[BII)I"⟩ : MethodName) (head1 (Jvm.Cond.code (⟨"jdk/internal/util/ArraysSupport", "hashCode", "(I[BII)I"⟩ : MethodName) jdk_48_method_6_code 6 (some .int) :: ws) ({ frames := 0, cells := 0, slots := 0, locals := 0 } : Room)) (fun a U => a = #[(.int 1), (.ref a1), (.int 0), (.int 2)] ∧ Z.Warmed39 U.vm ∧ U.heap = h0) (fun _ _ _ _ _ => True) (fun _ U o U' => ∃ v L, o = .returned v ∧ Q12_2 Z a1 k w0 w1 h0 n0 v U'.heap L ∧ FrameEnd U o U' L ({ frames := 0, cells := 0, slots := 0, locals := 0 } : Room).cells ({ frames := 0, cells := 0, slots := 0, locals := 0 } : Room).slots) := by
  refine MetFree.of_bodySF (plainFor_of_name pn_12) hisR ?_
  intro p e s m args below meth c s₁ Bd hml0 hP hK
  obtain ⟨rfl, hZ, hh⟩ := hP
  have hx := Bd.exec
  have hby := Bd.bytes
  have hml : c.maxLocals = 6 := hml0
  have hown : s.vm.findClass "jdk/internal/util/ArraysSupport" = some m.cls := findClass_of_methodNamed Bd.named
  have hnm := (name_of_methodNamed Bd.named Bd.method).1
  have hlk : meth.locks = false := by first | exact BodyLoose.notSynchronized (by assumption) | exact Body.notSynchronized (by assumption)
  have X0 : Stand p l e ({ frames := 0, cells := 0, slots := 0, locals := 0 } : Room) s m #[(.int 1), (.ref a1), (.int 0), (.int 2)] below meth c s₁ [] 0 0 := Stand.of_body Bd
  have e0 : s₁.heap = h0 := by rw [← hh, Bd.state]; rfl
  have N0 := Fr.nil n0
  have K0 : Keep h0 h0 [] := Keep.refl _ _
  refine own_start (CS := (0, 0)) (Q := (Q12_2 Z a1 k w0 w1 h0 n0)) (ef_12_2 m (1 : Int32) a1 (0 : Int32) (2 : Int32)) ?_
  show own_Go p e below s _ _ (s₁.setTop (mkF m 0 #[iv 1, rv a1, iv 0, iv 2, .unset, .unset] []))
  refine own_via (fun k => XS.iloadN X0.here hx rfl (hb hby d12_0) rfl  (XS.iloadN X0.here hx rfl (hb hby d12_1) rfl  (XS.iadd X0.here hx rfl (hb hby d12_2) rfl (XS.istore X0.here hx rfl (hb hby d12_3) rfl (l' := #[iv 1, rv a1, iv 0, iv 2, iv 2, .unset]) rfl k)))) ?_
  show own_Go p e below s _ _ (s₁.setTop (mkF m 5 #[iv 1, rv a1, iv 0, iv 2, iv 2, .unset] []))
  refine own_via (fun k => XS.iloadN X0.here hx rfl (hb hby d12_5) rfl  (XS.istore X0.here hx rfl (hb hby d12_6) rfl (l' := #[iv 1, rv a1, iv 0, iv 2, iv 2, iv 0]) rfl (XS.iload X0.here hx rfl (hb hby d12_8) rfl  (XS.iload X0.here hx rfl (hb hby d12_10) rfl  k)))) ?_
  show own_Go p e below s _ _ (s₁.setTop (mkF m 12 #[iv 1, rv a1, iv 0, iv 2, iv 2, iv 0] [(.int 2), (.int 0)]))
  refine own_via (fun k => XS.icmpNo X0.here hx rfl (hb hby d12_12) rfl (by decide) k) ?_
  show own_Go p e below s _ _ (s₁.setTop (mkF m 15 #[iv 1, rv a1, iv 0, iv 2, iv 2, iv 0] []))
  refine own_via (fun k => XS.bipush X0.here hx rfl (hb hby d12_15) (XS.iloadN X0.here hx rfl (hb hby d12_17) rfl  (XS.imul X0.here hx rfl (hb hby d12_18) rfl (XS.aloadN X0.here hx rfl (hb hby d12_19) rfl rfl  k)))) ?_
  show own_Go p e below s _ _ (s₁.setTop (mkF m 20 #[iv 1, rv a1, iv 0, iv 2, iv 2, iv 0] [(.ref a1), (.int 31)]))
  refine own_via (fun k => XS.iload X0.here hx rfl (hb hby d12_20) rfl  k) ?_
  show own_Go p e below s _ _ (s₁.setTop (mkF m 22 #[iv 1, rv a1, iv 0, iv 2, iv 2, iv 0] [(.int 0), (.ref a1), (.int 31)]))
  obtain ⟨cl1, Ar1, q1, S1, NN1, H1, G1⟩ := id P0
  have hin1 : ¬ ((0 : Int32) < 0 ∨ cl1.slots.size ≤ ((0 : Int32)).toNatClampNeg) := inb_of S1 ⟨by decide, by decide⟩
  have hat1 : cl1.slots[((0 : Int32)).toNatClampNeg]? = some (.int w0) := H1.at hin1 rfl
  refine own_via (fun k => X0.baloadBytes hx (j := (0 : Int32)) (v := (.int w0)) (by rw [e0]; exact Ar1.1) (State.isArrayOf_alike hZ.alike Ar1.2.1) Ar1.2.2 hin1 hat1 (g := (mkF m 22 #[iv 1, rv a1, iv 0, iv 2, iv 2, iv 0] [(.int 0), (.ref a1), (.int 31)])) rfl rfl (hb hby d12_22) _ k) ?_
  show own_Go p e below s _ _ (s₁.setTop (mkF m 23 #[iv 1, rv a1, iv 0, iv 2, iv 2, iv 0] [(.int w0), (.int 31)]))
  refine own_via (fun k => XS.iadd X0.here hx rfl (hb hby d12_23) rfl (XS.istoreN X0.here hx rfl (hb hby d12_24) rfl (l' := #[iv ((31 : Int32) + w0), rv a1, iv 0, iv 2, iv 2, iv 0]) rfl (XS.iinc X0.here hx rfl (hb hby d12_25) rfl (l' := #[iv ((31 : Int32) + w0), rv a1, iv 0, iv 2, iv 2, iv 1]) rfl (XS.goto X0.here hx rfl (pc0 := 28) (pc' := 8) rfl (hb hby d12_28) (by decide) (by decide) k)))) ?_
  show own_Go p e below s _ _ (s₁.setTop (mkF m 8 #[iv ((31 : Int32) + w0), rv a1, iv 0, iv 2, iv 2, iv 1] []))
  refine own_via (fun k => XS.iload X0.here hx rfl (hb hby d12_8) rfl  (XS.iload X0.here hx rfl (hb hby d12_10) rfl  k)) ?_
  show own_Go p e below s _ _ (s₁.setTop (mkF m 12 #[iv ((31 : Int32) + w0), rv a1, iv 0, iv 2, iv 2, iv 1] [(.int 2), (.int 1)]))
  refine own_via (fun k => XS.icmpNo X0.here hx rfl (hb hby d12_12) rfl (by decide) k) ?_
  show own_Go p e below s _ _ (s₁.setTop (mkF m 15 #[iv ((31 : Int32) + w0), rv a1, iv 0, iv 2, iv 2, iv 1] []))
  refine own_via (fun k => XS.bipush X0.here hx rfl (hb hby d12_15) (XS.iloadN X0.here hx rfl (hb hby d12_17) rfl  (XS.imul X0.here hx rfl (hb hby d12_18) rfl (XS.aloadN X0.here hx rfl (hb hby d12_19) rfl rfl  k)))) ?_
  show own_Go p e below s _ _ (s₁.setTop (mkF m 20 #[iv ((31 : Int32) + w0), rv a1, iv 0, iv 2, iv 2, iv 1] [(.ref a1), (.int ((31 : Int32) * ((31 : Int32) + w0)))]))
  refine own_via (fun k => XS.iload X0.here hx rfl (hb hby d12_20) rfl  k) ?_
  show own_Go p e below s _ _ (s₁.setTop (mkF m 22 #[iv ((31 : Int32) + w0), rv a1, iv 0, iv 2, iv 2, iv 1] [(.int 1), (.ref a1), (.int ((31 : Int32) * ((31 : Int32) + w0)))]))
  obtain ⟨cl2, Ar2, q2, S2, NN2, H2, G2⟩ := id P0
  have hin2 : ¬ ((1 : Int32) < 0 ∨ cl2.slots.size ≤ ((1 : Int32)).toNatClampNeg) := inb_of S2 ⟨by decide, by decide⟩
  have hat2 : cl2.slots[((1 : Int32)).toNatClampNeg]? = some (.int w1) := H2.at hin2 rfl
  refine own_via (fun k => X0.baloadBytes hx (j := (1 : Int32)) (v := (.int w1)) (by rw [e0]; exact Ar2.1) (State.isArrayOf_alike hZ.alike Ar2.2.1) Ar2.2.2 hin2 hat2 (g := (mkF m 22 #[iv ((31 : Int32) + w0), rv a1, iv 0, iv 2, iv 2, iv 1] [(.int 1), (.ref a1), (.int ((31 : Int32) * ((31 : Int32) + w0)))])) rfl rfl (hb hby d12_22) _ k) ?_
  show own_Go p e below s _ _ (s₁.setTop (mkF m 23 #[iv ((31 : Int32) + w0), rv a1, iv 0, iv 2, iv 2, iv 1] [(.int w1), (.int ((31 : Int32) * ((31 : Int32) + w0)))]))
  refine own_via (fun k => XS.iadd X0.here hx rfl (hb hby d12_23) rfl (XS.istoreN X0.here hx rfl (hb hby d12_24) rfl (l' := #[iv (((31 : Int32) * ((31 : Int32) + w0)) + w1), rv a1, iv 0, iv 2, iv 2, iv 1]) rfl (XS.iinc X0.here hx rfl (hb hby d12_25) rfl (l' := #[iv (((31 : Int32) * ((31 : Int32) + w0)) + w1), rv a1, iv 0, iv 2, iv 2, iv 2]) rfl (XS.goto X0.here hx rfl (pc0 := 28) (pc' := 8) rfl (hb hby d12_28) (by decide) (by decide) k)))) ?_
  show own_Go p e below s _ _ (s₁.setTop (mkF m 8 #[iv (((31 : Int32) * ((31 : Int32) + w0)) + w1), rv a1, iv 0, iv 2, iv 2, iv 2] []))
  refine own_via (fun k => XS.iload X0.here hx rfl (hb hby d12_8) rfl  (XS.iload X0.here hx rfl (hb hby d12_10) rfl  k)) ?_
  show own_Go p e below s _ _ (s₁.setTop (mkF m 12 #[iv (((31 : Int32) * ((31 : Int32) + w0)) + w1), rv a1, iv 0, iv 2, iv 2, iv 2] [(.int 2), (.int 2)]))
  refine own_via (fun k => XS.icmpYes X0.here hx rfl (pc0 := 12) (pc' := 31) rfl (hb hby d12_12) rfl (by decide) (by decide) (by decide) k) ?_
  show own_Go p e below s _ _ (s₁.setTop (mkF m 31 #[iv (((31 : Int32) * ((31 : Int32) + w0)) + w1), rv a1, iv 0, iv 2, iv 2, iv 2] []))
  refine own_via (fun k => XS.iloadN X0.here hx rfl (hb hby d12_31) rfl  k) ?_
  show own_Go p e below s _ _ (s₁.setTop (mkF m 32 #[iv (((31 : Int32) * ((31 : Int32) + w0)) + w1), rv a1, iv 0, iv 2, iv 2, iv 2] [(.int (((31 : Int32) * ((31 : Int32) + w0)) + w1))]))
  exact own_retI X0 hx hlk Bd.returns (hb hby d12_32) (Q := (Q12_2 Z a1 k w0 w1 h0 n0)) ⟨(congrArg (fun z => some (Value.int z)) (show (((31 : Int32) * ((31 : Int32) + w0)) + w1) = (own_f12_2 w0 w1) from rfl)), N0, e0⟩ (by decide) (by decide)
theorem ef_12_3 (m : MethodId) (x0 : Int32) (x1 : Addr) (x2 : Int32) (x3 : Int32) : entryFrame m #[(.int x0), (.ref x1), (.int x2), (.int x3)] 6 = mkF m 0 #[iv x0, rv x1, iv x2, iv x3, .unset, .unset] [] := by first | (simp [entryFrame, mkF, argsToLocals, Value.category]; done) | rfl
def own_f12_3 (w0 : Int32) (w1 : Int32) (w2 : Int32) : Int32 := (((31 : Int32) * (((31 : Int32) * ((31 : Int32) + w0)) + w1)) + w2)
def Q12_3 (Z : State) (a1 : Addr) (k : ClassId) (w0 : Int32) (w1 : Int32) (w2 : Int32) (h0 : Heap) (n0 : Nat) (v : Option Value) (h : Heap) (L : List Loc) : Prop := v = some (.int (own_f12_3 w0 w1 w2)) ∧ Fr n0 L ∧ h = h0
set_option maxRecDepth 65536 in
set_option maxHeartbeats 40000000 in
theorem rm12_3 (l : Launch) (Z : State) (aw : Array Value) (hw : ∀ d ∈ tables_1, d.before aw Z = true) (ws : List Jvm.Cond) (a1 : Addr) (k : ClassId) (w0 : Int32) (w1 : Int32) (w2 : Int32) (h0 : Heap) (n0 : Nat) (Z0 : n0 ≤ h0.size) (P0 : Arv Z h0 a1 k .byte (3 : Int32) [(.int w0), (.int w1), (.int w2)] (.int 0)) :
    MetFree l (⟨"jdk/internal/util/ArraysSupport", "hashCode", "(I[BII)I"⟩ : MethodName) (head1 (Jvm.Cond.code (⟨"jdk/internal/util/ArraysSupport", "hashCode", "(I[BII)I"⟩ : MethodName) jdk_48_method_6_code 6 (some .int) :: ws) ({ frames := 0, cells := 0, slots := 0, locals := 0 } : Room)) (fun a U => a = #[(.int 1), (.ref a1), (.int 0), (.int 3)] ∧ Z.Warmed39 U.vm ∧ U.heap = h0) (fun _ _ _ _ _ => True) (fun _ U o U' => ∃ v L, o = .returned v ∧ Q12_3 Z a1 k w0 w1 w2 h0 n0 v U'.heap L ∧ FrameEnd U o U' L ({ frames := 0, cells := 0, slots := 0, locals := 0 } : Room).cells ({ frames := 0, cells := 0, slots := 0, locals := 0 } : Room).slots) := by
  refine MetFree.of_bodySF (plainFor_of_name pn_12) hisR ?_
  intro p e s m args below meth c s₁ Bd hml0 hP hK
  obtain ⟨rfl, hZ, hh⟩ := hP
  have hx := Bd.exec
  have hby := Bd.bytes
  have hml : c.maxLocals = 6 := hml0
  have hown : s.vm.findClass "jdk/internal/util/ArraysSupport" = some m.cls := findClass_of_methodNamed Bd.named
  have hnm := (name_of_methodNamed Bd.named Bd.method).1
  have hlk : meth.locks = false := by first | exact BodyLoose.notSynchronized (by assumption) | exact Body.notSynchronized (by assumption)
  have X0 : Stand p l e ({ frames := 0, cells := 0, slots := 0, locals := 0 } : Room) s m #[(.int 1), (.ref a1), (.int 0), (.int 3)] below meth c s₁ [] 0 0 := Stand.of_body Bd
  have e0 : s₁.heap = h0 := by rw [← hh, Bd.state]; rfl
  have N0 := Fr.nil n0
  have K0 : Keep h0 h0 [] := Keep.refl _ _
  refine own_start (CS := (0, 0)) (Q := (Q12_3 Z a1 k w0 w1 w2 h0 n0)) (ef_12_3 m (1 : Int32) a1 (0 : Int32) (3 : Int32)) ?_
  show own_Go p e below s _ _ (s₁.setTop (mkF m 0 #[iv 1, rv a1, iv 0, iv 3, .unset, .unset] []))
  refine own_via (fun k => XS.iloadN X0.here hx rfl (hb hby d12_0) rfl  (XS.iloadN X0.here hx rfl (hb hby d12_1) rfl  (XS.iadd X0.here hx rfl (hb hby d12_2) rfl (XS.istore X0.here hx rfl (hb hby d12_3) rfl (l' := #[iv 1, rv a1, iv 0, iv 3, iv 3, .unset]) rfl k)))) ?_
  show own_Go p e below s _ _ (s₁.setTop (mkF m 5 #[iv 1, rv a1, iv 0, iv 3, iv 3, .unset] []))
  refine own_via (fun k => XS.iloadN X0.here hx rfl (hb hby d12_5) rfl  (XS.istore X0.here hx rfl (hb hby d12_6) rfl (l' := #[iv 1, rv a1, iv 0, iv 3, iv 3, iv 0]) rfl (XS.iload X0.here hx rfl (hb hby d12_8) rfl  (XS.iload X0.here hx rfl (hb hby d12_10) rfl  k)))) ?_
  show own_Go p e below s _ _ (s₁.setTop (mkF m 12 #[iv 1, rv a1, iv 0, iv 3, iv 3, iv 0] [(.int 3), (.int 0)]))
  refine own_via (fun k => XS.icmpNo X0.here hx rfl (hb hby d12_12) rfl (by decide) k) ?_
  show own_Go p e below s _ _ (s₁.setTop (mkF m 15 #[iv 1, rv a1, iv 0, iv 3, iv 3, iv 0] []))
  refine own_via (fun k => XS.bipush X0.here hx rfl (hb hby d12_15) (XS.iloadN X0.here hx rfl (hb hby d12_17) rfl  (XS.imul X0.here hx rfl (hb hby d12_18) rfl (XS.aloadN X0.here hx rfl (hb hby d12_19) rfl rfl  k)))) ?_
  show own_Go p e below s _ _ (s₁.setTop (mkF m 20 #[iv 1, rv a1, iv 0, iv 3, iv 3, iv 0] [(.ref a1), (.int 31)]))
  refine own_via (fun k => XS.iload X0.here hx rfl (hb hby d12_20) rfl  k) ?_
  show own_Go p e below s _ _ (s₁.setTop (mkF m 22 #[iv 1, rv a1, iv 0, iv 3, iv 3, iv 0] [(.int 0), (.ref a1), (.int 31)]))
  obtain ⟨cl1, Ar1, q1, S1, NN1, H1, G1⟩ := id P0
  have hin1 : ¬ ((0 : Int32) < 0 ∨ cl1.slots.size ≤ ((0 : Int32)).toNatClampNeg) := inb_of S1 ⟨by decide, by decide⟩
  have hat1 : cl1.slots[((0 : Int32)).toNatClampNeg]? = some (.int w0) := H1.at hin1 rfl
  refine own_via (fun k => X0.baloadBytes hx (j := (0 : Int32)) (v := (.int w0)) (by rw [e0]; exact Ar1.1) (State.isArrayOf_alike hZ.alike Ar1.2.1) Ar1.2.2 hin1 hat1 (g := (mkF m 22 #[iv 1, rv a1, iv 0, iv 3, iv 3, iv 0] [(.int 0), (.ref a1), (.int 31)])) rfl rfl (hb hby d12_22) _ k) ?_
  show own_Go p e below s _ _ (s₁.setTop (mkF m 23 #[iv 1, rv a1, iv 0, iv 3, iv 3, iv 0] [(.int w0), (.int 31)]))
  refine own_via (fun k => XS.iadd X0.here hx rfl (hb hby d12_23) rfl (XS.istoreN X0.here hx rfl (hb hby d12_24) rfl (l' := #[iv ((31 : Int32) + w0), rv a1, iv 0, iv 3, iv 3, iv 0]) rfl (XS.iinc X0.here hx rfl (hb hby d12_25) rfl (l' := #[iv ((31 : Int32) + w0), rv a1, iv 0, iv 3, iv 3, iv 1]) rfl (XS.goto X0.here hx rfl (pc0 := 28) (pc' := 8) rfl (hb hby d12_28) (by decide) (by decide) k)))) ?_
  show own_Go p e below s _ _ (s₁.setTop (mkF m 8 #[iv ((31 : Int32) + w0), rv a1, iv 0, iv 3, iv 3, iv 1] []))
  refine own_via (fun k => XS.iload X0.here hx rfl (hb hby d12_8) rfl  (XS.iload X0.here hx rfl (hb hby d12_10) rfl  k)) ?_
  show own_Go p e below s _ _ (s₁.setTop (mkF m 12 #[iv ((31 : Int32) + w0), rv a1, iv 0, iv 3, iv 3, iv 1] [(.int 3), (.int 1)]))
  refine own_via (fun k => XS.icmpNo X0.here hx rfl (hb hby d12_12) rfl (by decide) k) ?_
  show own_Go p e below s _ _ (s₁.setTop (mkF m 15 #[iv ((31 : Int32) + w0), rv a1, iv 0, iv 3, iv 3, iv 1] []))
  refine own_via (fun k => XS.bipush X0.here hx rfl (hb hby d12_15) (XS.iloadN X0.here hx rfl (hb hby d12_17) rfl  (XS.imul X0.here hx rfl (hb hby d12_18) rfl (XS.aloadN X0.here hx rfl (hb hby d12_19) rfl rfl  k)))) ?_
  show own_Go p e below s _ _ (s₁.setTop (mkF m 20 #[iv ((31 : Int32) + w0), rv a1, iv 0, iv 3, iv 3, iv 1] [(.ref a1), (.int ((31 : Int32) * ((31 : Int32) + w0)))]))
  refine own_via (fun k => XS.iload X0.here hx rfl (hb hby d12_20) rfl  k) ?_
  show own_Go p e below s _ _ (s₁.setTop (mkF m 22 #[iv ((31 : Int32) + w0), rv a1, iv 0, iv 3, iv 3, iv 1] [(.int 1), (.ref a1), (.int ((31 : Int32) * ((31 : Int32) + w0)))]))
  obtain ⟨cl2, Ar2, q2, S2, NN2, H2, G2⟩ := id P0
  have hin2 : ¬ ((1 : Int32) < 0 ∨ cl2.slots.size ≤ ((1 : Int32)).toNatClampNeg) := inb_of S2 ⟨by decide, by decide⟩
  have hat2 : cl2.slots[((1 : Int32)).toNatClampNeg]? = some (.int w1) := H2.at hin2 rfl
  refine own_via (fun k => X0.baloadBytes hx (j := (1 : Int32)) (v := (.int w1)) (by rw [e0]; exact Ar2.1) (State.isArrayOf_alike hZ.alike Ar2.2.1) Ar2.2.2 hin2 hat2 (g := (mkF m 22 #[iv ((31 : Int32) + w0), rv a1, iv 0, iv 3, iv 3, iv 1] [(.int 1), (.ref a1), (.int ((31 : Int32) * ((31 : Int32) + w0)))])) rfl rfl (hb hby d12_22) _ k) ?_
  show own_Go p e below s _ _ (s₁.setTop (mkF m 23 #[iv ((31 : Int32) + w0), rv a1, iv 0, iv 3, iv 3, iv 1] [(.int w1), (.int ((31 : Int32) * ((31 : Int32) + w0)))]))
  refine own_via (fun k => XS.iadd X0.here hx rfl (hb hby d12_23) rfl (XS.istoreN X0.here hx rfl (hb hby d12_24) rfl (l' := #[iv (((31 : Int32) * ((31 : Int32) + w0)) + w1), rv a1, iv 0, iv 3, iv 3, iv 1]) rfl (XS.iinc X0.here hx rfl (hb hby d12_25) rfl (l' := #[iv (((31 : Int32) * ((31 : Int32) + w0)) + w1), rv a1, iv 0, iv 3, iv 3, iv 2]) rfl (XS.goto X0.here hx rfl (pc0 := 28) (pc' := 8) rfl (hb hby d12_28) (by decide) (by decide) k)))) ?_
  show own_Go p e below s _ _ (s₁.setTop (mkF m 8 #[iv (((31 : Int32) * ((31 : Int32) + w0)) + w1), rv a1, iv 0, iv 3, iv 3, iv 2] []))
  refine own_via (fun k => XS.iload X0.here hx rfl (hb hby d12_8) rfl  (XS.iload X0.here hx rfl (hb hby d12_10) rfl  k)) ?_
  show own_Go p e below s _ _ (s₁.setTop (mkF m 12 #[iv (((31 : Int32) * ((31 : Int32) + w0)) + w1), rv a1, iv 0, iv 3, iv 3, iv 2] [(.int 3), (.int 2)]))
  refine own_via (fun k => XS.icmpNo X0.here hx rfl (hb hby d12_12) rfl (by decide) k) ?_
  show own_Go p e below s _ _ (s₁.setTop (mkF m 15 #[iv (((31 : Int32) * ((31 : Int32) + w0)) + w1), rv a1, iv 0, iv 3, iv 3, iv 2] []))
  refine own_via (fun k => XS.bipush X0.here hx rfl (hb hby d12_15) (XS.iloadN X0.here hx rfl (hb hby d12_17) rfl  (XS.imul X0.here hx rfl (hb hby d12_18) rfl (XS.aloadN X0.here hx rfl (hb hby d12_19) rfl rfl  k)))) ?_
  show own_Go p e below s _ _ (s₁.setTop (mkF m 20 #[iv (((31 : Int32) * ((31 : Int32) + w0)) + w1), rv a1, iv 0, iv 3, iv 3, iv 2] [(.ref a1), (.int ((31 : Int32) * (((31 : Int32) * ((31 : Int32) + w0)) + w1)))]))
  refine own_via (fun k => XS.iload X0.here hx rfl (hb hby d12_20) rfl  k) ?_
  show own_Go p e below s _ _ (s₁.setTop (mkF m 22 #[iv (((31 : Int32) * ((31 : Int32) + w0)) + w1), rv a1, iv 0, iv 3, iv 3, iv 2] [(.int 2), (.ref a1), (.int ((31 : Int32) * (((31 : Int32) * ((31 : Int32) + w0)) + w1)))]))
  obtain ⟨cl3, Ar3, q3, S3, NN3, H3, G3⟩ := id P0
  have hin3 : ¬ ((2 : Int32) < 0 ∨ cl3.slots.size ≤ ((2 : Int32)).toNatClampNeg) := inb_of S3 ⟨by decide, by decide⟩
  have hat3 : cl3.slots[((2 : Int32)).toNatClampNeg]? = some (.int w2) := H3.at hin3 rfl
  refine own_via (fun k => X0.baloadBytes hx (j := (2 : Int32)) (v := (.int w2)) (by rw [e0]; exact Ar3.1) (State.isArrayOf_alike hZ.alike Ar3.2.1) Ar3.2.2 hin3 hat3 (g := (mkF m 22 #[iv (((31 : Int32) * ((31 : Int32) + w0)) + w1), rv a1, iv 0, iv 3, iv 3, iv 2] [(.int 2), (.ref a1), (.int ((31 : Int32) * (((31 : Int32) * ((31 : Int32) + w0)) + w1)))])) rfl rfl (hb hby d12_22) _ k) ?_
  show own_Go p e below s _ _ (s₁.setTop (mkF m 23 #[iv (((31 : Int32) * ((31 : Int32) + w0)) + w1), rv a1, iv 0, iv 3, iv 3, iv 2] [(.int w2), (.int ((31 : Int32) * (((31 : Int32) * ((31 : Int32) + w0)) + w1)))]))
  refine own_via (fun k => XS.iadd X0.here hx rfl (hb hby d12_23) rfl (XS.istoreN X0.here hx rfl (hb hby d12_24) rfl (l' := #[iv (((31 : Int32) * (((31 : Int32) * ((31 : Int32) + w0)) + w1)) + w2), rv a1, iv 0, iv 3, iv 3, iv 2]) rfl (XS.iinc X0.here hx rfl (hb hby d12_25) rfl (l' := #[iv (((31 : Int32) * (((31 : Int32) * ((31 : Int32) + w0)) + w1)) + w2), rv a1, iv 0, iv 3, iv 3, iv 3]) rfl (XS.goto X0.here hx rfl (pc0 := 28) (pc' := 8) rfl (hb hby d12_28) (by decide) (by decide) k)))) ?_
  show own_Go p e below s _ _ (s₁.setTop (mkF m 8 #[iv (((31 : Int32) * (((31 : Int32) * ((31 : Int32) + w0)) + w1)) + w2), rv a1, iv 0, iv 3, iv 3, iv 3] []))
  refine own_via (fun k => XS.iload X0.here hx rfl (hb hby d12_8) rfl  (XS.iload X0.here hx rfl (hb hby d12_10) rfl  k)) ?_
  show own_Go p e below s _ _ (s₁.setTop (mkF m 12 #[iv (((31 : Int32) * (((31 : Int32) * ((31 : Int32) + w0)) + w1)) + w2), rv a1, iv 0, iv 3, iv 3, iv 3] [(.int 3), (.int 3)]))
  refine own_via (fun k => XS.icmpYes X0.here hx rfl (pc0 := 12) (pc' := 31) rfl (hb hby d12_12) rfl (by decide) (by decide) (by decide) k) ?_
  show own_Go p e below s _ _ (s₁.setTop (mkF m 31 #[iv (((31 : Int32) * (((31 : Int32) * ((31 : Int32) + w0)) + w1)) + w2), rv a1, iv 0, iv 3, iv 3, iv 3] []))
  refine own_via (fun k => XS.iloadN X0.here hx rfl (hb hby d12_31) rfl  k) ?_
  show own_Go p e below s _ _ (s₁.setTop (mkF m 32 #[iv (((31 : Int32) * (((31 : Int32) * ((31 : Int32) + w0)) + w1)) + w2), rv a1, iv 0, iv 3, iv 3, iv 3] [(.int (((31 : Int32) * (((31 : Int32) * ((31 : Int32) + w0)) + w1)) + w2))]))
  exact own_retI X0 hx hlk Bd.returns (hb hby d12_32) (Q := (Q12_3 Z a1 k w0 w1 w2 h0 n0)) ⟨(congrArg (fun z => some (Value.int z)) (show (((31 : Int32) * (((31 : Int32) * ((31 : Int32) + w0)) + w1)) + w2) = (own_f12_3 w0 w1 w2) from rfl)), N0, e0⟩ (by decide) (by decide)
theorem d11_0 : decode jdk_48_method_4_code 0 = .ok (.iload 4, 2) := by decide +kernel
theorem d11_2 : decode jdk_48_method_4_code 2 = .ok (.tableswitch 127 4 10 #[42, 55, 127, 127, 88, 101, 114], 42) := by decide +kernel
theorem d11_90 : decode jdk_48_method_4_code 90 = .ok (.iload_n 3, 1) := by decide +kernel
theorem d11_91 : decode jdk_48_method_4_code 91 = .ok (.aload_n 0, 1) := by decide +kernel
theorem d11_92 : decode jdk_48_method_4_code 92 = .ok (.checkcast 60, 3) := by decide +kernel
theorem d11_95 : decode jdk_48_method_4_code 95 = .ok (.iload_n 1, 1) := by decide +kernel
theorem d11_96 : decode jdk_48_method_4_code 96 = .ok (.iload_n 2, 1) := by decide +kernel
theorem d11_97 : decode jdk_48_method_4_code 97 = .ok (.invokestatic 75, 3) := by decide +kernel
theorem d11_100 : decode jdk_48_method_4_code 100 = .ok (.goto 57, 3) := by decide +kernel
theorem d11_157 : decode jdk_48_method_4_code 157 = .ok (.ireturn, 1) := by decide +kernel
theorem pn_11 : plainName "jdk/internal/util/ArraysSupport" = true := by first | (simp [plainName, overriddenIn]; done) | decide +kernel
theorem pd_12 : parseMethodDescriptor "(I[BII)I" = some ⟨[.int, (.array .byte), .int, .int], some .int⟩ := by decide +kernel
theorem ef_11_2 (m : MethodId) (x0 : Addr) (x1 : Int32) (x2 : Int32) (x3 : Int32) (x4 : Int32) : entryFrame m #[(.ref x0), (.int x1), (.int x2), (.int x3), (.int x4)] 5 = mkF m 0 #[rv x0, iv x1, iv x2, iv x3, iv x4] [] := by first | (simp [entryFrame, mkF, argsToLocals, Value.category]; done) | rfl
def own_f11_2 (w0 : Int32) (w1 : Int32) : Int32 := (own_f12_2 w0 w1)
def Q11_2 (Z : State) (a0 : Addr) (k : ClassId) (w0 : Int32) (w1 : Int32) (h0 : Heap) (n0 : Nat) (v : Option Value) (h : Heap) (L : List Loc) : Prop := v = some (.int (own_f11_2 w0 w1)) ∧ Fr n0 L ∧ h = h0
set_option maxRecDepth 65536 in
set_option maxHeartbeats 40000000 in
theorem rm11_2 (l : Launch) (Z : State) (aw : Array Value) (hw : ∀ d ∈ tables_1, d.before aw Z = true) (ws : List Jvm.Cond) (a0 : Addr) (k : ClassId) (w0 : Int32) (w1 : Int32) (h0 : Heap) (n0 : Nat) (Z0 : n0 ≤ h0.size) (P0 : Arv Z h0 a0 k .byte (2 : Int32) [(.int w0), (.int w1)] (.int 0)) (P1 : Exa Z h0 a0 "[B") :
    MetFree l (⟨"jdk/internal/util/ArraysSupport", "vectorizedHashCode", "(Ljava/lang/Object;IIII)I"⟩ : MethodName) (head1 (Jvm.Cond.code (⟨"jdk/internal/util/ArraysSupport", "vectorizedHashCode", "(Ljava/lang/Object;IIII)I"⟩ : MethodName) jdk_48_method_4_code 5 (some .int) :: ws) ({ frames := 1, cells := 0, slots := 0, locals := 17 } : Room)) (fun a U => a = #[(.ref a0), (.int 0), (.int 2), (.int 1), (.int 8)] ∧ Z.Warmed39 U.vm ∧ U.heap = h0) (fun _ _ _ _ _ => True) (fun _ U o U' => ∃ v L, o = .returned v ∧ Q11_2 Z a0 k w0 w1 h0 n0 v U'.heap L ∧ FrameEnd U o U' L ({ frames := 1, cells := 0, slots := 0, locals := 17 } : Room).cells ({ frames := 1, cells := 0, slots := 0, locals := 17 } : Room).slots) := by
  refine MetFree.of_bodySF (plainFor_of_name pn_11) hisR ?_
  intro p e s m args below meth c s₁ Bd hml0 hP hK
  obtain ⟨rfl, hZ, hh⟩ := hP
  have hx := Bd.exec
  have hby := Bd.bytes
  have hml : c.maxLocals = 5 := hml0
  have hown : s.vm.findClass "jdk/internal/util/ArraysSupport" = some m.cls := findClass_of_methodNamed Bd.named
  have hnm := (name_of_methodNamed Bd.named Bd.method).1
  have hlk : meth.locks = false := by first | exact BodyLoose.notSynchronized (by assumption) | exact Body.notSynchronized (by assumption)
  have X0 : Stand p l e ({ frames := 1, cells := 0, slots := 0, locals := 17 } : Room) s m #[(.ref a0), (.int 0), (.int 2), (.int 1), (.int 8)] below meth c s₁ [] 0 0 := Stand.of_body Bd
  have e0 : s₁.heap = h0 := by rw [← hh, Bd.state]; rfl
  have N0 := Fr.nil n0
  have K0 : Keep h0 h0 [] := Keep.refl _ _
  refine own_start (CS := (0, 0)) (Q := (Q11_2 Z a0 k w0 w1 h0 n0)) (ef_11_2 m a0 (0 : Int32) (2 : Int32) (1 : Int32) (8 : Int32)) ?_
  show own_Go p e below s _ _ (s₁.setTop (mkF m 0 #[rv a0, iv 0, iv 2, iv 1, iv 8] []))
  refine own_via (fun k => XS.iload X0.here hx rfl (hb hby d11_0) rfl  k) ?_
  show own_Go p e below s _ _ (s₁.setTop (mkF m 2 #[rv a0, iv 0, iv 2, iv 1, iv 8] [(.int 8)]))
  refine own_via (fun k => XS.tswIn X0.here hx rfl (pc0 := 2) (pc' := 90) rfl (hb hby d11_2) rfl (by decide) rfl (by decide) (by decide) k) ?_
  show own_Go p e below s _ _ (s₁.setTop (mkF m 90 #[rv a0, iv 0, iv 2, iv 1, iv 8] []))
  refine own_via (fun k => XS.iloadN X0.here hx rfl (hb hby d11_90) rfl  (XS.aloadN X0.here hx rfl (hb hby d11_91) rfl rfl  k)) ?_
  show own_Go p e below s _ _ (s₁.setTop (mkF m 92 #[rv a0, iv 0, iv 2, iv 1, iv 8] [(.ref a0), (.int 1)]))
  obtain ⟨T1, X1, e1, st1⟩ := castY X0 hx hZ hown (hw _ (List.mem_of_getElem? (i := 57) rfl)) e0 (Ins.self P1) (g := (mkF m 92 #[rv a0, iv 0, iv 2, iv 1, iv 8] [(.ref a0), (.int 1)])) rfl rfl (hb hby d11_92)
  refine own_via (fun k => st1 _ k) ?_
  show own_Go p e below s _ _ (T1.setTop (mkF m 95 #[rv a0, iv 0, iv 2, iv 1, iv 8] [(.ref a0), (.int 1)]))
  refine own_via (fun k => XS.iloadN X1.here hx rfl (hb hby d11_95) rfl  (XS.iloadN X1.here hx rfl (hb hby d11_96) rfl  k)) ?_
  show own_Go p e below s _ _ (T1.setTop (mkF m 97 #[rv a0, iv 0, iv 2, iv 1, iv 8] [(.int 2), (.int 0), (.ref a0), (.int 1)]))
  obtain ⟨_, _, ⟨T2, L2, k2, n2⟩, -, X2, ⟨Lc2, hQ2, l2, y2, z2⟩, st2⟩ := Jvm.LawKit.callS X1 hx (y := (⟨"jdk/internal/util/ArraysSupport", "hashCode", "(I[BII)I"⟩ : MethodName)) hown (mvT hZ (hw _ (List.mem_of_getElem? (i := 58) rfl))) (mvT hZ (hw _ (List.mem_of_getElem? (i := 59) rfl))) (mvT hZ (hw _ (List.mem_of_getElem? (i := 44) rfl))) (mvT hZ (hw _ (List.mem_of_getElem? (i := 60) rfl))) (by decide) (backOf (W := 0) (rm12_2 l Z aw hw [] a0 k w0 w1 h0 n0 Z0 P0) hZ (hw _ (List.mem_of_getElem? (i := 60) rfl)) (hw _ (List.mem_of_getElem? (i := 44) rfl)) (by decide) (by decide)) (g := (mkF m 97 #[rv a0, iv 0, iv 2, iv 1, iv 8] [(.int 2), (.int 0), (.ref a0), (.int 1)])) rfl (by rw [hml]; rfl) (argsL := [(.int 1), (.ref a0), (.int 0), (.int 2)]) (rest := []) (lenOf pd_12 rfl) rfl (by show 2 * 0 + _ ≤ _; exact Nat.le_of_eq rfl) (hb hby d11_97) (fun _ _ => ⟨rfl, e1, (by decide : 0 + 0 ≤ _), (by decide : 0 + 0 ≤ _)⟩)
  dsimp only [Pt.U, Pt.locs, Pt.cells, Pt.slots] at X2 l2 y2 z2 st2 hQ2
  subst l2 y2 z2
  obtain ⟨rfl, N2q, eh2⟩ := hQ2
  have N3 := Fr.app N0 N2q
  refine own_via (fun k => st2 _ k) ?_
  show own_Go p e below s _ _ (T2.setTop (mkF m 100 #[rv a0, iv 0, iv 2, iv 1, iv 8] [(.int (own_f12_2 w0 w1))]))
  refine own_via (fun k => XS.goto X2.here hx rfl (pc0 := 100) (pc' := 157) rfl (hb hby d11_100) (by decide) (by decide) k) ?_
  show own_Go p e below s _ _ (T2.setTop (mkF m 157 #[rv a0, iv 0, iv 2, iv 1, iv 8] [(.int (own_f12_2 w0 w1))]))
  exact own_retI X2 hx hlk Bd.returns (hb hby d11_157) (Q := (Q11_2 Z a0 k w0 w1 h0 n0)) ⟨(congrArg (fun z => some (Value.int z)) (show (own_f12_2 w0 w1) = (own_f11_2 w0 w1) from rfl)), N3, eh2⟩ (by decide) (by decide)
theorem ef_11_3 (m : MethodId) (x0 : Addr) (x1 : Int32) (x2 : Int32) (x3 : Int32) (x4 : Int32) : entryFrame m #[(.ref x0), (.int x1), (.int x2), (.int x3), (.int x4)] 5 = mkF m 0 #[rv x0, iv x1, iv x2, iv x3, iv x4] [] := by first | (simp [entryFrame, mkF, argsToLocals, Value.category]; done) | rfl
def own_f11_3 (w0 : Int32) (w1 : Int32) (w2 : Int32) : Int32 := (own_f12_3 w0 w1 w2)
def Q11_3 (Z : State) (a0 : Addr) (k : ClassId) (w0 : Int32) (w1 : Int32) (w2 : Int32) (h0 : Heap) (n0 : Nat) (v : Option Value) (h : Heap) (L : List Loc) : Prop := v = some (.int (own_f11_3 w0 w1 w2)) ∧ Fr n0 L ∧ h = h0
set_option maxRecDepth 65536 in
set_option maxHeartbeats 40000000 in
theorem rm11_3 (l : Launch) (Z : State) (aw : Array Value) (hw : ∀ d ∈ tables_1, d.before aw Z = true) (ws : List Jvm.Cond) (a0 : Addr) (k : ClassId) (w0 : Int32) (w1 : Int32) (w2 : Int32) (h0 : Heap) (n0 : Nat) (Z0 : n0 ≤ h0.size) (P0 : Arv Z h0 a0 k .byte (3 : Int32) [(.int w0), (.int w1), (.int w2)] (.int 0)) (P1 : Exa Z h0 a0 "[B") :
    MetFree l (⟨"jdk/internal/util/ArraysSupport", "vectorizedHashCode", "(Ljava/lang/Object;IIII)I"⟩ : MethodName) (head1 (Jvm.Cond.code (⟨"jdk/internal/util/ArraysSupport", "vectorizedHashCode", "(Ljava/lang/Object;IIII)I"⟩ : MethodName) jdk_48_method_4_code 5 (some .int) :: ws) ({ frames := 1, cells := 0, slots := 0, locals := 17 } : Room)) (fun a U => a = #[(.ref a0), (.int 0), (.int 3), (.int 1), (.int 8)] ∧ Z.Warmed39 U.vm ∧ U.heap = h0) (fun _ _ _ _ _ => True) (fun _ U o U' => ∃ v L, o = .returned v ∧ Q11_3 Z a0 k w0 w1 w2 h0 n0 v U'.heap L ∧ FrameEnd U o U' L ({ frames := 1, cells := 0, slots := 0, locals := 17 } : Room).cells ({ frames := 1, cells := 0, slots := 0, locals := 17 } : Room).slots) := by
  refine MetFree.of_bodySF (plainFor_of_name pn_11) hisR ?_
  intro p e s m args below meth c s₁ Bd hml0 hP hK
  obtain ⟨rfl, hZ, hh⟩ := hP
  have hx := Bd.exec
  have hby := Bd.bytes
  have hml : c.maxLocals = 5 := hml0
  have hown : s.vm.findClass "jdk/internal/util/ArraysSupport" = some m.cls := findClass_of_methodNamed Bd.named
  have hnm := (name_of_methodNamed Bd.named Bd.method).1
  have hlk : meth.locks = false := by first | exact BodyLoose.notSynchronized (by assumption) | exact Body.notSynchronized (by assumption)
  have X0 : Stand p l e ({ frames := 1, cells := 0, slots := 0, locals := 17 } : Room) s m #[(.ref a0), (.int 0), (.int 3), (.int 1), (.int 8)] below meth c s₁ [] 0 0 := Stand.of_body Bd
  have e0 : s₁.heap = h0 := by rw [← hh, Bd.state]; rfl
  have N0 := Fr.nil n0
  have K0 : Keep h0 h0 [] := Keep.refl _ _
  refine own_start (CS := (0, 0)) (Q := (Q11_3 Z a0 k w0 w1 w2 h0 n0)) (ef_11_3 m a0 (0 : Int32) (3 : Int32) (1 : Int32) (8 : Int32)) ?_
  show own_Go p e below s _ _ (s₁.setTop (mkF m 0 #[rv a0, iv 0, iv 3, iv 1, iv 8] []))
  refine own_via (fun k => XS.iload X0.here hx rfl (hb hby d11_0) rfl  k) ?_
  show own_Go p e below s _ _ (s₁.setTop (mkF m 2 #[rv a0, iv 0, iv 3, iv 1, iv 8] [(.int 8)]))
  refine own_via (fun k => XS.tswIn X0.here hx rfl (pc0 := 2) (pc' := 90) rfl (hb hby d11_2) rfl (by decide) rfl (by decide) (by decide) k) ?_
  show own_Go p e below s _ _ (s₁.setTop (mkF m 90 #[rv a0, iv 0, iv 3, iv 1, iv 8] []))
  refine own_via (fun k => XS.iloadN X0.here hx rfl (hb hby d11_90) rfl  (XS.aloadN X0.here hx rfl (hb hby d11_91) rfl rfl  k)) ?_
  show own_Go p e below s _ _ (s₁.setTop (mkF m 92 #[rv a0, iv 0, iv 3, iv 1, iv 8] [(.ref a0), (.int 1)]))
  obtain ⟨T1, X1, e1, st1⟩ := castY X0 hx hZ hown (hw _ (List.mem_of_getElem? (i := 57) rfl)) e0 (Ins.self P1) (g := (mkF m 92 #[rv a0, iv 0, iv 3, iv 1, iv 8] [(.ref a0), (.int 1)])) rfl rfl (hb hby d11_92)
  refine own_via (fun k => st1 _ k) ?_
  show own_Go p e below s _ _ (T1.setTop (mkF m 95 #[rv a0, iv 0, iv 3, iv 1, iv 8] [(.ref a0), (.int 1)]))
  refine own_via (fun k => XS.iloadN X1.here hx rfl (hb hby d11_95) rfl  (XS.iloadN X1.here hx rfl (hb hby d11_96) rfl  k)) ?_
  show own_Go p e below s _ _ (T1.setTop (mkF m 97 #[rv a0, iv 0, iv 3, iv 1, iv 8] [(.int 3), (.int 0), (.ref a0), (.int 1)]))
  obtain ⟨_, _, ⟨T2, L2, k2, n2⟩, -, X2, ⟨Lc2, hQ2, l2, y2, z2⟩, st2⟩ := Jvm.LawKit.callS X1 hx (y := (⟨"jdk/internal/util/ArraysSupport", "hashCode", "(I[BII)I"⟩ : MethodName)) hown (mvT hZ (hw _ (List.mem_of_getElem? (i := 58) rfl))) (mvT hZ (hw _ (List.mem_of_getElem? (i := 59) rfl))) (mvT hZ (hw _ (List.mem_of_getElem? (i := 44) rfl))) (mvT hZ (hw _ (List.mem_of_getElem? (i := 60) rfl))) (by decide) (backOf (W := 0) (rm12_3 l Z aw hw [] a0 k w0 w1 w2 h0 n0 Z0 P0) hZ (hw _ (List.mem_of_getElem? (i := 60) rfl)) (hw _ (List.mem_of_getElem? (i := 44) rfl)) (by decide) (by decide)) (g := (mkF m 97 #[rv a0, iv 0, iv 3, iv 1, iv 8] [(.int 3), (.int 0), (.ref a0), (.int 1)])) rfl (by rw [hml]; rfl) (argsL := [(.int 1), (.ref a0), (.int 0), (.int 3)]) (rest := []) (lenOf pd_12 rfl) rfl (by show 2 * 0 + _ ≤ _; exact Nat.le_of_eq rfl) (hb hby d11_97) (fun _ _ => ⟨rfl, e1, (by decide : 0 + 0 ≤ _), (by decide : 0 + 0 ≤ _)⟩)
  dsimp only [Pt.U, Pt.locs, Pt.cells, Pt.slots] at X2 l2 y2 z2 st2 hQ2
  subst l2 y2 z2
  obtain ⟨rfl, N2q, eh2⟩ := hQ2
  have N3 := Fr.app N0 N2q
  refine own_via (fun k => st2 _ k) ?_
  show own_Go p e below s _ _ (T2.setTop (mkF m 100 #[rv a0, iv 0, iv 3, iv 1, iv 8] [(.int (own_f12_3 w0 w1 w2))]))
  refine own_via (fun k => XS.goto X2.here hx rfl (pc0 := 100) (pc' := 157) rfl (hb hby d11_100) (by decide) (by decide) k) ?_
  show own_Go p e below s _ _ (T2.setTop (mkF m 157 #[rv a0, iv 0, iv 3, iv 1, iv 8] [(.int (own_f12_3 w0 w1 w2))]))
  exact own_retI X2 hx hlk Bd.returns (hb hby d11_157) (Q := (Q11_3 Z a0 k w0 w1 w2 h0 n0)) ⟨(congrArg (fun z => some (Value.int z)) (show (own_f12_3 w0 w1 w2) = (own_f11_3 w0 w1 w2) from rfl)), N3, eh2⟩ (by decide) (by decide)
theorem d10_0 : decode jdk_65_method_153_code 0 = .ok (.aload_n 0, 1) := by decide +kernel
theorem d10_1 : decode jdk_65_method_153_code 1 = .ok (.ifnonnull 5, 3) := by decide +kernel
theorem d10_6 : decode jdk_65_method_153_code 6 = .ok (.aload_n 0, 1) := by decide +kernel
theorem d10_7 : decode jdk_65_method_153_code 7 = .ok (.arraylength, 1) := by decide +kernel
theorem d10_8 : decode jdk_65_method_153_code 8 = .ok (.lookupswitch 41 #[(0, 28), (1, 32)], 28) := by decide +kernel
theorem d10_36 : decode jdk_65_method_153_code 36 = .ok (.iconst 1, 1) := by decide +kernel
theorem d10_37 : decode jdk_65_method_153_code 37 = .ok (.goto 22, 3) := by decide +kernel
theorem d10_59 : decode jdk_65_method_153_code 59 = .ok (.ireturn, 1) := by decide +kernel
theorem pn_10 : plainName "java/util/Arrays" = true := by first | (simp [plainName, overriddenIn]; done) | decide +kernel
theorem ef_10_0 (m : MethodId) (x0 : Addr) : entryFrame m #[(.ref x0)] 1 = mkF m 0 #[rv x0] [] := by first | (simp [entryFrame, mkF, argsToLocals, Value.category]; done) | rfl
def own_f10_0  : Int32 := (1 : Int32)
def Q10_0 (Z : State) (a0 : Addr) (k : ClassId) (h0 : Heap) (n0 : Nat) (v : Option Value) (h : Heap) (L : List Loc) : Prop := v = some (.int own_f10_0) ∧ Fr n0 L ∧ h = h0
set_option maxRecDepth 65536 in
set_option maxHeartbeats 40000000 in
theorem rm10_0 (l : Launch) (Z : State) (aw : Array Value) (hw : ∀ d ∈ tables_1, d.before aw Z = true) (ws : List Jvm.Cond) (a0 : Addr) (k : ClassId) (h0 : Heap) (n0 : Nat) (Z0 : n0 ≤ h0.size) (P0 : Arv Z h0 a0 k .byte (0 : Int32) [] (.int 0)) (P1 : Exa Z h0 a0 "[B") :
    MetFree l (⟨"java/util/Arrays", "hashCode", "([B)I"⟩ : MethodName) (head1 (Jvm.Cond.code (⟨"java/util/Arrays", "hashCode", "([B)I"⟩ : MethodName) jdk_65_method_153_code 1 (some .int) :: ws) ({ frames := 0, cells := 0, slots := 0, locals := 0 } : Room)) (fun a U => a = #[(.ref a0)] ∧ Z.Warmed39 U.vm ∧ U.heap = h0) (fun _ _ _ _ _ => True) (fun _ U o U' => ∃ v L, o = .returned v ∧ Q10_0 Z a0 k h0 n0 v U'.heap L ∧ FrameEnd U o U' L ({ frames := 0, cells := 0, slots := 0, locals := 0 } : Room).cells ({ frames := 0, cells := 0, slots := 0, locals := 0 } : Room).slots) := by
  refine MetFree.of_bodySF (plainFor_of_name pn_10) hisR ?_
  intro p e s m args below meth c s₁ Bd hml0 hP hK
  obtain ⟨rfl, hZ, hh⟩ := hP
  have hx := Bd.exec
  have hby := Bd.bytes
  have hml : c.maxLocals = 1 := hml0
  have hown : s.vm.findClass "java/util/Arrays" = some m.cls := findClass_of_methodNamed Bd.named
  have hnm := (name_of_methodNamed Bd.named Bd.method).1
  have hlk : meth.locks = false := by first | exact BodyLoose.notSynchronized (by assumption) | exact Body.notSynchronized (by assumption)
  have X0 : Stand p l e ({ frames := 0, cells := 0, slots := 0, locals := 0 } : Room) s m #[(.ref a0)] below meth c s₁ [] 0 0 := Stand.of_body Bd
  have e0 : s₁.heap = h0 := by rw [← hh, Bd.state]; rfl
  have N0 := Fr.nil n0
  have K0 : Keep h0 h0 [] := Keep.refl _ _
  refine own_start (CS := (0, 0)) (Q := (Q10_0 Z a0 k h0 n0)) (ef_10_0 m a0) ?_
  show own_Go p e below s _ _ (s₁.setTop (mkF m 0 #[rv a0] []))
  refine own_via (fun k => XS.aloadN X0.here hx rfl (hb hby d10_0) rfl rfl  k) ?_
  show own_Go p e below s _ _ (s₁.setTop (mkF m 1 #[rv a0] [(.ref a0)]))
  refine own_via (fun k => XS.ifnonnullYes X0.here hx rfl (pc0 := 1) (pc' := 6) rfl (hb hby d10_1) rfl (by decide) (by decide) k) ?_
  show own_Go p e below s _ _ (s₁.setTop (mkF m 6 #[rv a0] []))
  refine own_via (fun k => XS.aloadN X0.here hx rfl (hb hby d10_6) rfl rfl  k) ?_
  show own_Go p e below s _ _ (s₁.setTop (mkF m 7 #[rv a0] [(.ref a0)]))
  obtain ⟨cl1, Ar1, -, S1, NN1, -, -⟩ := id P0
  refine own_via (fun k => X0.arraylength hx (by rw [e0]; exact Ar1.1) (State.isArrayOf_alike hZ.alike Ar1.2.1) (g := (mkF m 7 #[rv a0] [(.ref a0)])) rfl rfl (hb hby d10_7) _ k) ?_
  rw [len_of S1 NN1]
  show own_Go p e below s _ _ (s₁.setTop (mkF m 8 #[rv a0] [(.int 0)]))
  refine own_via (fun k => X0.lookupswitchHit hx (g := (mkF m 8 #[rv a0] [(.int 0)])) rfl (k := (0 : Int32)) (rest := []) rfl (hb hby d10_8) (by decide) (a := 0) (off := 28) (by decide) (by show (0 : Int) ≤ (8 : Nat) + 28; decide) _ k) ?_
  show own_Go p e below s _ _ (s₁.setTop (mkF m 36 #[rv a0] []))
  refine own_via (fun k => XS.iconst X0.here hx rfl (hb hby d10_36) (XS.goto X0.here hx rfl (pc0 := 37) (pc' := 59) rfl (hb hby d10_37) (by decide) (by decide) k)) ?_
  show own_Go p e below s _ _ (s₁.setTop (mkF m 59 #[rv a0] [(.int 1)]))
  exact own_retI X0 hx hlk Bd.returns (hb hby d10_59) (Q := (Q10_0 Z a0 k h0 n0)) ⟨(congrArg (fun z => some (Value.int z)) (show (1 : Int32) = own_f10_0 from rfl)), N0, e0⟩ (by decide) (by decide)
theorem d10_40 : decode jdk_65_method_153_code 40 = .ok (.bipush 31, 2) := by decide +kernel
theorem d10_42 : decode jdk_65_method_153_code 42 = .ok (.aload_n 0, 1) := by decide +kernel
theorem d10_43 : decode jdk_65_method_153_code 43 = .ok (.iconst 0, 1) := by decide +kernel
theorem d10_44 : decode jdk_65_method_153_code 44 = .ok (.baload, 1) := by decide +kernel
theorem d10_45 : decode jdk_65_method_153_code 45 = .ok (.iadd, 1) := by decide +kernel
theorem d10_46 : decode jdk_65_method_153_code 46 = .ok (.goto 13, 3) := by decide +kernel
theorem ef_10_1 (m : MethodId) (x0 : Addr) : entryFrame m #[(.ref x0)] 1 = mkF m 0 #[rv x0] [] := by first | (simp [entryFrame, mkF, argsToLocals, Value.category]; done) | rfl
def own_f10_1 (w0 : Int32) : Int32 := ((31 : Int32) + w0)
def Q10_1 (Z : State) (a0 : Addr) (k : ClassId) (w0 : Int32) (h0 : Heap) (n0 : Nat) (v : Option Value) (h : Heap) (L : List Loc) : Prop := v = some (.int (own_f10_1 w0)) ∧ Fr n0 L ∧ h = h0
set_option maxRecDepth 65536 in
set_option maxHeartbeats 40000000 in
theorem rm10_1 (l : Launch) (Z : State) (aw : Array Value) (hw : ∀ d ∈ tables_1, d.before aw Z = true) (ws : List Jvm.Cond) (a0 : Addr) (k : ClassId) (w0 : Int32) (h0 : Heap) (n0 : Nat) (Z0 : n0 ≤ h0.size) (P0 : Arv Z h0 a0 k .byte (1 : Int32) [(.int w0)] (.int 0)) (P1 : Exa Z h0 a0 "[B") :
    MetFree l (⟨"java/util/Arrays", "hashCode", "([B)I"⟩ : MethodName) (head1 (Jvm.Cond.code (⟨"java/util/Arrays", "hashCode", "([B)I"⟩ : MethodName) jdk_65_method_153_code 1 (some .int) :: ws) ({ frames := 0, cells := 0, slots := 0, locals := 0 } : Room)) (fun a U => a = #[(.ref a0)] ∧ Z.Warmed39 U.vm ∧ U.heap = h0) (fun _ _ _ _ _ => True) (fun _ U o U' => ∃ v L, o = .returned v ∧ Q10_1 Z a0 k w0 h0 n0 v U'.heap L ∧ FrameEnd U o U' L ({ frames := 0, cells := 0, slots := 0, locals := 0 } : Room).cells ({ frames := 0, cells := 0, slots := 0, locals := 0 } : Room).slots) := by
  refine MetFree.of_bodySF (plainFor_of_name pn_10) hisR ?_
  intro p e s m args below meth c s₁ Bd hml0 hP hK
  obtain ⟨rfl, hZ, hh⟩ := hP
  have hx := Bd.exec
  have hby := Bd.bytes
  have hml : c.maxLocals = 1 := hml0
  have hown : s.vm.findClass "java/util/Arrays" = some m.cls := findClass_of_methodNamed Bd.named
  have hnm := (name_of_methodNamed Bd.named Bd.method).1
  have hlk : meth.locks = false := by first | exact BodyLoose.notSynchronized (by assumption) | exact Body.notSynchronized (by assumption)
  have X0 : Stand p l e ({ frames := 0, cells := 0, slots := 0, locals := 0 } : Room) s m #[(.ref a0)] below meth c s₁ [] 0 0 := Stand.of_body Bd
  have e0 : s₁.heap = h0 := by rw [← hh, Bd.state]; rfl
  have N0 := Fr.nil n0
  have K0 : Keep h0 h0 [] := Keep.refl _ _
  refine own_start (CS := (0, 0)) (Q := (Q10_1 Z a0 k w0 h0 n0)) (ef_10_1 m a0) ?_
  show own_Go p e below s _ _ (s₁.setTop (mkF m 0 #[rv a0] []))
  refine own_via (fun k => XS.aloadN X0.here hx rfl (hb hby d10_0) rfl rfl  k) ?_
  show own_Go p e below s _ _ (s₁.setTop (mkF m 1 #[rv a0] [(.ref a0)]))
  refine own_via (fun k => XS.ifnonnullYes X0.here hx rfl (pc0 := 1) (pc' := 6) rfl (hb hby d10_1) rfl (by decide) (by decide) k) ?_
  show own_Go p e below s _ _ (s₁.setTop (mkF m 6 #[rv a0] []))
  refine own_via (fun k => XS.aloadN X0.here hx rfl (hb hby d10_6) rfl rfl  k) ?_
  show own_Go p e below s _ _ (s₁.setTop (mkF m 7 #[rv a0] [(.ref a0)]))
  obtain ⟨cl1, Ar1, -, S1, NN1, -, -⟩ := id P0
  refine own_via (fun k => X0.arraylength hx (by rw [e0]; exact Ar1.1) (State.isArrayOf_alike hZ.alike Ar1.2.1) (g := (mkF m 7 #[rv a0] [(.ref a0)])) rfl rfl (hb hby d10_7) _ k) ?_
  rw [len_of S1 NN1]
  show own_Go p e below s _ _ (s₁.setTop (mkF m 8 #[rv a0] [(.int 1)]))
  refine own_via (fun k => X0.lookupswitchHit hx (g := (mkF m 8 #[rv a0] [(.int 1)])) rfl (k := (1 : Int32)) (rest := []) rfl (hb hby d10_8) (by decide) (a := 1) (off := 32) (by decide) (by show (0 : Int) ≤ (8 : Nat) + 32; decide) _ k) ?_
  show own_Go p e below s _ _ (s₁.setTop (mkF m 40 #[rv a0] []))
  refine own_via (fun k => XS.bipush X0.here hx rfl (hb hby d10_40) (XS.aloadN X0.here hx rfl (hb hby d10_42) rfl rfl  (XS.iconst X0.here hx rfl (hb hby d10_43) k))) ?_
  show own_Go p e below s _ _ (s₁.setTop (mkF m 44 #[rv a0] [(.int 0), (.ref a0), (.int 31)]))
  obtain ⟨cl2, Ar2, q2, S2, NN2, H2, G2⟩ := id P0
  have hin2 : ¬ ((0 : Int32) < 0 ∨ cl2.slots.size ≤ ((0 : Int32)).toNatClampNeg) := inb_of S2 ⟨by decide, by decide⟩
  have hat2 : cl2.slots[((0 : Int32)).toNatClampNeg]? = some (.int w0) := H2.at hin2 rfl
  refine own_via (fun k => X0.baloadBytes hx (j := (0 : Int32)) (v := (.int w0)) (by rw [e0]; exact Ar2.1) (State.isArrayOf_alike hZ.alike Ar2.2.1) Ar2.2.2 hin2 hat2 (g := (mkF m 44 #[rv a0] [(.int 0), (.ref a0), (.int 31)])) rfl rfl (hb hby d10_44) _ k) ?_
  show own_Go p e below s _ _ (s₁.setTop (mkF m 45 #[rv a0] [(.int w0), (.int 31)]))
  refine own_via (fun k => XS.iadd X0.here hx rfl (hb hby d10_45) rfl (XS.goto X0.here hx rfl (pc0 := 46) (pc' := 59) rfl (hb hby d10_46) (by decide) (by decide) k)) ?_
  show own_Go p e below s _ _ (s₁.setTop (mkF m 59 #[rv a0] [(.int ((31 : Int32) + w0))]))
  exact own_retI X0 hx hlk Bd.returns (hb hby d10_59) (Q := (Q10_1 Z a0 k w0 h0 n0)) ⟨(congrArg (fun z => some (Value.int z)) (show ((31 : Int32) + w0) = (own_f10_1 w0) from rfl)), N0, e0⟩ (by decide) (by decide)
theorem d10_49 : decode jdk_65_method_153_code 49 = .ok (.aload_n 0, 1) := by decide +kernel
theorem d10_50 : decode jdk_65_method_153_code 50 = .ok (.iconst 0, 1) := by decide +kernel
theorem d10_51 : decode jdk_65_method_153_code 51 = .ok (.aload_n 0, 1) := by decide +kernel
theorem d10_52 : decode jdk_65_method_153_code 52 = .ok (.arraylength, 1) := by decide +kernel
theorem d10_53 : decode jdk_65_method_153_code 53 = .ok (.iconst 1, 1) := by decide +kernel
theorem d10_54 : decode jdk_65_method_153_code 54 = .ok (.bipush 8, 2) := by decide +kernel
theorem d10_56 : decode jdk_65_method_153_code 56 = .ok (.invokestatic 379, 3) := by decide +kernel
theorem pd_11 : parseMethodDescriptor "(Ljava/lang/Object;IIII)I" = some ⟨[(.object "java/lang/Object"), .int, .int, .int, .int], some .int⟩ := by decide +kernel
theorem ef_10_2 (m : MethodId) (x0 : Addr) : entryFrame m #[(.ref x0)] 1 = mkF m 0 #[rv x0] [] := by first | (simp [entryFrame, mkF, argsToLocals, Value.category]; done) | rfl
def own_f10_2 (w0 : Int32) (w1 : Int32) : Int32 := (own_f11_2 w0 w1)
def Q10_2 (Z : State) (a0 : Addr) (k : ClassId) (w0 : Int32) (w1 : Int32) (h0 : Heap) (n0 : Nat) (v : Option Value) (h : Heap) (L : List Loc) : Prop := v = some (.int (own_f10_2 w0 w1)) ∧ Fr n0 L ∧ h = h0
set_option maxRecDepth 65536 in
set_option maxHeartbeats 40000000 in
theorem rm10_2 (l : Launch) (Z : State) (aw : Array Value) (hw : ∀ d ∈ tables_1, d.before aw Z = true) (ws : List Jvm.Cond) (a0 : Addr) (k : ClassId) (w0 : Int32) (w1 : Int32) (h0 : Heap) (n0 : Nat) (Z0 : n0 ≤ h0.size) (P0 : Arv Z h0 a0 k .byte (2 : Int32) [(.int w0), (.int w1)] (.int 0)) (P1 : Exa Z h0 a0 "[B") :
    MetFree l (⟨"java/util/Arrays", "hashCode", "([B)I"⟩ : MethodName) (head1 (Jvm.Cond.code (⟨"java/util/Arrays", "hashCode", "([B)I"⟩ : MethodName) jdk_65_method_153_code 1 (some .int) :: ws) ({ frames := 2, cells := 0, slots := 0, locals := 33 } : Room)) (fun a U => a = #[(.ref a0)] ∧ Z.Warmed39 U.vm ∧ U.heap = h0) (fun _ _ _ _ _ => True) (fun _ U o U' => ∃ v L, o = .returned v ∧ Q10_2 Z a0 k w0 w1 h0 n0 v U'.heap L ∧ FrameEnd U o U' L ({ frames := 2, cells := 0, slots := 0, locals := 33 } : Room).cells ({ frames := 2, cells := 0, slots := 0, locals := 33 } : Room).slots) := by
  refine MetFree.of_bodySF (plainFor_of_name pn_10) hisR ?_
  intro p e s m args below meth c s₁ Bd hml0 hP hK
  obtain ⟨rfl, hZ, hh⟩ := hP
  have hx := Bd.exec
  have hby := Bd.bytes
  have hml : c.maxLocals = 1 := hml0
  have hown : s.vm.findClass "java/util/Arrays" = some m.cls := findClass_of_methodNamed Bd.named
  have hnm := (name_of_methodNamed Bd.named Bd.method).1
  have hlk : meth.locks = false := by first | exact BodyLoose.notSynchronized (by assumption) | exact Body.notSynchronized (by assumption)
  have X0 : Stand p l e ({ frames := 2, cells := 0, slots := 0, locals := 33 } : Room) s m #[(.ref a0)] below meth c s₁ [] 0 0 := Stand.of_body Bd
  have e0 : s₁.heap = h0 := by rw [← hh, Bd.state]; rfl
  have N0 := Fr.nil n0
  have K0 : Keep h0 h0 [] := Keep.refl _ _
  refine own_start (CS := (0, 0)) (Q := (Q10_2 Z a0 k w0 w1 h0 n0)) (ef_10_2 m a0) ?_
  show own_Go p e below s _ _ (s₁.setTop (mkF m 0 #[rv a0] []))
  refine own_via (fun k => XS.aloadN X0.here hx rfl (hb hby d10_0) rfl rfl  k) ?_
  show own_Go p e below s _ _ (s₁.setTop (mkF m 1 #[rv a0] [(.ref a0)]))
  refine own_via (fun k => XS.ifnonnullYes X0.here hx rfl (pc0 := 1) (pc' := 6) rfl (hb hby d10_1) rfl (by decide) (by decide) k) ?_
  show own_Go p e below s _ _ (s₁.setTop (mkF m 6 #[rv a0] []))
  refine own_via (fun k => XS.aloadN X0.here hx rfl (hb hby d10_6) rfl rfl  k) ?_
  show own_Go p e below s _ _ (s₁.setTop (mkF m 7 #[rv a0] [(.ref a0)]))
  obtain ⟨cl1, Ar1, -, S1, NN1, -, -⟩ := id P0
  refine own_via (fun k => X0.arraylength hx (by rw [e0]; exact Ar1.1) (State.isArrayOf_alike hZ.alike Ar1.2.1) (g := (mkF m 7 #[rv a0] [(.ref a0)])) rfl rfl (hb hby d10_7) _ k) ?_
  rw [len_of S1 NN1]
  show own_Go p e below s _ _ (s₁.setTop (mkF m 8 #[rv a0] [(.int 2)]))
  refine own_via (fun k => X0.lookupswitchMiss hx (g := (mkF m 8 #[rv a0] [(.int 2)])) rfl (k := (2 : Int32)) (rest := []) rfl (hb hby d10_8) (by decide) (by decide) (by show (0 : Int) ≤ (8 : Nat) + 41; decide) _ k) ?_
  show own_Go p e below s _ _ (s₁.setTop (mkF m 49 #[rv a0] []))
  refine own_via (fun k => XS.aloadN X0.here hx rfl (hb hby d10_49) rfl rfl  (XS.iconst X0.here hx rfl (hb hby d10_50) (XS.aloadN X0.here hx rfl (hb hby d10_51) rfl rfl  k))) ?_
  show own_Go p e below s _ _ (s₁.setTop (mkF m 52 #[rv a0] [(.ref a0), (.int 0), (.ref a0)]))
  obtain ⟨cl2, Ar2, -, S2, NN2, -, -⟩ := id P0
  refine own_via (fun k => X0.arraylength hx (by rw [e0]; exact Ar2.1) (State.isArrayOf_alike hZ.alike Ar2.2.1) (g := (mkF m 52 #[rv a0] [(.ref a0), (.int 0), (.ref a0)])) rfl rfl (hb hby d10_52) _ k) ?_
  rw [len_of S2 NN2]
  show own_Go p e below s _ _ (s₁.setTop (mkF m 53 #[rv a0] [(.int 2), (.int 0), (.ref a0)]))
  refine own_via (fun k => XS.iconst X0.here hx rfl (hb hby d10_53) (XS.bipush X0.here hx rfl (hb hby d10_54) k)) ?_
  show own_Go p e below s _ _ (s₁.setTop (mkF m 56 #[rv a0] [(.int 8), (.int 1), (.int 2), (.int 0), (.ref a0)]))
  obtain ⟨_, _, ⟨T3, L3, k3, n3⟩, -, X3, ⟨Lc3, hQ3, l3, y3, z3⟩, st3⟩ := Jvm.LawKit.callS X0 hx (y := (⟨"jdk/internal/util/ArraysSupport", "vectorizedHashCode", "(Ljava/lang/Object;IIII)I"⟩ : MethodName)) hown (mvT hZ (hw _ (List.mem_of_getElem? (i := 54) rfl))) (mvT hZ (hw _ (List.mem_of_getElem? (i := 55) rfl))) (mvT hZ (hw _ (List.mem_of_getElem? (i := 44) rfl))) (mvT hZ (hw _ (List.mem_of_getElem? (i := 56) rfl))) (by decide) (backOf (W := 0) (rm11_2 l Z aw hw [] a0 k w0 w1 h0 n0 Z0 P0 P1) hZ (hw _ (List.mem_of_getElem? (i := 56) rfl)) (hw _ (List.mem_of_getElem? (i := 44) rfl)) (by decide) (by decide)) (g := (mkF m 56 #[rv a0] [(.int 8), (.int 1), (.int 2), (.int 0), (.ref a0)])) rfl (by rw [hml]; rfl) (argsL := [(.ref a0), (.int 0), (.int 2), (.int 1), (.int 8)]) (rest := []) (lenOf pd_11 rfl) rfl (by show 2 * 0 + _ ≤ _; exact Nat.le_of_eq rfl) (hb hby d10_56) (fun _ _ => ⟨rfl, e0, (by decide : 0 + 0 ≤ _), (by decide : 0 + 0 ≤ _)⟩)
  dsimp only [Pt.U, Pt.locs, Pt.cells, Pt.slots] at X3 l3 y3 z3 st3 hQ3
  subst l3 y3 z3
  obtain ⟨rfl, N3q, eh3⟩ := hQ3
  have N4 := Fr.app N0 N3q
  refine own_via (fun k => st3 _ k) ?_
  show own_Go p e below s _ _ (T3.setTop (mkF m 59 #[rv a0] [(.int (own_f11_2 w0 w1))]))
  exact own_retI X3 hx hlk Bd.returns (hb hby d10_59) (Q := (Q10_2 Z a0 k w0 w1 h0 n0)) ⟨(congrArg (fun z => some (Value.int z)) (show (own_f11_2 w0 w1) = (own_f10_2 w0 w1) from rfl)), N4, eh3⟩ (by decide) (by decide)
theorem ef_10_3 (m : MethodId) (x0 : Addr) : entryFrame m #[(.ref x0)] 1 = mkF m 0 #[rv x0] [] := by first | (simp [entryFrame, mkF, argsToLocals, Value.category]; done) | rfl
def own_f10_3 (w0 : Int32) (w1 : Int32) (w2 : Int32) : Int32 := (own_f11_3 w0 w1 w2)
def Q10_3 (Z : State) (a0 : Addr) (k : ClassId) (w0 : Int32) (w1 : Int32) (w2 : Int32) (h0 : Heap) (n0 : Nat) (v : Option Value) (h : Heap) (L : List Loc) : Prop := v = some (.int (own_f10_3 w0 w1 w2)) ∧ Fr n0 L ∧ h = h0
set_option maxRecDepth 65536 in
set_option maxHeartbeats 40000000 in
theorem rm10_3 (l : Launch) (Z : State) (aw : Array Value) (hw : ∀ d ∈ tables_1, d.before aw Z = true) (ws : List Jvm.Cond) (a0 : Addr) (k : ClassId) (w0 : Int32) (w1 : Int32) (w2 : Int32) (h0 : Heap) (n0 : Nat) (Z0 : n0 ≤ h0.size) (P0 : Arv Z h0 a0 k .byte (3 : Int32) [(.int w0), (.int w1), (.int w2)] (.int 0)) (P1 : Exa Z h0 a0 "[B") :
    MetFree l (⟨"java/util/Arrays", "hashCode", "([B)I"⟩ : MethodName) (head1 (Jvm.Cond.code (⟨"java/util/Arrays", "hashCode", "([B)I"⟩ : MethodName) jdk_65_method_153_code 1 (some .int) :: ws) ({ frames := 2, cells := 0, slots := 0, locals := 33 } : Room)) (fun a U => a = #[(.ref a0)] ∧ Z.Warmed39 U.vm ∧ U.heap = h0) (fun _ _ _ _ _ => True) (fun _ U o U' => ∃ v L, o = .returned v ∧ Q10_3 Z a0 k w0 w1 w2 h0 n0 v U'.heap L ∧ FrameEnd U o U' L ({ frames := 2, cells := 0, slots := 0, locals := 33 } : Room).cells ({ frames := 2, cells := 0, slots := 0, locals := 33 } : Room).slots) := by
  refine MetFree.of_bodySF (plainFor_of_name pn_10) hisR ?_
  intro p e s m args below meth c s₁ Bd hml0 hP hK
  obtain ⟨rfl, hZ, hh⟩ := hP
  have hx := Bd.exec
  have hby := Bd.bytes
  have hml : c.maxLocals = 1 := hml0
  have hown : s.vm.findClass "java/util/Arrays" = some m.cls := findClass_of_methodNamed Bd.named
  have hnm := (name_of_methodNamed Bd.named Bd.method).1
  have hlk : meth.locks = false := by first | exact BodyLoose.notSynchronized (by assumption) | exact Body.notSynchronized (by assumption)
  have X0 : Stand p l e ({ frames := 2, cells := 0, slots := 0, locals := 33 } : Room) s m #[(.ref a0)] below meth c s₁ [] 0 0 := Stand.of_body Bd
  have e0 : s₁.heap = h0 := by rw [← hh, Bd.state]; rfl
  have N0 := Fr.nil n0
  have K0 : Keep h0 h0 [] := Keep.refl _ _
  refine own_start (CS := (0, 0)) (Q := (Q10_3 Z a0 k w0 w1 w2 h0 n0)) (ef_10_3 m a0) ?_
  show own_Go p e below s _ _ (s₁.setTop (mkF m 0 #[rv a0] []))
  refine own_via (fun k => XS.aloadN X0.here hx rfl (hb hby d10_0) rfl rfl  k) ?_
  show own_Go p e below s _ _ (s₁.setTop (mkF m 1 #[rv a0] [(.ref a0)]))
  refine own_via (fun k => XS.ifnonnullYes X0.here hx rfl (pc0 := 1) (pc' := 6) rfl (hb hby d10_1) rfl (by decide) (by decide) k) ?_
  show own_Go p e below s _ _ (s₁.setTop (mkF m 6 #[rv a0] []))
  refine own_via (fun k => XS.aloadN X0.here hx rfl (hb hby d10_6) rfl rfl  k) ?_
  show own_Go p e below s _ _ (s₁.setTop (mkF m 7 #[rv a0] [(.ref a0)]))
  obtain ⟨cl1, Ar1, -, S1, NN1, -, -⟩ := id P0
  refine own_via (fun k => X0.arraylength hx (by rw [e0]; exact Ar1.1) (State.isArrayOf_alike hZ.alike Ar1.2.1) (g := (mkF m 7 #[rv a0] [(.ref a0)])) rfl rfl (hb hby d10_7) _ k) ?_
  rw [len_of S1 NN1]
  show own_Go p e below s _ _ (s₁.setTop (mkF m 8 #[rv a0] [(.int 3)]))
  refine own_via (fun k => X0.lookupswitchMiss hx (g := (mkF m 8 #[rv a0] [(.int 3)])) rfl (k := (3 : Int32)) (rest := []) rfl (hb hby d10_8) (by decide) (by decide) (by show (0 : Int) ≤ (8 : Nat) + 41; decide) _ k) ?_
  show own_Go p e below s _ _ (s₁.setTop (mkF m 49 #[rv a0] []))
  refine own_via (fun k => XS.aloadN X0.here hx rfl (hb hby d10_49) rfl rfl  (XS.iconst X0.here hx rfl (hb hby d10_50) (XS.aloadN X0.here hx rfl (hb hby d10_51) rfl rfl  k))) ?_
  show own_Go p e below s _ _ (s₁.setTop (mkF m 52 #[rv a0] [(.ref a0), (.int 0), (.ref a0)]))
  obtain ⟨cl2, Ar2, -, S2, NN2, -, -⟩ := id P0
  refine own_via (fun k => X0.arraylength hx (by rw [e0]; exact Ar2.1) (State.isArrayOf_alike hZ.alike Ar2.2.1) (g := (mkF m 52 #[rv a0] [(.ref a0), (.int 0), (.ref a0)])) rfl rfl (hb hby d10_52) _ k) ?_
  rw [len_of S2 NN2]
  show own_Go p e below s _ _ (s₁.setTop (mkF m 53 #[rv a0] [(.int 3), (.int 0), (.ref a0)]))
  refine own_via (fun k => XS.iconst X0.here hx rfl (hb hby d10_53) (XS.bipush X0.here hx rfl (hb hby d10_54) k)) ?_
  show own_Go p e below s _ _ (s₁.setTop (mkF m 56 #[rv a0] [(.int 8), (.int 1), (.int 3), (.int 0), (.ref a0)]))
  obtain ⟨_, _, ⟨T3, L3, k3, n3⟩, -, X3, ⟨Lc3, hQ3, l3, y3, z3⟩, st3⟩ := Jvm.LawKit.callS X0 hx (y := (⟨"jdk/internal/util/ArraysSupport", "vectorizedHashCode", "(Ljava/lang/Object;IIII)I"⟩ : MethodName)) hown (mvT hZ (hw _ (List.mem_of_getElem? (i := 54) rfl))) (mvT hZ (hw _ (List.mem_of_getElem? (i := 55) rfl))) (mvT hZ (hw _ (List.mem_of_getElem? (i := 44) rfl))) (mvT hZ (hw _ (List.mem_of_getElem? (i := 56) rfl))) (by decide) (backOf (W := 0) (rm11_3 l Z aw hw [] a0 k w0 w1 w2 h0 n0 Z0 P0 P1) hZ (hw _ (List.mem_of_getElem? (i := 56) rfl)) (hw _ (List.mem_of_getElem? (i := 44) rfl)) (by decide) (by decide)) (g := (mkF m 56 #[rv a0] [(.int 8), (.int 1), (.int 3), (.int 0), (.ref a0)])) rfl (by rw [hml]; rfl) (argsL := [(.ref a0), (.int 0), (.int 3), (.int 1), (.int 8)]) (rest := []) (lenOf pd_11 rfl) rfl (by show 2 * 0 + _ ≤ _; exact Nat.le_of_eq rfl) (hb hby d10_56) (fun _ _ => ⟨rfl, e0, (by decide : 0 + 0 ≤ _), (by decide : 0 + 0 ≤ _)⟩)
  dsimp only [Pt.U, Pt.locs, Pt.cells, Pt.slots] at X3 l3 y3 z3 st3 hQ3
  subst l3 y3 z3
  obtain ⟨rfl, N3q, eh3⟩ := hQ3
  have N4 := Fr.app N0 N3q
  refine own_via (fun k => st3 _ k) ?_
  show own_Go p e below s _ _ (T3.setTop (mkF m 59 #[rv a0] [(.int (own_f11_3 w0 w1 w2))]))
  exact own_retI X3 hx hlk Bd.returns (hb hby d10_59) (Q := (Q10_3 Z a0 k w0 w1 w2 h0 n0)) ⟨(congrArg (fun z => some (Value.int z)) (show (own_f11_3 w0 w1 w2) = (own_f10_3 w0 w1 w2) from rfl)), N4, eh3⟩ (by decide) (by decide)
theorem d9_0 : decode prog_14_method_6_code 0 = .ok (.aload_n 0, 1) := by decide +kernel
theorem d9_1 : decode prog_14_method_6_code 1 = .ok (.getfield 7, 3) := by decide +kernel
theorem d9_4 : decode prog_14_method_6_code 4 = .ok (.invokestatic 55, 3) := by decide +kernel
theorem d9_7 : decode prog_14_method_6_code 7 = .ok (.ireturn, 1) := by decide +kernel
theorem pn_9 : plainName "com/example/grant3/grant3/policy/Etag" = true := by first | (simp [plainName, overriddenIn]; done) | decide +kernel
theorem pd_10 : parseMethodDescriptor "([B)I" = some ⟨[(.array .byte)], some .int⟩ := by decide +kernel
theorem ef_9_0 (m : MethodId) (x0 : Addr) : entryFrame m #[(.ref x0)] 1 = mkF m 0 #[rv x0] [] := by first | (simp [entryFrame, mkF, argsToLocals, Value.category]; done) | rfl
def own_f9_0  : Int32 := own_f10_0
def Q9_0 (Z : State) (a0 : Addr) (c0 : Addr) (k : ClassId) (h0 : Heap) (n0 : Nat) (v : Option Value) (h : Heap) (L : List Loc) : Prop := v = some (.int own_f9_0) ∧ Fr n0 L ∧ h = h0
set_option maxRecDepth 65536 in
set_option maxHeartbeats 40000000 in
theorem rm9_0 (l : Launch) (Z : State) (aw : Array Value) (hw : ∀ d ∈ tables_1, d.before aw Z = true) (ws : List Jvm.Cond) (a0 : Addr) (c0 : Addr) (k : ClassId) (h0 : Heap) (n0 : Nat) (Z0 : n0 ≤ h0.size) (P0 : Fld Z h0 a0 "com/example/grant3/grant3/policy/Etag" "bytes" "[B" (.ref c0)) (P1 : Arv Z h0 c0 k .byte (0 : Int32) [] (.int 0)) (P2 : Exa Z h0 c0 "[B") :
    MetFree l (⟨"com/example/grant3/grant3/policy/Etag", "hashCode", "()I"⟩ : MethodName) (head1 (Jvm.Cond.code (⟨"com/example/grant3/grant3/policy/Etag", "hashCode", "()I"⟩ : MethodName) prog_14_method_6_code 1 (some .int) :: ws) ({ frames := 1, cells := 0, slots := 0, locals := 12 } : Room)) (fun a U => a = #[(.ref a0)] ∧ Z.Warmed39 U.vm ∧ U.heap = h0) (fun _ _ _ _ _ => True) (fun _ U o U' => ∃ v L, o = .returned v ∧ Q9_0 Z a0 c0 k h0 n0 v U'.heap L ∧ FrameEnd U o U' L ({ frames := 1, cells := 0, slots := 0, locals := 12 } : Room).cells ({ frames := 1, cells := 0, slots := 0, locals := 12 } : Room).slots) := by
  refine MetFree.of_bodySF (plainFor_of_name pn_9) hisR ?_
  intro p e s m args below meth c s₁ Bd hml0 hP hK
  obtain ⟨rfl, hZ, hh⟩ := hP
  have hx := Bd.exec
  have hby := Bd.bytes
  have hml : c.maxLocals = 1 := hml0
  have hown : s.vm.findClass "com/example/grant3/grant3/policy/Etag" = some m.cls := findClass_of_methodNamed Bd.named
  have hnm := (name_of_methodNamed Bd.named Bd.method).1
  have hlk : meth.locks = false := by first | exact BodyLoose.notSynchronized (by assumption) | exact Body.notSynchronized (by assumption)
  have X0 : Stand p l e ({ frames := 1, cells := 0, slots := 0, locals := 12 } : Room) s m #[(.ref a0)] below meth c s₁ [] 0 0 := Stand.of_body Bd
  have e0 : s₁.heap = h0 := by rw [← hh, Bd.state]; rfl
  have N0 := Fr.nil n0
  have K0 : Keep h0 h0 [] := Keep.refl _ _
  refine own_start (CS := (0, 0)) (Q := (Q9_0 Z a0 c0 k h0 n0)) (ef_9_0 m a0) ?_
  show own_Go p e below s _ _ (s₁.setTop (mkF m 0 #[rv a0] []))
  refine own_via (fun k => XS.aloadN X0.here hx rfl (hb hby d9_0) rfl rfl  k) ?_
  show own_Go p e below s _ _ (s₁.setTop (mkF m 1 #[rv a0] [(.ref a0)]))
  obtain ⟨T1, X1, e1, st1⟩ := getF X0 hx hZ hown (host := "") (Or.inl (hw _ (List.mem_of_getElem? (i := 27) rfl))) Via.refl e0 P0 (g := (mkF m 1 #[rv a0] [(.ref a0)])) rfl rfl (hb hby d9_1)
  refine own_via (fun k => st1 _ k) ?_
  show own_Go p e below s _ _ (T1.setTop (mkF m 4 #[rv a0] [(.ref c0)]))
  obtain ⟨_, _, ⟨T2, L2, k2, n2⟩, -, X2, ⟨Lc2, hQ2, l2, y2, z2⟩, st2⟩ := Jvm.LawKit.callS X1 hx (y := (⟨"java/util/Arrays", "hashCode", "([B)I"⟩ : MethodName)) hown (mvT hZ (hw _ (List.mem_of_getElem? (i := 51) rfl))) (mvT hZ (hw _ (List.mem_of_getElem? (i := 52) rfl))) (mvT hZ (hw _ (List.mem_of_getElem? (i := 40) rfl))) (mvT hZ (hw _ (List.mem_of_getElem? (i := 53) rfl))) (by decide) (backOf (W := 0) (rm10_0 l Z aw hw [] c0 k h0 n0 Z0 P1 P2) hZ (hw _ (List.mem_of_getElem? (i := 53) rfl)) (hw _ (List.mem_of_getElem? (i := 40) rfl)) (by decide) (by decide)) (g := (mkF m 4 #[rv a0] [(.ref c0)])) rfl (by rw [hml]; rfl) (argsL := [(.ref c0)]) (rest := []) (lenOf pd_10 rfl) rfl (by show 2 * 0 + _ ≤ _; exact Nat.le_of_eq rfl) (hb hby d9_4) (fun _ _ => ⟨rfl, e1, (by decide : 0 + 0 ≤ _), (by decide : 0 + 0 ≤ _)⟩)
  dsimp only [Pt.U, Pt.locs, Pt.cells, Pt.slots] at X2 l2 y2 z2 st2 hQ2
  subst l2 y2 z2
  obtain ⟨rfl, N2q, eh2⟩ := hQ2
  have N3 := Fr.app N0 N2q
  refine own_via (fun k => st2 _ k) ?_
  show own_Go p e below s _ _ (T2.setTop (mkF m 7 #[rv a0] [(.int own_f10_0)]))
  exact own_retI X2 hx hlk Bd.returns (hb hby d9_7) (Q := (Q9_0 Z a0 c0 k h0 n0)) ⟨(congrArg (fun z => some (Value.int z)) (show own_f10_0 = own_f9_0 from rfl)), N3, eh2⟩ (by decide) (by decide)
theorem ef_9_1 (m : MethodId) (x0 : Addr) : entryFrame m #[(.ref x0)] 1 = mkF m 0 #[rv x0] [] := by first | (simp [entryFrame, mkF, argsToLocals, Value.category]; done) | rfl
def own_f9_1 (w0 : Int32) : Int32 := (own_f10_1 w0)
def Q9_1 (Z : State) (a0 : Addr) (c0 : Addr) (k : ClassId) (w0 : Int32) (h0 : Heap) (n0 : Nat) (v : Option Value) (h : Heap) (L : List Loc) : Prop := v = some (.int (own_f9_1 w0)) ∧ Fr n0 L ∧ h = h0
set_option maxRecDepth 65536 in
set_option maxHeartbeats 40000000 in
theorem rm9_1 (l : Launch) (Z : State) (aw : Array Value) (hw : ∀ d ∈ tables_1, d.before aw Z = true) (ws : List Jvm.Cond) (a0 : Addr) (c0 : Addr) (k : ClassId) (w0 : Int32) (h0 : Heap) (n0 : Nat) (Z0 : n0 ≤ h0.size) (P0 : Fld Z h0 a0 "com/example/grant3/grant3/policy/Etag" "bytes" "[B" (.ref c0)) (P1 : Arv Z h0 c0 k .byte (1 : Int32) [(.int w0)] (.int 0)) (P2 : Exa Z h0 c0 "[B") :
    MetFree l (⟨"com/example/grant3/grant3/policy/Etag", "hashCode", "()I"⟩ : MethodName) (head1 (Jvm.Cond.code (⟨"com/example/grant3/grant3/policy/Etag", "hashCode", "()I"⟩ : MethodName) prog_14_method_6_code 1 (some .int) :: ws) ({ frames := 1, cells := 0, slots := 0, locals := 12 } : Room)) (fun a U => a = #[(.ref a0)] ∧ Z.Warmed39 U.vm ∧ U.heap = h0) (fun _ _ _ _ _ => True) (fun _ U o U' => ∃ v L, o = .returned v ∧ Q9_1 Z a0 c0 k w0 h0 n0 v U'.heap L ∧ FrameEnd U o U' L ({ frames := 1, cells := 0, slots := 0, locals := 12 } : Room).cells ({ frames := 1, cells := 0, slots := 0, locals := 12 } : Room).slots) := by
  refine MetFree.of_bodySF (plainFor_of_name pn_9) hisR ?_
  intro p e s m args below meth c s₁ Bd hml0 hP hK
  obtain ⟨rfl, hZ, hh⟩ := hP
  have hx := Bd.exec
  have hby := Bd.bytes
  have hml : c.maxLocals = 1 := hml0
  have hown : s.vm.findClass "com/example/grant3/grant3/policy/Etag" = some m.cls := findClass_of_methodNamed Bd.named
  have hnm := (name_of_methodNamed Bd.named Bd.method).1
  have hlk : meth.locks = false := by first | exact BodyLoose.notSynchronized (by assumption) | exact Body.notSynchronized (by assumption)
  have X0 : Stand p l e ({ frames := 1, cells := 0, slots := 0, locals := 12 } : Room) s m #[(.ref a0)] below meth c s₁ [] 0 0 := Stand.of_body Bd
  have e0 : s₁.heap = h0 := by rw [← hh, Bd.state]; rfl
  have N0 := Fr.nil n0
  have K0 : Keep h0 h0 [] := Keep.refl _ _
  refine own_start (CS := (0, 0)) (Q := (Q9_1 Z a0 c0 k w0 h0 n0)) (ef_9_1 m a0) ?_
  show own_Go p e below s _ _ (s₁.setTop (mkF m 0 #[rv a0] []))
  refine own_via (fun k => XS.aloadN X0.here hx rfl (hb hby d9_0) rfl rfl  k) ?_
  show own_Go p e below s _ _ (s₁.setTop (mkF m 1 #[rv a0] [(.ref a0)]))
  obtain ⟨T1, X1, e1, st1⟩ := getF X0 hx hZ hown (host := "") (Or.inl (hw _ (List.mem_of_getElem? (i := 27) rfl))) Via.refl e0 P0 (g := (mkF m 1 #[rv a0] [(.ref a0)])) rfl rfl (hb hby d9_1)
  refine own_via (fun k => st1 _ k) ?_
  show own_Go p e below s _ _ (T1.setTop (mkF m 4 #[rv a0] [(.ref c0)]))
  obtain ⟨_, _, ⟨T2, L2, k2, n2⟩, -, X2, ⟨Lc2, hQ2, l2, y2, z2⟩, st2⟩ := Jvm.LawKit.callS X1 hx (y := (⟨"java/util/Arrays", "hashCode", "([B)I"⟩ : MethodName)) hown (mvT hZ (hw _ (List.mem_of_getElem? (i := 51) rfl))) (mvT hZ (hw _ (List.mem_of_getElem? (i := 52) rfl))) (mvT hZ (hw _ (List.mem_of_getElem? (i := 40) rfl))) (mvT hZ (hw _ (List.mem_of_getElem? (i := 53) rfl))) (by decide) (backOf (W := 0) (rm10_1 l Z aw hw [] c0 k w0 h0 n0 Z0 P1 P2) hZ (hw _ (List.mem_of_getElem? (i := 53) rfl)) (hw _ (List.mem_of_getElem? (i := 40) rfl)) (by decide) (by decide)) (g := (mkF m 4 #[rv a0] [(.ref c0)])) rfl (by rw [hml]; rfl) (argsL := [(.ref c0)]) (rest := []) (lenOf pd_10 rfl) rfl (by show 2 * 0 + _ ≤ _; exact Nat.le_of_eq rfl) (hb hby d9_4) (fun _ _ => ⟨rfl, e1, (by decide : 0 + 0 ≤ _), (by decide : 0 + 0 ≤ _)⟩)
  dsimp only [Pt.U, Pt.locs, Pt.cells, Pt.slots] at X2 l2 y2 z2 st2 hQ2
  subst l2 y2 z2
  obtain ⟨rfl, N2q, eh2⟩ := hQ2
  have N3 := Fr.app N0 N2q
  refine own_via (fun k => st2 _ k) ?_
  show own_Go p e below s _ _ (T2.setTop (mkF m 7 #[rv a0] [(.int (own_f10_1 w0))]))
  exact own_retI X2 hx hlk Bd.returns (hb hby d9_7) (Q := (Q9_1 Z a0 c0 k w0 h0 n0)) ⟨(congrArg (fun z => some (Value.int z)) (show (own_f10_1 w0) = (own_f9_1 w0) from rfl)), N3, eh2⟩ (by decide) (by decide)
theorem ef_9_2 (m : MethodId) (x0 : Addr) : entryFrame m #[(.ref x0)] 1 = mkF m 0 #[rv x0] [] := by first | (simp [entryFrame, mkF, argsToLocals, Value.category]; done) | rfl
def own_f9_2 (w0 : Int32) (w1 : Int32) : Int32 := (own_f10_2 w0 w1)
def Q9_2 (Z : State) (a0 : Addr) (c0 : Addr) (k : ClassId) (w0 : Int32) (w1 : Int32) (h0 : Heap) (n0 : Nat) (v : Option Value) (h : Heap) (L : List Loc) : Prop := v = some (.int (own_f9_2 w0 w1)) ∧ Fr n0 L ∧ h = h0
set_option maxRecDepth 65536 in
set_option maxHeartbeats 40000000 in
theorem rm9_2 (l : Launch) (Z : State) (aw : Array Value) (hw : ∀ d ∈ tables_1, d.before aw Z = true) (ws : List Jvm.Cond) (a0 : Addr) (c0 : Addr) (k : ClassId) (w0 : Int32) (w1 : Int32) (h0 : Heap) (n0 : Nat) (Z0 : n0 ≤ h0.size) (P0 : Fld Z h0 a0 "com/example/grant3/grant3/policy/Etag" "bytes" "[B" (.ref c0)) (P1 : Arv Z h0 c0 k .byte (2 : Int32) [(.int w0), (.int w1)] (.int 0)) (P2 : Exa Z h0 c0 "[B") :
    MetFree l (⟨"com/example/grant3/grant3/policy/Etag", "hashCode", "()I"⟩ : MethodName) (head1 (Jvm.Cond.code (⟨"com/example/grant3/grant3/policy/Etag", "hashCode", "()I"⟩ : MethodName) prog_14_method_6_code 1 (some .int) :: ws) ({ frames := 3, cells := 0, slots := 0, locals := 45 } : Room)) (fun a U => a = #[(.ref a0)] ∧ Z.Warmed39 U.vm ∧ U.heap = h0) (fun _ _ _ _ _ => True) (fun _ U o U' => ∃ v L, o = .returned v ∧ Q9_2 Z a0 c0 k w0 w1 h0 n0 v U'.heap L ∧ FrameEnd U o U' L ({ frames := 3, cells := 0, slots := 0, locals := 45 } : Room).cells ({ frames := 3, cells := 0, slots := 0, locals := 45 } : Room).slots) := by
  refine MetFree.of_bodySF (plainFor_of_name pn_9) hisR ?_
  intro p e s m args below meth c s₁ Bd hml0 hP hK
  obtain ⟨rfl, hZ, hh⟩ := hP
  have hx := Bd.exec
  have hby := Bd.bytes
  have hml : c.maxLocals = 1 := hml0
  have hown : s.vm.findClass "com/example/grant3/grant3/policy/Etag" = some m.cls := findClass_of_methodNamed Bd.named
  have hnm := (name_of_methodNamed Bd.named Bd.method).1
  have hlk : meth.locks = false := by first | exact BodyLoose.notSynchronized (by assumption) | exact Body.notSynchronized (by assumption)
  have X0 : Stand p l e ({ frames := 3, cells := 0, slots := 0, locals := 45 } : Room) s m #[(.ref a0)] below meth c s₁ [] 0 0 := Stand.of_body Bd
  have e0 : s₁.heap = h0 := by rw [← hh, Bd.state]; rfl
  have N0 := Fr.nil n0
  have K0 : Keep h0 h0 [] := Keep.refl _ _
  refine own_start (CS := (0, 0)) (Q := (Q9_2 Z a0 c0 k w0 w1 h0 n0)) (ef_9_2 m a0) ?_
  show own_Go p e below s _ _ (s₁.setTop (mkF m 0 #[rv a0] []))
  refine own_via (fun k => XS.aloadN X0.here hx rfl (hb hby d9_0) rfl rfl  k) ?_
  show own_Go p e below s _ _ (s₁.setTop (mkF m 1 #[rv a0] [(.ref a0)]))
  obtain ⟨T1, X1, e1, st1⟩ := getF X0 hx hZ hown (host := "") (Or.inl (hw _ (List.mem_of_getElem? (i := 27) rfl))) Via.refl e0 P0 (g := (mkF m 1 #[rv a0] [(.ref a0)])) rfl rfl (hb hby d9_1)
  refine own_via (fun k => st1 _ k) ?_
  show own_Go p e below s _ _ (T1.setTop (mkF m 4 #[rv a0] [(.ref c0)]))
  obtain ⟨_, _, ⟨T2, L2, k2, n2⟩, -, X2, ⟨Lc2, hQ2, l2, y2, z2⟩, st2⟩ := Jvm.LawKit.callS X1 hx (y := (⟨"java/util/Arrays", "hashCode", "([B)I"⟩ : MethodName)) hown (mvT hZ (hw _ (List.mem_of_getElem? (i := 51) rfl))) (mvT hZ (hw _ (List.mem_of_getElem? (i := 52) rfl))) (mvT hZ (hw _ (List.mem_of_getElem? (i := 40) rfl))) (mvT hZ (hw _ (List.mem_of_getElem? (i := 53) rfl))) (by decide) (backOf (W := 0) (rm10_2 l Z aw hw [] c0 k w0 w1 h0 n0 Z0 P1 P2) hZ (hw _ (List.mem_of_getElem? (i := 53) rfl)) (hw _ (List.mem_of_getElem? (i := 40) rfl)) (by decide) (by decide)) (g := (mkF m 4 #[rv a0] [(.ref c0)])) rfl (by rw [hml]; rfl) (argsL := [(.ref c0)]) (rest := []) (lenOf pd_10 rfl) rfl (by show 2 * 0 + _ ≤ _; exact Nat.le_of_eq rfl) (hb hby d9_4) (fun _ _ => ⟨rfl, e1, (by decide : 0 + 0 ≤ _), (by decide : 0 + 0 ≤ _)⟩)
  dsimp only [Pt.U, Pt.locs, Pt.cells, Pt.slots] at X2 l2 y2 z2 st2 hQ2
  subst l2 y2 z2
  obtain ⟨rfl, N2q, eh2⟩ := hQ2
  have N3 := Fr.app N0 N2q
  refine own_via (fun k => st2 _ k) ?_
  show own_Go p e below s _ _ (T2.setTop (mkF m 7 #[rv a0] [(.int (own_f10_2 w0 w1))]))
  exact own_retI X2 hx hlk Bd.returns (hb hby d9_7) (Q := (Q9_2 Z a0 c0 k w0 w1 h0 n0)) ⟨(congrArg (fun z => some (Value.int z)) (show (own_f10_2 w0 w1) = (own_f9_2 w0 w1) from rfl)), N3, eh2⟩ (by decide) (by decide)
theorem ef_9_3 (m : MethodId) (x0 : Addr) : entryFrame m #[(.ref x0)] 1 = mkF m 0 #[rv x0] [] := by first | (simp [entryFrame, mkF, argsToLocals, Value.category]; done) | rfl
def own_f9_3 (w0 : Int32) (w1 : Int32) (w2 : Int32) : Int32 := (own_f10_3 w0 w1 w2)
def Q9_3 (Z : State) (a0 : Addr) (c0 : Addr) (k : ClassId) (w0 : Int32) (w1 : Int32) (w2 : Int32) (h0 : Heap) (n0 : Nat) (v : Option Value) (h : Heap) (L : List Loc) : Prop := v = some (.int (own_f9_3 w0 w1 w2)) ∧ Fr n0 L ∧ h = h0
set_option maxRecDepth 65536 in
set_option maxHeartbeats 40000000 in
theorem rm9_3 (l : Launch) (Z : State) (aw : Array Value) (hw : ∀ d ∈ tables_1, d.before aw Z = true) (ws : List Jvm.Cond) (a0 : Addr) (c0 : Addr) (k : ClassId) (w0 : Int32) (w1 : Int32) (w2 : Int32) (h0 : Heap) (n0 : Nat) (Z0 : n0 ≤ h0.size) (P0 : Fld Z h0 a0 "com/example/grant3/grant3/policy/Etag" "bytes" "[B" (.ref c0)) (P1 : Arv Z h0 c0 k .byte (3 : Int32) [(.int w0), (.int w1), (.int w2)] (.int 0)) (P2 : Exa Z h0 c0 "[B") :
    MetFree l (⟨"com/example/grant3/grant3/policy/Etag", "hashCode", "()I"⟩ : MethodName) (head1 (Jvm.Cond.code (⟨"com/example/grant3/grant3/policy/Etag", "hashCode", "()I"⟩ : MethodName) prog_14_method_6_code 1 (some .int) :: ws) ({ frames := 3, cells := 0, slots := 0, locals := 45 } : Room)) (fun a U => a = #[(.ref a0)] ∧ Z.Warmed39 U.vm ∧ U.heap = h0) (fun _ _ _ _ _ => True) (fun _ U o U' => ∃ v L, o = .returned v ∧ Q9_3 Z a0 c0 k w0 w1 w2 h0 n0 v U'.heap L ∧ FrameEnd U o U' L ({ frames := 3, cells := 0, slots := 0, locals := 45 } : Room).cells ({ frames := 3, cells := 0, slots := 0, locals := 45 } : Room).slots) := by
  refine MetFree.of_bodySF (plainFor_of_name pn_9) hisR ?_
  intro p e s m args below meth c s₁ Bd hml0 hP hK
  obtain ⟨rfl, hZ, hh⟩ := hP
  have hx := Bd.exec
  have hby := Bd.bytes
  have hml : c.maxLocals = 1 := hml0
  have hown : s.vm.findClass "com/example/grant3/grant3/policy/Etag" = some m.cls := findClass_of_methodNamed Bd.named
  have hnm := (name_of_methodNamed Bd.named Bd.method).1
  have hlk : meth.locks = false := by first | exact BodyLoose.notSynchronized (by assumption) | exact Body.notSynchronized (by assumption)
  have X0 : Stand p l e ({ frames := 3, cells := 0, slots := 0, locals := 45 } : Room) s m #[(.ref a0)] below meth c s₁ [] 0 0 := Stand.of_body Bd
  have e0 : s₁.heap = h0 := by rw [← hh, Bd.state]; rfl
  have N0 := Fr.nil n0
  have K0 : Keep h0 h0 [] := Keep.refl _ _
  refine own_start (CS := (0, 0)) (Q := (Q9_3 Z a0 c0 k w0 w1 w2 h0 n0)) (ef_9_3 m a0) ?_
  show own_Go p e below s _ _ (s₁.setTop (mkF m 0 #[rv a0] []))
  refine own_via (fun k => XS.aloadN X0.here hx rfl (hb hby d9_0) rfl rfl  k) ?_
  show own_Go p e below s _ _ (s₁.setTop (mkF m 1 #[rv a0] [(.ref a0)]))
  obtain ⟨T1, X1, e1, st1⟩ := getF X0 hx hZ hown (host := "") (Or.inl (hw _ (List.mem_of_getElem? (i := 27) rfl))) Via.refl e0 P0 (g := (mkF m 1 #[rv a0] [(.ref a0)])) rfl rfl (hb hby d9_1)
  refine own_via (fun k => st1 _ k) ?_
  show own_Go p e below s _ _ (T1.setTop (mkF m 4 #[rv a0] [(.ref c0)]))
  obtain ⟨_, _, ⟨T2, L2, k2, n2⟩, -, X2, ⟨Lc2, hQ2, l2, y2, z2⟩, st2⟩ := Jvm.LawKit.callS X1 hx (y := (⟨"java/util/Arrays", "hashCode", "([B)I"⟩ : MethodName)) hown (mvT hZ (hw _ (List.mem_of_getElem? (i := 51) rfl))) (mvT hZ (hw _ (List.mem_of_getElem? (i := 52) rfl))) (mvT hZ (hw _ (List.mem_of_getElem? (i := 40) rfl))) (mvT hZ (hw _ (List.mem_of_getElem? (i := 53) rfl))) (by decide) (backOf (W := 0) (rm10_3 l Z aw hw [] c0 k w0 w1 w2 h0 n0 Z0 P1 P2) hZ (hw _ (List.mem_of_getElem? (i := 53) rfl)) (hw _ (List.mem_of_getElem? (i := 40) rfl)) (by decide) (by decide)) (g := (mkF m 4 #[rv a0] [(.ref c0)])) rfl (by rw [hml]; rfl) (argsL := [(.ref c0)]) (rest := []) (lenOf pd_10 rfl) rfl (by show 2 * 0 + _ ≤ _; exact Nat.le_of_eq rfl) (hb hby d9_4) (fun _ _ => ⟨rfl, e1, (by decide : 0 + 0 ≤ _), (by decide : 0 + 0 ≤ _)⟩)
  dsimp only [Pt.U, Pt.locs, Pt.cells, Pt.slots] at X2 l2 y2 z2 st2 hQ2
  subst l2 y2 z2
  obtain ⟨rfl, N2q, eh2⟩ := hQ2
  have N3 := Fr.app N0 N2q
  refine own_via (fun k => st2 _ k) ?_
  show own_Go p e below s _ _ (T2.setTop (mkF m 7 #[rv a0] [(.int (own_f10_3 w0 w1 w2))]))
  exact own_retI X2 hx hlk Bd.returns (hb hby d9_7) (Q := (Q9_3 Z a0 c0 k w0 w1 w2 h0 n0)) ⟨(congrArg (fun z => some (Value.int z)) (show (own_f10_3 w0 w1 w2) = (own_f9_3 w0 w1 w2) from rfl)), N3, eh2⟩ (by decide) (by decide)
theorem pn_0 : plainName "com/example/grant3/grant3/policy/EtagOfPinLaw" = true := by first | (simp [plainName, overriddenIn]; done) | decide +kernel
theorem pd_0 : parseMethodDescriptor "(IBBB)[B" = some ⟨[.int, .byte, .byte, .byte], some (.array .byte)⟩ := by decide +kernel
theorem pd_1 : parseMethodDescriptor "([B)Lcom/example/grant3/grant3/policy/Etag;" = some ⟨[(.array .byte)], some (.object "com/example/grant3/grant3/policy/Etag")⟩ := by decide +kernel
theorem pd_5 : parseMethodDescriptor "(IBBB)I" = some ⟨[.int, .byte, .byte, .byte], some .int⟩ := by decide +kernel
theorem pd_6 : parseMethodDescriptor "(Ljava/lang/Object;)Z" = some ⟨[(.object "java/lang/Object")], some .boolean⟩ := by decide +kernel
theorem pd_9 : parseMethodDescriptor "()I" = some ⟨[], some .int⟩ := by decide +kernel
theorem ef_0 (m : MethodId) (x0 : Int32) (x1 : Int32) (x2 : Int32) (x3 : Int32) (x4 : Int32) : entryFrame m #[(.int x0), (.int x1), (.int x2), (.int x3), (.int x4)] maxLocals = mkF m 0 #[iv x0, iv x1, iv x2, iv x3, iv x4, .unset, .unset, .unset, .unset, .unset, .unset, .unset, .unset, .unset, .unset, .unset, .unset, .unset] [] := by first | (simp [entryFrame, mkF, argsToLocals, Value.category, maxLocals]; done) | rfl
theorem own_nb (x : Int32) : nar .byte (x.toInt8.toInt32) = x.toInt8.toInt32 := by
  have b := c_i2b x; have c := c_i2b (x.toInt8.toInt32)
  have n : nar .byte (x.toInt8.toInt32) = x.toInt8.toInt32.toInt8.toInt32 := rfl
  rw [n, own_e32]; omega
theorem own_o2 (x d : Int32) : ¬ (nar .byte ((((x.toInt8.toInt32) + (1 : Int32)) + ((d &&& (2147483647 : Int32)) % (255 : Int32))).toInt8.toInt32) = nar .byte (x.toInt8.toInt32)) := by
  have m := c_mask d 2147483647 31 (by decide) (by decide)
  have r := (c_irem (d &&& (2147483647 : Int32)) 255 255 (by decide)).1 (by omega)
  have e1 : (1 : Int32).toInt = 1 := by decide
  have cb := c_i2b x
  rw [own_nb, own_nb, own_e32]
  have a1 := c_iadd (x.toInt8.toInt32) 1; have a2 := c_iadd (x.toInt8.toInt32 + 1) ((d &&& (2147483647 : Int32)) % (255 : Int32))
  have cc := c_i2b (x.toInt8.toInt32 + 1 + ((d &&& (2147483647 : Int32)) % (255 : Int32)))
  omega
theorem own_len (p0 : Int32) : ((p0 &&& (2147483647 : Int32)) % (4 : Int32)) = (0 : Int32) ∨ ((p0 &&& (2147483647 : Int32)) % (4 : Int32)) = (1 : Int32) ∨ ((p0 &&& (2147483647 : Int32)) % (4 : Int32)) = (2 : Int32) ∨ ((p0 &&& (2147483647 : Int32)) % (4 : Int32)) = (3 : Int32) := by
  have e32_0 : (0 : Int32).toInt = 0 := by decide
  have e32_1 : (1 : Int32).toInt = 1 := by decide
  have e32_2 : (2 : Int32).toInt = 2 := by decide
  have e32_3 : (3 : Int32).toInt = 3 := by decide
  have e32_4 : (4 : Int32).toInt = 4 := by decide
  have e32_2147483647 : (2147483647 : Int32).toInt = 2147483647 := by decide
  have m := c_mask p0 2147483647 31 (by decide) (by decide)
  have r := (c_irem (p0 &&& (2147483647 : Int32)) 4 4 (by decide)).1 (by omega)
  simp only [own_e32]; omega
theorem own_law0_80 (p0 : Int32) (hl4 : ((p0 &&& (2147483647 : Int32)) % (4 : Int32)) = (0 : Int32)) : ¬ (own_f6_0 = (0 : Int32)) := by simp [own_f6_0, own_f7_0, own_f8_0]
theorem own_law0_90 (p0 : Int32) (hl4 : ((p0 &&& (2147483647 : Int32)) % (4 : Int32)) = (0 : Int32)) : own_f9_0 = own_f5_0 := rfl
theorem own_law0_131 (p0 : Int32) (hl4 : ((p0 &&& (2147483647 : Int32)) % (4 : Int32)) = (0 : Int32)) : ¬ (own_f6_0 = (0 : Int32)) := by simp [own_f6_0, own_f7_0, own_f8_0]
theorem own_law0_141 (p0 : Int32) (hl4 : ((p0 &&& (2147483647 : Int32)) % (4 : Int32)) = (0 : Int32)) : own_f9_0 = own_f5_0 := rfl
theorem own_law0_202 (p0 : Int32) (hl4 : ((p0 &&& (2147483647 : Int32)) % (4 : Int32)) = (0 : Int32)) : ¬ (own_f6_0 = (0 : Int32)) := by decide
theorem own_law1_80 (p0 : Int32) (p1 : Int32) (z1 : Int32) (hz1 : z1 = (p1.toInt8.toInt32)) (hl4 : ((p0 &&& (2147483647 : Int32)) % (4 : Int32)) = (1 : Int32)) : ¬ ((own_f6_1 (nar .byte z1) (nar .byte z1)) = (0 : Int32)) := by simp [own_f6_1, own_f7_1, own_f8_1]
theorem own_law1_90 (p0 : Int32) (p1 : Int32) (z1 : Int32) (hz1 : z1 = (p1.toInt8.toInt32)) (hl4 : ((p0 &&& (2147483647 : Int32)) % (4 : Int32)) = (1 : Int32)) : (own_f9_1 (nar .byte z1)) = (own_f5_1 z1) := by subst hz1; simp only [own_nb]; rfl
theorem own_law1_131 (p0 : Int32) (p1 : Int32) (z1 : Int32) (hz1 : z1 = (p1.toInt8.toInt32)) (hl4 : ((p0 &&& (2147483647 : Int32)) % (4 : Int32)) = (1 : Int32)) : ¬ ((own_f6_1 (nar .byte z1) (nar .byte z1)) = (0 : Int32)) := by simp [own_f6_1, own_f7_1, own_f8_1]
theorem own_law1_141 (p0 : Int32) (p1 : Int32) (z1 : Int32) (hz1 : z1 = (p1.toInt8.toInt32)) (hl4 : ((p0 &&& (2147483647 : Int32)) % (4 : Int32)) = (1 : Int32)) : (own_f9_1 (nar .byte z1)) = (own_f5_1 z1) := by subst hz1; simp only [own_nb]; rfl
theorem own_law1_170 (p0 : Int32) (p1 : Int32) (p4 : Int32) (z1 : Int32) (hz1 : z1 = (p1.toInt8.toInt32)) (z184 : Int32) (hz184 : z184 = (((z1 + (1 : Int32)) + ((p4 &&& (2147483647 : Int32)) % (255 : Int32))).toInt8.toInt32)) (hl4 : ((p0 &&& (2147483647 : Int32)) % (4 : Int32)) = (1 : Int32)) : (own_f6_1 (nar .byte z184) (nar .byte z1)) = (0 : Int32) := by subst hz184 hz1; rw [own_f6_1, own_f7_1, own_f8_1, if_neg (own_o2 p1 p4)]; decide
theorem own_law2_80 (p0 : Int32) (p1 : Int32) (p2 : Int32) (z1 : Int32) (hz1 : z1 = (p1.toInt8.toInt32)) (z2 : Int32) (hz2 : z2 = (p2.toInt8.toInt32)) (hl4 : ((p0 &&& (2147483647 : Int32)) % (4 : Int32)) = (2 : Int32)) : ¬ ((own_f6_2 (nar .byte z1) (nar .byte z2) (nar .byte z1) (nar .byte z2)) = (0 : Int32)) := by simp [own_f6_2, own_f7_2, own_f8_2]
theorem own_law2_90 (p0 : Int32) (p1 : Int32) (p2 : Int32) (z1 : Int32) (hz1 : z1 = (p1.toInt8.toInt32)) (z2 : Int32) (hz2 : z2 = (p2.toInt8.toInt32)) (hl4 : ((p0 &&& (2147483647 : Int32)) % (4 : Int32)) = (2 : Int32)) : (own_f9_2 (nar .byte z1) (nar .byte z2)) = (own_f5_2 z1 z2) := by subst hz2 hz1; simp only [own_nb]; rfl
theorem own_law2_131 (p0 : Int32) (p1 : Int32) (p2 : Int32) (z1 : Int32) (hz1 : z1 = (p1.toInt8.toInt32)) (z2 : Int32) (hz2 : z2 = (p2.toInt8.toInt32)) (hl4 : ((p0 &&& (2147483647 : Int32)) % (4 : Int32)) = (2 : Int32)) : ¬ ((own_f6_2 (nar .byte z1) (nar .byte z2) (nar .byte z1) (nar .byte z2)) = (0 : Int32)) := by simp [own_f6_2, own_f7_2, own_f8_2]
theorem own_law2_141 (p0 : Int32) (p1 : Int32) (p2 : Int32) (z1 : Int32) (hz1 : z1 = (p1.toInt8.toInt32)) (z2 : Int32) (hz2 : z2 = (p2.toInt8.toInt32)) (hl4 : ((p0 &&& (2147483647 : Int32)) % (4 : Int32)) = (2 : Int32)) : (own_f9_2 (nar .byte z1) (nar .byte z2)) = (own_f5_2 z1 z2) := by subst hz2 hz1; simp only [own_nb]; rfl
theorem own_law2_170 (p0 : Int32) (p1 : Int32) (p2 : Int32) (p4 : Int32) (z1 : Int32) (hz1 : z1 = (p1.toInt8.toInt32)) (z2 : Int32) (hz2 : z2 = (p2.toInt8.toInt32)) (z310 : Int32) (hz310 : z310 = (((z1 + (1 : Int32)) + ((p4 &&& (2147483647 : Int32)) % (255 : Int32))).toInt8.toInt32)) (hl4 : ((p0 &&& (2147483647 : Int32)) % (4 : Int32)) = (2 : Int32)) : (own_f6_2 (nar .byte z310) (nar .byte z2) (nar .byte z1) (nar .byte z2)) = (0 : Int32) := by subst hz310 hz2 hz1; rw [own_f6_2, own_f7_2, own_f8_2, if_neg (own_o2 p1 p4)]; decide
theorem own_law3_80 (p0 : Int32) (p1 : Int32) (p2 : Int32) (p3 : Int32) (z1 : Int32) (hz1 : z1 = (p1.toInt8.toInt32)) (z2 : Int32) (hz2 : z2 = (p2.toInt8.toInt32)) (z3 : Int32) (hz3 : z3 = (p3.toInt8.toInt32)) (hl4 : ((p0 &&& (2147483647 : Int32)) % (4 : Int32)) = (3 : Int32)) : ¬ ((own_f6_3 (nar .byte z1) (nar .byte z2) (nar .byte z3) (nar .byte z1) (nar .byte z2) (nar .byte z3)) = (0 : Int32)) := by simp [own_f6_3, own_f7_3, own_f8_3]
theorem own_law3_90 (p0 : Int32) (p1 : Int32) (p2 : Int32) (p3 : Int32) (z1 : Int32) (hz1 : z1 = (p1.toInt8.toInt32)) (z2 : Int32) (hz2 : z2 = (p2.toInt8.toInt32)) (z3 : Int32) (hz3 : z3 = (p3.toInt8.toInt32)) (hl4 : ((p0 &&& (2147483647 : Int32)) % (4 : Int32)) = (3 : Int32)) : (own_f9_3 (nar .byte z1) (nar .byte z2) (nar .byte z3)) = (own_f5_3 z1 z2 z3) := by subst hz3 hz2 hz1; simp only [own_nb]; rfl
theorem own_law3_131 (p0 : Int32) (p1 : Int32) (p2 : Int32) (p3 : Int32) (z1 : Int32) (hz1 : z1 = (p1.toInt8.toInt32)) (z2 : Int32) (hz2 : z2 = (p2.toInt8.toInt32)) (z3 : Int32) (hz3 : z3 = (p3.toInt8.toInt32)) (hl4 : ((p0 &&& (2147483647 : Int32)) % (4 : Int32)) = (3 : Int32)) : ¬ ((own_f6_3 (nar .byte z1) (nar .byte z2) (nar .byte z3) (nar .byte z1) (nar .byte z2) (nar .byte z3)) = (0 : Int32)) := by simp [own_f6_3, own_f7_3, own_f8_3]
theorem own_law3_141 (p0 : Int32) (p1 : Int32) (p2 : Int32) (p3 : Int32) (z1 : Int32) (hz1 : z1 = (p1.toInt8.toInt32)) (z2 : Int32) (hz2 : z2 = (p2.toInt8.toInt32)) (z3 : Int32) (hz3 : z3 = (p3.toInt8.toInt32)) (hl4 : ((p0 &&& (2147483647 : Int32)) % (4 : Int32)) = (3 : Int32)) : (own_f9_3 (nar .byte z1) (nar .byte z2) (nar .byte z3)) = (own_f5_3 z1 z2 z3) := by subst hz3 hz2 hz1; simp only [own_nb]; rfl
theorem own_law3_170 (p0 : Int32) (p1 : Int32) (p2 : Int32) (p3 : Int32) (p4 : Int32) (z1 : Int32) (hz1 : z1 = (p1.toInt8.toInt32)) (z2 : Int32) (hz2 : z2 = (p2.toInt8.toInt32)) (z3 : Int32) (hz3 : z3 = (p3.toInt8.toInt32)) (z436 : Int32) (hz436 : z436 = (((z1 + (1 : Int32)) + ((p4 &&& (2147483647 : Int32)) % (255 : Int32))).toInt8.toInt32)) (hl4 : ((p0 &&& (2147483647 : Int32)) % (4 : Int32)) = (3 : Int32)) : (own_f6_3 (nar .byte z436) (nar .byte z2) (nar .byte z3) (nar .byte z1) (nar .byte z2) (nar .byte z3)) = (0 : Int32) := by subst hz436 hz3 hz2 hz1; rw [own_f6_3, own_f7_3, own_f8_3, if_neg (own_o2 p1 p4)]; decide
def Q0 (Z : State) (p0 : Int32) (p1 : Int32) (p2 : Int32) (p3 : Int32) (p4 : Int32) (h0 : Heap) (n0 : Nat) (v : Option Value) (h : Heap) (L : List Loc) : Prop := v = some (.int 1) ∧ Fr n0 L
set_option maxRecDepth 65536 in
set_option maxHeartbeats 40000000 in
theorem rm0 (l : Launch) (Z : State) (aw : Array Value) (hw : ∀ d ∈ tables_1, d.before aw Z = true) (ws : List Jvm.Cond) (p0 : Int32) (p1 : Int32) (p2 : Int32) (p3 : Int32) (p4 : Int32) (h0 : Heap) (n0 : Nat) (Z0 : n0 ≤ h0.size)  :
    MetFree l x (head1 (Jvm.Cond.code x code maxLocals ret :: ws) room_1) (fun a U => a = #[(.int p0), (.int p1), (.int p2), (.int p3), (.int p4)] ∧ Z.Warmed39 U.vm ∧ U.heap = h0) (fun _ _ _ _ _ => True) (fun _ U o U' => ∃ v L, o = .returned v ∧ Q0 Z p0 p1 p2 p3 p4 h0 n0 v U'.heap L ∧ FrameEnd U o U' L room_1.cells room_1.slots) := by
  refine MetFree.of_bodySF (plainFor_of_name pn_0) hisR ?_
  intro p e s m args below meth c s₁ Bd hml0 hP hK
  obtain ⟨rfl, hZ, hh⟩ := hP
  have hx := Bd.exec
  have hby := Bd.bytes
  have hml : c.maxLocals = 18 := hml0
  have hown : s.vm.findClass "com/example/grant3/grant3/policy/EtagOfPinLaw" = some m.cls := findClass_of_methodNamed Bd.named
  have hnm := (name_of_methodNamed Bd.named Bd.method).1
  have hlk : meth.locks = false := by first | exact BodyLoose.notSynchronized (by assumption) | exact Body.notSynchronized (by assumption)
  have X0 : Stand p l e room_1 s m #[(.int p0), (.int p1), (.int p2), (.int p3), (.int p4)] below meth c s₁ [] 0 0 := Stand.of_body Bd
  have e0 : s₁.heap = h0 := by rw [← hh, Bd.state]; rfl
  have N0 := Fr.nil n0
  refine own_start (CS := (room_1.cells, room_1.slots)) (Q := (Q0 Z p0 p1 p2 p3 p4 h0 n0)) (ef_0 m p0 p1 p2 p3 p4) ?_
  show own_Go p e below s _ _ (s₁.setTop (mkF m 0 #[iv p0, iv p1, iv p2, iv p3, iv p4, .unset, .unset, .unset, .unset, .unset, .unset, .unset, .unset, .unset, .unset, .unset, .unset, .unset] []))
  refine own_via (fun k => XS.iloadN X0.here hx rfl (hb hby at_0) rfl  (X0.ldcInt hx hown (mvT hZ (hw _ (List.mem_of_getElem? (i := 0) rfl))) (g := (mkF m 1 #[iv p0, iv p1, iv p2, iv p3, iv p4, .unset, .unset, .unset, .unset, .unset, .unset, .unset, .unset, .unset, .unset, .unset, .unset, .unset] [(.int p0)])) rfl (hb hby at_1) _ (XS.iand X0.here hx rfl (hb hby at_3) rfl (XS.iconst X0.here hx rfl (hb hby at_4) k)))) ?_
  show own_Go p e below s _ _ (s₁.setTop (mkF m 5 #[iv p0, iv p1, iv p2, iv p3, iv p4, .unset, .unset, .unset, .unset, .unset, .unset, .unset, .unset, .unset, .unset, .unset, .unset, .unset] [(.int 4), (.int (p0 &&& (2147483647 : Int32)))]))
  refine own_via (fun k => Jvm.RoadKit.iremM X0 hx rfl (hb hby at_5) rfl (by decide) (XS.istore X0.here hx rfl (hb hby at_6) rfl (l' := #[iv p0, iv p1, iv p2, iv p3, iv p4, iv ((p0 &&& (2147483647 : Int32)) % (4 : Int32)), .unset, .unset, .unset, .unset, .unset, .unset, .unset, .unset, .unset, .unset, .unset, .unset]) rfl (XS.iloadN X0.here hx rfl (hb hby at_8) rfl  (XS.i2b X0.here hx rfl (hb hby at_9) rfl k)))) ?_
  show own_Go p e below s _ _ (s₁.setTop (mkF m 10 #[iv p0, iv p1, iv p2, iv p3, iv p4, iv ((p0 &&& (2147483647 : Int32)) % (4 : Int32)), .unset, .unset, .unset, .unset, .unset, .unset, .unset, .unset, .unset, .unset, .unset, .unset] [(.int (p1.toInt8.toInt32))]))
  obtain ⟨z1, hz1⟩ : ∃ z : Int32, z = (p1.toInt8.toInt32) := ⟨_, rfl⟩
  rw [← hz1]
  show own_Go p e below s _ _ (s₁.setTop (mkF m 10 #[iv p0, iv p1, iv p2, iv p3, iv p4, iv ((p0 &&& (2147483647 : Int32)) % (4 : Int32)), .unset, .unset, .unset, .unset, .unset, .unset, .unset, .unset, .unset, .unset, .unset, .unset] [(.int z1)]))
  refine own_via (fun k => XS.istore X0.here hx rfl (hb hby at_10) rfl (l' := #[iv p0, iv p1, iv p2, iv p3, iv p4, iv ((p0 &&& (2147483647 : Int32)) % (4 : Int32)), iv z1, .unset, .unset, .unset, .unset, .unset, .unset, .unset, .unset, .unset, .unset, .unset]) rfl (XS.iloadN X0.here hx rfl (hb hby at_12) rfl  (XS.i2b X0.here hx rfl (hb hby at_13) rfl k))) ?_
  show own_Go p e below s _ _ (s₁.setTop (mkF m 14 #[iv p0, iv p1, iv p2, iv p3, iv p4, iv ((p0 &&& (2147483647 : Int32)) % (4 : Int32)), iv z1, .unset, .unset, .unset, .unset, .unset, .unset, .unset, .unset, .unset, .unset, .unset] [(.int (p2.toInt8.toInt32))]))
  obtain ⟨z2, hz2⟩ : ∃ z : Int32, z = (p2.toInt8.toInt32) := ⟨_, rfl⟩
  rw [← hz2]
  show own_Go p e below s _ _ (s₁.setTop (mkF m 14 #[iv p0, iv p1, iv p2, iv p3, iv p4, iv ((p0 &&& (2147483647 : Int32)) % (4 : Int32)), iv z1, .unset, .unset, .unset, .unset, .unset, .unset, .unset, .unset, .unset, .unset, .unset] [(.int z2)]))
  refine own_via (fun k => XS.istore X0.here hx rfl (hb hby at_14) rfl (l' := #[iv p0, iv p1, iv p2, iv p3, iv p4, iv ((p0 &&& (2147483647 : Int32)) % (4 : Int32)), iv z1, iv z2, .unset, .unset, .unset, .unset, .unset, .unset, .unset, .unset, .unset, .unset]) rfl (XS.iloadN X0.here hx rfl (hb hby at_16) rfl  (XS.i2b X0.here hx rfl (hb hby at_17) rfl k))) ?_
  show own_Go p e below s _ _ (s₁.setTop (mkF m 18 #[iv p0, iv p1, iv p2, iv p3, iv p4, iv ((p0 &&& (2147483647 : Int32)) % (4 : Int32)), iv z1, iv z2, .unset, .unset, .unset, .unset, .unset, .unset, .unset, .unset, .unset, .unset] [(.int (p3.toInt8.toInt32))]))
  obtain ⟨z3, hz3⟩ : ∃ z : Int32, z = (p3.toInt8.toInt32) := ⟨_, rfl⟩
  rw [← hz3]
  show own_Go p e below s _ _ (s₁.setTop (mkF m 18 #[iv p0, iv p1, iv p2, iv p3, iv p4, iv ((p0 &&& (2147483647 : Int32)) % (4 : Int32)), iv z1, iv z2, .unset, .unset, .unset, .unset, .unset, .unset, .unset, .unset, .unset, .unset] [(.int z3)]))
  refine own_via (fun k => XS.istore X0.here hx rfl (hb hby at_18) rfl (l' := #[iv p0, iv p1, iv p2, iv p3, iv p4, iv ((p0 &&& (2147483647 : Int32)) % (4 : Int32)), iv z1, iv z2, iv z3, .unset, .unset, .unset, .unset, .unset, .unset, .unset, .unset, .unset]) rfl k) ?_
  show own_Go p e below s _ _ (s₁.setTop (mkF m 20 #[iv p0, iv p1, iv p2, iv p3, iv p4, iv ((p0 &&& (2147483647 : Int32)) % (4 : Int32)), iv z1, iv z2, iv z3, .unset, .unset, .unset, .unset, .unset, .unset, .unset, .unset, .unset] []))
  rcases ((own_len p0) : ((p0 &&& (2147483647 : Int32)) % (4 : Int32)) = (0 : Int32) ∨ ((p0 &&& (2147483647 : Int32)) % (4 : Int32)) = (1 : Int32) ∨ ((p0 &&& (2147483647 : Int32)) % (4 : Int32)) = (2 : Int32) ∨ ((p0 &&& (2147483647 : Int32)) % (4 : Int32)) = (3 : Int32)) with hl4 | hl4 | hl4 | hl4
  · rw [hl4]
    show own_Go p e below s _ _ (s₁.setTop (mkF m 20 #[iv p0, iv p1, iv p2, iv p3, iv p4, iv 0, iv z1, iv z2, iv z3, .unset, .unset, .unset, .unset, .unset, .unset, .unset, .unset, .unset] []))
    refine own_via (fun k => XS.iload X0.here hx rfl (hb hby at_20) rfl  (XS.iload X0.here hx rfl (hb hby at_22) rfl  (XS.iload X0.here hx rfl (hb hby at_24) rfl  (XS.iload X0.here hx rfl (hb hby at_26) rfl  k)))) ?_
    show own_Go p e below s _ _ (s₁.setTop (mkF m 28 #[iv p0, iv p1, iv p2, iv p3, iv p4, iv 0, iv z1, iv z2, iv z3, .unset, .unset, .unset, .unset, .unset, .unset, .unset, .unset, .unset] [(.int z3), (.int z2), (.int z1), (.int 0)]))
    obtain ⟨_, _, ⟨T5, L5, k5, n5⟩, -, X5, ⟨Lc5, hQ5, l5, y5, z5⟩, st5⟩ := Jvm.LawKit.callS X0 hx (y := (⟨"com/example/grant3/grant3/policy/EtagOfPinLaw", "make", "(IBBB)[B"⟩ : MethodName)) hown (mvT hZ (hw _ (List.mem_of_getElem? (i := 1) rfl))) (mvT hZ (hw _ (List.mem_of_getElem? (i := 2) rfl))) (mvT hZ (hw _ (List.mem_of_getElem? (i := 3) rfl))) (mvT hZ (hw _ (List.mem_of_getElem? (i := 4) rfl))) (by decide) (backOf (W := 0) (rm1_0 l Z aw hw [] z1 z2 z3 h0 n0 Z0) hZ (hw _ (List.mem_of_getElem? (i := 4) rfl)) (hw _ (List.mem_of_getElem? (i := 3) rfl)) (by decide) (by decide)) (g := (mkF m 28 #[iv p0, iv p1, iv p2, iv p3, iv p4, iv 0, iv z1, iv z2, iv z3, .unset, .unset, .unset, .unset, .unset, .unset, .unset, .unset, .unset] [(.int z3), (.int z2), (.int z1), (.int 0)])) rfl (by rw [hml]; rfl) (argsL := [(.int 0), (.int z1), (.int z2), (.int z3)]) (rest := []) (lenOf pd_0 rfl) rfl (by show 2 * 0 + _ ≤ _; exact Nat.le_of_eq rfl) (hb hby at_28) (fun _ _ => ⟨rfl, e0, (by decide : 0 + 1 ≤ _), (by decide : 0 + 0 ≤ _)⟩)
    dsimp only [Pt.U, Pt.locs, Pt.cells, Pt.slots] at X5 l5 y5 z5 st5 hQ5
    subst l5 y5 z5
    obtain ⟨b_5, k_5, rfl, N5q, K5, B6, B7, g8⟩ := hQ5
    have N9 := Fr.app N0 N5q
    have Z10 : n0 ≤ T5.heap.size := Nat.le_trans Z0 K5.1
    have g11 : n0 ≤ b_5 := Nat.le_trans Z0 g8
    refine own_via (fun k => st5 _ k) ?_
    show own_Go p e below s _ _ (T5.setTop (mkF m 31 #[iv p0, iv p1, iv p2, iv p3, iv p4, iv 0, iv z1, iv z2, iv z3, .unset, .unset, .unset, .unset, .unset, .unset, .unset, .unset, .unset] [(.ref b_5)]))
    refine own_via (fun k => XS.astore X5.here hx rfl (hb hby at_31) rfl rfl (l' := #[iv p0, iv p1, iv p2, iv p3, iv p4, iv 0, iv z1, iv z2, iv z3, rv b_5, .unset, .unset, .unset, .unset, .unset, .unset, .unset, .unset]) rfl (XS.iload X5.here hx rfl (hb hby at_33) rfl  (XS.iload X5.here hx rfl (hb hby at_35) rfl  (XS.iload X5.here hx rfl (hb hby at_37) rfl  k)))) ?_
    show own_Go p e below s _ _ (T5.setTop (mkF m 39 #[iv p0, iv p1, iv p2, iv p3, iv p4, iv 0, iv z1, iv z2, iv z3, rv b_5, .unset, .unset, .unset, .unset, .unset, .unset, .unset, .unset] [(.int z2), (.int z1), (.int 0)]))
    refine own_via (fun k => XS.iload X5.here hx rfl (hb hby at_39) rfl  k) ?_
    show own_Go p e below s _ _ (T5.setTop (mkF m 41 #[iv p0, iv p1, iv p2, iv p3, iv p4, iv 0, iv z1, iv z2, iv z3, rv b_5, .unset, .unset, .unset, .unset, .unset, .unset, .unset, .unset] [(.int z3), (.int z2), (.int z1), (.int 0)]))
    obtain ⟨_, _, ⟨T12, L12, k12, n12⟩, -, X12, ⟨Lc12, hQ12, l12, y12, z12⟩, st12⟩ := Jvm.LawKit.callS X5 hx (y := (⟨"com/example/grant3/grant3/policy/EtagOfPinLaw", "make", "(IBBB)[B"⟩ : MethodName)) hown (mvT hZ (hw _ (List.mem_of_getElem? (i := 1) rfl))) (mvT hZ (hw _ (List.mem_of_getElem? (i := 2) rfl))) (mvT hZ (hw _ (List.mem_of_getElem? (i := 3) rfl))) (mvT hZ (hw _ (List.mem_of_getElem? (i := 4) rfl))) (by decide) (backOf (W := 0) (rm1_0 l Z aw hw [] z1 z2 z3 T5.heap n0 Z10) hZ (hw _ (List.mem_of_getElem? (i := 4) rfl)) (hw _ (List.mem_of_getElem? (i := 3) rfl)) (by decide) (by decide)) (g := (mkF m 41 #[iv p0, iv p1, iv p2, iv p3, iv p4, iv 0, iv z1, iv z2, iv z3, rv b_5, .unset, .unset, .unset, .unset, .unset, .unset, .unset, .unset] [(.int z3), (.int z2), (.int z1), (.int 0)])) rfl (by rw [hml]; rfl) (argsL := [(.int 0), (.int z1), (.int z2), (.int z3)]) (rest := []) (lenOf pd_0 rfl) rfl (by show 2 * 0 + _ ≤ _; exact Nat.le_of_eq rfl) (hb hby at_41) (fun _ _ => ⟨rfl, rfl, (by decide : 1 + 1 ≤ _), (by decide : 0 + 0 ≤ _)⟩)
    dsimp only [Pt.U, Pt.locs, Pt.cells, Pt.slots] at X12 l12 y12 z12 st12 hQ12
    subst l12 y12 z12
    obtain ⟨b_12, k_12, rfl, N12q, K12, B13, B14, g15⟩ := hQ12
    have N16 := Fr.app N9 N12q
    have B17 := B6.keep K12 nin0
    have B18 := B7.keep K12
    have Z19 : n0 ≤ T12.heap.size := Nat.le_trans Z10 K12.1
    have g20 : n0 ≤ b_12 := Nat.le_trans Z10 g15
    have ne21 : b_5 ≠ b_12 := Nat.ne_of_lt (Nat.lt_of_lt_of_le B6.lt g15)
    refine own_via (fun k => st12 _ k) ?_
    show own_Go p e below s _ _ (T12.setTop (mkF m 44 #[iv p0, iv p1, iv p2, iv p3, iv p4, iv 0, iv z1, iv z2, iv z3, rv b_5, .unset, .unset, .unset, .unset, .unset, .unset, .unset, .unset] [(.ref b_12)]))
    refine own_via (fun k => XS.astore X12.here hx rfl (hb hby at_44) rfl rfl (l' := #[iv p0, iv p1, iv p2, iv p3, iv p4, iv 0, iv z1, iv z2, iv z3, rv b_5, rv b_12, .unset, .unset, .unset, .unset, .unset, .unset, .unset]) rfl (XS.aload X12.here hx rfl (hb hby at_46) rfl rfl  k)) ?_
    show own_Go p e below s _ _ (T12.setTop (mkF m 48 #[iv p0, iv p1, iv p2, iv p3, iv p4, iv 0, iv z1, iv z2, iv z3, rv b_5, rv b_12, .unset, .unset, .unset, .unset, .unset, .unset, .unset] [(.ref b_5)]))
    obtain ⟨_, _, ⟨T22, L22, k22, n22⟩, -, X22, ⟨Lc22, hQ22, l22, y22, z22⟩, st22⟩ := Jvm.LawKit.callS X12 hx (y := (⟨"com/example/grant3/grant3/policy/Etag", "of", "([B)Lcom/example/grant3/grant3/policy/Etag;"⟩ : MethodName)) hown (mvT hZ (hw _ (List.mem_of_getElem? (i := 6) rfl))) (mvT hZ (hw _ (List.mem_of_getElem? (i := 7) rfl))) (mvT hZ (hw _ (List.mem_of_getElem? (i := 8) rfl))) (mvT hZ (hw _ (List.mem_of_getElem? (i := 9) rfl))) (by decide) (backOf (W := 0) (rm2_0 l Z aw hw [] b_5 k_5 T12.heap n0 Z19 B17 B18) hZ (hw _ (List.mem_of_getElem? (i := 9) rfl)) (hw _ (List.mem_of_getElem? (i := 8) rfl)) (by decide) (by decide)) (g := (mkF m 48 #[iv p0, iv p1, iv p2, iv p3, iv p4, iv 0, iv z1, iv z2, iv z3, rv b_5, rv b_12, .unset, .unset, .unset, .unset, .unset, .unset, .unset] [(.ref b_5)])) rfl (by rw [hml]; rfl) (argsL := [(.ref b_5)]) (rest := []) (lenOf pd_1 rfl) rfl (by show 2 * 0 + _ ≤ _; exact Nat.le_of_eq rfl) (hb hby at_48) (fun _ _ => ⟨rfl, rfl, (by decide : 2 + 2 ≤ _), (by decide : 0 + 1 ≤ _)⟩)
    dsimp only [Pt.U, Pt.locs, Pt.cells, Pt.slots] at X22 l22 y22 z22 st22 hQ22
    subst l22 y22 z22
    obtain ⟨ob_22, cb_22, rfl, N22q, K22, B23, B24, B25, B26, g27, g28⟩ := hQ22
    have N29 := Fr.app N16 N22q
    have B30 := B17.keep K22 nin0
    have B31 := B18.keep K22
    have B32 := B13.keep K22 nin0
    have B33 := B14.keep K22
    have Z34 : n0 ≤ T22.heap.size := Nat.le_trans Z19 K22.1
    have g35 : n0 ≤ ob_22 := Nat.le_trans Z19 g27
    have ne36 : b_5 ≠ ob_22 := Nat.ne_of_lt (Nat.lt_of_lt_of_le B17.lt g27)
    have ne37 : b_12 ≠ ob_22 := Nat.ne_of_lt (Nat.lt_of_lt_of_le B13.lt g27)
    have g38 : n0 ≤ cb_22 := Nat.le_trans Z19 g28
    have ne39 : b_5 ≠ cb_22 := Nat.ne_of_lt (Nat.lt_of_lt_of_le B17.lt g28)
    have ne40 : b_12 ≠ cb_22 := Nat.ne_of_lt (Nat.lt_of_lt_of_le B13.lt g28)
    refine own_via (fun k => st22 _ k) ?_
    show own_Go p e below s _ _ (T22.setTop (mkF m 51 #[iv p0, iv p1, iv p2, iv p3, iv p4, iv 0, iv z1, iv z2, iv z3, rv b_5, rv b_12, .unset, .unset, .unset, .unset, .unset, .unset, .unset] [(.ref ob_22)]))
    refine own_via (fun k => XS.astore X22.here hx rfl (hb hby at_51) rfl rfl (l' := #[iv p0, iv p1, iv p2, iv p3, iv p4, iv 0, iv z1, iv z2, iv z3, rv b_5, rv b_12, rv ob_22, .unset, .unset, .unset, .unset, .unset, .unset]) rfl (XS.aload X22.here hx rfl (hb hby at_53) rfl rfl  k)) ?_
    show own_Go p e below s _ _ (T22.setTop (mkF m 55 #[iv p0, iv p1, iv p2, iv p3, iv p4, iv 0, iv z1, iv z2, iv z3, rv b_5, rv b_12, rv ob_22, .unset, .unset, .unset, .unset, .unset, .unset] [(.ref b_12)]))
    obtain ⟨_, _, ⟨T41, L41, k41, n41⟩, -, X41, ⟨Lc41, hQ41, l41, y41, z41⟩, st41⟩ := Jvm.LawKit.callS X22 hx (y := (⟨"com/example/grant3/grant3/policy/Etag", "of", "([B)Lcom/example/grant3/grant3/policy/Etag;"⟩ : MethodName)) hown (mvT hZ (hw _ (List.mem_of_getElem? (i := 6) rfl))) (mvT hZ (hw _ (List.mem_of_getElem? (i := 7) rfl))) (mvT hZ (hw _ (List.mem_of_getElem? (i := 8) rfl))) (mvT hZ (hw _ (List.mem_of_getElem? (i := 9) rfl))) (by decide) (backOf (W := 0) (rm2_0 l Z aw hw [] b_12 k_12 T22.heap n0 Z34 B32 B33) hZ (hw _ (List.mem_of_getElem? (i := 9) rfl)) (hw _ (List.mem_of_getElem? (i := 8) rfl)) (by decide) (by decide)) (g := (mkF m 55 #[iv p0, iv p1, iv p2, iv p3, iv p4, iv 0, iv z1, iv z2, iv z3, rv b_5, rv b_12, rv ob_22, .unset, .unset, .unset, .unset, .unset, .unset] [(.ref b_12)])) rfl (by rw [hml]; rfl) (argsL := [(.ref b_12)]) (rest := []) (lenOf pd_1 rfl) rfl (by show 2 * 0 + _ ≤ _; exact Nat.le_of_eq rfl) (hb hby at_55) (fun _ _ => ⟨rfl, rfl, (by decide : 4 + 2 ≤ _), (by decide : 1 + 1 ≤ _)⟩)
    dsimp only [Pt.U, Pt.locs, Pt.cells, Pt.slots] at X41 l41 y41 z41 st41 hQ41
    subst l41 y41 z41
    obtain ⟨ob_41, cb_41, rfl, N41q, K41, B42, B43, B44, B45, g46, g47⟩ := hQ41
    have N48 := Fr.app N29 N41q
    have B49 := B30.keep K41 nin0
    have B50 := B31.keep K41
    have B51 := B32.keep K41 nin0
    have B52 := B33.keep K41
    have B53 := B23.keep K41
    have B54 := B24.keep K41 nin0
    have B55 := B25.keep K41 nin0
    have B56 := B26.keep K41
    have Z57 : n0 ≤ T41.heap.size := Nat.le_trans Z34 K41.1
    have g58 : n0 ≤ ob_41 := Nat.le_trans Z34 g46
    have ne59 : b_5 ≠ ob_41 := Nat.ne_of_lt (Nat.lt_of_lt_of_le B30.lt g46)
    have ne60 : b_12 ≠ ob_41 := Nat.ne_of_lt (Nat.lt_of_lt_of_le B32.lt g46)
    have ne61 : ob_22 ≠ ob_41 := Nat.ne_of_lt (Nat.lt_of_lt_of_le B23.lt g46)
    have ne62 : cb_22 ≠ ob_41 := Nat.ne_of_lt (Nat.lt_of_lt_of_le B25.lt g46)
    have g63 : n0 ≤ cb_41 := Nat.le_trans Z34 g47
    have ne64 : b_5 ≠ cb_41 := Nat.ne_of_lt (Nat.lt_of_lt_of_le B30.lt g47)
    have ne65 : b_12 ≠ cb_41 := Nat.ne_of_lt (Nat.lt_of_lt_of_le B32.lt g47)
    have ne66 : ob_22 ≠ cb_41 := Nat.ne_of_lt (Nat.lt_of_lt_of_le B23.lt g47)
    have ne67 : cb_22 ≠ cb_41 := Nat.ne_of_lt (Nat.lt_of_lt_of_le B25.lt g47)
    refine own_via (fun k => st41 _ k) ?_
    show own_Go p e below s _ _ (T41.setTop (mkF m 58 #[iv p0, iv p1, iv p2, iv p3, iv p4, iv 0, iv z1, iv z2, iv z3, rv b_5, rv b_12, rv ob_22, .unset, .unset, .unset, .unset, .unset, .unset] [(.ref ob_41)]))
    refine own_via (fun k => XS.astore X41.here hx rfl (hb hby at_58) rfl rfl (l' := #[iv p0, iv p1, iv p2, iv p3, iv p4, iv 0, iv z1, iv z2, iv z3, rv b_5, rv b_12, rv ob_22, rv ob_41, .unset, .unset, .unset, .unset, .unset]) rfl (XS.iload X41.here hx rfl (hb hby at_60) rfl  (XS.iload X41.here hx rfl (hb hby at_62) rfl  (XS.iload X41.here hx rfl (hb hby at_64) rfl  k)))) ?_
    show own_Go p e below s _ _ (T41.setTop (mkF m 66 #[iv p0, iv p1, iv p2, iv p3, iv p4, iv 0, iv z1, iv z2, iv z3, rv b_5, rv b_12, rv ob_22, rv ob_41, .unset, .unset, .unset, .unset, .unset] [(.int z2), (.int z1), (.int 0)]))
    refine own_via (fun k => XS.iload X41.here hx rfl (hb hby at_66) rfl  k) ?_
    show own_Go p e below s _ _ (T41.setTop (mkF m 68 #[iv p0, iv p1, iv p2, iv p3, iv p4, iv 0, iv z1, iv z2, iv z3, rv b_5, rv b_12, rv ob_22, rv ob_41, .unset, .unset, .unset, .unset, .unset] [(.int z3), (.int z2), (.int z1), (.int 0)]))
    obtain ⟨_, _, ⟨T68, L68, k68, n68⟩, -, X68, ⟨Lc68, hQ68, l68, y68, z68⟩, st68⟩ := Jvm.LawKit.callS X41 hx (y := (⟨"com/example/grant3/grant3/policy/EtagOfPinLaw", "refHash", "(IBBB)I"⟩ : MethodName)) hown (mvT hZ (hw _ (List.mem_of_getElem? (i := 29) rfl))) (mvT hZ (hw _ (List.mem_of_getElem? (i := 30) rfl))) (mvT hZ (hw _ (List.mem_of_getElem? (i := 3) rfl))) (mvT hZ (hw _ (List.mem_of_getElem? (i := 31) rfl))) (by decide) (backOf (W := 0) (rm5_0 l Z aw hw [] z1 z2 z3 T41.heap n0 Z57) hZ (hw _ (List.mem_of_getElem? (i := 31) rfl)) (hw _ (List.mem_of_getElem? (i := 3) rfl)) (by decide) (by decide)) (g := (mkF m 68 #[iv p0, iv p1, iv p2, iv p3, iv p4, iv 0, iv z1, iv z2, iv z3, rv b_5, rv b_12, rv ob_22, rv ob_41, .unset, .unset, .unset, .unset, .unset] [(.int z3), (.int z2), (.int z1), (.int 0)])) rfl (by rw [hml]; rfl) (argsL := [(.int 0), (.int z1), (.int z2), (.int z3)]) (rest := []) (lenOf pd_5 rfl) rfl (by show 2 * 0 + _ ≤ _; exact Nat.le_of_eq rfl) (hb hby at_68) (fun _ _ => ⟨rfl, rfl, (by decide : 6 + 0 ≤ _), (by decide : 2 + 0 ≤ _)⟩)
    dsimp only [Pt.U, Pt.locs, Pt.cells, Pt.slots] at X68 l68 y68 z68 st68 hQ68
    subst l68 y68 z68
    obtain ⟨rfl, N68q, eh68⟩ := hQ68
    have N69 := Fr.app N48 N68q
    refine own_via (fun k => st68 _ k) ?_
    show own_Go p e below s _ _ (T68.setTop (mkF m 71 #[iv p0, iv p1, iv p2, iv p3, iv p4, iv 0, iv z1, iv z2, iv z3, rv b_5, rv b_12, rv ob_22, rv ob_41, .unset, .unset, .unset, .unset, .unset] [(.int own_f5_0)]))
    refine own_via (fun k => XS.istore X68.here hx rfl (hb hby at_71) rfl (l' := #[iv p0, iv p1, iv p2, iv p3, iv p4, iv 0, iv z1, iv z2, iv z3, rv b_5, rv b_12, rv ob_22, rv ob_41, iv own_f5_0, .unset, .unset, .unset, .unset]) rfl (XS.aload X68.here hx rfl (hb hby at_73) rfl rfl  (XS.aload X68.here hx rfl (hb hby at_75) rfl rfl  k))) ?_
    show own_Go p e below s _ _ (T68.setTop (mkF m 77 #[iv p0, iv p1, iv p2, iv p3, iv p4, iv 0, iv z1, iv z2, iv z3, rv b_5, rv b_12, rv ob_22, rv ob_41, iv own_f5_0, .unset, .unset, .unset, .unset] [(.ref ob_41), (.ref ob_22)]))
    obtain ⟨cq70, kq70, q70a, q70b, q70c⟩ := isOf hZ eh68 B53
    obtain ⟨_, _, ⟨T70, L70, k70, n70⟩, -, X70, ⟨Lc70, hQ70, l70, y70, z70⟩, st70⟩ := X68.virtualBack hx (y := (⟨"com/example/grant3/grant3/policy/Etag", "equals", "(Ljava/lang/Object;)Z"⟩ : MethodName)) (z := (⟨"com/example/grant3/grant3/policy/Etag", "equals", "(Ljava/lang/Object;)Z"⟩ : MethodName)) hown (mvT hZ (hw _ (List.mem_of_getElem? (i := 32) rfl))) (mvT hZ (hw _ (List.mem_of_getElem? (i := 33) rfl))) (notFace_of_selects (args := #[]) (mvT hZ (hw _ (List.mem_of_getElem? (i := 35) rfl)))) (mvT hZ (hw _ (List.mem_of_getElem? (i := 35) rfl))) (mvT hZ (hw _ (List.mem_of_getElem? (i := 34) rfl))) (by decide) (backOf (W := 0) (rm6_0 l Z aw hw [] ob_22 ob_41 cb_22 cb_41 k_5 k_12 T41.heap n0 Z57 B54 B43 B42 B55 B44 ne67) hZ (hw _ (List.mem_of_getElem? (i := 36) rfl)) (hw _ (List.mem_of_getElem? (i := 8) rfl)) (by decide) (by decide)) q70a q70c (g := (mkF m 77 #[iv p0, iv p1, iv p2, iv p3, iv p4, iv 0, iv z1, iv z2, iv z3, rv b_5, rv b_12, rv ob_22, rv ob_41, iv own_f5_0, .unset, .unset, .unset, .unset] [(.ref ob_41), (.ref ob_22)])) rfl (by rw [hml]; rfl) (Steps.refl _) (argsL := [(.ref ob_41)]) (rest := []) (lenOf pd_6 rfl) rfl (by show 2 * 0 + _ ≤ _; exact Nat.le_of_eq rfl) (hb hby at_77) (fun _ _ => ⟨rfl, eh68, (by decide : 6 + 0 ≤ _), (by decide : 2 + 0 ≤ _)⟩)
    dsimp only [Pt.U, Pt.locs, Pt.cells, Pt.slots] at X70 l70 y70 z70 st70 hQ70
    subst l70 y70 z70
    obtain ⟨rfl, N70q, eh70⟩ := hQ70
    have N71 := Fr.app N69 N70q
    refine own_via (fun k => st70.trans k) ?_
    show own_Go p e below s _ _ (T70.setTop (mkF m 80 #[iv p0, iv p1, iv p2, iv p3, iv p4, iv 0, iv z1, iv z2, iv z3, rv b_5, rv b_12, rv ob_22, rv ob_41, iv own_f5_0, .unset, .unset, .unset, .unset] [(.int own_f6_0)]))
    refine own_via (fun k => XS.ifNo X70.here hx rfl (hb hby at_80) rfl ((if0 _ _).trans (feq (own_law0_80 p0 hl4)).1) k) ?_
    show own_Go p e below s _ _ (T70.setTop (mkF m 83 #[iv p0, iv p1, iv p2, iv p3, iv p4, iv 0, iv z1, iv z2, iv z3, rv b_5, rv b_12, rv ob_22, rv ob_41, iv own_f5_0, .unset, .unset, .unset, .unset] []))
    refine own_via (fun k => XS.aload X70.here hx rfl (hb hby at_83) rfl rfl  k) ?_
    show own_Go p e below s _ _ (T70.setTop (mkF m 85 #[iv p0, iv p1, iv p2, iv p3, iv p4, iv 0, iv z1, iv z2, iv z3, rv b_5, rv b_12, rv ob_22, rv ob_41, iv own_f5_0, .unset, .unset, .unset, .unset] [(.ref ob_22)]))
    obtain ⟨cq72, kq72, q72a, q72b, q72c⟩ := isOf hZ eh70 B53
    obtain ⟨_, _, ⟨T72, L72, k72, n72⟩, -, X72, ⟨Lc72, hQ72, l72, y72, z72⟩, st72⟩ := X70.virtualBack hx (y := (⟨"com/example/grant3/grant3/policy/Etag", "hashCode", "()I"⟩ : MethodName)) (z := (⟨"com/example/grant3/grant3/policy/Etag", "hashCode", "()I"⟩ : MethodName)) hown (mvT hZ (hw _ (List.mem_of_getElem? (i := 46) rfl))) (mvT hZ (hw _ (List.mem_of_getElem? (i := 47) rfl))) (notFace_of_selects (args := #[]) (mvT hZ (hw _ (List.mem_of_getElem? (i := 49) rfl)))) (mvT hZ (hw _ (List.mem_of_getElem? (i := 49) rfl))) (mvT hZ (hw _ (List.mem_of_getElem? (i := 48) rfl))) (by decide) (backOf (W := 0) (rm9_0 l Z aw hw [] ob_22 cb_22 k_5 T41.heap n0 Z57 B54 B55 B56) hZ (hw _ (List.mem_of_getElem? (i := 50) rfl)) (hw _ (List.mem_of_getElem? (i := 8) rfl)) (by decide) (by decide)) q72a q72c (g := (mkF m 85 #[iv p0, iv p1, iv p2, iv p3, iv p4, iv 0, iv z1, iv z2, iv z3, rv b_5, rv b_12, rv ob_22, rv ob_41, iv own_f5_0, .unset, .unset, .unset, .unset] [(.ref ob_22)])) rfl (by rw [hml]; rfl) (Steps.refl _) (argsL := []) (rest := []) (lenOf pd_9 rfl) rfl (by show 2 * 0 + _ ≤ _; exact Nat.le_of_eq rfl) (hb hby at_85) (fun _ _ => ⟨rfl, eh70, (by decide : 6 + 0 ≤ _), (by decide : 2 + 0 ≤ _)⟩)
    dsimp only [Pt.U, Pt.locs, Pt.cells, Pt.slots] at X72 l72 y72 z72 st72 hQ72
    subst l72 y72 z72
    obtain ⟨rfl, N72q, eh72⟩ := hQ72
    have N73 := Fr.app N71 N72q
    refine own_via (fun k => st72.trans k) ?_
    show own_Go p e below s _ _ (T72.setTop (mkF m 88 #[iv p0, iv p1, iv p2, iv p3, iv p4, iv 0, iv z1, iv z2, iv z3, rv b_5, rv b_12, rv ob_22, rv ob_41, iv own_f5_0, .unset, .unset, .unset, .unset] [(.int own_f9_0)]))
    refine own_via (fun k => XS.iload X72.here hx rfl (hb hby at_88) rfl  k) ?_
    show own_Go p e below s _ _ (T72.setTop (mkF m 90 #[iv p0, iv p1, iv p2, iv p3, iv p4, iv 0, iv z1, iv z2, iv z3, rv b_5, rv b_12, rv ob_22, rv ob_41, iv own_f5_0, .unset, .unset, .unset, .unset] [(.int own_f5_0), (.int own_f9_0)]))
    refine own_via (fun k => XS.icmpNo X72.here hx rfl (hb hby at_90) rfl (teq (own_law0_90 p0 hl4)).2 k) ?_
    show own_Go p e below s _ _ (T72.setTop (mkF m 93 #[iv p0, iv p1, iv p2, iv p3, iv p4, iv 0, iv z1, iv z2, iv z3, rv b_5, rv b_12, rv ob_22, rv ob_41, iv own_f5_0, .unset, .unset, .unset, .unset] []))
    refine own_via (fun k => XS.iconst X72.here hx rfl (hb hby at_93) (XS.goto X72.here hx rfl (pc0 := 94) (pc' := 98) rfl (hb hby at_94) (by decide) (by decide) (XS.istore X72.here hx rfl (hb hby at_98) rfl (l' := #[iv p0, iv p1, iv p2, iv p3, iv p4, iv 0, iv z1, iv z2, iv z3, rv b_5, rv b_12, rv ob_22, rv ob_41, iv own_f5_0, iv 1, .unset, .unset, .unset]) rfl (XS.iload X72.here hx rfl (hb hby at_100) rfl  k)))) ?_
    show own_Go p e below s _ _ (T72.setTop (mkF m 102 #[iv p0, iv p1, iv p2, iv p3, iv p4, iv 0, iv z1, iv z2, iv z3, rv b_5, rv b_12, rv ob_22, rv ob_41, iv own_f5_0, iv 1, .unset, .unset, .unset] [(.int 0)]))
    refine own_via (fun k => XS.ifYes X72.here hx rfl (pc0 := 102) (pc' := 124) rfl (hb hby at_102) rfl (by decide) (by decide) (by decide) k) ?_
    show own_Go p e below s _ _ (T72.setTop (mkF m 124 #[iv p0, iv p1, iv p2, iv p3, iv p4, iv 0, iv z1, iv z2, iv z3, rv b_5, rv b_12, rv ob_22, rv ob_41, iv own_f5_0, iv 1, .unset, .unset, .unset] []))
    refine own_via (fun k => XS.aload X72.here hx rfl (hb hby at_124) rfl rfl  (XS.aload X72.here hx rfl (hb hby at_126) rfl rfl  k)) ?_
    show own_Go p e below s _ _ (T72.setTop (mkF m 128 #[iv p0, iv p1, iv p2, iv p3, iv p4, iv 0, iv z1, iv z2, iv z3, rv b_5, rv b_12, rv ob_22, rv ob_41, iv own_f5_0, iv 1, .unset, .unset, .unset] [(.ref ob_41), (.ref ob_22)]))
    obtain ⟨cq74, kq74, q74a, q74b, q74c⟩ := isOf hZ eh72 B53
    obtain ⟨_, _, ⟨T74, L74, k74, n74⟩, -, X74, ⟨Lc74, hQ74, l74, y74, z74⟩, st74⟩ := X72.virtualBack hx (y := (⟨"com/example/grant3/grant3/policy/Etag", "equals", "(Ljava/lang/Object;)Z"⟩ : MethodName)) (z := (⟨"com/example/grant3/grant3/policy/Etag", "equals", "(Ljava/lang/Object;)Z"⟩ : MethodName)) hown (mvT hZ (hw _ (List.mem_of_getElem? (i := 32) rfl))) (mvT hZ (hw _ (List.mem_of_getElem? (i := 33) rfl))) (notFace_of_selects (args := #[]) (mvT hZ (hw _ (List.mem_of_getElem? (i := 35) rfl)))) (mvT hZ (hw _ (List.mem_of_getElem? (i := 35) rfl))) (mvT hZ (hw _ (List.mem_of_getElem? (i := 34) rfl))) (by decide) (backOf (W := 0) (rm6_0 l Z aw hw [] ob_22 ob_41 cb_22 cb_41 k_5 k_12 T41.heap n0 Z57 B54 B43 B42 B55 B44 ne67) hZ (hw _ (List.mem_of_getElem? (i := 36) rfl)) (hw _ (List.mem_of_getElem? (i := 8) rfl)) (by decide) (by decide)) q74a q74c (g := (mkF m 128 #[iv p0, iv p1, iv p2, iv p3, iv p4, iv 0, iv z1, iv z2, iv z3, rv b_5, rv b_12, rv ob_22, rv ob_41, iv own_f5_0, iv 1, .unset, .unset, .unset] [(.ref ob_41), (.ref ob_22)])) rfl (by rw [hml]; rfl) (Steps.refl _) (argsL := [(.ref ob_41)]) (rest := []) (lenOf pd_6 rfl) rfl (by show 2 * 0 + _ ≤ _; exact Nat.le_of_eq rfl) (hb hby at_128) (fun _ _ => ⟨rfl, eh72, (by decide : 6 + 0 ≤ _), (by decide : 2 + 0 ≤ _)⟩)
    dsimp only [Pt.U, Pt.locs, Pt.cells, Pt.slots] at X74 l74 y74 z74 st74 hQ74
    subst l74 y74 z74
    obtain ⟨rfl, N74q, eh74⟩ := hQ74
    have N75 := Fr.app N73 N74q
    refine own_via (fun k => st74.trans k) ?_
    show own_Go p e below s _ _ (T74.setTop (mkF m 131 #[iv p0, iv p1, iv p2, iv p3, iv p4, iv 0, iv z1, iv z2, iv z3, rv b_5, rv b_12, rv ob_22, rv ob_41, iv own_f5_0, iv 1, .unset, .unset, .unset] [(.int own_f6_0)]))
    refine own_via (fun k => XS.ifNo X74.here hx rfl (hb hby at_131) rfl ((if0 _ _).trans (feq (own_law0_131 p0 hl4)).1) k) ?_
    show own_Go p e below s _ _ (T74.setTop (mkF m 134 #[iv p0, iv p1, iv p2, iv p3, iv p4, iv 0, iv z1, iv z2, iv z3, rv b_5, rv b_12, rv ob_22, rv ob_41, iv own_f5_0, iv 1, .unset, .unset, .unset] []))
    refine own_via (fun k => XS.aload X74.here hx rfl (hb hby at_134) rfl rfl  k) ?_
    show own_Go p e below s _ _ (T74.setTop (mkF m 136 #[iv p0, iv p1, iv p2, iv p3, iv p4, iv 0, iv z1, iv z2, iv z3, rv b_5, rv b_12, rv ob_22, rv ob_41, iv own_f5_0, iv 1, .unset, .unset, .unset] [(.ref ob_22)]))
    obtain ⟨cq76, kq76, q76a, q76b, q76c⟩ := isOf hZ eh74 B53
    obtain ⟨_, _, ⟨T76, L76, k76, n76⟩, -, X76, ⟨Lc76, hQ76, l76, y76, z76⟩, st76⟩ := X74.virtualBack hx (y := (⟨"com/example/grant3/grant3/policy/Etag", "hashCode", "()I"⟩ : MethodName)) (z := (⟨"com/example/grant3/grant3/policy/Etag", "hashCode", "()I"⟩ : MethodName)) hown (mvT hZ (hw _ (List.mem_of_getElem? (i := 46) rfl))) (mvT hZ (hw _ (List.mem_of_getElem? (i := 47) rfl))) (notFace_of_selects (args := #[]) (mvT hZ (hw _ (List.mem_of_getElem? (i := 49) rfl)))) (mvT hZ (hw _ (List.mem_of_getElem? (i := 49) rfl))) (mvT hZ (hw _ (List.mem_of_getElem? (i := 48) rfl))) (by decide) (backOf (W := 0) (rm9_0 l Z aw hw [] ob_22 cb_22 k_5 T41.heap n0 Z57 B54 B55 B56) hZ (hw _ (List.mem_of_getElem? (i := 50) rfl)) (hw _ (List.mem_of_getElem? (i := 8) rfl)) (by decide) (by decide)) q76a q76c (g := (mkF m 136 #[iv p0, iv p1, iv p2, iv p3, iv p4, iv 0, iv z1, iv z2, iv z3, rv b_5, rv b_12, rv ob_22, rv ob_41, iv own_f5_0, iv 1, .unset, .unset, .unset] [(.ref ob_22)])) rfl (by rw [hml]; rfl) (Steps.refl _) (argsL := []) (rest := []) (lenOf pd_9 rfl) rfl (by show 2 * 0 + _ ≤ _; exact Nat.le_of_eq rfl) (hb hby at_136) (fun _ _ => ⟨rfl, eh74, (by decide : 6 + 0 ≤ _), (by decide : 2 + 0 ≤ _)⟩)
    dsimp only [Pt.U, Pt.locs, Pt.cells, Pt.slots] at X76 l76 y76 z76 st76 hQ76
    subst l76 y76 z76
    obtain ⟨rfl, N76q, eh76⟩ := hQ76
    have N77 := Fr.app N75 N76q
    refine own_via (fun k => st76.trans k) ?_
    show own_Go p e below s _ _ (T76.setTop (mkF m 139 #[iv p0, iv p1, iv p2, iv p3, iv p4, iv 0, iv z1, iv z2, iv z3, rv b_5, rv b_12, rv ob_22, rv ob_41, iv own_f5_0, iv 1, .unset, .unset, .unset] [(.int own_f9_0)]))
    refine own_via (fun k => XS.iload X76.here hx rfl (hb hby at_139) rfl  k) ?_
    show own_Go p e below s _ _ (T76.setTop (mkF m 141 #[iv p0, iv p1, iv p2, iv p3, iv p4, iv 0, iv z1, iv z2, iv z3, rv b_5, rv b_12, rv ob_22, rv ob_41, iv own_f5_0, iv 1, .unset, .unset, .unset] [(.int own_f5_0), (.int own_f9_0)]))
    refine own_via (fun k => XS.icmpNo X76.here hx rfl (hb hby at_141) rfl (teq (own_law0_141 p0 hl4)).2 k) ?_
    show own_Go p e below s _ _ (T76.setTop (mkF m 144 #[iv p0, iv p1, iv p2, iv p3, iv p4, iv 0, iv z1, iv z2, iv z3, rv b_5, rv b_12, rv ob_22, rv ob_41, iv own_f5_0, iv 1, .unset, .unset, .unset] []))
    refine own_via (fun k => XS.iconst X76.here hx rfl (hb hby at_144) (XS.goto X76.here hx rfl (pc0 := 145) (pc' := 149) rfl (hb hby at_145) (by decide) (by decide) (XS.istore X76.here hx rfl (hb hby at_149) rfl (l' := #[iv p0, iv p1, iv p2, iv p3, iv p4, iv 0, iv z1, iv z2, iv z3, rv b_5, rv b_12, rv ob_22, rv ob_41, iv own_f5_0, iv 1, iv 1, .unset, .unset]) rfl (XS.aload X76.here hx rfl (hb hby at_151) rfl rfl  k)))) ?_
    show own_Go p e below s _ _ (T76.setTop (mkF m 153 #[iv p0, iv p1, iv p2, iv p3, iv p4, iv 0, iv z1, iv z2, iv z3, rv b_5, rv b_12, rv ob_22, rv ob_41, iv own_f5_0, iv 1, iv 1, .unset, .unset] [(.ref b_5)]))
    obtain ⟨_, _, ⟨T78, L78, k78, n78⟩, -, X78, ⟨Lc78, hQ78, l78, y78, z78⟩, st78⟩ := Jvm.LawKit.callS X76 hx (y := (⟨"com/example/grant3/grant3/policy/Etag", "of", "([B)Lcom/example/grant3/grant3/policy/Etag;"⟩ : MethodName)) hown (mvT hZ (hw _ (List.mem_of_getElem? (i := 6) rfl))) (mvT hZ (hw _ (List.mem_of_getElem? (i := 7) rfl))) (mvT hZ (hw _ (List.mem_of_getElem? (i := 8) rfl))) (mvT hZ (hw _ (List.mem_of_getElem? (i := 9) rfl))) (by decide) (backOf (W := 0) (rm2_0 l Z aw hw [] b_5 k_5 T41.heap n0 Z57 B49 B50) hZ (hw _ (List.mem_of_getElem? (i := 9) rfl)) (hw _ (List.mem_of_getElem? (i := 8) rfl)) (by decide) (by decide)) (g := (mkF m 153 #[iv p0, iv p1, iv p2, iv p3, iv p4, iv 0, iv z1, iv z2, iv z3, rv b_5, rv b_12, rv ob_22, rv ob_41, iv own_f5_0, iv 1, iv 1, .unset, .unset] [(.ref b_5)])) rfl (by rw [hml]; rfl) (argsL := [(.ref b_5)]) (rest := []) (lenOf pd_1 rfl) rfl (by show 2 * 0 + _ ≤ _; exact Nat.le_of_eq rfl) (hb hby at_153) (fun _ _ => ⟨rfl, eh76, (by decide : 6 + 2 ≤ _), (by decide : 2 + 1 ≤ _)⟩)
    dsimp only [Pt.U, Pt.locs, Pt.cells, Pt.slots] at X78 l78 y78 z78 st78 hQ78
    subst l78 y78 z78
    obtain ⟨ob_78, cb_78, rfl, N78q, K78, B79, B80, B81, B82, g83, g84⟩ := hQ78
    have N85 := Fr.app N77 N78q
    have B86 := B49.keep K78 nin0
    have B87 := B50.keep K78
    have B88 := B51.keep K78 nin0
    have B89 := B52.keep K78
    have B90 := B53.keep K78
    have B91 := B54.keep K78 nin0
    have B92 := B55.keep K78 nin0
    have B93 := B56.keep K78
    have B94 := B42.keep K78
    have B95 := B43.keep K78 nin0
    have B96 := B44.keep K78 nin0
    have B97 := B45.keep K78
    have Z98 : n0 ≤ T78.heap.size := Nat.le_trans Z57 K78.1
    have g99 : n0 ≤ ob_78 := Nat.le_trans Z57 g83
    have ne100 : b_5 ≠ ob_78 := Nat.ne_of_lt (Nat.lt_of_lt_of_le B49.lt g83)
    have ne101 : b_12 ≠ ob_78 := Nat.ne_of_lt (Nat.lt_of_lt_of_le B51.lt g83)
    have ne102 : ob_22 ≠ ob_78 := Nat.ne_of_lt (Nat.lt_of_lt_of_le B53.lt g83)
    have ne103 : cb_22 ≠ ob_78 := Nat.ne_of_lt (Nat.lt_of_lt_of_le B55.lt g83)
    have ne104 : ob_41 ≠ ob_78 := Nat.ne_of_lt (Nat.lt_of_lt_of_le B42.lt g83)
    have ne105 : cb_41 ≠ ob_78 := Nat.ne_of_lt (Nat.lt_of_lt_of_le B44.lt g83)
    have g106 : n0 ≤ cb_78 := Nat.le_trans Z57 g84
    have ne107 : b_5 ≠ cb_78 := Nat.ne_of_lt (Nat.lt_of_lt_of_le B49.lt g84)
    have ne108 : b_12 ≠ cb_78 := Nat.ne_of_lt (Nat.lt_of_lt_of_le B51.lt g84)
    have ne109 : ob_22 ≠ cb_78 := Nat.ne_of_lt (Nat.lt_of_lt_of_le B53.lt g84)
    have ne110 : cb_22 ≠ cb_78 := Nat.ne_of_lt (Nat.lt_of_lt_of_le B55.lt g84)
    have ne111 : ob_41 ≠ cb_78 := Nat.ne_of_lt (Nat.lt_of_lt_of_le B42.lt g84)
    have ne112 : cb_41 ≠ cb_78 := Nat.ne_of_lt (Nat.lt_of_lt_of_le B44.lt g84)
    refine own_via (fun k => st78 _ k) ?_
    show own_Go p e below s _ _ (T78.setTop (mkF m 156 #[iv p0, iv p1, iv p2, iv p3, iv p4, iv 0, iv z1, iv z2, iv z3, rv b_5, rv b_12, rv ob_22, rv ob_41, iv own_f5_0, iv 1, iv 1, .unset, .unset] [(.ref ob_78)]))
    refine own_via (fun k => XS.astore X78.here hx rfl (hb hby at_156) rfl rfl (l' := #[iv p0, iv p1, iv p2, iv p3, iv p4, iv 0, iv z1, iv z2, iv z3, rv b_5, rv b_12, rv ob_22, rv ob_41, iv own_f5_0, iv 1, iv 1, rv ob_78, .unset]) rfl (XS.iload X78.here hx rfl (hb hby at_158) rfl  k)) ?_
    show own_Go p e below s _ _ (T78.setTop (mkF m 160 #[iv p0, iv p1, iv p2, iv p3, iv p4, iv 0, iv z1, iv z2, iv z3, rv b_5, rv b_12, rv ob_22, rv ob_41, iv own_f5_0, iv 1, iv 1, rv ob_78, .unset] [(.int 0)]))
    refine own_via (fun k => XS.ifYes X78.here hx rfl (pc0 := 160) (pc' := 181) rfl (hb hby at_160) rfl (by decide) (by decide) (by decide) k) ?_
    show own_Go p e below s _ _ (T78.setTop (mkF m 181 #[iv p0, iv p1, iv p2, iv p3, iv p4, iv 0, iv z1, iv z2, iv z3, rv b_5, rv b_12, rv ob_22, rv ob_41, iv own_f5_0, iv 1, iv 1, rv ob_78, .unset] []))
    refine own_via (fun k => XS.aload X78.here hx rfl (hb hby at_181) rfl rfl  (XS.aload X78.here hx rfl (hb hby at_183) rfl rfl  k)) ?_
    show own_Go p e below s _ _ (T78.setTop (mkF m 185 #[iv p0, iv p1, iv p2, iv p3, iv p4, iv 0, iv z1, iv z2, iv z3, rv b_5, rv b_12, rv ob_22, rv ob_41, iv own_f5_0, iv 1, iv 1, rv ob_78, .unset] [(.ref ob_22), (.ref ob_78)]))
    obtain ⟨cq113, kq113, q113a, q113b, q113c⟩ := isOf hZ rfl B79
    obtain ⟨_, _, ⟨T113, L113, k113, n113⟩, -, X113, ⟨Lc113, hQ113, l113, y113, z113⟩, st113⟩ := X78.virtualBack hx (y := (⟨"com/example/grant3/grant3/policy/Etag", "equals", "(Ljava/lang/Object;)Z"⟩ : MethodName)) (z := (⟨"com/example/grant3/grant3/policy/Etag", "equals", "(Ljava/lang/Object;)Z"⟩ : MethodName)) hown (mvT hZ (hw _ (List.mem_of_getElem? (i := 32) rfl))) (mvT hZ (hw _ (List.mem_of_getElem? (i := 33) rfl))) (notFace_of_selects (args := #[]) (mvT hZ (hw _ (List.mem_of_getElem? (i := 35) rfl)))) (mvT hZ (hw _ (List.mem_of_getElem? (i := 35) rfl))) (mvT hZ (hw _ (List.mem_of_getElem? (i := 34) rfl))) (by decide) (backOf (W := 0) (rm6_0 l Z aw hw [] ob_78 ob_22 cb_78 cb_22 k_5 k_5 T78.heap n0 Z98 B80 B91 B90 B81 B92 (Ne.symm ne110)) hZ (hw _ (List.mem_of_getElem? (i := 36) rfl)) (hw _ (List.mem_of_getElem? (i := 8) rfl)) (by decide) (by decide)) q113a q113c (g := (mkF m 185 #[iv p0, iv p1, iv p2, iv p3, iv p4, iv 0, iv z1, iv z2, iv z3, rv b_5, rv b_12, rv ob_22, rv ob_41, iv own_f5_0, iv 1, iv 1, rv ob_78, .unset] [(.ref ob_22), (.ref ob_78)])) rfl (by rw [hml]; rfl) (Steps.refl _) (argsL := [(.ref ob_22)]) (rest := []) (lenOf pd_6 rfl) rfl (by show 2 * 0 + _ ≤ _; exact Nat.le_of_eq rfl) (hb hby at_185) (fun _ _ => ⟨rfl, rfl, (by decide : 8 + 0 ≤ _), (by decide : 3 + 0 ≤ _)⟩)
    dsimp only [Pt.U, Pt.locs, Pt.cells, Pt.slots] at X113 l113 y113 z113 st113 hQ113
    subst l113 y113 z113
    obtain ⟨rfl, N113q, eh113⟩ := hQ113
    have N114 := Fr.app N85 N113q
    refine own_via (fun k => st113.trans k) ?_
    show own_Go p e below s _ _ (T113.setTop (mkF m 188 #[iv p0, iv p1, iv p2, iv p3, iv p4, iv 0, iv z1, iv z2, iv z3, rv b_5, rv b_12, rv ob_22, rv ob_41, iv own_f5_0, iv 1, iv 1, rv ob_78, .unset] [(.int own_f6_0)]))
    refine own_via (fun k => XS.istore X113.here hx rfl (hb hby at_188) rfl (l' := #[iv p0, iv p1, iv p2, iv p3, iv p4, iv 0, iv z1, iv z2, iv z3, rv b_5, rv b_12, rv ob_22, rv ob_41, iv own_f5_0, iv 1, iv 1, rv ob_78, iv own_f6_0]) rfl (XS.iload X113.here hx rfl (hb hby at_190) rfl  k)) ?_
    show own_Go p e below s _ _ (T113.setTop (mkF m 192 #[iv p0, iv p1, iv p2, iv p3, iv p4, iv 0, iv z1, iv z2, iv z3, rv b_5, rv b_12, rv ob_22, rv ob_41, iv own_f5_0, iv 1, iv 1, rv ob_78, iv own_f6_0] [(.int 1)]))
    refine own_via (fun k => XS.ifNo X113.here hx rfl (hb hby at_192) rfl (by decide) k) ?_
    show own_Go p e below s _ _ (T113.setTop (mkF m 195 #[iv p0, iv p1, iv p2, iv p3, iv p4, iv 0, iv z1, iv z2, iv z3, rv b_5, rv b_12, rv ob_22, rv ob_41, iv own_f5_0, iv 1, iv 1, rv ob_78, iv own_f6_0] []))
    refine own_via (fun k => XS.iload X113.here hx rfl (hb hby at_195) rfl  k) ?_
    show own_Go p e below s _ _ (T113.setTop (mkF m 197 #[iv p0, iv p1, iv p2, iv p3, iv p4, iv 0, iv z1, iv z2, iv z3, rv b_5, rv b_12, rv ob_22, rv ob_41, iv own_f5_0, iv 1, iv 1, rv ob_78, iv own_f6_0] [(.int 1)]))
    refine own_via (fun k => XS.ifNo X113.here hx rfl (hb hby at_197) rfl (by decide) k) ?_
    show own_Go p e below s _ _ (T113.setTop (mkF m 200 #[iv p0, iv p1, iv p2, iv p3, iv p4, iv 0, iv z1, iv z2, iv z3, rv b_5, rv b_12, rv ob_22, rv ob_41, iv own_f5_0, iv 1, iv 1, rv ob_78, iv own_f6_0] []))
    refine own_via (fun k => XS.iload X113.here hx rfl (hb hby at_200) rfl  k) ?_
    show own_Go p e below s _ _ (T113.setTop (mkF m 202 #[iv p0, iv p1, iv p2, iv p3, iv p4, iv 0, iv z1, iv z2, iv z3, rv b_5, rv b_12, rv ob_22, rv ob_41, iv own_f5_0, iv 1, iv 1, rv ob_78, iv own_f6_0] [(.int own_f6_0)]))
    refine own_via (fun k => XS.ifNo X113.here hx rfl (hb hby at_202) rfl ((if0 _ _).trans (feq (own_law0_202 p0 hl4)).1) k) ?_
    show own_Go p e below s _ _ (T113.setTop (mkF m 205 #[iv p0, iv p1, iv p2, iv p3, iv p4, iv 0, iv z1, iv z2, iv z3, rv b_5, rv b_12, rv ob_22, rv ob_41, iv own_f5_0, iv 1, iv 1, rv ob_78, iv own_f6_0] []))
    refine own_via (fun k => XS.iconst X113.here hx rfl (hb hby at_205) (XS.goto X113.here hx rfl (pc0 := 206) (pc' := 210) rfl (hb hby at_206) (by decide) (by decide) k)) ?_
    show own_Go p e below s _ _ (T113.setTop (mkF m 210 #[iv p0, iv p1, iv p2, iv p3, iv p4, iv 0, iv z1, iv z2, iv z3, rv b_5, rv b_12, rv ob_22, rv ob_41, iv own_f5_0, iv 1, iv 1, rv ob_78, iv own_f6_0] [(.int 1)]))
    exact own_retN X113 hx hlk (t := .boolean) Bd.returns (by simp) (hb hby at_210) (Q := (Q0 Z p0 p1 p2 p3 p4 h0 n0)) ⟨rfl, N114⟩ (by decide) (by decide)
  · rw [hl4]
    show own_Go p e below s _ _ (s₁.setTop (mkF m 20 #[iv p0, iv p1, iv p2, iv p3, iv p4, iv 1, iv z1, iv z2, iv z3, .unset, .unset, .unset, .unset, .unset, .unset, .unset, .unset, .unset] []))
    refine own_via (fun k => XS.iload X0.here hx rfl (hb hby at_20) rfl  (XS.iload X0.here hx rfl (hb hby at_22) rfl  (XS.iload X0.here hx rfl (hb hby at_24) rfl  (XS.iload X0.here hx rfl (hb hby at_26) rfl  k)))) ?_
    show own_Go p e below s _ _ (s₁.setTop (mkF m 28 #[iv p0, iv p1, iv p2, iv p3, iv p4, iv 1, iv z1, iv z2, iv z3, .unset, .unset, .unset, .unset, .unset, .unset, .unset, .unset, .unset] [(.int z3), (.int z2), (.int z1), (.int 1)]))
    obtain ⟨_, _, ⟨T115, L115, k115, n115⟩, -, X115, ⟨Lc115, hQ115, l115, y115, z115⟩, st115⟩ := Jvm.LawKit.callS X0 hx (y := (⟨"com/example/grant3/grant3/policy/EtagOfPinLaw", "make", "(IBBB)[B"⟩ : MethodName)) hown (mvT hZ (hw _ (List.mem_of_getElem? (i := 1) rfl))) (mvT hZ (hw _ (List.mem_of_getElem? (i := 2) rfl))) (mvT hZ (hw _ (List.mem_of_getElem? (i := 3) rfl))) (mvT hZ (hw _ (List.mem_of_getElem? (i := 4) rfl))) (by decide) (backOf (W := 0) (rm1_1 l Z aw hw [] z1 z2 z3 h0 n0 Z0) hZ (hw _ (List.mem_of_getElem? (i := 4) rfl)) (hw _ (List.mem_of_getElem? (i := 3) rfl)) (by decide) (by decide)) (g := (mkF m 28 #[iv p0, iv p1, iv p2, iv p3, iv p4, iv 1, iv z1, iv z2, iv z3, .unset, .unset, .unset, .unset, .unset, .unset, .unset, .unset, .unset] [(.int z3), (.int z2), (.int z1), (.int 1)])) rfl (by rw [hml]; rfl) (argsL := [(.int 1), (.int z1), (.int z2), (.int z3)]) (rest := []) (lenOf pd_0 rfl) rfl (by show 2 * 0 + _ ≤ _; exact Nat.le_of_eq rfl) (hb hby at_28) (fun _ _ => ⟨rfl, e0, (by decide : 0 + 1 ≤ _), (by decide : 0 + 1 ≤ _)⟩)
    dsimp only [Pt.U, Pt.locs, Pt.cells, Pt.slots] at X115 l115 y115 z115 st115 hQ115
    subst l115 y115 z115
    obtain ⟨b_115, k_115, rfl, N115q, K115, B116, B117, g118⟩ := hQ115
    have N119 := Fr.app N0 N115q
    have Z120 : n0 ≤ T115.heap.size := Nat.le_trans Z0 K115.1
    have g121 : n0 ≤ b_115 := Nat.le_trans Z0 g118
    refine own_via (fun k => st115 _ k) ?_
    show own_Go p e below s _ _ (T115.setTop (mkF m 31 #[iv p0, iv p1, iv p2, iv p3, iv p4, iv 1, iv z1, iv z2, iv z3, .unset, .unset, .unset, .unset, .unset, .unset, .unset, .unset, .unset] [(.ref b_115)]))
    refine own_via (fun k => XS.astore X115.here hx rfl (hb hby at_31) rfl rfl (l' := #[iv p0, iv p1, iv p2, iv p3, iv p4, iv 1, iv z1, iv z2, iv z3, rv b_115, .unset, .unset, .unset, .unset, .unset, .unset, .unset, .unset]) rfl (XS.iload X115.here hx rfl (hb hby at_33) rfl  (XS.iload X115.here hx rfl (hb hby at_35) rfl  (XS.iload X115.here hx rfl (hb hby at_37) rfl  k)))) ?_
    show own_Go p e below s _ _ (T115.setTop (mkF m 39 #[iv p0, iv p1, iv p2, iv p3, iv p4, iv 1, iv z1, iv z2, iv z3, rv b_115, .unset, .unset, .unset, .unset, .unset, .unset, .unset, .unset] [(.int z2), (.int z1), (.int 1)]))
    refine own_via (fun k => XS.iload X115.here hx rfl (hb hby at_39) rfl  k) ?_
    show own_Go p e below s _ _ (T115.setTop (mkF m 41 #[iv p0, iv p1, iv p2, iv p3, iv p4, iv 1, iv z1, iv z2, iv z3, rv b_115, .unset, .unset, .unset, .unset, .unset, .unset, .unset, .unset] [(.int z3), (.int z2), (.int z1), (.int 1)]))
    obtain ⟨_, _, ⟨T122, L122, k122, n122⟩, -, X122, ⟨Lc122, hQ122, l122, y122, z122⟩, st122⟩ := Jvm.LawKit.callS X115 hx (y := (⟨"com/example/grant3/grant3/policy/EtagOfPinLaw", "make", "(IBBB)[B"⟩ : MethodName)) hown (mvT hZ (hw _ (List.mem_of_getElem? (i := 1) rfl))) (mvT hZ (hw _ (List.mem_of_getElem? (i := 2) rfl))) (mvT hZ (hw _ (List.mem_of_getElem? (i := 3) rfl))) (mvT hZ (hw _ (List.mem_of_getElem? (i := 4) rfl))) (by decide) (backOf (W := 0) (rm1_1 l Z aw hw [] z1 z2 z3 T115.heap n0 Z120) hZ (hw _ (List.mem_of_getElem? (i := 4) rfl)) (hw _ (List.mem_of_getElem? (i := 3) rfl)) (by decide) (by decide)) (g := (mkF m 41 #[iv p0, iv p1, iv p2, iv p3, iv p4, iv 1, iv z1, iv z2, iv z3, rv b_115, .unset, .unset, .unset, .unset, .unset, .unset, .unset, .unset] [(.int z3), (.int z2), (.int z1), (.int 1)])) rfl (by rw [hml]; rfl) (argsL := [(.int 1), (.int z1), (.int z2), (.int z3)]) (rest := []) (lenOf pd_0 rfl) rfl (by show 2 * 0 + _ ≤ _; exact Nat.le_of_eq rfl) (hb hby at_41) (fun _ _ => ⟨rfl, rfl, (by decide : 1 + 1 ≤ _), (by decide : 1 + 1 ≤ _)⟩)
    dsimp only [Pt.U, Pt.locs, Pt.cells, Pt.slots] at X122 l122 y122 z122 st122 hQ122
    subst l122 y122 z122
    obtain ⟨b_122, k_122, rfl, N122q, K122, B123, B124, g125⟩ := hQ122
    have N126 := Fr.app N119 N122q
    have B127 := B116.keep K122 nin0
    have B128 := B117.keep K122
    have Z129 : n0 ≤ T122.heap.size := Nat.le_trans Z120 K122.1
    have g130 : n0 ≤ b_122 := Nat.le_trans Z120 g125
    have ne131 : b_115 ≠ b_122 := Nat.ne_of_lt (Nat.lt_of_lt_of_le B116.lt g125)
    refine own_via (fun k => st122 _ k) ?_
    show own_Go p e below s _ _ (T122.setTop (mkF m 44 #[iv p0, iv p1, iv p2, iv p3, iv p4, iv 1, iv z1, iv z2, iv z3, rv b_115, .unset, .unset, .unset, .unset, .unset, .unset, .unset, .unset] [(.ref b_122)]))
    refine own_via (fun k => XS.astore X122.here hx rfl (hb hby at_44) rfl rfl (l' := #[iv p0, iv p1, iv p2, iv p3, iv p4, iv 1, iv z1, iv z2, iv z3, rv b_115, rv b_122, .unset, .unset, .unset, .unset, .unset, .unset, .unset]) rfl (XS.aload X122.here hx rfl (hb hby at_46) rfl rfl  k)) ?_
    show own_Go p e below s _ _ (T122.setTop (mkF m 48 #[iv p0, iv p1, iv p2, iv p3, iv p4, iv 1, iv z1, iv z2, iv z3, rv b_115, rv b_122, .unset, .unset, .unset, .unset, .unset, .unset, .unset] [(.ref b_115)]))
    obtain ⟨_, _, ⟨T132, L132, k132, n132⟩, -, X132, ⟨Lc132, hQ132, l132, y132, z132⟩, st132⟩ := Jvm.LawKit.callS X122 hx (y := (⟨"com/example/grant3/grant3/policy/Etag", "of", "([B)Lcom/example/grant3/grant3/policy/Etag;"⟩ : MethodName)) hown (mvT hZ (hw _ (List.mem_of_getElem? (i := 6) rfl))) (mvT hZ (hw _ (List.mem_of_getElem? (i := 7) rfl))) (mvT hZ (hw _ (List.mem_of_getElem? (i := 8) rfl))) (mvT hZ (hw _ (List.mem_of_getElem? (i := 9) rfl))) (by decide) (backOf (W := 0) (rm2_1 l Z aw hw [] b_115 k_115 (nar .byte z1) T122.heap n0 Z129 B127 B128) hZ (hw _ (List.mem_of_getElem? (i := 9) rfl)) (hw _ (List.mem_of_getElem? (i := 8) rfl)) (by decide) (by decide)) (g := (mkF m 48 #[iv p0, iv p1, iv p2, iv p3, iv p4, iv 1, iv z1, iv z2, iv z3, rv b_115, rv b_122, .unset, .unset, .unset, .unset, .unset, .unset, .unset] [(.ref b_115)])) rfl (by rw [hml]; rfl) (argsL := [(.ref b_115)]) (rest := []) (lenOf pd_1 rfl) rfl (by show 2 * 0 + _ ≤ _; exact Nat.le_of_eq rfl) (hb hby at_48) (fun _ _ => ⟨rfl, rfl, (by decide : 2 + 2 ≤ _), (by decide : 2 + 2 ≤ _)⟩)
    dsimp only [Pt.U, Pt.locs, Pt.cells, Pt.slots] at X132 l132 y132 z132 st132 hQ132
    subst l132 y132 z132
    obtain ⟨ob_132, cb_132, rfl, N132q, K132, B133, B134, B135, B136, g137, g138⟩ := hQ132
    have N139 := Fr.app N126 N132q
    have B140 := B127.keep K132 nin0
    have B141 := B128.keep K132
    have B142 := B123.keep K132 nin0
    have B143 := B124.keep K132
    have Z144 : n0 ≤ T132.heap.size := Nat.le_trans Z129 K132.1
    have g145 : n0 ≤ ob_132 := Nat.le_trans Z129 g137
    have ne146 : b_115 ≠ ob_132 := Nat.ne_of_lt (Nat.lt_of_lt_of_le B127.lt g137)
    have ne147 : b_122 ≠ ob_132 := Nat.ne_of_lt (Nat.lt_of_lt_of_le B123.lt g137)
    have g148 : n0 ≤ cb_132 := Nat.le_trans Z129 g138
    have ne149 : b_115 ≠ cb_132 := Nat.ne_of_lt (Nat.lt_of_lt_of_le B127.lt g138)
    have ne150 : b_122 ≠ cb_132 := Nat.ne_of_lt (Nat.lt_of_lt_of_le B123.lt g138)
    refine own_via (fun k => st132 _ k) ?_
    show own_Go p e below s _ _ (T132.setTop (mkF m 51 #[iv p0, iv p1, iv p2, iv p3, iv p4, iv 1, iv z1, iv z2, iv z3, rv b_115, rv b_122, .unset, .unset, .unset, .unset, .unset, .unset, .unset] [(.ref ob_132)]))
    refine own_via (fun k => XS.astore X132.here hx rfl (hb hby at_51) rfl rfl (l' := #[iv p0, iv p1, iv p2, iv p3, iv p4, iv 1, iv z1, iv z2, iv z3, rv b_115, rv b_122, rv ob_132, .unset, .unset, .unset, .unset, .unset, .unset]) rfl (XS.aload X132.here hx rfl (hb hby at_53) rfl rfl  k)) ?_
    show own_Go p e below s _ _ (T132.setTop (mkF m 55 #[iv p0, iv p1, iv p2, iv p3, iv p4, iv 1, iv z1, iv z2, iv z3, rv b_115, rv b_122, rv ob_132, .unset, .unset, .unset, .unset, .unset, .unset] [(.ref b_122)]))
    obtain ⟨_, _, ⟨T151, L151, k151, n151⟩, -, X151, ⟨Lc151, hQ151, l151, y151, z151⟩, st151⟩ := Jvm.LawKit.callS X132 hx (y := (⟨"com/example/grant3/grant3/policy/Etag", "of", "([B)Lcom/example/grant3/grant3/policy/Etag;"⟩ : MethodName)) hown (mvT hZ (hw _ (List.mem_of_getElem? (i := 6) rfl))) (mvT hZ (hw _ (List.mem_of_getElem? (i := 7) rfl))) (mvT hZ (hw _ (List.mem_of_getElem? (i := 8) rfl))) (mvT hZ (hw _ (List.mem_of_getElem? (i := 9) rfl))) (by decide) (backOf (W := 0) (rm2_1 l Z aw hw [] b_122 k_122 (nar .byte z1) T132.heap n0 Z144 B142 B143) hZ (hw _ (List.mem_of_getElem? (i := 9) rfl)) (hw _ (List.mem_of_getElem? (i := 8) rfl)) (by decide) (by decide)) (g := (mkF m 55 #[iv p0, iv p1, iv p2, iv p3, iv p4, iv 1, iv z1, iv z2, iv z3, rv b_115, rv b_122, rv ob_132, .unset, .unset, .unset, .unset, .unset, .unset] [(.ref b_122)])) rfl (by rw [hml]; rfl) (argsL := [(.ref b_122)]) (rest := []) (lenOf pd_1 rfl) rfl (by show 2 * 0 + _ ≤ _; exact Nat.le_of_eq rfl) (hb hby at_55) (fun _ _ => ⟨rfl, rfl, (by decide : 4 + 2 ≤ _), (by decide : 4 + 2 ≤ _)⟩)
    dsimp only [Pt.U, Pt.locs, Pt.cells, Pt.slots] at X151 l151 y151 z151 st151 hQ151
    subst l151 y151 z151
    obtain ⟨ob_151, cb_151, rfl, N151q, K151, B152, B153, B154, B155, g156, g157⟩ := hQ151
    have N158 := Fr.app N139 N151q
    have B159 := B140.keep K151 nin0
    have B160 := B141.keep K151
    have B161 := B142.keep K151 nin0
    have B162 := B143.keep K151
    have B163 := B133.keep K151
    have B164 := B134.keep K151 nin0
    have B165 := B135.keep K151 nin0
    have B166 := B136.keep K151
    have Z167 : n0 ≤ T151.heap.size := Nat.le_trans Z144 K151.1
    have g168 : n0 ≤ ob_151 := Nat.le_trans Z144 g156
    have ne169 : b_115 ≠ ob_151 := Nat.ne_of_lt (Nat.lt_of_lt_of_le B140.lt g156)
    have ne170 : b_122 ≠ ob_151 := Nat.ne_of_lt (Nat.lt_of_lt_of_le B142.lt g156)
    have ne171 : ob_132 ≠ ob_151 := Nat.ne_of_lt (Nat.lt_of_lt_of_le B133.lt g156)
    have ne172 : cb_132 ≠ ob_151 := Nat.ne_of_lt (Nat.lt_of_lt_of_le B135.lt g156)
    have g173 : n0 ≤ cb_151 := Nat.le_trans Z144 g157
    have ne174 : b_115 ≠ cb_151 := Nat.ne_of_lt (Nat.lt_of_lt_of_le B140.lt g157)
    have ne175 : b_122 ≠ cb_151 := Nat.ne_of_lt (Nat.lt_of_lt_of_le B142.lt g157)
    have ne176 : ob_132 ≠ cb_151 := Nat.ne_of_lt (Nat.lt_of_lt_of_le B133.lt g157)
    have ne177 : cb_132 ≠ cb_151 := Nat.ne_of_lt (Nat.lt_of_lt_of_le B135.lt g157)
    refine own_via (fun k => st151 _ k) ?_
    show own_Go p e below s _ _ (T151.setTop (mkF m 58 #[iv p0, iv p1, iv p2, iv p3, iv p4, iv 1, iv z1, iv z2, iv z3, rv b_115, rv b_122, rv ob_132, .unset, .unset, .unset, .unset, .unset, .unset] [(.ref ob_151)]))
    refine own_via (fun k => XS.astore X151.here hx rfl (hb hby at_58) rfl rfl (l' := #[iv p0, iv p1, iv p2, iv p3, iv p4, iv 1, iv z1, iv z2, iv z3, rv b_115, rv b_122, rv ob_132, rv ob_151, .unset, .unset, .unset, .unset, .unset]) rfl (XS.iload X151.here hx rfl (hb hby at_60) rfl  (XS.iload X151.here hx rfl (hb hby at_62) rfl  (XS.iload X151.here hx rfl (hb hby at_64) rfl  k)))) ?_
    show own_Go p e below s _ _ (T151.setTop (mkF m 66 #[iv p0, iv p1, iv p2, iv p3, iv p4, iv 1, iv z1, iv z2, iv z3, rv b_115, rv b_122, rv ob_132, rv ob_151, .unset, .unset, .unset, .unset, .unset] [(.int z2), (.int z1), (.int 1)]))
    refine own_via (fun k => XS.iload X151.here hx rfl (hb hby at_66) rfl  k) ?_
    show own_Go p e below s _ _ (T151.setTop (mkF m 68 #[iv p0, iv p1, iv p2, iv p3, iv p4, iv 1, iv z1, iv z2, iv z3, rv b_115, rv b_122, rv ob_132, rv ob_151, .unset, .unset, .unset, .unset, .unset] [(.int z3), (.int z2), (.int z1), (.int 1)]))
    obtain ⟨_, _, ⟨T178, L178, k178, n178⟩, -, X178, ⟨Lc178, hQ178, l178, y178, z178⟩, st178⟩ := Jvm.LawKit.callS X151 hx (y := (⟨"com/example/grant3/grant3/policy/EtagOfPinLaw", "refHash", "(IBBB)I"⟩ : MethodName)) hown (mvT hZ (hw _ (List.mem_of_getElem? (i := 29) rfl))) (mvT hZ (hw _ (List.mem_of_getElem? (i := 30) rfl))) (mvT hZ (hw _ (List.mem_of_getElem? (i := 3) rfl))) (mvT hZ (hw _ (List.mem_of_getElem? (i := 31) rfl))) (by decide) (backOf (W := 0) (rm5_1 l Z aw hw [] z1 z2 z3 T151.heap n0 Z167) hZ (hw _ (List.mem_of_getElem? (i := 31) rfl)) (hw _ (List.mem_of_getElem? (i := 3) rfl)) (by decide) (by decide)) (g := (mkF m 68 #[iv p0, iv p1, iv p2, iv p3, iv p4, iv 1, iv z1, iv z2, iv z3, rv b_115, rv b_122, rv ob_132, rv ob_151, .unset, .unset, .unset, .unset, .unset] [(.int z3), (.int z2), (.int z1), (.int 1)])) rfl (by rw [hml]; rfl) (argsL := [(.int 1), (.int z1), (.int z2), (.int z3)]) (rest := []) (lenOf pd_5 rfl) rfl (by show 2 * 0 + _ ≤ _; exact Nat.le_of_eq rfl) (hb hby at_68) (fun _ _ => ⟨rfl, rfl, (by decide : 6 + 0 ≤ _), (by decide : 6 + 0 ≤ _)⟩)
    dsimp only [Pt.U, Pt.locs, Pt.cells, Pt.slots] at X178 l178 y178 z178 st178 hQ178
    subst l178 y178 z178
    obtain ⟨rfl, N178q, eh178⟩ := hQ178
    have N179 := Fr.app N158 N178q
    refine own_via (fun k => st178 _ k) ?_
    show own_Go p e below s _ _ (T178.setTop (mkF m 71 #[iv p0, iv p1, iv p2, iv p3, iv p4, iv 1, iv z1, iv z2, iv z3, rv b_115, rv b_122, rv ob_132, rv ob_151, .unset, .unset, .unset, .unset, .unset] [(.int (own_f5_1 z1))]))
    refine own_via (fun k => XS.istore X178.here hx rfl (hb hby at_71) rfl (l' := #[iv p0, iv p1, iv p2, iv p3, iv p4, iv 1, iv z1, iv z2, iv z3, rv b_115, rv b_122, rv ob_132, rv ob_151, iv (own_f5_1 z1), .unset, .unset, .unset, .unset]) rfl (XS.aload X178.here hx rfl (hb hby at_73) rfl rfl  (XS.aload X178.here hx rfl (hb hby at_75) rfl rfl  k))) ?_
    show own_Go p e below s _ _ (T178.setTop (mkF m 77 #[iv p0, iv p1, iv p2, iv p3, iv p4, iv 1, iv z1, iv z2, iv z3, rv b_115, rv b_122, rv ob_132, rv ob_151, iv (own_f5_1 z1), .unset, .unset, .unset, .unset] [(.ref ob_151), (.ref ob_132)]))
    obtain ⟨cq180, kq180, q180a, q180b, q180c⟩ := isOf hZ eh178 B163
    obtain ⟨_, _, ⟨T180, L180, k180, n180⟩, -, X180, ⟨Lc180, hQ180, l180, y180, z180⟩, st180⟩ := X178.virtualBack hx (y := (⟨"com/example/grant3/grant3/policy/Etag", "equals", "(Ljava/lang/Object;)Z"⟩ : MethodName)) (z := (⟨"com/example/grant3/grant3/policy/Etag", "equals", "(Ljava/lang/Object;)Z"⟩ : MethodName)) hown (mvT hZ (hw _ (List.mem_of_getElem? (i := 32) rfl))) (mvT hZ (hw _ (List.mem_of_getElem? (i := 33) rfl))) (notFace_of_selects (args := #[]) (mvT hZ (hw _ (List.mem_of_getElem? (i := 35) rfl)))) (mvT hZ (hw _ (List.mem_of_getElem? (i := 35) rfl))) (mvT hZ (hw _ (List.mem_of_getElem? (i := 34) rfl))) (by decide) (backOf (W := 0) (rm6_1 l Z aw hw [] ob_132 ob_151 cb_132 cb_151 k_115 k_122 (nar .byte z1) (nar .byte z1) T151.heap n0 Z167 B164 B153 B152 B165 B154 ne177) hZ (hw _ (List.mem_of_getElem? (i := 36) rfl)) (hw _ (List.mem_of_getElem? (i := 8) rfl)) (by decide) (by decide)) q180a q180c (g := (mkF m 77 #[iv p0, iv p1, iv p2, iv p3, iv p4, iv 1, iv z1, iv z2, iv z3, rv b_115, rv b_122, rv ob_132, rv ob_151, iv (own_f5_1 z1), .unset, .unset, .unset, .unset] [(.ref ob_151), (.ref ob_132)])) rfl (by rw [hml]; rfl) (Steps.refl _) (argsL := [(.ref ob_151)]) (rest := []) (lenOf pd_6 rfl) rfl (by show 2 * 0 + _ ≤ _; exact Nat.le_of_eq rfl) (hb hby at_77) (fun _ _ => ⟨rfl, eh178, (by decide : 6 + 0 ≤ _), (by decide : 6 + 0 ≤ _)⟩)
    dsimp only [Pt.U, Pt.locs, Pt.cells, Pt.slots] at X180 l180 y180 z180 st180 hQ180
    subst l180 y180 z180
    obtain ⟨rfl, N180q, eh180⟩ := hQ180
    have N181 := Fr.app N179 N180q
    refine own_via (fun k => st180.trans k) ?_
    show own_Go p e below s _ _ (T180.setTop (mkF m 80 #[iv p0, iv p1, iv p2, iv p3, iv p4, iv 1, iv z1, iv z2, iv z3, rv b_115, rv b_122, rv ob_132, rv ob_151, iv (own_f5_1 z1), .unset, .unset, .unset, .unset] [(.int (own_f6_1 (nar .byte z1) (nar .byte z1)))]))
    refine own_via (fun k => XS.ifNo X180.here hx rfl (hb hby at_80) rfl ((if0 _ _).trans (feq (own_law1_80 p0 p1 z1 hz1 hl4)).1) k) ?_
    show own_Go p e below s _ _ (T180.setTop (mkF m 83 #[iv p0, iv p1, iv p2, iv p3, iv p4, iv 1, iv z1, iv z2, iv z3, rv b_115, rv b_122, rv ob_132, rv ob_151, iv (own_f5_1 z1), .unset, .unset, .unset, .unset] []))
    refine own_via (fun k => XS.aload X180.here hx rfl (hb hby at_83) rfl rfl  k) ?_
    show own_Go p e below s _ _ (T180.setTop (mkF m 85 #[iv p0, iv p1, iv p2, iv p3, iv p4, iv 1, iv z1, iv z2, iv z3, rv b_115, rv b_122, rv ob_132, rv ob_151, iv (own_f5_1 z1), .unset, .unset, .unset, .unset] [(.ref ob_132)]))
    obtain ⟨cq182, kq182, q182a, q182b, q182c⟩ := isOf hZ eh180 B163
    obtain ⟨_, _, ⟨T182, L182, k182, n182⟩, -, X182, ⟨Lc182, hQ182, l182, y182, z182⟩, st182⟩ := X180.virtualBack hx (y := (⟨"com/example/grant3/grant3/policy/Etag", "hashCode", "()I"⟩ : MethodName)) (z := (⟨"com/example/grant3/grant3/policy/Etag", "hashCode", "()I"⟩ : MethodName)) hown (mvT hZ (hw _ (List.mem_of_getElem? (i := 46) rfl))) (mvT hZ (hw _ (List.mem_of_getElem? (i := 47) rfl))) (notFace_of_selects (args := #[]) (mvT hZ (hw _ (List.mem_of_getElem? (i := 49) rfl)))) (mvT hZ (hw _ (List.mem_of_getElem? (i := 49) rfl))) (mvT hZ (hw _ (List.mem_of_getElem? (i := 48) rfl))) (by decide) (backOf (W := 0) (rm9_1 l Z aw hw [] ob_132 cb_132 k_115 (nar .byte z1) T151.heap n0 Z167 B164 B165 B166) hZ (hw _ (List.mem_of_getElem? (i := 50) rfl)) (hw _ (List.mem_of_getElem? (i := 8) rfl)) (by decide) (by decide)) q182a q182c (g := (mkF m 85 #[iv p0, iv p1, iv p2, iv p3, iv p4, iv 1, iv z1, iv z2, iv z3, rv b_115, rv b_122, rv ob_132, rv ob_151, iv (own_f5_1 z1), .unset, .unset, .unset, .unset] [(.ref ob_132)])) rfl (by rw [hml]; rfl) (Steps.refl _) (argsL := []) (rest := []) (lenOf pd_9 rfl) rfl (by show 2 * 0 + _ ≤ _; exact Nat.le_of_eq rfl) (hb hby at_85) (fun _ _ => ⟨rfl, eh180, (by decide : 6 + 0 ≤ _), (by decide : 6 + 0 ≤ _)⟩)
    dsimp only [Pt.U, Pt.locs, Pt.cells, Pt.slots] at X182 l182 y182 z182 st182 hQ182
    subst l182 y182 z182
    obtain ⟨rfl, N182q, eh182⟩ := hQ182
    have N183 := Fr.app N181 N182q
    refine own_via (fun k => st182.trans k) ?_
    show own_Go p e below s _ _ (T182.setTop (mkF m 88 #[iv p0, iv p1, iv p2, iv p3, iv p4, iv 1, iv z1, iv z2, iv z3, rv b_115, rv b_122, rv ob_132, rv ob_151, iv (own_f5_1 z1), .unset, .unset, .unset, .unset] [(.int (own_f9_1 (nar .byte z1)))]))
    refine own_via (fun k => XS.iload X182.here hx rfl (hb hby at_88) rfl  k) ?_
    show own_Go p e below s _ _ (T182.setTop (mkF m 90 #[iv p0, iv p1, iv p2, iv p3, iv p4, iv 1, iv z1, iv z2, iv z3, rv b_115, rv b_122, rv ob_132, rv ob_151, iv (own_f5_1 z1), .unset, .unset, .unset, .unset] [(.int (own_f5_1 z1)), (.int (own_f9_1 (nar .byte z1)))]))
    refine own_via (fun k => XS.icmpNo X182.here hx rfl (hb hby at_90) rfl (teq (own_law1_90 p0 p1 z1 hz1 hl4)).2 k) ?_
    show own_Go p e below s _ _ (T182.setTop (mkF m 93 #[iv p0, iv p1, iv p2, iv p3, iv p4, iv 1, iv z1, iv z2, iv z3, rv b_115, rv b_122, rv ob_132, rv ob_151, iv (own_f5_1 z1), .unset, .unset, .unset, .unset] []))
    refine own_via (fun k => XS.iconst X182.here hx rfl (hb hby at_93) (XS.goto X182.here hx rfl (pc0 := 94) (pc' := 98) rfl (hb hby at_94) (by decide) (by decide) (XS.istore X182.here hx rfl (hb hby at_98) rfl (l' := #[iv p0, iv p1, iv p2, iv p3, iv p4, iv 1, iv z1, iv z2, iv z3, rv b_115, rv b_122, rv ob_132, rv ob_151, iv (own_f5_1 z1), iv 1, .unset, .unset, .unset]) rfl (XS.iload X182.here hx rfl (hb hby at_100) rfl  k)))) ?_
    show own_Go p e below s _ _ (T182.setTop (mkF m 102 #[iv p0, iv p1, iv p2, iv p3, iv p4, iv 1, iv z1, iv z2, iv z3, rv b_115, rv b_122, rv ob_132, rv ob_151, iv (own_f5_1 z1), iv 1, .unset, .unset, .unset] [(.int 1)]))
    refine own_via (fun k => XS.ifNo X182.here hx rfl (hb hby at_102) rfl (by decide) k) ?_
    show own_Go p e below s _ _ (T182.setTop (mkF m 105 #[iv p0, iv p1, iv p2, iv p3, iv p4, iv 1, iv z1, iv z2, iv z3, rv b_115, rv b_122, rv ob_132, rv ob_151, iv (own_f5_1 z1), iv 1, .unset, .unset, .unset] []))
    refine own_via (fun k => XS.aload X182.here hx rfl (hb hby at_105) rfl rfl  (XS.iconst X182.here hx rfl (hb hby at_107) (XS.iload X182.here hx rfl (hb hby at_108) rfl  (XS.iconst X182.here hx rfl (hb hby at_110) k)))) ?_
    show own_Go p e below s _ _ (T182.setTop (mkF m 111 #[iv p0, iv p1, iv p2, iv p3, iv p4, iv 1, iv z1, iv z2, iv z3, rv b_115, rv b_122, rv ob_132, rv ob_151, iv (own_f5_1 z1), iv 1, .unset, .unset, .unset] [(.int 1), (.int z1), (.int 0), (.ref b_115)]))
    refine own_via (fun k => XS.iadd X182.here hx rfl (hb hby at_111) rfl (XS.iload X182.here hx rfl (hb hby at_112) rfl  (X182.ldcInt hx hown (mvT hZ (hw _ (List.mem_of_getElem? (i := 0) rfl))) (g := (mkF m 114 #[iv p0, iv p1, iv p2, iv p3, iv p4, iv 1, iv z1, iv z2, iv z3, rv b_115, rv b_122, rv ob_132, rv ob_151, iv (own_f5_1 z1), iv 1, .unset, .unset, .unset] [(.int p4), (.int (z1 + (1 : Int32))), (.int 0), (.ref b_115)])) rfl (hb hby at_114) _ (XS.iand X182.here hx rfl (hb hby at_116) rfl k)))) ?_
    show own_Go p e below s _ _ (T182.setTop (mkF m 117 #[iv p0, iv p1, iv p2, iv p3, iv p4, iv 1, iv z1, iv z2, iv z3, rv b_115, rv b_122, rv ob_132, rv ob_151, iv (own_f5_1 z1), iv 1, .unset, .unset, .unset] [(.int (p4 &&& (2147483647 : Int32))), (.int (z1 + (1 : Int32))), (.int 0), (.ref b_115)]))
    refine own_via (fun k => XS.sipush X182.here hx rfl (hb hby at_117) (Jvm.RoadKit.iremM X182 hx rfl (hb hby at_120) rfl (by decide) (XS.iadd X182.here hx rfl (hb hby at_121) rfl (XS.i2b X182.here hx rfl (hb hby at_122) rfl k)))) ?_
    show own_Go p e below s _ _ (T182.setTop (mkF m 123 #[iv p0, iv p1, iv p2, iv p3, iv p4, iv 1, iv z1, iv z2, iv z3, rv b_115, rv b_122, rv ob_132, rv ob_151, iv (own_f5_1 z1), iv 1, .unset, .unset, .unset] [(.int (((z1 + (1 : Int32)) + ((p4 &&& (2147483647 : Int32)) % (255 : Int32))).toInt8.toInt32)), (.int 0), (.ref b_115)]))
    obtain ⟨z184, hz184⟩ : ∃ z : Int32, z = (((z1 + (1 : Int32)) + ((p4 &&& (2147483647 : Int32)) % (255 : Int32))).toInt8.toInt32) := ⟨_, rfl⟩
    rw [← hz184]
    show own_Go p e below s _ _ (T182.setTop (mkF m 123 #[iv p0, iv p1, iv p2, iv p3, iv p4, iv 1, iv z1, iv z2, iv z3, rv b_115, rv b_122, rv ob_132, rv ob_151, iv (own_f5_1 z1), iv 1, .unset, .unset, .unset] [(.int z184), (.int 0), (.ref b_115)]))
    obtain ⟨cl185, Ar185, q185, S185, NN185, H185, G185⟩ := id B159
    have hin185 : ¬ ((0 : Int32) < 0 ∨ cl185.slots.size ≤ ((0 : Int32)).toNatClampNeg) := inb_of S185 ⟨by decide, by decide⟩
    obtain ⟨T185, h185, X185, e185, W185, st185⟩ := stB X182 hx hZ eh182 Ar185 (j := (0 : Int32)) hin185 (g := (mkF m 123 #[iv p0, iv p1, iv p2, iv p3, iv p4, iv 1, iv z1, iv z2, iv z3, rv b_115, rv b_122, rv ob_132, rv ob_151, iv (own_f5_1 z1), iv 1, .unset, .unset, .unset] [(.int z184), (.int 0), (.ref b_115)])) rfl rfl (hb hby at_123)
    refine own_via (fun k => st185 _ k) ?_
    show own_Go p e below s _ _ (T185.setTop (mkF m 124 #[iv p0, iv p1, iv p2, iv p3, iv p4, iv 1, iv z1, iv z2, iv z3, rv b_115, rv b_122, rv ob_132, rv ob_151, iv (own_f5_1 z1), iv 1, .unset, .unset, .unset] []))
    have B186 := B160.wr W185
    have B187 := B161.other W185 (Ne.symm ne131)
    have B188 := B162.wr W185
    have B189 := B163.wr W185
    have B190 := B164.other W185 (Or.inl (Ne.symm ne146))
    have B191 := B165.other W185 (Ne.symm ne149)
    have B192 := B166.wr W185
    have B193 := B152.wr W185
    have B194 := B153.other W185 (Or.inl (Ne.symm ne169))
    have B195 := B154.other W185 (Ne.symm ne174)
    have B196 := B155.wr W185
    have B197 : Arv Z h185 b_115 k_115 .byte (1 : Int32) [(.int (nar .byte z184))] (.int 0) := Arv.set Ar185 q185 S185 NN185 H185 G185 (fits_nar_byte _) W185 0 rfl (Nat.le_of_ble_eq_true rfl)
    have N198 := Fr.snoc X185 N183 g121
    have Z199 : n0 ≤ h185.size := Nat.le_trans Z167 (Keep.of_wr W185).1
    refine own_via (fun k => XS.aload X185.here hx rfl (hb hby at_124) rfl rfl  (XS.aload X185.here hx rfl (hb hby at_126) rfl rfl  k)) ?_
    show own_Go p e below s _ _ (T185.setTop (mkF m 128 #[iv p0, iv p1, iv p2, iv p3, iv p4, iv 1, iv z1, iv z2, iv z3, rv b_115, rv b_122, rv ob_132, rv ob_151, iv (own_f5_1 z1), iv 1, .unset, .unset, .unset] [(.ref ob_151), (.ref ob_132)]))
    obtain ⟨cq200, kq200, q200a, q200b, q200c⟩ := isOf hZ e185 B189
    obtain ⟨_, _, ⟨T200, L200, k200, n200⟩, -, X200, ⟨Lc200, hQ200, l200, y200, z200⟩, st200⟩ := X185.virtualBack hx (y := (⟨"com/example/grant3/grant3/policy/Etag", "equals", "(Ljava/lang/Object;)Z"⟩ : MethodName)) (z := (⟨"com/example/grant3/grant3/policy/Etag", "equals", "(Ljava/lang/Object;)Z"⟩ : MethodName)) hown (mvT hZ (hw _ (List.mem_of_getElem? (i := 32) rfl))) (mvT hZ (hw _ (List.mem_of_getElem? (i := 33) rfl))) (notFace_of_selects (args := #[]) (mvT hZ (hw _ (List.mem_of_getElem? (i := 35) rfl)))) (mvT hZ (hw _ (List.mem_of_getElem? (i := 35) rfl))) (mvT hZ (hw _ (List.mem_of_getElem? (i := 34) rfl))) (by decide) (backOf (W := 0) (rm6_1 l Z aw hw [] ob_132 ob_151 cb_132 cb_151 k_115 k_122 (nar .byte z1) (nar .byte z1) h185 n0 Z199 B190 B194 B193 B191 B195 ne177) hZ (hw _ (List.mem_of_getElem? (i := 36) rfl)) (hw _ (List.mem_of_getElem? (i := 8) rfl)) (by decide) (by decide)) q200a q200c (g := (mkF m 128 #[iv p0, iv p1, iv p2, iv p3, iv p4, iv 1, iv z1, iv z2, iv z3, rv b_115, rv b_122, rv ob_132, rv ob_151, iv (own_f5_1 z1), iv 1, .unset, .unset, .unset] [(.ref ob_151), (.ref ob_132)])) rfl (by rw [hml]; rfl) (Steps.refl _) (argsL := [(.ref ob_151)]) (rest := []) (lenOf pd_6 rfl) rfl (by show 2 * 0 + _ ≤ _; exact Nat.le_of_eq rfl) (hb hby at_128) (fun _ _ => ⟨rfl, e185, (by decide : 6 + 0 ≤ _), (by decide : 6 + 0 ≤ _)⟩)
    dsimp only [Pt.U, Pt.locs, Pt.cells, Pt.slots] at X200 l200 y200 z200 st200 hQ200
    subst l200 y200 z200
    obtain ⟨rfl, N200q, eh200⟩ := hQ200
    have N201 := Fr.app N198 N200q
    refine own_via (fun k => st200.trans k) ?_
    show own_Go p e below s _ _ (T200.setTop (mkF m 131 #[iv p0, iv p1, iv p2, iv p3, iv p4, iv 1, iv z1, iv z2, iv z3, rv b_115, rv b_122, rv ob_132, rv ob_151, iv (own_f5_1 z1), iv 1, .unset, .unset, .unset] [(.int (own_f6_1 (nar .byte z1) (nar .byte z1)))]))
    refine own_via (fun k => XS.ifNo X200.here hx rfl (hb hby at_131) rfl ((if0 _ _).trans (feq (own_law1_131 p0 p1 z1 hz1 hl4)).1) k) ?_
    show own_Go p e below s _ _ (T200.setTop (mkF m 134 #[iv p0, iv p1, iv p2, iv p3, iv p4, iv 1, iv z1, iv z2, iv z3, rv b_115, rv b_122, rv ob_132, rv ob_151, iv (own_f5_1 z1), iv 1, .unset, .unset, .unset] []))
    refine own_via (fun k => XS.aload X200.here hx rfl (hb hby at_134) rfl rfl  k) ?_
    show own_Go p e below s _ _ (T200.setTop (mkF m 136 #[iv p0, iv p1, iv p2, iv p3, iv p4, iv 1, iv z1, iv z2, iv z3, rv b_115, rv b_122, rv ob_132, rv ob_151, iv (own_f5_1 z1), iv 1, .unset, .unset, .unset] [(.ref ob_132)]))
    obtain ⟨cq202, kq202, q202a, q202b, q202c⟩ := isOf hZ eh200 B189
    obtain ⟨_, _, ⟨T202, L202, k202, n202⟩, -, X202, ⟨Lc202, hQ202, l202, y202, z202⟩, st202⟩ := X200.virtualBack hx (y := (⟨"com/example/grant3/grant3/policy/Etag", "hashCode", "()I"⟩ : MethodName)) (z := (⟨"com/example/grant3/grant3/policy/Etag", "hashCode", "()I"⟩ : MethodName)) hown (mvT hZ (hw _ (List.mem_of_getElem? (i := 46) rfl))) (mvT hZ (hw _ (List.mem_of_getElem? (i := 47) rfl))) (notFace_of_selects (args := #[]) (mvT hZ (hw _ (List.mem_of_getElem? (i := 49) rfl)))) (mvT hZ (hw _ (List.mem_of_getElem? (i := 49) rfl))) (mvT hZ (hw _ (List.mem_of_getElem? (i := 48) rfl))) (by decide) (backOf (W := 0) (rm9_1 l Z aw hw [] ob_132 cb_132 k_115 (nar .byte z1) h185 n0 Z199 B190 B191 B192) hZ (hw _ (List.mem_of_getElem? (i := 50) rfl)) (hw _ (List.mem_of_getElem? (i := 8) rfl)) (by decide) (by decide)) q202a q202c (g := (mkF m 136 #[iv p0, iv p1, iv p2, iv p3, iv p4, iv 1, iv z1, iv z2, iv z3, rv b_115, rv b_122, rv ob_132, rv ob_151, iv (own_f5_1 z1), iv 1, .unset, .unset, .unset] [(.ref ob_132)])) rfl (by rw [hml]; rfl) (Steps.refl _) (argsL := []) (rest := []) (lenOf pd_9 rfl) rfl (by show 2 * 0 + _ ≤ _; exact Nat.le_of_eq rfl) (hb hby at_136) (fun _ _ => ⟨rfl, eh200, (by decide : 6 + 0 ≤ _), (by decide : 6 + 0 ≤ _)⟩)
    dsimp only [Pt.U, Pt.locs, Pt.cells, Pt.slots] at X202 l202 y202 z202 st202 hQ202
    subst l202 y202 z202
    obtain ⟨rfl, N202q, eh202⟩ := hQ202
    have N203 := Fr.app N201 N202q
    refine own_via (fun k => st202.trans k) ?_
    show own_Go p e below s _ _ (T202.setTop (mkF m 139 #[iv p0, iv p1, iv p2, iv p3, iv p4, iv 1, iv z1, iv z2, iv z3, rv b_115, rv b_122, rv ob_132, rv ob_151, iv (own_f5_1 z1), iv 1, .unset, .unset, .unset] [(.int (own_f9_1 (nar .byte z1)))]))
    refine own_via (fun k => XS.iload X202.here hx rfl (hb hby at_139) rfl  k) ?_
    show own_Go p e below s _ _ (T202.setTop (mkF m 141 #[iv p0, iv p1, iv p2, iv p3, iv p4, iv 1, iv z1, iv z2, iv z3, rv b_115, rv b_122, rv ob_132, rv ob_151, iv (own_f5_1 z1), iv 1, .unset, .unset, .unset] [(.int (own_f5_1 z1)), (.int (own_f9_1 (nar .byte z1)))]))
    refine own_via (fun k => XS.icmpNo X202.here hx rfl (hb hby at_141) rfl (teq (own_law1_141 p0 p1 z1 hz1 hl4)).2 k) ?_
    show own_Go p e below s _ _ (T202.setTop (mkF m 144 #[iv p0, iv p1, iv p2, iv p3, iv p4, iv 1, iv z1, iv z2, iv z3, rv b_115, rv b_122, rv ob_132, rv ob_151, iv (own_f5_1 z1), iv 1, .unset, .unset, .unset] []))
    refine own_via (fun k => XS.iconst X202.here hx rfl (hb hby at_144) (XS.goto X202.here hx rfl (pc0 := 145) (pc' := 149) rfl (hb hby at_145) (by decide) (by decide) (XS.istore X202.here hx rfl (hb hby at_149) rfl (l' := #[iv p0, iv p1, iv p2, iv p3, iv p4, iv 1, iv z1, iv z2, iv z3, rv b_115, rv b_122, rv ob_132, rv ob_151, iv (own_f5_1 z1), iv 1, iv 1, .unset, .unset]) rfl (XS.aload X202.here hx rfl (hb hby at_151) rfl rfl  k)))) ?_
    show own_Go p e below s _ _ (T202.setTop (mkF m 153 #[iv p0, iv p1, iv p2, iv p3, iv p4, iv 1, iv z1, iv z2, iv z3, rv b_115, rv b_122, rv ob_132, rv ob_151, iv (own_f5_1 z1), iv 1, iv 1, .unset, .unset] [(.ref b_115)]))
    obtain ⟨_, _, ⟨T204, L204, k204, n204⟩, -, X204, ⟨Lc204, hQ204, l204, y204, z204⟩, st204⟩ := Jvm.LawKit.callS X202 hx (y := (⟨"com/example/grant3/grant3/policy/Etag", "of", "([B)Lcom/example/grant3/grant3/policy/Etag;"⟩ : MethodName)) hown (mvT hZ (hw _ (List.mem_of_getElem? (i := 6) rfl))) (mvT hZ (hw _ (List.mem_of_getElem? (i := 7) rfl))) (mvT hZ (hw _ (List.mem_of_getElem? (i := 8) rfl))) (mvT hZ (hw _ (List.mem_of_getElem? (i := 9) rfl))) (by decide) (backOf (W := 0) (rm2_1 l Z aw hw [] b_115 k_115 (nar .byte z184) h185 n0 Z199 B197 B186) hZ (hw _ (List.mem_of_getElem? (i := 9) rfl)) (hw _ (List.mem_of_getElem? (i := 8) rfl)) (by decide) (by decide)) (g := (mkF m 153 #[iv p0, iv p1, iv p2, iv p3, iv p4, iv 1, iv z1, iv z2, iv z3, rv b_115, rv b_122, rv ob_132, rv ob_151, iv (own_f5_1 z1), iv 1, iv 1, .unset, .unset] [(.ref b_115)])) rfl (by rw [hml]; rfl) (argsL := [(.ref b_115)]) (rest := []) (lenOf pd_1 rfl) rfl (by show 2 * 0 + _ ≤ _; exact Nat.le_of_eq rfl) (hb hby at_153) (fun _ _ => ⟨rfl, eh202, (by decide : 6 + 2 ≤ _), (by decide : 6 + 2 ≤ _)⟩)
    dsimp only [Pt.U, Pt.locs, Pt.cells, Pt.slots] at X204 l204 y204 z204 st204 hQ204
    subst l204 y204 z204
    obtain ⟨ob_204, cb_204, rfl, N204q, K204, B205, B206, B207, B208, g209, g210⟩ := hQ204
    have N211 := Fr.app N203 N204q
    have B212 := B186.keep K204
    have B213 := B187.keep K204 nin0
    have B214 := B188.keep K204
    have B215 := B189.keep K204
    have B216 := B190.keep K204 nin0
    have B217 := B191.keep K204 nin0
    have B218 := B192.keep K204
    have B219 := B193.keep K204
    have B220 := B194.keep K204 nin0
    have B221 := B195.keep K204 nin0
    have B222 := B196.keep K204
    have B223 := B197.keep K204 nin0
    have Z224 : n0 ≤ T204.heap.size := Nat.le_trans Z199 K204.1
    have g225 : n0 ≤ ob_204 := Nat.le_trans Z199 g209
    have ne226 : b_115 ≠ ob_204 := Nat.ne_of_lt (Nat.lt_of_lt_of_le B186.lt g209)
    have ne227 : b_122 ≠ ob_204 := Nat.ne_of_lt (Nat.lt_of_lt_of_le B187.lt g209)
    have ne228 : ob_132 ≠ ob_204 := Nat.ne_of_lt (Nat.lt_of_lt_of_le B189.lt g209)
    have ne229 : cb_132 ≠ ob_204 := Nat.ne_of_lt (Nat.lt_of_lt_of_le B191.lt g209)
    have ne230 : ob_151 ≠ ob_204 := Nat.ne_of_lt (Nat.lt_of_lt_of_le B193.lt g209)
    have ne231 : cb_151 ≠ ob_204 := Nat.ne_of_lt (Nat.lt_of_lt_of_le B195.lt g209)
    have g232 : n0 ≤ cb_204 := Nat.le_trans Z199 g210
    have ne233 : b_115 ≠ cb_204 := Nat.ne_of_lt (Nat.lt_of_lt_of_le B186.lt g210)
    have ne234 : b_122 ≠ cb_204 := Nat.ne_of_lt (Nat.lt_of_lt_of_le B187.lt g210)
    have ne235 : ob_132 ≠ cb_204 := Nat.ne_of_lt (Nat.lt_of_lt_of_le B189.lt g210)
    have ne236 : cb_132 ≠ cb_204 := Nat.ne_of_lt (Nat.lt_of_lt_of_le B191.lt g210)
    have ne237 : ob_151 ≠ cb_204 := Nat.ne_of_lt (Nat.lt_of_lt_of_le B193.lt g210)
    have ne238 : cb_151 ≠ cb_204 := Nat.ne_of_lt (Nat.lt_of_lt_of_le B195.lt g210)
    refine own_via (fun k => st204 _ k) ?_
    show own_Go p e below s _ _ (T204.setTop (mkF m 156 #[iv p0, iv p1, iv p2, iv p3, iv p4, iv 1, iv z1, iv z2, iv z3, rv b_115, rv b_122, rv ob_132, rv ob_151, iv (own_f5_1 z1), iv 1, iv 1, .unset, .unset] [(.ref ob_204)]))
    refine own_via (fun k => XS.astore X204.here hx rfl (hb hby at_156) rfl rfl (l' := #[iv p0, iv p1, iv p2, iv p3, iv p4, iv 1, iv z1, iv z2, iv z3, rv b_115, rv b_122, rv ob_132, rv ob_151, iv (own_f5_1 z1), iv 1, iv 1, rv ob_204, .unset]) rfl (XS.iload X204.here hx rfl (hb hby at_158) rfl  k)) ?_
    show own_Go p e below s _ _ (T204.setTop (mkF m 160 #[iv p0, iv p1, iv p2, iv p3, iv p4, iv 1, iv z1, iv z2, iv z3, rv b_115, rv b_122, rv ob_132, rv ob_151, iv (own_f5_1 z1), iv 1, iv 1, rv ob_204, .unset] [(.int 1)]))
    refine own_via (fun k => XS.ifNo X204.here hx rfl (hb hby at_160) rfl (by decide) k) ?_
    show own_Go p e below s _ _ (T204.setTop (mkF m 163 #[iv p0, iv p1, iv p2, iv p3, iv p4, iv 1, iv z1, iv z2, iv z3, rv b_115, rv b_122, rv ob_132, rv ob_151, iv (own_f5_1 z1), iv 1, iv 1, rv ob_204, .unset] []))
    refine own_via (fun k => XS.aload X204.here hx rfl (hb hby at_163) rfl rfl  (XS.aload X204.here hx rfl (hb hby at_165) rfl rfl  k)) ?_
    show own_Go p e below s _ _ (T204.setTop (mkF m 167 #[iv p0, iv p1, iv p2, iv p3, iv p4, iv 1, iv z1, iv z2, iv z3, rv b_115, rv b_122, rv ob_132, rv ob_151, iv (own_f5_1 z1), iv 1, iv 1, rv ob_204, .unset] [(.ref ob_132), (.ref ob_204)]))
    obtain ⟨cq239, kq239, q239a, q239b, q239c⟩ := isOf hZ rfl B205
    obtain ⟨_, _, ⟨T239, L239, k239, n239⟩, -, X239, ⟨Lc239, hQ239, l239, y239, z239⟩, st239⟩ := X204.virtualBack hx (y := (⟨"com/example/grant3/grant3/policy/Etag", "equals", "(Ljava/lang/Object;)Z"⟩ : MethodName)) (z := (⟨"com/example/grant3/grant3/policy/Etag", "equals", "(Ljava/lang/Object;)Z"⟩ : MethodName)) hown (mvT hZ (hw _ (List.mem_of_getElem? (i := 32) rfl))) (mvT hZ (hw _ (List.mem_of_getElem? (i := 33) rfl))) (notFace_of_selects (args := #[]) (mvT hZ (hw _ (List.mem_of_getElem? (i := 35) rfl)))) (mvT hZ (hw _ (List.mem_of_getElem? (i := 35) rfl))) (mvT hZ (hw _ (List.mem_of_getElem? (i := 34) rfl))) (by decide) (backOf (W := 0) (rm6_1 l Z aw hw [] ob_204 ob_132 cb_204 cb_132 k_115 k_115 (nar .byte z184) (nar .byte z1) T204.heap n0 Z224 B206 B216 B215 B207 B217 (Ne.symm ne236)) hZ (hw _ (List.mem_of_getElem? (i := 36) rfl)) (hw _ (List.mem_of_getElem? (i := 8) rfl)) (by decide) (by decide)) q239a q239c (g := (mkF m 167 #[iv p0, iv p1, iv p2, iv p3, iv p4, iv 1, iv z1, iv z2, iv z3, rv b_115, rv b_122, rv ob_132, rv ob_151, iv (own_f5_1 z1), iv 1, iv 1, rv ob_204, .unset] [(.ref ob_132), (.ref ob_204)])) rfl (by rw [hml]; rfl) (Steps.refl _) (argsL := [(.ref ob_132)]) (rest := []) (lenOf pd_6 rfl) rfl (by show 2 * 0 + _ ≤ _; exact Nat.le_of_eq rfl) (hb hby at_167) (fun _ _ => ⟨rfl, rfl, (by decide : 8 + 0 ≤ _), (by decide : 8 + 0 ≤ _)⟩)
    dsimp only [Pt.U, Pt.locs, Pt.cells, Pt.slots] at X239 l239 y239 z239 st239 hQ239
    subst l239 y239 z239
    obtain ⟨rfl, N239q, eh239⟩ := hQ239
    have N240 := Fr.app N211 N239q
    refine own_via (fun k => st239.trans k) ?_
    show own_Go p e below s _ _ (T239.setTop (mkF m 170 #[iv p0, iv p1, iv p2, iv p3, iv p4, iv 1, iv z1, iv z2, iv z3, rv b_115, rv b_122, rv ob_132, rv ob_151, iv (own_f5_1 z1), iv 1, iv 1, rv ob_204, .unset] [(.int (own_f6_1 (nar .byte z184) (nar .byte z1)))]))
    refine own_via (fun k => XS.ifNo X239.here hx rfl (hb hby at_170) rfl ((if0 _ _).trans (teq (own_law1_170 p0 p1 p4 z1 hz1 z184 hz184 hl4)).2) k) ?_
    show own_Go p e below s _ _ (T239.setTop (mkF m 173 #[iv p0, iv p1, iv p2, iv p3, iv p4, iv 1, iv z1, iv z2, iv z3, rv b_115, rv b_122, rv ob_132, rv ob_151, iv (own_f5_1 z1), iv 1, iv 1, rv ob_204, .unset] []))
    refine own_via (fun k => XS.iconst X239.here hx rfl (hb hby at_173) (XS.goto X239.here hx rfl (pc0 := 174) (pc' := 188) rfl (hb hby at_174) (by decide) (by decide) (XS.istore X239.here hx rfl (hb hby at_188) rfl (l' := #[iv p0, iv p1, iv p2, iv p3, iv p4, iv 1, iv z1, iv z2, iv z3, rv b_115, rv b_122, rv ob_132, rv ob_151, iv (own_f5_1 z1), iv 1, iv 1, rv ob_204, iv 1]) rfl (XS.iload X239.here hx rfl (hb hby at_190) rfl  k)))) ?_
    show own_Go p e below s _ _ (T239.setTop (mkF m 192 #[iv p0, iv p1, iv p2, iv p3, iv p4, iv 1, iv z1, iv z2, iv z3, rv b_115, rv b_122, rv ob_132, rv ob_151, iv (own_f5_1 z1), iv 1, iv 1, rv ob_204, iv 1] [(.int 1)]))
    refine own_via (fun k => XS.ifNo X239.here hx rfl (hb hby at_192) rfl (by decide) k) ?_
    show own_Go p e below s _ _ (T239.setTop (mkF m 195 #[iv p0, iv p1, iv p2, iv p3, iv p4, iv 1, iv z1, iv z2, iv z3, rv b_115, rv b_122, rv ob_132, rv ob_151, iv (own_f5_1 z1), iv 1, iv 1, rv ob_204, iv 1] []))
    refine own_via (fun k => XS.iload X239.here hx rfl (hb hby at_195) rfl  k) ?_
    show own_Go p e below s _ _ (T239.setTop (mkF m 197 #[iv p0, iv p1, iv p2, iv p3, iv p4, iv 1, iv z1, iv z2, iv z3, rv b_115, rv b_122, rv ob_132, rv ob_151, iv (own_f5_1 z1), iv 1, iv 1, rv ob_204, iv 1] [(.int 1)]))
    refine own_via (fun k => XS.ifNo X239.here hx rfl (hb hby at_197) rfl (by decide) k) ?_
    show own_Go p e below s _ _ (T239.setTop (mkF m 200 #[iv p0, iv p1, iv p2, iv p3, iv p4, iv 1, iv z1, iv z2, iv z3, rv b_115, rv b_122, rv ob_132, rv ob_151, iv (own_f5_1 z1), iv 1, iv 1, rv ob_204, iv 1] []))
    refine own_via (fun k => XS.iload X239.here hx rfl (hb hby at_200) rfl  k) ?_
    show own_Go p e below s _ _ (T239.setTop (mkF m 202 #[iv p0, iv p1, iv p2, iv p3, iv p4, iv 1, iv z1, iv z2, iv z3, rv b_115, rv b_122, rv ob_132, rv ob_151, iv (own_f5_1 z1), iv 1, iv 1, rv ob_204, iv 1] [(.int 1)]))
    refine own_via (fun k => XS.ifNo X239.here hx rfl (hb hby at_202) rfl (by decide) k) ?_
    show own_Go p e below s _ _ (T239.setTop (mkF m 205 #[iv p0, iv p1, iv p2, iv p3, iv p4, iv 1, iv z1, iv z2, iv z3, rv b_115, rv b_122, rv ob_132, rv ob_151, iv (own_f5_1 z1), iv 1, iv 1, rv ob_204, iv 1] []))
    refine own_via (fun k => XS.iconst X239.here hx rfl (hb hby at_205) (XS.goto X239.here hx rfl (pc0 := 206) (pc' := 210) rfl (hb hby at_206) (by decide) (by decide) k)) ?_
    show own_Go p e below s _ _ (T239.setTop (mkF m 210 #[iv p0, iv p1, iv p2, iv p3, iv p4, iv 1, iv z1, iv z2, iv z3, rv b_115, rv b_122, rv ob_132, rv ob_151, iv (own_f5_1 z1), iv 1, iv 1, rv ob_204, iv 1] [(.int 1)]))
    exact own_retN X239 hx hlk (t := .boolean) Bd.returns (by simp) (hb hby at_210) (Q := (Q0 Z p0 p1 p2 p3 p4 h0 n0)) ⟨rfl, N240⟩ (by decide) (by decide)
  · rw [hl4]
    show own_Go p e below s _ _ (s₁.setTop (mkF m 20 #[iv p0, iv p1, iv p2, iv p3, iv p4, iv 2, iv z1, iv z2, iv z3, .unset, .unset, .unset, .unset, .unset, .unset, .unset, .unset, .unset] []))
    refine own_via (fun k => XS.iload X0.here hx rfl (hb hby at_20) rfl  (XS.iload X0.here hx rfl (hb hby at_22) rfl  (XS.iload X0.here hx rfl (hb hby at_24) rfl  (XS.iload X0.here hx rfl (hb hby at_26) rfl  k)))) ?_
    show own_Go p e below s _ _ (s₁.setTop (mkF m 28 #[iv p0, iv p1, iv p2, iv p3, iv p4, iv 2, iv z1, iv z2, iv z3, .unset, .unset, .unset, .unset, .unset, .unset, .unset, .unset, .unset] [(.int z3), (.int z2), (.int z1), (.int 2)]))
    obtain ⟨_, _, ⟨T241, L241, k241, n241⟩, -, X241, ⟨Lc241, hQ241, l241, y241, z241⟩, st241⟩ := Jvm.LawKit.callS X0 hx (y := (⟨"com/example/grant3/grant3/policy/EtagOfPinLaw", "make", "(IBBB)[B"⟩ : MethodName)) hown (mvT hZ (hw _ (List.mem_of_getElem? (i := 1) rfl))) (mvT hZ (hw _ (List.mem_of_getElem? (i := 2) rfl))) (mvT hZ (hw _ (List.mem_of_getElem? (i := 3) rfl))) (mvT hZ (hw _ (List.mem_of_getElem? (i := 4) rfl))) (by decide) (backOf (W := 0) (rm1_2 l Z aw hw [] z1 z2 z3 h0 n0 Z0) hZ (hw _ (List.mem_of_getElem? (i := 4) rfl)) (hw _ (List.mem_of_getElem? (i := 3) rfl)) (by decide) (by decide)) (g := (mkF m 28 #[iv p0, iv p1, iv p2, iv p3, iv p4, iv 2, iv z1, iv z2, iv z3, .unset, .unset, .unset, .unset, .unset, .unset, .unset, .unset, .unset] [(.int z3), (.int z2), (.int z1), (.int 2)])) rfl (by rw [hml]; rfl) (argsL := [(.int 2), (.int z1), (.int z2), (.int z3)]) (rest := []) (lenOf pd_0 rfl) rfl (by show 2 * 0 + _ ≤ _; exact Nat.le_of_eq rfl) (hb hby at_28) (fun _ _ => ⟨rfl, e0, (by decide : 0 + 1 ≤ _), (by decide : 0 + 2 ≤ _)⟩)
    dsimp only [Pt.U, Pt.locs, Pt.cells, Pt.slots] at X241 l241 y241 z241 st241 hQ241
    subst l241 y241 z241
    obtain ⟨b_241, k_241, rfl, N241q, K241, B242, B243, g244⟩ := hQ241
    have N245 := Fr.app N0 N241q
    have Z246 : n0 ≤ T241.heap.size := Nat.le_trans Z0 K241.1
    have g247 : n0 ≤ b_241 := Nat.le_trans Z0 g244
    refine own_via (fun k => st241 _ k) ?_
    show own_Go p e below s _ _ (T241.setTop (mkF m 31 #[iv p0, iv p1, iv p2, iv p3, iv p4, iv 2, iv z1, iv z2, iv z3, .unset, .unset, .unset, .unset, .unset, .unset, .unset, .unset, .unset] [(.ref b_241)]))
    refine own_via (fun k => XS.astore X241.here hx rfl (hb hby at_31) rfl rfl (l' := #[iv p0, iv p1, iv p2, iv p3, iv p4, iv 2, iv z1, iv z2, iv z3, rv b_241, .unset, .unset, .unset, .unset, .unset, .unset, .unset, .unset]) rfl (XS.iload X241.here hx rfl (hb hby at_33) rfl  (XS.iload X241.here hx rfl (hb hby at_35) rfl  (XS.iload X241.here hx rfl (hb hby at_37) rfl  k)))) ?_
    show own_Go p e below s _ _ (T241.setTop (mkF m 39 #[iv p0, iv p1, iv p2, iv p3, iv p4, iv 2, iv z1, iv z2, iv z3, rv b_241, .unset, .unset, .unset, .unset, .unset, .unset, .unset, .unset] [(.int z2), (.int z1), (.int 2)]))
    refine own_via (fun k => XS.iload X241.here hx rfl (hb hby at_39) rfl  k) ?_
    show own_Go p e below s _ _ (T241.setTop (mkF m 41 #[iv p0, iv p1, iv p2, iv p3, iv p4, iv 2, iv z1, iv z2, iv z3, rv b_241, .unset, .unset, .unset, .unset, .unset, .unset, .unset, .unset] [(.int z3), (.int z2), (.int z1), (.int 2)]))
    obtain ⟨_, _, ⟨T248, L248, k248, n248⟩, -, X248, ⟨Lc248, hQ248, l248, y248, z248⟩, st248⟩ := Jvm.LawKit.callS X241 hx (y := (⟨"com/example/grant3/grant3/policy/EtagOfPinLaw", "make", "(IBBB)[B"⟩ : MethodName)) hown (mvT hZ (hw _ (List.mem_of_getElem? (i := 1) rfl))) (mvT hZ (hw _ (List.mem_of_getElem? (i := 2) rfl))) (mvT hZ (hw _ (List.mem_of_getElem? (i := 3) rfl))) (mvT hZ (hw _ (List.mem_of_getElem? (i := 4) rfl))) (by decide) (backOf (W := 0) (rm1_2 l Z aw hw [] z1 z2 z3 T241.heap n0 Z246) hZ (hw _ (List.mem_of_getElem? (i := 4) rfl)) (hw _ (List.mem_of_getElem? (i := 3) rfl)) (by decide) (by decide)) (g := (mkF m 41 #[iv p0, iv p1, iv p2, iv p3, iv p4, iv 2, iv z1, iv z2, iv z3, rv b_241, .unset, .unset, .unset, .unset, .unset, .unset, .unset, .unset] [(.int z3), (.int z2), (.int z1), (.int 2)])) rfl (by rw [hml]; rfl) (argsL := [(.int 2), (.int z1), (.int z2), (.int z3)]) (rest := []) (lenOf pd_0 rfl) rfl (by show 2 * 0 + _ ≤ _; exact Nat.le_of_eq rfl) (hb hby at_41) (fun _ _ => ⟨rfl, rfl, (by decide : 1 + 1 ≤ _), (by decide : 2 + 2 ≤ _)⟩)
    dsimp only [Pt.U, Pt.locs, Pt.cells, Pt.slots] at X248 l248 y248 z248 st248 hQ248
    subst l248 y248 z248
    obtain ⟨b_248, k_248, rfl, N248q, K248, B249, B250, g251⟩ := hQ248
    have N252 := Fr.app N245 N248q
    have B253 := B242.keep K248 nin0
    have B254 := B243.keep K248
    have Z255 : n0 ≤ T248.heap.size := Nat.le_trans Z246 K248.1
    have g256 : n0 ≤ b_248 := Nat.le_trans Z246 g251
    have ne257 : b_241 ≠ b_248 := Nat.ne_of_lt (Nat.lt_of_lt_of_le B242.lt g251)
    refine own_via (fun k => st248 _ k) ?_
    show own_Go p e below s _ _ (T248.setTop (mkF m 44 #[iv p0, iv p1, iv p2, iv p3, iv p4, iv 2, iv z1, iv z2, iv z3, rv b_241, .unset, .unset, .unset, .unset, .unset, .unset, .unset, .unset] [(.ref b_248)]))
    refine own_via (fun k => XS.astore X248.here hx rfl (hb hby at_44) rfl rfl (l' := #[iv p0, iv p1, iv p2, iv p3, iv p4, iv 2, iv z1, iv z2, iv z3, rv b_241, rv b_248, .unset, .unset, .unset, .unset, .unset, .unset, .unset]) rfl (XS.aload X248.here hx rfl (hb hby at_46) rfl rfl  k)) ?_
    show own_Go p e below s _ _ (T248.setTop (mkF m 48 #[iv p0, iv p1, iv p2, iv p3, iv p4, iv 2, iv z1, iv z2, iv z3, rv b_241, rv b_248, .unset, .unset, .unset, .unset, .unset, .unset, .unset] [(.ref b_241)]))
    obtain ⟨_, _, ⟨T258, L258, k258, n258⟩, -, X258, ⟨Lc258, hQ258, l258, y258, z258⟩, st258⟩ := Jvm.LawKit.callS X248 hx (y := (⟨"com/example/grant3/grant3/policy/Etag", "of", "([B)Lcom/example/grant3/grant3/policy/Etag;"⟩ : MethodName)) hown (mvT hZ (hw _ (List.mem_of_getElem? (i := 6) rfl))) (mvT hZ (hw _ (List.mem_of_getElem? (i := 7) rfl))) (mvT hZ (hw _ (List.mem_of_getElem? (i := 8) rfl))) (mvT hZ (hw _ (List.mem_of_getElem? (i := 9) rfl))) (by decide) (backOf (W := 0) (rm2_2 l Z aw hw [] b_241 k_241 (nar .byte z1) (nar .byte z2) T248.heap n0 Z255 B253 B254) hZ (hw _ (List.mem_of_getElem? (i := 9) rfl)) (hw _ (List.mem_of_getElem? (i := 8) rfl)) (by decide) (by decide)) (g := (mkF m 48 #[iv p0, iv p1, iv p2, iv p3, iv p4, iv 2, iv z1, iv z2, iv z3, rv b_241, rv b_248, .unset, .unset, .unset, .unset, .unset, .unset, .unset] [(.ref b_241)])) rfl (by rw [hml]; rfl) (argsL := [(.ref b_241)]) (rest := []) (lenOf pd_1 rfl) rfl (by show 2 * 0 + _ ≤ _; exact Nat.le_of_eq rfl) (hb hby at_48) (fun _ _ => ⟨rfl, rfl, (by decide : 2 + 2 ≤ _), (by decide : 4 + 3 ≤ _)⟩)
    dsimp only [Pt.U, Pt.locs, Pt.cells, Pt.slots] at X258 l258 y258 z258 st258 hQ258
    subst l258 y258 z258
    obtain ⟨ob_258, cb_258, rfl, N258q, K258, B259, B260, B261, B262, g263, g264⟩ := hQ258
    have N265 := Fr.app N252 N258q
    have B266 := B253.keep K258 nin0
    have B267 := B254.keep K258
    have B268 := B249.keep K258 nin0
    have B269 := B250.keep K258
    have Z270 : n0 ≤ T258.heap.size := Nat.le_trans Z255 K258.1
    have g271 : n0 ≤ ob_258 := Nat.le_trans Z255 g263
    have ne272 : b_241 ≠ ob_258 := Nat.ne_of_lt (Nat.lt_of_lt_of_le B253.lt g263)
    have ne273 : b_248 ≠ ob_258 := Nat.ne_of_lt (Nat.lt_of_lt_of_le B249.lt g263)
    have g274 : n0 ≤ cb_258 := Nat.le_trans Z255 g264
    have ne275 : b_241 ≠ cb_258 := Nat.ne_of_lt (Nat.lt_of_lt_of_le B253.lt g264)
    have ne276 : b_248 ≠ cb_258 := Nat.ne_of_lt (Nat.lt_of_lt_of_le B249.lt g264)
    refine own_via (fun k => st258 _ k) ?_
    show own_Go p e below s _ _ (T258.setTop (mkF m 51 #[iv p0, iv p1, iv p2, iv p3, iv p4, iv 2, iv z1, iv z2, iv z3, rv b_241, rv b_248, .unset, .unset, .unset, .unset, .unset, .unset, .unset] [(.ref ob_258)]))
    refine own_via (fun k => XS.astore X258.here hx rfl (hb hby at_51) rfl rfl (l' := #[iv p0, iv p1, iv p2, iv p3, iv p4, iv 2, iv z1, iv z2, iv z3, rv b_241, rv b_248, rv ob_258, .unset, .unset, .unset, .unset, .unset, .unset]) rfl (XS.aload X258.here hx rfl (hb hby at_53) rfl rfl  k)) ?_
    show own_Go p e below s _ _ (T258.setTop (mkF m 55 #[iv p0, iv p1, iv p2, iv p3, iv p4, iv 2, iv z1, iv z2, iv z3, rv b_241, rv b_248, rv ob_258, .unset, .unset, .unset, .unset, .unset, .unset] [(.ref b_248)]))
    obtain ⟨_, _, ⟨T277, L277, k277, n277⟩, -, X277, ⟨Lc277, hQ277, l277, y277, z277⟩, st277⟩ := Jvm.LawKit.callS X258 hx (y := (⟨"com/example/grant3/grant3/policy/Etag", "of", "([B)Lcom/example/grant3/grant3/policy/Etag;"⟩ : MethodName)) hown (mvT hZ (hw _ (List.mem_of_getElem? (i := 6) rfl))) (mvT hZ (hw _ (List.mem_of_getElem? (i := 7) rfl))) (mvT hZ (hw _ (List.mem_of_getElem? (i := 8) rfl))) (mvT hZ (hw _ (List.mem_of_getElem? (i := 9) rfl))) (by decide) (backOf (W := 0) (rm2_2 l Z aw hw [] b_248 k_248 (nar .byte z1) (nar .byte z2) T258.heap n0 Z270 B268 B269) hZ (hw _ (List.mem_of_getElem? (i := 9) rfl)) (hw _ (List.mem_of_getElem? (i := 8) rfl)) (by decide) (by decide)) (g := (mkF m 55 #[iv p0, iv p1, iv p2, iv p3, iv p4, iv 2, iv z1, iv z2, iv z3, rv b_241, rv b_248, rv ob_258, .unset, .unset, .unset, .unset, .unset, .unset] [(.ref b_248)])) rfl (by rw [hml]; rfl) (argsL := [(.ref b_248)]) (rest := []) (lenOf pd_1 rfl) rfl (by show 2 * 0 + _ ≤ _; exact Nat.le_of_eq rfl) (hb hby at_55) (fun _ _ => ⟨rfl, rfl, (by decide : 4 + 2 ≤ _), (by decide : 7 + 3 ≤ _)⟩)
    dsimp only [Pt.U, Pt.locs, Pt.cells, Pt.slots] at X277 l277 y277 z277 st277 hQ277
    subst l277 y277 z277
    obtain ⟨ob_277, cb_277, rfl, N277q, K277, B278, B279, B280, B281, g282, g283⟩ := hQ277
    have N284 := Fr.app N265 N277q
    have B285 := B266.keep K277 nin0
    have B286 := B267.keep K277
    have B287 := B268.keep K277 nin0
    have B288 := B269.keep K277
    have B289 := B259.keep K277
    have B290 := B260.keep K277 nin0
    have B291 := B261.keep K277 nin0
    have B292 := B262.keep K277
    have Z293 : n0 ≤ T277.heap.size := Nat.le_trans Z270 K277.1
    have g294 : n0 ≤ ob_277 := Nat.le_trans Z270 g282
    have ne295 : b_241 ≠ ob_277 := Nat.ne_of_lt (Nat.lt_of_lt_of_le B266.lt g282)
    have ne296 : b_248 ≠ ob_277 := Nat.ne_of_lt (Nat.lt_of_lt_of_le B268.lt g282)
    have ne297 : ob_258 ≠ ob_277 := Nat.ne_of_lt (Nat.lt_of_lt_of_le B259.lt g282)
    have ne298 : cb_258 ≠ ob_277 := Nat.ne_of_lt (Nat.lt_of_lt_of_le B261.lt g282)
    have g299 : n0 ≤ cb_277 := Nat.le_trans Z270 g283
    have ne300 : b_241 ≠ cb_277 := Nat.ne_of_lt (Nat.lt_of_lt_of_le B266.lt g283)
    have ne301 : b_248 ≠ cb_277 := Nat.ne_of_lt (Nat.lt_of_lt_of_le B268.lt g283)
    have ne302 : ob_258 ≠ cb_277 := Nat.ne_of_lt (Nat.lt_of_lt_of_le B259.lt g283)
    have ne303 : cb_258 ≠ cb_277 := Nat.ne_of_lt (Nat.lt_of_lt_of_le B261.lt g283)
    refine own_via (fun k => st277 _ k) ?_
    show own_Go p e below s _ _ (T277.setTop (mkF m 58 #[iv p0, iv p1, iv p2, iv p3, iv p4, iv 2, iv z1, iv z2, iv z3, rv b_241, rv b_248, rv ob_258, .unset, .unset, .unset, .unset, .unset, .unset] [(.ref ob_277)]))
    refine own_via (fun k => XS.astore X277.here hx rfl (hb hby at_58) rfl rfl (l' := #[iv p0, iv p1, iv p2, iv p3, iv p4, iv 2, iv z1, iv z2, iv z3, rv b_241, rv b_248, rv ob_258, rv ob_277, .unset, .unset, .unset, .unset, .unset]) rfl (XS.iload X277.here hx rfl (hb hby at_60) rfl  (XS.iload X277.here hx rfl (hb hby at_62) rfl  (XS.iload X277.here hx rfl (hb hby at_64) rfl  k)))) ?_
    show own_Go p e below s _ _ (T277.setTop (mkF m 66 #[iv p0, iv p1, iv p2, iv p3, iv p4, iv 2, iv z1, iv z2, iv z3, rv b_241, rv b_248, rv ob_258, rv ob_277, .unset, .unset, .unset, .unset, .unset] [(.int z2), (.int z1), (.int 2)]))
    refine own_via (fun k => XS.iload X277.here hx rfl (hb hby at_66) rfl  k) ?_
    show own_Go p e below s _ _ (T277.setTop (mkF m 68 #[iv p0, iv p1, iv p2, iv p3, iv p4, iv 2, iv z1, iv z2, iv z3, rv b_241, rv b_248, rv ob_258, rv ob_277, .unset, .unset, .unset, .unset, .unset] [(.int z3), (.int z2), (.int z1), (.int 2)]))
    obtain ⟨_, _, ⟨T304, L304, k304, n304⟩, -, X304, ⟨Lc304, hQ304, l304, y304, z304⟩, st304⟩ := Jvm.LawKit.callS X277 hx (y := (⟨"com/example/grant3/grant3/policy/EtagOfPinLaw", "refHash", "(IBBB)I"⟩ : MethodName)) hown (mvT hZ (hw _ (List.mem_of_getElem? (i := 29) rfl))) (mvT hZ (hw _ (List.mem_of_getElem? (i := 30) rfl))) (mvT hZ (hw _ (List.mem_of_getElem? (i := 3) rfl))) (mvT hZ (hw _ (List.mem_of_getElem? (i := 31) rfl))) (by decide) (backOf (W := 0) (rm5_2 l Z aw hw [] z1 z2 z3 T277.heap n0 Z293) hZ (hw _ (List.mem_of_getElem? (i := 31) rfl)) (hw _ (List.mem_of_getElem? (i := 3) rfl)) (by decide) (by decide)) (g := (mkF m 68 #[iv p0, iv p1, iv p2, iv p3, iv p4, iv 2, iv z1, iv z2, iv z3, rv b_241, rv b_248, rv ob_258, rv ob_277, .unset, .unset, .unset, .unset, .unset] [(.int z3), (.int z2), (.int z1), (.int 2)])) rfl (by rw [hml]; rfl) (argsL := [(.int 2), (.int z1), (.int z2), (.int z3)]) (rest := []) (lenOf pd_5 rfl) rfl (by show 2 * 0 + _ ≤ _; exact Nat.le_of_eq rfl) (hb hby at_68) (fun _ _ => ⟨rfl, rfl, (by decide : 6 + 0 ≤ _), (by decide : 10 + 0 ≤ _)⟩)
    dsimp only [Pt.U, Pt.locs, Pt.cells, Pt.slots] at X304 l304 y304 z304 st304 hQ304
    subst l304 y304 z304
    obtain ⟨rfl, N304q, eh304⟩ := hQ304
    have N305 := Fr.app N284 N304q
    refine own_via (fun k => st304 _ k) ?_
    show own_Go p e below s _ _ (T304.setTop (mkF m 71 #[iv p0, iv p1, iv p2, iv p3, iv p4, iv 2, iv z1, iv z2, iv z3, rv b_241, rv b_248, rv ob_258, rv ob_277, .unset, .unset, .unset, .unset, .unset] [(.int (own_f5_2 z1 z2))]))
    refine own_via (fun k => XS.istore X304.here hx rfl (hb hby at_71) rfl (l' := #[iv p0, iv p1, iv p2, iv p3, iv p4, iv 2, iv z1, iv z2, iv z3, rv b_241, rv b_248, rv ob_258, rv ob_277, iv (own_f5_2 z1 z2), .unset, .unset, .unset, .unset]) rfl (XS.aload X304.here hx rfl (hb hby at_73) rfl rfl  (XS.aload X304.here hx rfl (hb hby at_75) rfl rfl  k))) ?_
    show own_Go p e below s _ _ (T304.setTop (mkF m 77 #[iv p0, iv p1, iv p2, iv p3, iv p4, iv 2, iv z1, iv z2, iv z3, rv b_241, rv b_248, rv ob_258, rv ob_277, iv (own_f5_2 z1 z2), .unset, .unset, .unset, .unset] [(.ref ob_277), (.ref ob_258)]))
    obtain ⟨cq306, kq306, q306a, q306b, q306c⟩ := isOf hZ eh304 B289
    obtain ⟨_, _, ⟨T306, L306, k306, n306⟩, -, X306, ⟨Lc306, hQ306, l306, y306, z306⟩, st306⟩ := X304.virtualBack hx (y := (⟨"com/example/grant3/grant3/policy/Etag", "equals", "(Ljava/lang/Object;)Z"⟩ : MethodName)) (z := (⟨"com/example/grant3/grant3/policy/Etag", "equals", "(Ljava/lang/Object;)Z"⟩ : MethodName)) hown (mvT hZ (hw _ (List.mem_of_getElem? (i := 32) rfl))) (mvT hZ (hw _ (List.mem_of_getElem? (i := 33) rfl))) (notFace_of_selects (args := #[]) (mvT hZ (hw _ (List.mem_of_getElem? (i := 35) rfl)))) (mvT hZ (hw _ (List.mem_of_getElem? (i := 35) rfl))) (mvT hZ (hw _ (List.mem_of_getElem? (i := 34) rfl))) (by decide) (backOf (W := 0) (rm6_2 l Z aw hw [] ob_258 ob_277 cb_258 cb_277 k_241 k_248 (nar .byte z1) (nar .byte z2) (nar .byte z1) (nar .byte z2) T277.heap n0 Z293 B290 B279 B278 B291 B280 ne303) hZ (hw _ (List.mem_of_getElem? (i := 36) rfl)) (hw _ (List.mem_of_getElem? (i := 8) rfl)) (by decide) (by decide)) q306a q306c (g := (mkF m 77 #[iv p0, iv p1, iv p2, iv p3, iv p4, iv 2, iv z1, iv z2, iv z3, rv b_241, rv b_248, rv ob_258, rv ob_277, iv (own_f5_2 z1 z2), .unset, .unset, .unset, .unset] [(.ref ob_277), (.ref ob_258)])) rfl (by rw [hml]; rfl) (Steps.refl _) (argsL := [(.ref ob_277)]) (rest := []) (lenOf pd_6 rfl) rfl (by show 2 * 0 + _ ≤ _; exact Nat.le_of_eq rfl) (hb hby at_77) (fun _ _ => ⟨rfl, eh304, (by decide : 6 + 0 ≤ _), (by decide : 10 + 0 ≤ _)⟩)
    dsimp only [Pt.U, Pt.locs, Pt.cells, Pt.slots] at X306 l306 y306 z306 st306 hQ306
    subst l306 y306 z306
    obtain ⟨rfl, N306q, eh306⟩ := hQ306
    have N307 := Fr.app N305 N306q
    refine own_via (fun k => st306.trans k) ?_
    show own_Go p e below s _ _ (T306.setTop (mkF m 80 #[iv p0, iv p1, iv p2, iv p3, iv p4, iv 2, iv z1, iv z2, iv z3, rv b_241, rv b_248, rv ob_258, rv ob_277, iv (own_f5_2 z1 z2), .unset, .unset, .unset, .unset] [(.int (own_f6_2 (nar .byte z1) (nar .byte z2) (nar .byte z1) (nar .byte z2)))]))
    refine own_via (fun k => XS.ifNo X306.here hx rfl (hb hby at_80) rfl ((if0 _ _).trans (feq (own_law2_80 p0 p1 p2 z1 hz1 z2 hz2 hl4)).1) k) ?_
    show own_Go p e below s _ _ (T306.setTop (mkF m 83 #[iv p0, iv p1, iv p2, iv p3, iv p4, iv 2, iv z1, iv z2, iv z3, rv b_241, rv b_248, rv ob_258, rv ob_277, iv (own_f5_2 z1 z2), .unset, .unset, .unset, .unset] []))
    refine own_via (fun k => XS.aload X306.here hx rfl (hb hby at_83) rfl rfl  k) ?_
    show own_Go p e below s _ _ (T306.setTop (mkF m 85 #[iv p0, iv p1, iv p2, iv p3, iv p4, iv 2, iv z1, iv z2, iv z3, rv b_241, rv b_248, rv ob_258, rv ob_277, iv (own_f5_2 z1 z2), .unset, .unset, .unset, .unset] [(.ref ob_258)]))
    obtain ⟨cq308, kq308, q308a, q308b, q308c⟩ := isOf hZ eh306 B289
    obtain ⟨_, _, ⟨T308, L308, k308, n308⟩, -, X308, ⟨Lc308, hQ308, l308, y308, z308⟩, st308⟩ := X306.virtualBack hx (y := (⟨"com/example/grant3/grant3/policy/Etag", "hashCode", "()I"⟩ : MethodName)) (z := (⟨"com/example/grant3/grant3/policy/Etag", "hashCode", "()I"⟩ : MethodName)) hown (mvT hZ (hw _ (List.mem_of_getElem? (i := 46) rfl))) (mvT hZ (hw _ (List.mem_of_getElem? (i := 47) rfl))) (notFace_of_selects (args := #[]) (mvT hZ (hw _ (List.mem_of_getElem? (i := 49) rfl)))) (mvT hZ (hw _ (List.mem_of_getElem? (i := 49) rfl))) (mvT hZ (hw _ (List.mem_of_getElem? (i := 48) rfl))) (by decide) (backOf (W := 0) (rm9_2 l Z aw hw [] ob_258 cb_258 k_241 (nar .byte z1) (nar .byte z2) T277.heap n0 Z293 B290 B291 B292) hZ (hw _ (List.mem_of_getElem? (i := 50) rfl)) (hw _ (List.mem_of_getElem? (i := 8) rfl)) (by decide) (by decide)) q308a q308c (g := (mkF m 85 #[iv p0, iv p1, iv p2, iv p3, iv p4, iv 2, iv z1, iv z2, iv z3, rv b_241, rv b_248, rv ob_258, rv ob_277, iv (own_f5_2 z1 z2), .unset, .unset, .unset, .unset] [(.ref ob_258)])) rfl (by rw [hml]; rfl) (Steps.refl _) (argsL := []) (rest := []) (lenOf pd_9 rfl) rfl (by show 2 * 0 + _ ≤ _; exact Nat.le_of_eq rfl) (hb hby at_85) (fun _ _ => ⟨rfl, eh306, (by decide : 6 + 0 ≤ _), (by decide : 10 + 0 ≤ _)⟩)
    dsimp only [Pt.U, Pt.locs, Pt.cells, Pt.slots] at X308 l308 y308 z308 st308 hQ308
    subst l308 y308 z308
    obtain ⟨rfl, N308q, eh308⟩ := hQ308
    have N309 := Fr.app N307 N308q
    refine own_via (fun k => st308.trans k) ?_
    show own_Go p e below s _ _ (T308.setTop (mkF m 88 #[iv p0, iv p1, iv p2, iv p3, iv p4, iv 2, iv z1, iv z2, iv z3, rv b_241, rv b_248, rv ob_258, rv ob_277, iv (own_f5_2 z1 z2), .unset, .unset, .unset, .unset] [(.int (own_f9_2 (nar .byte z1) (nar .byte z2)))]))
    refine own_via (fun k => XS.iload X308.here hx rfl (hb hby at_88) rfl  k) ?_
    show own_Go p e below s _ _ (T308.setTop (mkF m 90 #[iv p0, iv p1, iv p2, iv p3, iv p4, iv 2, iv z1, iv z2, iv z3, rv b_241, rv b_248, rv ob_258, rv ob_277, iv (own_f5_2 z1 z2), .unset, .unset, .unset, .unset] [(.int (own_f5_2 z1 z2)), (.int (own_f9_2 (nar .byte z1) (nar .byte z2)))]))
    refine own_via (fun k => XS.icmpNo X308.here hx rfl (hb hby at_90) rfl (teq (own_law2_90 p0 p1 p2 z1 hz1 z2 hz2 hl4)).2 k) ?_
    show own_Go p e below s _ _ (T308.setTop (mkF m 93 #[iv p0, iv p1, iv p2, iv p3, iv p4, iv 2, iv z1, iv z2, iv z3, rv b_241, rv b_248, rv ob_258, rv ob_277, iv (own_f5_2 z1 z2), .unset, .unset, .unset, .unset] []))
    refine own_via (fun k => XS.iconst X308.here hx rfl (hb hby at_93) (XS.goto X308.here hx rfl (pc0 := 94) (pc' := 98) rfl (hb hby at_94) (by decide) (by decide) (XS.istore X308.here hx rfl (hb hby at_98) rfl (l' := #[iv p0, iv p1, iv p2, iv p3, iv p4, iv 2, iv z1, iv z2, iv z3, rv b_241, rv b_248, rv ob_258, rv ob_277, iv (own_f5_2 z1 z2), iv 1, .unset, .unset, .unset]) rfl (XS.iload X308.here hx rfl (hb hby at_100) rfl  k)))) ?_
    show own_Go p e below s _ _ (T308.setTop (mkF m 102 #[iv p0, iv p1, iv p2, iv p3, iv p4, iv 2, iv z1, iv z2, iv z3, rv b_241, rv b_248, rv ob_258, rv ob_277, iv (own_f5_2 z1 z2), iv 1, .unset, .unset, .unset] [(.int 2)]))
    refine own_via (fun k => XS.ifNo X308.here hx rfl (hb hby at_102) rfl (by decide) k) ?_
    show own_Go p e below s _ _ (T308.setTop (mkF m 105 #[iv p0, iv p1, iv p2, iv p3, iv p4, iv 2, iv z1, iv z2, iv z3, rv b_241, rv b_248, rv ob_258, rv ob_277, iv (own_f5_2 z1 z2), iv 1, .unset, .unset, .unset] []))
    refine own_via (fun k => XS.aload X308.here hx rfl (hb hby at_105) rfl rfl  (XS.iconst X308.here hx rfl (hb hby at_107) (XS.iload X308.here hx rfl (hb hby at_108) rfl  (XS.iconst X308.here hx rfl (hb hby at_110) k)))) ?_
    show own_Go p e below s _ _ (T308.setTop (mkF m 111 #[iv p0, iv p1, iv p2, iv p3, iv p4, iv 2, iv z1, iv z2, iv z3, rv b_241, rv b_248, rv ob_258, rv ob_277, iv (own_f5_2 z1 z2), iv 1, .unset, .unset, .unset] [(.int 1), (.int z1), (.int 0), (.ref b_241)]))
    refine own_via (fun k => XS.iadd X308.here hx rfl (hb hby at_111) rfl (XS.iload X308.here hx rfl (hb hby at_112) rfl  (X308.ldcInt hx hown (mvT hZ (hw _ (List.mem_of_getElem? (i := 0) rfl))) (g := (mkF m 114 #[iv p0, iv p1, iv p2, iv p3, iv p4, iv 2, iv z1, iv z2, iv z3, rv b_241, rv b_248, rv ob_258, rv ob_277, iv (own_f5_2 z1 z2), iv 1, .unset, .unset, .unset] [(.int p4), (.int (z1 + (1 : Int32))), (.int 0), (.ref b_241)])) rfl (hb hby at_114) _ (XS.iand X308.here hx rfl (hb hby at_116) rfl k)))) ?_
    show own_Go p e below s _ _ (T308.setTop (mkF m 117 #[iv p0, iv p1, iv p2, iv p3, iv p4, iv 2, iv z1, iv z2, iv z3, rv b_241, rv b_248, rv ob_258, rv ob_277, iv (own_f5_2 z1 z2), iv 1, .unset, .unset, .unset] [(.int (p4 &&& (2147483647 : Int32))), (.int (z1 + (1 : Int32))), (.int 0), (.ref b_241)]))
    refine own_via (fun k => XS.sipush X308.here hx rfl (hb hby at_117) (Jvm.RoadKit.iremM X308 hx rfl (hb hby at_120) rfl (by decide) (XS.iadd X308.here hx rfl (hb hby at_121) rfl (XS.i2b X308.here hx rfl (hb hby at_122) rfl k)))) ?_
    show own_Go p e below s _ _ (T308.setTop (mkF m 123 #[iv p0, iv p1, iv p2, iv p3, iv p4, iv 2, iv z1, iv z2, iv z3, rv b_241, rv b_248, rv ob_258, rv ob_277, iv (own_f5_2 z1 z2), iv 1, .unset, .unset, .unset] [(.int (((z1 + (1 : Int32)) + ((p4 &&& (2147483647 : Int32)) % (255 : Int32))).toInt8.toInt32)), (.int 0), (.ref b_241)]))
    obtain ⟨z310, hz310⟩ : ∃ z : Int32, z = (((z1 + (1 : Int32)) + ((p4 &&& (2147483647 : Int32)) % (255 : Int32))).toInt8.toInt32) := ⟨_, rfl⟩
    rw [← hz310]
    show own_Go p e below s _ _ (T308.setTop (mkF m 123 #[iv p0, iv p1, iv p2, iv p3, iv p4, iv 2, iv z1, iv z2, iv z3, rv b_241, rv b_248, rv ob_258, rv ob_277, iv (own_f5_2 z1 z2), iv 1, .unset, .unset, .unset] [(.int z310), (.int 0), (.ref b_241)]))
    obtain ⟨cl311, Ar311, q311, S311, NN311, H311, G311⟩ := id B285
    have hin311 : ¬ ((0 : Int32) < 0 ∨ cl311.slots.size ≤ ((0 : Int32)).toNatClampNeg) := inb_of S311 ⟨by decide, by decide⟩
    obtain ⟨T311, h311, X311, e311, W311, st311⟩ := stB X308 hx hZ eh308 Ar311 (j := (0 : Int32)) hin311 (g := (mkF m 123 #[iv p0, iv p1, iv p2, iv p3, iv p4, iv 2, iv z1, iv z2, iv z3, rv b_241, rv b_248, rv ob_258, rv ob_277, iv (own_f5_2 z1 z2), iv 1, .unset, .unset, .unset] [(.int z310), (.int 0), (.ref b_241)])) rfl rfl (hb hby at_123)
    refine own_via (fun k => st311 _ k) ?_
    show own_Go p e below s _ _ (T311.setTop (mkF m 124 #[iv p0, iv p1, iv p2, iv p3, iv p4, iv 2, iv z1, iv z2, iv z3, rv b_241, rv b_248, rv ob_258, rv ob_277, iv (own_f5_2 z1 z2), iv 1, .unset, .unset, .unset] []))
    have B312 := B286.wr W311
    have B313 := B287.other W311 (Ne.symm ne257)
    have B314 := B288.wr W311
    have B315 := B289.wr W311
    have B316 := B290.other W311 (Or.inl (Ne.symm ne272))
    have B317 := B291.other W311 (Ne.symm ne275)
    have B318 := B292.wr W311
    have B319 := B278.wr W311
    have B320 := B279.other W311 (Or.inl (Ne.symm ne295))
    have B321 := B280.other W311 (Ne.symm ne300)
    have B322 := B281.wr W311
    have B323 : Arv Z h311 b_241 k_241 .byte (2 : Int32) [(.int (nar .byte z310)), (.int (nar .byte z2))] (.int 0) := Arv.set Ar311 q311 S311 NN311 H311 G311 (fits_nar_byte _) W311 0 rfl (Nat.le_of_ble_eq_true rfl)
    have N324 := Fr.snoc X311 N309 g247
    have Z325 : n0 ≤ h311.size := Nat.le_trans Z293 (Keep.of_wr W311).1
    refine own_via (fun k => XS.aload X311.here hx rfl (hb hby at_124) rfl rfl  (XS.aload X311.here hx rfl (hb hby at_126) rfl rfl  k)) ?_
    show own_Go p e below s _ _ (T311.setTop (mkF m 128 #[iv p0, iv p1, iv p2, iv p3, iv p4, iv 2, iv z1, iv z2, iv z3, rv b_241, rv b_248, rv ob_258, rv ob_277, iv (own_f5_2 z1 z2), iv 1, .unset, .unset, .unset] [(.ref ob_277), (.ref ob_258)]))
    obtain ⟨cq326, kq326, q326a, q326b, q326c⟩ := isOf hZ e311 B315
    obtain ⟨_, _, ⟨T326, L326, k326, n326⟩, -, X326, ⟨Lc326, hQ326, l326, y326, z326⟩, st326⟩ := X311.virtualBack hx (y := (⟨"com/example/grant3/grant3/policy/Etag", "equals", "(Ljava/lang/Object;)Z"⟩ : MethodName)) (z := (⟨"com/example/grant3/grant3/policy/Etag", "equals", "(Ljava/lang/Object;)Z"⟩ : MethodName)) hown (mvT hZ (hw _ (List.mem_of_getElem? (i := 32) rfl))) (mvT hZ (hw _ (List.mem_of_getElem? (i := 33) rfl))) (notFace_of_selects (args := #[]) (mvT hZ (hw _ (List.mem_of_getElem? (i := 35) rfl)))) (mvT hZ (hw _ (List.mem_of_getElem? (i := 35) rfl))) (mvT hZ (hw _ (List.mem_of_getElem? (i := 34) rfl))) (by decide) (backOf (W := 0) (rm6_2 l Z aw hw [] ob_258 ob_277 cb_258 cb_277 k_241 k_248 (nar .byte z1) (nar .byte z2) (nar .byte z1) (nar .byte z2) h311 n0 Z325 B316 B320 B319 B317 B321 ne303) hZ (hw _ (List.mem_of_getElem? (i := 36) rfl)) (hw _ (List.mem_of_getElem? (i := 8) rfl)) (by decide) (by decide)) q326a q326c (g := (mkF m 128 #[iv p0, iv p1, iv p2, iv p3, iv p4, iv 2, iv z1, iv z2, iv z3, rv b_241, rv b_248, rv ob_258, rv ob_277, iv (own_f5_2 z1 z2), iv 1, .unset, .unset, .unset] [(.ref ob_277), (.ref ob_258)])) rfl (by rw [hml]; rfl) (Steps.refl _) (argsL := [(.ref ob_277)]) (rest := []) (lenOf pd_6 rfl) rfl (by show 2 * 0 + _ ≤ _; exact Nat.le_of_eq rfl) (hb hby at_128) (fun _ _ => ⟨rfl, e311, (by decide : 6 + 0 ≤ _), (by decide : 10 + 0 ≤ _)⟩)
    dsimp only [Pt.U, Pt.locs, Pt.cells, Pt.slots] at X326 l326 y326 z326 st326 hQ326
    subst l326 y326 z326
    obtain ⟨rfl, N326q, eh326⟩ := hQ326
    have N327 := Fr.app N324 N326q
    refine own_via (fun k => st326.trans k) ?_
    show own_Go p e below s _ _ (T326.setTop (mkF m 131 #[iv p0, iv p1, iv p2, iv p3, iv p4, iv 2, iv z1, iv z2, iv z3, rv b_241, rv b_248, rv ob_258, rv ob_277, iv (own_f5_2 z1 z2), iv 1, .unset, .unset, .unset] [(.int (own_f6_2 (nar .byte z1) (nar .byte z2) (nar .byte z1) (nar .byte z2)))]))
    refine own_via (fun k => XS.ifNo X326.here hx rfl (hb hby at_131) rfl ((if0 _ _).trans (feq (own_law2_131 p0 p1 p2 z1 hz1 z2 hz2 hl4)).1) k) ?_
    show own_Go p e below s _ _ (T326.setTop (mkF m 134 #[iv p0, iv p1, iv p2, iv p3, iv p4, iv 2, iv z1, iv z2, iv z3, rv b_241, rv b_248, rv ob_258, rv ob_277, iv (own_f5_2 z1 z2), iv 1, .unset, .unset, .unset] []))
    refine own_via (fun k => XS.aload X326.here hx rfl (hb hby at_134) rfl rfl  k) ?_
    show own_Go p e below s _ _ (T326.setTop (mkF m 136 #[iv p0, iv p1, iv p2, iv p3, iv p4, iv 2, iv z1, iv z2, iv z3, rv b_241, rv b_248, rv ob_258, rv ob_277, iv (own_f5_2 z1 z2), iv 1, .unset, .unset, .unset] [(.ref ob_258)]))
    obtain ⟨cq328, kq328, q328a, q328b, q328c⟩ := isOf hZ eh326 B315
    obtain ⟨_, _, ⟨T328, L328, k328, n328⟩, -, X328, ⟨Lc328, hQ328, l328, y328, z328⟩, st328⟩ := X326.virtualBack hx (y := (⟨"com/example/grant3/grant3/policy/Etag", "hashCode", "()I"⟩ : MethodName)) (z := (⟨"com/example/grant3/grant3/policy/Etag", "hashCode", "()I"⟩ : MethodName)) hown (mvT hZ (hw _ (List.mem_of_getElem? (i := 46) rfl))) (mvT hZ (hw _ (List.mem_of_getElem? (i := 47) rfl))) (notFace_of_selects (args := #[]) (mvT hZ (hw _ (List.mem_of_getElem? (i := 49) rfl)))) (mvT hZ (hw _ (List.mem_of_getElem? (i := 49) rfl))) (mvT hZ (hw _ (List.mem_of_getElem? (i := 48) rfl))) (by decide) (backOf (W := 0) (rm9_2 l Z aw hw [] ob_258 cb_258 k_241 (nar .byte z1) (nar .byte z2) h311 n0 Z325 B316 B317 B318) hZ (hw _ (List.mem_of_getElem? (i := 50) rfl)) (hw _ (List.mem_of_getElem? (i := 8) rfl)) (by decide) (by decide)) q328a q328c (g := (mkF m 136 #[iv p0, iv p1, iv p2, iv p3, iv p4, iv 2, iv z1, iv z2, iv z3, rv b_241, rv b_248, rv ob_258, rv ob_277, iv (own_f5_2 z1 z2), iv 1, .unset, .unset, .unset] [(.ref ob_258)])) rfl (by rw [hml]; rfl) (Steps.refl _) (argsL := []) (rest := []) (lenOf pd_9 rfl) rfl (by show 2 * 0 + _ ≤ _; exact Nat.le_of_eq rfl) (hb hby at_136) (fun _ _ => ⟨rfl, eh326, (by decide : 6 + 0 ≤ _), (by decide : 10 + 0 ≤ _)⟩)
    dsimp only [Pt.U, Pt.locs, Pt.cells, Pt.slots] at X328 l328 y328 z328 st328 hQ328
    subst l328 y328 z328
    obtain ⟨rfl, N328q, eh328⟩ := hQ328
    have N329 := Fr.app N327 N328q
    refine own_via (fun k => st328.trans k) ?_
    show own_Go p e below s _ _ (T328.setTop (mkF m 139 #[iv p0, iv p1, iv p2, iv p3, iv p4, iv 2, iv z1, iv z2, iv z3, rv b_241, rv b_248, rv ob_258, rv ob_277, iv (own_f5_2 z1 z2), iv 1, .unset, .unset, .unset] [(.int (own_f9_2 (nar .byte z1) (nar .byte z2)))]))
    refine own_via (fun k => XS.iload X328.here hx rfl (hb hby at_139) rfl  k) ?_
    show own_Go p e below s _ _ (T328.setTop (mkF m 141 #[iv p0, iv p1, iv p2, iv p3, iv p4, iv 2, iv z1, iv z2, iv z3, rv b_241, rv b_248, rv ob_258, rv ob_277, iv (own_f5_2 z1 z2), iv 1, .unset, .unset, .unset] [(.int (own_f5_2 z1 z2)), (.int (own_f9_2 (nar .byte z1) (nar .byte z2)))]))
    refine own_via (fun k => XS.icmpNo X328.here hx rfl (hb hby at_141) rfl (teq (own_law2_141 p0 p1 p2 z1 hz1 z2 hz2 hl4)).2 k) ?_
    show own_Go p e below s _ _ (T328.setTop (mkF m 144 #[iv p0, iv p1, iv p2, iv p3, iv p4, iv 2, iv z1, iv z2, iv z3, rv b_241, rv b_248, rv ob_258, rv ob_277, iv (own_f5_2 z1 z2), iv 1, .unset, .unset, .unset] []))
    refine own_via (fun k => XS.iconst X328.here hx rfl (hb hby at_144) (XS.goto X328.here hx rfl (pc0 := 145) (pc' := 149) rfl (hb hby at_145) (by decide) (by decide) (XS.istore X328.here hx rfl (hb hby at_149) rfl (l' := #[iv p0, iv p1, iv p2, iv p3, iv p4, iv 2, iv z1, iv z2, iv z3, rv b_241, rv b_248, rv ob_258, rv ob_277, iv (own_f5_2 z1 z2), iv 1, iv 1, .unset, .unset]) rfl (XS.aload X328.here hx rfl (hb hby at_151) rfl rfl  k)))) ?_
    show own_Go p e below s _ _ (T328.setTop (mkF m 153 #[iv p0, iv p1, iv p2, iv p3, iv p4, iv 2, iv z1, iv z2, iv z3, rv b_241, rv b_248, rv ob_258, rv ob_277, iv (own_f5_2 z1 z2), iv 1, iv 1, .unset, .unset] [(.ref b_241)]))
    obtain ⟨_, _, ⟨T330, L330, k330, n330⟩, -, X330, ⟨Lc330, hQ330, l330, y330, z330⟩, st330⟩ := Jvm.LawKit.callS X328 hx (y := (⟨"com/example/grant3/grant3/policy/Etag", "of", "([B)Lcom/example/grant3/grant3/policy/Etag;"⟩ : MethodName)) hown (mvT hZ (hw _ (List.mem_of_getElem? (i := 6) rfl))) (mvT hZ (hw _ (List.mem_of_getElem? (i := 7) rfl))) (mvT hZ (hw _ (List.mem_of_getElem? (i := 8) rfl))) (mvT hZ (hw _ (List.mem_of_getElem? (i := 9) rfl))) (by decide) (backOf (W := 0) (rm2_2 l Z aw hw [] b_241 k_241 (nar .byte z310) (nar .byte z2) h311 n0 Z325 B323 B312) hZ (hw _ (List.mem_of_getElem? (i := 9) rfl)) (hw _ (List.mem_of_getElem? (i := 8) rfl)) (by decide) (by decide)) (g := (mkF m 153 #[iv p0, iv p1, iv p2, iv p3, iv p4, iv 2, iv z1, iv z2, iv z3, rv b_241, rv b_248, rv ob_258, rv ob_277, iv (own_f5_2 z1 z2), iv 1, iv 1, .unset, .unset] [(.ref b_241)])) rfl (by rw [hml]; rfl) (argsL := [(.ref b_241)]) (rest := []) (lenOf pd_1 rfl) rfl (by show 2 * 0 + _ ≤ _; exact Nat.le_of_eq rfl) (hb hby at_153) (fun _ _ => ⟨rfl, eh328, (by decide : 6 + 2 ≤ _), (by decide : 10 + 3 ≤ _)⟩)
    dsimp only [Pt.U, Pt.locs, Pt.cells, Pt.slots] at X330 l330 y330 z330 st330 hQ330
    subst l330 y330 z330
    obtain ⟨ob_330, cb_330, rfl, N330q, K330, B331, B332, B333, B334, g335, g336⟩ := hQ330
    have N337 := Fr.app N329 N330q
    have B338 := B312.keep K330
    have B339 := B313.keep K330 nin0
    have B340 := B314.keep K330
    have B341 := B315.keep K330
    have B342 := B316.keep K330 nin0
    have B343 := B317.keep K330 nin0
    have B344 := B318.keep K330
    have B345 := B319.keep K330
    have B346 := B320.keep K330 nin0
    have B347 := B321.keep K330 nin0
    have B348 := B322.keep K330
    have B349 := B323.keep K330 nin0
    have Z350 : n0 ≤ T330.heap.size := Nat.le_trans Z325 K330.1
    have g351 : n0 ≤ ob_330 := Nat.le_trans Z325 g335
    have ne352 : b_241 ≠ ob_330 := Nat.ne_of_lt (Nat.lt_of_lt_of_le B312.lt g335)
    have ne353 : b_248 ≠ ob_330 := Nat.ne_of_lt (Nat.lt_of_lt_of_le B313.lt g335)
    have ne354 : ob_258 ≠ ob_330 := Nat.ne_of_lt (Nat.lt_of_lt_of_le B315.lt g335)
    have ne355 : cb_258 ≠ ob_330 := Nat.ne_of_lt (Nat.lt_of_lt_of_le B317.lt g335)
    have ne356 : ob_277 ≠ ob_330 := Nat.ne_of_lt (Nat.lt_of_lt_of_le B319.lt g335)
    have ne357 : cb_277 ≠ ob_330 := Nat.ne_of_lt (Nat.lt_of_lt_of_le B321.lt g335)
    have g358 : n0 ≤ cb_330 := Nat.le_trans Z325 g336
    have ne359 : b_241 ≠ cb_330 := Nat.ne_of_lt (Nat.lt_of_lt_of_le B312.lt g336)
    have ne360 : b_248 ≠ cb_330 := Nat.ne_of_lt (Nat.lt_of_lt_of_le B313.lt g336)
    have ne361 : ob_258 ≠ cb_330 := Nat.ne_of_lt (Nat.lt_of_lt_of_le B315.lt g336)
    have ne362 : cb_258 ≠ cb_330 := Nat.ne_of_lt (Nat.lt_of_lt_of_le B317.lt g336)
    have ne363 : ob_277 ≠ cb_330 := Nat.ne_of_lt (Nat.lt_of_lt_of_le B319.lt g336)
    have ne364 : cb_277 ≠ cb_330 := Nat.ne_of_lt (Nat.lt_of_lt_of_le B321.lt g336)
    refine own_via (fun k => st330 _ k) ?_
    show own_Go p e below s _ _ (T330.setTop (mkF m 156 #[iv p0, iv p1, iv p2, iv p3, iv p4, iv 2, iv z1, iv z2, iv z3, rv b_241, rv b_248, rv ob_258, rv ob_277, iv (own_f5_2 z1 z2), iv 1, iv 1, .unset, .unset] [(.ref ob_330)]))
    refine own_via (fun k => XS.astore X330.here hx rfl (hb hby at_156) rfl rfl (l' := #[iv p0, iv p1, iv p2, iv p3, iv p4, iv 2, iv z1, iv z2, iv z3, rv b_241, rv b_248, rv ob_258, rv ob_277, iv (own_f5_2 z1 z2), iv 1, iv 1, rv ob_330, .unset]) rfl (XS.iload X330.here hx rfl (hb hby at_158) rfl  k)) ?_
    show own_Go p e below s _ _ (T330.setTop (mkF m 160 #[iv p0, iv p1, iv p2, iv p3, iv p4, iv 2, iv z1, iv z2, iv z3, rv b_241, rv b_248, rv ob_258, rv ob_277, iv (own_f5_2 z1 z2), iv 1, iv 1, rv ob_330, .unset] [(.int 2)]))
    refine own_via (fun k => XS.ifNo X330.here hx rfl (hb hby at_160) rfl (by decide) k) ?_
    show own_Go p e below s _ _ (T330.setTop (mkF m 163 #[iv p0, iv p1, iv p2, iv p3, iv p4, iv 2, iv z1, iv z2, iv z3, rv b_241, rv b_248, rv ob_258, rv ob_277, iv (own_f5_2 z1 z2), iv 1, iv 1, rv ob_330, .unset] []))
    refine own_via (fun k => XS.aload X330.here hx rfl (hb hby at_163) rfl rfl  (XS.aload X330.here hx rfl (hb hby at_165) rfl rfl  k)) ?_
    show own_Go p e below s _ _ (T330.setTop (mkF m 167 #[iv p0, iv p1, iv p2, iv p3, iv p4, iv 2, iv z1, iv z2, iv z3, rv b_241, rv b_248, rv ob_258, rv ob_277, iv (own_f5_2 z1 z2), iv 1, iv 1, rv ob_330, .unset] [(.ref ob_258), (.ref ob_330)]))
    obtain ⟨cq365, kq365, q365a, q365b, q365c⟩ := isOf hZ rfl B331
    obtain ⟨_, _, ⟨T365, L365, k365, n365⟩, -, X365, ⟨Lc365, hQ365, l365, y365, z365⟩, st365⟩ := X330.virtualBack hx (y := (⟨"com/example/grant3/grant3/policy/Etag", "equals", "(Ljava/lang/Object;)Z"⟩ : MethodName)) (z := (⟨"com/example/grant3/grant3/policy/Etag", "equals", "(Ljava/lang/Object;)Z"⟩ : MethodName)) hown (mvT hZ (hw _ (List.mem_of_getElem? (i := 32) rfl))) (mvT hZ (hw _ (List.mem_of_getElem? (i := 33) rfl))) (notFace_of_selects (args := #[]) (mvT hZ (hw _ (List.mem_of_getElem? (i := 35) rfl)))) (mvT hZ (hw _ (List.mem_of_getElem? (i := 35) rfl))) (mvT hZ (hw _ (List.mem_of_getElem? (i := 34) rfl))) (by decide) (backOf (W := 0) (rm6_2 l Z aw hw [] ob_330 ob_258 cb_330 cb_258 k_241 k_241 (nar .byte z310) (nar .byte z2) (nar .byte z1) (nar .byte z2) T330.heap n0 Z350 B332 B342 B341 B333 B343 (Ne.symm ne362)) hZ (hw _ (List.mem_of_getElem? (i := 36) rfl)) (hw _ (List.mem_of_getElem? (i := 8) rfl)) (by decide) (by decide)) q365a q365c (g := (mkF m 167 #[iv p0, iv p1, iv p2, iv p3, iv p4, iv 2, iv z1, iv z2, iv z3, rv b_241, rv b_248, rv ob_258, rv ob_277, iv (own_f5_2 z1 z2), iv 1, iv 1, rv ob_330, .unset] [(.ref ob_258), (.ref ob_330)])) rfl (by rw [hml]; rfl) (Steps.refl _) (argsL := [(.ref ob_258)]) (rest := []) (lenOf pd_6 rfl) rfl (by show 2 * 0 + _ ≤ _; exact Nat.le_of_eq rfl) (hb hby at_167) (fun _ _ => ⟨rfl, rfl, (by decide : 8 + 0 ≤ _), (by decide : 13 + 0 ≤ _)⟩)
    dsimp only [Pt.U, Pt.locs, Pt.cells, Pt.slots] at X365 l365 y365 z365 st365 hQ365
    subst l365 y365 z365
    obtain ⟨rfl, N365q, eh365⟩ := hQ365
    have N366 := Fr.app N337 N365q
    refine own_via (fun k => st365.trans k) ?_
    show own_Go p e below s _ _ (T365.setTop (mkF m 170 #[iv p0, iv p1, iv p2, iv p3, iv p4, iv 2, iv z1, iv z2, iv z3, rv b_241, rv b_248, rv ob_258, rv ob_277, iv (own_f5_2 z1 z2), iv 1, iv 1, rv ob_330, .unset] [(.int (own_f6_2 (nar .byte z310) (nar .byte z2) (nar .byte z1) (nar .byte z2)))]))
    refine own_via (fun k => XS.ifNo X365.here hx rfl (hb hby at_170) rfl ((if0 _ _).trans (teq (own_law2_170 p0 p1 p2 p4 z1 hz1 z2 hz2 z310 hz310 hl4)).2) k) ?_
    show own_Go p e below s _ _ (T365.setTop (mkF m 173 #[iv p0, iv p1, iv p2, iv p3, iv p4, iv 2, iv z1, iv z2, iv z3, rv b_241, rv b_248, rv ob_258, rv ob_277, iv (own_f5_2 z1 z2), iv 1, iv 1, rv ob_330, .unset] []))
    refine own_via (fun k => XS.iconst X365.here hx rfl (hb hby at_173) (XS.goto X365.here hx rfl (pc0 := 174) (pc' := 188) rfl (hb hby at_174) (by decide) (by decide) (XS.istore X365.here hx rfl (hb hby at_188) rfl (l' := #[iv p0, iv p1, iv p2, iv p3, iv p4, iv 2, iv z1, iv z2, iv z3, rv b_241, rv b_248, rv ob_258, rv ob_277, iv (own_f5_2 z1 z2), iv 1, iv 1, rv ob_330, iv 1]) rfl (XS.iload X365.here hx rfl (hb hby at_190) rfl  k)))) ?_
    show own_Go p e below s _ _ (T365.setTop (mkF m 192 #[iv p0, iv p1, iv p2, iv p3, iv p4, iv 2, iv z1, iv z2, iv z3, rv b_241, rv b_248, rv ob_258, rv ob_277, iv (own_f5_2 z1 z2), iv 1, iv 1, rv ob_330, iv 1] [(.int 1)]))
    refine own_via (fun k => XS.ifNo X365.here hx rfl (hb hby at_192) rfl (by decide) k) ?_
    show own_Go p e below s _ _ (T365.setTop (mkF m 195 #[iv p0, iv p1, iv p2, iv p3, iv p4, iv 2, iv z1, iv z2, iv z3, rv b_241, rv b_248, rv ob_258, rv ob_277, iv (own_f5_2 z1 z2), iv 1, iv 1, rv ob_330, iv 1] []))
    refine own_via (fun k => XS.iload X365.here hx rfl (hb hby at_195) rfl  k) ?_
    show own_Go p e below s _ _ (T365.setTop (mkF m 197 #[iv p0, iv p1, iv p2, iv p3, iv p4, iv 2, iv z1, iv z2, iv z3, rv b_241, rv b_248, rv ob_258, rv ob_277, iv (own_f5_2 z1 z2), iv 1, iv 1, rv ob_330, iv 1] [(.int 1)]))
    refine own_via (fun k => XS.ifNo X365.here hx rfl (hb hby at_197) rfl (by decide) k) ?_
    show own_Go p e below s _ _ (T365.setTop (mkF m 200 #[iv p0, iv p1, iv p2, iv p3, iv p4, iv 2, iv z1, iv z2, iv z3, rv b_241, rv b_248, rv ob_258, rv ob_277, iv (own_f5_2 z1 z2), iv 1, iv 1, rv ob_330, iv 1] []))
    refine own_via (fun k => XS.iload X365.here hx rfl (hb hby at_200) rfl  k) ?_
    show own_Go p e below s _ _ (T365.setTop (mkF m 202 #[iv p0, iv p1, iv p2, iv p3, iv p4, iv 2, iv z1, iv z2, iv z3, rv b_241, rv b_248, rv ob_258, rv ob_277, iv (own_f5_2 z1 z2), iv 1, iv 1, rv ob_330, iv 1] [(.int 1)]))
    refine own_via (fun k => XS.ifNo X365.here hx rfl (hb hby at_202) rfl (by decide) k) ?_
    show own_Go p e below s _ _ (T365.setTop (mkF m 205 #[iv p0, iv p1, iv p2, iv p3, iv p4, iv 2, iv z1, iv z2, iv z3, rv b_241, rv b_248, rv ob_258, rv ob_277, iv (own_f5_2 z1 z2), iv 1, iv 1, rv ob_330, iv 1] []))
    refine own_via (fun k => XS.iconst X365.here hx rfl (hb hby at_205) (XS.goto X365.here hx rfl (pc0 := 206) (pc' := 210) rfl (hb hby at_206) (by decide) (by decide) k)) ?_
    show own_Go p e below s _ _ (T365.setTop (mkF m 210 #[iv p0, iv p1, iv p2, iv p3, iv p4, iv 2, iv z1, iv z2, iv z3, rv b_241, rv b_248, rv ob_258, rv ob_277, iv (own_f5_2 z1 z2), iv 1, iv 1, rv ob_330, iv 1] [(.int 1)]))
    exact own_retN X365 hx hlk (t := .boolean) Bd.returns (by simp) (hb hby at_210) (Q := (Q0 Z p0 p1 p2 p3 p4 h0 n0)) ⟨rfl, N366⟩ (by decide) (by decide)
  · rw [hl4]
    show own_Go p e below s _ _ (s₁.setTop (mkF m 20 #[iv p0, iv p1, iv p2, iv p3, iv p4, iv 3, iv z1, iv z2, iv z3, .unset, .unset, .unset, .unset, .unset, .unset, .unset, .unset, .unset] []))
    refine own_via (fun k => XS.iload X0.here hx rfl (hb hby at_20) rfl  (XS.iload X0.here hx rfl (hb hby at_22) rfl  (XS.iload X0.here hx rfl (hb hby at_24) rfl  (XS.iload X0.here hx rfl (hb hby at_26) rfl  k)))) ?_
    show own_Go p e below s _ _ (s₁.setTop (mkF m 28 #[iv p0, iv p1, iv p2, iv p3, iv p4, iv 3, iv z1, iv z2, iv z3, .unset, .unset, .unset, .unset, .unset, .unset, .unset, .unset, .unset] [(.int z3), (.int z2), (.int z1), (.int 3)]))
    obtain ⟨_, _, ⟨T367, L367, k367, n367⟩, -, X367, ⟨Lc367, hQ367, l367, y367, z367⟩, st367⟩ := Jvm.LawKit.callS X0 hx (y := (⟨"com/example/grant3/grant3/policy/EtagOfPinLaw", "make", "(IBBB)[B"⟩ : MethodName)) hown (mvT hZ (hw _ (List.mem_of_getElem? (i := 1) rfl))) (mvT hZ (hw _ (List.mem_of_getElem? (i := 2) rfl))) (mvT hZ (hw _ (List.mem_of_getElem? (i := 3) rfl))) (mvT hZ (hw _ (List.mem_of_getElem? (i := 4) rfl))) (by decide) (backOf (W := 0) (rm1_3 l Z aw hw [] z1 z2 z3 h0 n0 Z0) hZ (hw _ (List.mem_of_getElem? (i := 4) rfl)) (hw _ (List.mem_of_getElem? (i := 3) rfl)) (by decide) (by decide)) (g := (mkF m 28 #[iv p0, iv p1, iv p2, iv p3, iv p4, iv 3, iv z1, iv z2, iv z3, .unset, .unset, .unset, .unset, .unset, .unset, .unset, .unset, .unset] [(.int z3), (.int z2), (.int z1), (.int 3)])) rfl (by rw [hml]; rfl) (argsL := [(.int 3), (.int z1), (.int z2), (.int z3)]) (rest := []) (lenOf pd_0 rfl) rfl (by show 2 * 0 + _ ≤ _; exact Nat.le_of_eq rfl) (hb hby at_28) (fun _ _ => ⟨rfl, e0, (by decide : 0 + 1 ≤ _), (by decide : 0 + 3 ≤ _)⟩)
    dsimp only [Pt.U, Pt.locs, Pt.cells, Pt.slots] at X367 l367 y367 z367 st367 hQ367
    subst l367 y367 z367
    obtain ⟨b_367, k_367, rfl, N367q, K367, B368, B369, g370⟩ := hQ367
    have N371 := Fr.app N0 N367q
    have Z372 : n0 ≤ T367.heap.size := Nat.le_trans Z0 K367.1
    have g373 : n0 ≤ b_367 := Nat.le_trans Z0 g370
    refine own_via (fun k => st367 _ k) ?_
    show own_Go p e below s _ _ (T367.setTop (mkF m 31 #[iv p0, iv p1, iv p2, iv p3, iv p4, iv 3, iv z1, iv z2, iv z3, .unset, .unset, .unset, .unset, .unset, .unset, .unset, .unset, .unset] [(.ref b_367)]))
    refine own_via (fun k => XS.astore X367.here hx rfl (hb hby at_31) rfl rfl (l' := #[iv p0, iv p1, iv p2, iv p3, iv p4, iv 3, iv z1, iv z2, iv z3, rv b_367, .unset, .unset, .unset, .unset, .unset, .unset, .unset, .unset]) rfl (XS.iload X367.here hx rfl (hb hby at_33) rfl  (XS.iload X367.here hx rfl (hb hby at_35) rfl  (XS.iload X367.here hx rfl (hb hby at_37) rfl  k)))) ?_
    show own_Go p e below s _ _ (T367.setTop (mkF m 39 #[iv p0, iv p1, iv p2, iv p3, iv p4, iv 3, iv z1, iv z2, iv z3, rv b_367, .unset, .unset, .unset, .unset, .unset, .unset, .unset, .unset] [(.int z2), (.int z1), (.int 3)]))
    refine own_via (fun k => XS.iload X367.here hx rfl (hb hby at_39) rfl  k) ?_
    show own_Go p e below s _ _ (T367.setTop (mkF m 41 #[iv p0, iv p1, iv p2, iv p3, iv p4, iv 3, iv z1, iv z2, iv z3, rv b_367, .unset, .unset, .unset, .unset, .unset, .unset, .unset, .unset] [(.int z3), (.int z2), (.int z1), (.int 3)]))
    obtain ⟨_, _, ⟨T374, L374, k374, n374⟩, -, X374, ⟨Lc374, hQ374, l374, y374, z374⟩, st374⟩ := Jvm.LawKit.callS X367 hx (y := (⟨"com/example/grant3/grant3/policy/EtagOfPinLaw", "make", "(IBBB)[B"⟩ : MethodName)) hown (mvT hZ (hw _ (List.mem_of_getElem? (i := 1) rfl))) (mvT hZ (hw _ (List.mem_of_getElem? (i := 2) rfl))) (mvT hZ (hw _ (List.mem_of_getElem? (i := 3) rfl))) (mvT hZ (hw _ (List.mem_of_getElem? (i := 4) rfl))) (by decide) (backOf (W := 0) (rm1_3 l Z aw hw [] z1 z2 z3 T367.heap n0 Z372) hZ (hw _ (List.mem_of_getElem? (i := 4) rfl)) (hw _ (List.mem_of_getElem? (i := 3) rfl)) (by decide) (by decide)) (g := (mkF m 41 #[iv p0, iv p1, iv p2, iv p3, iv p4, iv 3, iv z1, iv z2, iv z3, rv b_367, .unset, .unset, .unset, .unset, .unset, .unset, .unset, .unset] [(.int z3), (.int z2), (.int z1), (.int 3)])) rfl (by rw [hml]; rfl) (argsL := [(.int 3), (.int z1), (.int z2), (.int z3)]) (rest := []) (lenOf pd_0 rfl) rfl (by show 2 * 0 + _ ≤ _; exact Nat.le_of_eq rfl) (hb hby at_41) (fun _ _ => ⟨rfl, rfl, (by decide : 1 + 1 ≤ _), (by decide : 3 + 3 ≤ _)⟩)
    dsimp only [Pt.U, Pt.locs, Pt.cells, Pt.slots] at X374 l374 y374 z374 st374 hQ374
    subst l374 y374 z374
    obtain ⟨b_374, k_374, rfl, N374q, K374, B375, B376, g377⟩ := hQ374
    have N378 := Fr.app N371 N374q
    have B379 := B368.keep K374 nin0
    have B380 := B369.keep K374
    have Z381 : n0 ≤ T374.heap.size := Nat.le_trans Z372 K374.1
    have g382 : n0 ≤ b_374 := Nat.le_trans Z372 g377
    have ne383 : b_367 ≠ b_374 := Nat.ne_of_lt (Nat.lt_of_lt_of_le B368.lt g377)
    refine own_via (fun k => st374 _ k) ?_
    show own_Go p e below s _ _ (T374.setTop (mkF m 44 #[iv p0, iv p1, iv p2, iv p3, iv p4, iv 3, iv z1, iv z2, iv z3, rv b_367, .unset, .unset, .unset, .unset, .unset, .unset, .unset, .unset] [(.ref b_374)]))
    refine own_via (fun k => XS.astore X374.here hx rfl (hb hby at_44) rfl rfl (l' := #[iv p0, iv p1, iv p2, iv p3, iv p4, iv 3, iv z1, iv z2, iv z3, rv b_367, rv b_374, .unset, .unset, .unset, .unset, .unset, .unset, .unset]) rfl (XS.aload X374.here hx rfl (hb hby at_46) rfl rfl  k)) ?_
    show own_Go p e below s _ _ (T374.setTop (mkF m 48 #[iv p0, iv p1, iv p2, iv p3, iv p4, iv 3, iv z1, iv z2, iv z3, rv b_367, rv b_374, .unset, .unset, .unset, .unset, .unset, .unset, .unset] [(.ref b_367)]))
    obtain ⟨_, _, ⟨T384, L384, k384, n384⟩, -, X384, ⟨Lc384, hQ384, l384, y384, z384⟩, st384⟩ := Jvm.LawKit.callS X374 hx (y := (⟨"com/example/grant3/grant3/policy/Etag", "of", "([B)Lcom/example/grant3/grant3/policy/Etag;"⟩ : MethodName)) hown (mvT hZ (hw _ (List.mem_of_getElem? (i := 6) rfl))) (mvT hZ (hw _ (List.mem_of_getElem? (i := 7) rfl))) (mvT hZ (hw _ (List.mem_of_getElem? (i := 8) rfl))) (mvT hZ (hw _ (List.mem_of_getElem? (i := 9) rfl))) (by decide) (backOf (W := 0) (rm2_3 l Z aw hw [] b_367 k_367 (nar .byte z1) (nar .byte z2) (nar .byte z3) T374.heap n0 Z381 B379 B380) hZ (hw _ (List.mem_of_getElem? (i := 9) rfl)) (hw _ (List.mem_of_getElem? (i := 8) rfl)) (by decide) (by decide)) (g := (mkF m 48 #[iv p0, iv p1, iv p2, iv p3, iv p4, iv 3, iv z1, iv z2, iv z3, rv b_367, rv b_374, .unset, .unset, .unset, .unset, .unset, .unset, .unset] [(.ref b_367)])) rfl (by rw [hml]; rfl) (argsL := [(.ref b_367)]) (rest := []) (lenOf pd_1 rfl) rfl (by show 2 * 0 + _ ≤ _; exact Nat.le_of_eq rfl) (hb hby at_48) (fun _ _ => ⟨rfl, rfl, (by decide : 2 + 2 ≤ _), (by decide : 6 + 4 ≤ _)⟩)
    dsimp only [Pt.U, Pt.locs, Pt.cells, Pt.slots] at X384 l384 y384 z384 st384 hQ384
    subst l384 y384 z384
    obtain ⟨ob_384, cb_384, rfl, N384q, K384, B385, B386, B387, B388, g389, g390⟩ := hQ384
    have N391 := Fr.app N378 N384q
    have B392 := B379.keep K384 nin0
    have B393 := B380.keep K384
    have B394 := B375.keep K384 nin0
    have B395 := B376.keep K384
    have Z396 : n0 ≤ T384.heap.size := Nat.le_trans Z381 K384.1
    have g397 : n0 ≤ ob_384 := Nat.le_trans Z381 g389
    have ne398 : b_367 ≠ ob_384 := Nat.ne_of_lt (Nat.lt_of_lt_of_le B379.lt g389)
    have ne399 : b_374 ≠ ob_384 := Nat.ne_of_lt (Nat.lt_of_lt_of_le B375.lt g389)
    have g400 : n0 ≤ cb_384 := Nat.le_trans Z381 g390
    have ne401 : b_367 ≠ cb_384 := Nat.ne_of_lt (Nat.lt_of_lt_of_le B379.lt g390)
    have ne402 : b_374 ≠ cb_384 := Nat.ne_of_lt (Nat.lt_of_lt_of_le B375.lt g390)
    refine own_via (fun k => st384 _ k) ?_
    show own_Go p e below s _ _ (T384.setTop (mkF m 51 #[iv p0, iv p1, iv p2, iv p3, iv p4, iv 3, iv z1, iv z2, iv z3, rv b_367, rv b_374, .unset, .unset, .unset, .unset, .unset, .unset, .unset] [(.ref ob_384)]))
    refine own_via (fun k => XS.astore X384.here hx rfl (hb hby at_51) rfl rfl (l' := #[iv p0, iv p1, iv p2, iv p3, iv p4, iv 3, iv z1, iv z2, iv z3, rv b_367, rv b_374, rv ob_384, .unset, .unset, .unset, .unset, .unset, .unset]) rfl (XS.aload X384.here hx rfl (hb hby at_53) rfl rfl  k)) ?_
    show own_Go p e below s _ _ (T384.setTop (mkF m 55 #[iv p0, iv p1, iv p2, iv p3, iv p4, iv 3, iv z1, iv z2, iv z3, rv b_367, rv b_374, rv ob_384, .unset, .unset, .unset, .unset, .unset, .unset] [(.ref b_374)]))
    obtain ⟨_, _, ⟨T403, L403, k403, n403⟩, -, X403, ⟨Lc403, hQ403, l403, y403, z403⟩, st403⟩ := Jvm.LawKit.callS X384 hx (y := (⟨"com/example/grant3/grant3/policy/Etag", "of", "([B)Lcom/example/grant3/grant3/policy/Etag;"⟩ : MethodName)) hown (mvT hZ (hw _ (List.mem_of_getElem? (i := 6) rfl))) (mvT hZ (hw _ (List.mem_of_getElem? (i := 7) rfl))) (mvT hZ (hw _ (List.mem_of_getElem? (i := 8) rfl))) (mvT hZ (hw _ (List.mem_of_getElem? (i := 9) rfl))) (by decide) (backOf (W := 0) (rm2_3 l Z aw hw [] b_374 k_374 (nar .byte z1) (nar .byte z2) (nar .byte z3) T384.heap n0 Z396 B394 B395) hZ (hw _ (List.mem_of_getElem? (i := 9) rfl)) (hw _ (List.mem_of_getElem? (i := 8) rfl)) (by decide) (by decide)) (g := (mkF m 55 #[iv p0, iv p1, iv p2, iv p3, iv p4, iv 3, iv z1, iv z2, iv z3, rv b_367, rv b_374, rv ob_384, .unset, .unset, .unset, .unset, .unset, .unset] [(.ref b_374)])) rfl (by rw [hml]; rfl) (argsL := [(.ref b_374)]) (rest := []) (lenOf pd_1 rfl) rfl (by show 2 * 0 + _ ≤ _; exact Nat.le_of_eq rfl) (hb hby at_55) (fun _ _ => ⟨rfl, rfl, (by decide : 4 + 2 ≤ _), (by decide : 10 + 4 ≤ _)⟩)
    dsimp only [Pt.U, Pt.locs, Pt.cells, Pt.slots] at X403 l403 y403 z403 st403 hQ403
    subst l403 y403 z403
    obtain ⟨ob_403, cb_403, rfl, N403q, K403, B404, B405, B406, B407, g408, g409⟩ := hQ403
    have N410 := Fr.app N391 N403q
    have B411 := B392.keep K403 nin0
    have B412 := B393.keep K403
    have B413 := B394.keep K403 nin0
    have B414 := B395.keep K403
    have B415 := B385.keep K403
    have B416 := B386.keep K403 nin0
    have B417 := B387.keep K403 nin0
    have B418 := B388.keep K403
    have Z419 : n0 ≤ T403.heap.size := Nat.le_trans Z396 K403.1
    have g420 : n0 ≤ ob_403 := Nat.le_trans Z396 g408
    have ne421 : b_367 ≠ ob_403 := Nat.ne_of_lt (Nat.lt_of_lt_of_le B392.lt g408)
    have ne422 : b_374 ≠ ob_403 := Nat.ne_of_lt (Nat.lt_of_lt_of_le B394.lt g408)
    have ne423 : ob_384 ≠ ob_403 := Nat.ne_of_lt (Nat.lt_of_lt_of_le B385.lt g408)
    have ne424 : cb_384 ≠ ob_403 := Nat.ne_of_lt (Nat.lt_of_lt_of_le B387.lt g408)
    have g425 : n0 ≤ cb_403 := Nat.le_trans Z396 g409
    have ne426 : b_367 ≠ cb_403 := Nat.ne_of_lt (Nat.lt_of_lt_of_le B392.lt g409)
    have ne427 : b_374 ≠ cb_403 := Nat.ne_of_lt (Nat.lt_of_lt_of_le B394.lt g409)
    have ne428 : ob_384 ≠ cb_403 := Nat.ne_of_lt (Nat.lt_of_lt_of_le B385.lt g409)
    have ne429 : cb_384 ≠ cb_403 := Nat.ne_of_lt (Nat.lt_of_lt_of_le B387.lt g409)
    refine own_via (fun k => st403 _ k) ?_
    show own_Go p e below s _ _ (T403.setTop (mkF m 58 #[iv p0, iv p1, iv p2, iv p3, iv p4, iv 3, iv z1, iv z2, iv z3, rv b_367, rv b_374, rv ob_384, .unset, .unset, .unset, .unset, .unset, .unset] [(.ref ob_403)]))
    refine own_via (fun k => XS.astore X403.here hx rfl (hb hby at_58) rfl rfl (l' := #[iv p0, iv p1, iv p2, iv p3, iv p4, iv 3, iv z1, iv z2, iv z3, rv b_367, rv b_374, rv ob_384, rv ob_403, .unset, .unset, .unset, .unset, .unset]) rfl (XS.iload X403.here hx rfl (hb hby at_60) rfl  (XS.iload X403.here hx rfl (hb hby at_62) rfl  (XS.iload X403.here hx rfl (hb hby at_64) rfl  k)))) ?_
    show own_Go p e below s _ _ (T403.setTop (mkF m 66 #[iv p0, iv p1, iv p2, iv p3, iv p4, iv 3, iv z1, iv z2, iv z3, rv b_367, rv b_374, rv ob_384, rv ob_403, .unset, .unset, .unset, .unset, .unset] [(.int z2), (.int z1), (.int 3)]))
    refine own_via (fun k => XS.iload X403.here hx rfl (hb hby at_66) rfl  k) ?_
    show own_Go p e below s _ _ (T403.setTop (mkF m 68 #[iv p0, iv p1, iv p2, iv p3, iv p4, iv 3, iv z1, iv z2, iv z3, rv b_367, rv b_374, rv ob_384, rv ob_403, .unset, .unset, .unset, .unset, .unset] [(.int z3), (.int z2), (.int z1), (.int 3)]))
    obtain ⟨_, _, ⟨T430, L430, k430, n430⟩, -, X430, ⟨Lc430, hQ430, l430, y430, z430⟩, st430⟩ := Jvm.LawKit.callS X403 hx (y := (⟨"com/example/grant3/grant3/policy/EtagOfPinLaw", "refHash", "(IBBB)I"⟩ : MethodName)) hown (mvT hZ (hw _ (List.mem_of_getElem? (i := 29) rfl))) (mvT hZ (hw _ (List.mem_of_getElem? (i := 30) rfl))) (mvT hZ (hw _ (List.mem_of_getElem? (i := 3) rfl))) (mvT hZ (hw _ (List.mem_of_getElem? (i := 31) rfl))) (by decide) (backOf (W := 0) (rm5_3 l Z aw hw [] z1 z2 z3 T403.heap n0 Z419) hZ (hw _ (List.mem_of_getElem? (i := 31) rfl)) (hw _ (List.mem_of_getElem? (i := 3) rfl)) (by decide) (by decide)) (g := (mkF m 68 #[iv p0, iv p1, iv p2, iv p3, iv p4, iv 3, iv z1, iv z2, iv z3, rv b_367, rv b_374, rv ob_384, rv ob_403, .unset, .unset, .unset, .unset, .unset] [(.int z3), (.int z2), (.int z1), (.int 3)])) rfl (by rw [hml]; rfl) (argsL := [(.int 3), (.int z1), (.int z2), (.int z3)]) (rest := []) (lenOf pd_5 rfl) rfl (by show 2 * 0 + _ ≤ _; exact Nat.le_of_eq rfl) (hb hby at_68) (fun _ _ => ⟨rfl, rfl, (by decide : 6 + 0 ≤ _), (by decide : 14 + 0 ≤ _)⟩)
    dsimp only [Pt.U, Pt.locs, Pt.cells, Pt.slots] at X430 l430 y430 z430 st430 hQ430
    subst l430 y430 z430
    obtain ⟨rfl, N430q, eh430⟩ := hQ430
    have N431 := Fr.app N410 N430q
    refine own_via (fun k => st430 _ k) ?_
    show own_Go p e below s _ _ (T430.setTop (mkF m 71 #[iv p0, iv p1, iv p2, iv p3, iv p4, iv 3, iv z1, iv z2, iv z3, rv b_367, rv b_374, rv ob_384, rv ob_403, .unset, .unset, .unset, .unset, .unset] [(.int (own_f5_3 z1 z2 z3))]))
    refine own_via (fun k => XS.istore X430.here hx rfl (hb hby at_71) rfl (l' := #[iv p0, iv p1, iv p2, iv p3, iv p4, iv 3, iv z1, iv z2, iv z3, rv b_367, rv b_374, rv ob_384, rv ob_403, iv (own_f5_3 z1 z2 z3), .unset, .unset, .unset, .unset]) rfl (XS.aload X430.here hx rfl (hb hby at_73) rfl rfl  (XS.aload X430.here hx rfl (hb hby at_75) rfl rfl  k))) ?_
    show own_Go p e below s _ _ (T430.setTop (mkF m 77 #[iv p0, iv p1, iv p2, iv p3, iv p4, iv 3, iv z1, iv z2, iv z3, rv b_367, rv b_374, rv ob_384, rv ob_403, iv (own_f5_3 z1 z2 z3), .unset, .unset, .unset, .unset] [(.ref ob_403), (.ref ob_384)]))
    obtain ⟨cq432, kq432, q432a, q432b, q432c⟩ := isOf hZ eh430 B415
    obtain ⟨_, _, ⟨T432, L432, k432, n432⟩, -, X432, ⟨Lc432, hQ432, l432, y432, z432⟩, st432⟩ := X430.virtualBack hx (y := (⟨"com/example/grant3/grant3/policy/Etag", "equals", "(Ljava/lang/Object;)Z"⟩ : MethodName)) (z := (⟨"com/example/grant3/grant3/policy/Etag", "equals", "(Ljava/lang/Object;)Z"⟩ : MethodName)) hown (mvT hZ (hw _ (List.mem_of_getElem? (i := 32) rfl))) (mvT hZ (hw _ (List.mem_of_getElem? (i := 33) rfl))) (notFace_of_selects (args := #[]) (mvT hZ (hw _ (List.mem_of_getElem? (i := 35) rfl)))) (mvT hZ (hw _ (List.mem_of_getElem? (i := 35) rfl))) (mvT hZ (hw _ (List.mem_of_getElem? (i := 34) rfl))) (by decide) (backOf (W := 0) (rm6_3 l Z aw hw [] ob_384 ob_403 cb_384 cb_403 k_367 k_374 (nar .byte z1) (nar .byte z2) (nar .byte z3) (nar .byte z1) (nar .byte z2) (nar .byte z3) T403.heap n0 Z419 B416 B405 B404 B417 B406 ne429) hZ (hw _ (List.mem_of_getElem? (i := 36) rfl)) (hw _ (List.mem_of_getElem? (i := 8) rfl)) (by decide) (by decide)) q432a q432c (g := (mkF m 77 #[iv p0, iv p1, iv p2, iv p3, iv p4, iv 3, iv z1, iv z2, iv z3, rv b_367, rv b_374, rv ob_384, rv ob_403, iv (own_f5_3 z1 z2 z3), .unset, .unset, .unset, .unset] [(.ref ob_403), (.ref ob_384)])) rfl (by rw [hml]; rfl) (Steps.refl _) (argsL := [(.ref ob_403)]) (rest := []) (lenOf pd_6 rfl) rfl (by show 2 * 0 + _ ≤ _; exact Nat.le_of_eq rfl) (hb hby at_77) (fun _ _ => ⟨rfl, eh430, (by decide : 6 + 0 ≤ _), (by decide : 14 + 0 ≤ _)⟩)
    dsimp only [Pt.U, Pt.locs, Pt.cells, Pt.slots] at X432 l432 y432 z432 st432 hQ432
    subst l432 y432 z432
    obtain ⟨rfl, N432q, eh432⟩ := hQ432
    have N433 := Fr.app N431 N432q
    refine own_via (fun k => st432.trans k) ?_
    show own_Go p e below s _ _ (T432.setTop (mkF m 80 #[iv p0, iv p1, iv p2, iv p3, iv p4, iv 3, iv z1, iv z2, iv z3, rv b_367, rv b_374, rv ob_384, rv ob_403, iv (own_f5_3 z1 z2 z3), .unset, .unset, .unset, .unset] [(.int (own_f6_3 (nar .byte z1) (nar .byte z2) (nar .byte z3) (nar .byte z1) (nar .byte z2) (nar .byte z3)))]))
    refine own_via (fun k => XS.ifNo X432.here hx rfl (hb hby at_80) rfl ((if0 _ _).trans (feq (own_law3_80 p0 p1 p2 p3 z1 hz1 z2 hz2 z3 hz3 hl4)).1) k) ?_
    show own_Go p e below s _ _ (T432.setTop (mkF m 83 #[iv p0, iv p1, iv p2, iv p3, iv p4, iv 3, iv z1, iv z2, iv z3, rv b_367, rv b_374, rv ob_384, rv ob_403, iv (own_f5_3 z1 z2 z3), .unset, .unset, .unset, .unset] []))
    refine own_via (fun k => XS.aload X432.here hx rfl (hb hby at_83) rfl rfl  k) ?_
    show own_Go p e below s _ _ (T432.setTop (mkF m 85 #[iv p0, iv p1, iv p2, iv p3, iv p4, iv 3, iv z1, iv z2, iv z3, rv b_367, rv b_374, rv ob_384, rv ob_403, iv (own_f5_3 z1 z2 z3), .unset, .unset, .unset, .unset] [(.ref ob_384)]))
    obtain ⟨cq434, kq434, q434a, q434b, q434c⟩ := isOf hZ eh432 B415
    obtain ⟨_, _, ⟨T434, L434, k434, n434⟩, -, X434, ⟨Lc434, hQ434, l434, y434, z434⟩, st434⟩ := X432.virtualBack hx (y := (⟨"com/example/grant3/grant3/policy/Etag", "hashCode", "()I"⟩ : MethodName)) (z := (⟨"com/example/grant3/grant3/policy/Etag", "hashCode", "()I"⟩ : MethodName)) hown (mvT hZ (hw _ (List.mem_of_getElem? (i := 46) rfl))) (mvT hZ (hw _ (List.mem_of_getElem? (i := 47) rfl))) (notFace_of_selects (args := #[]) (mvT hZ (hw _ (List.mem_of_getElem? (i := 49) rfl)))) (mvT hZ (hw _ (List.mem_of_getElem? (i := 49) rfl))) (mvT hZ (hw _ (List.mem_of_getElem? (i := 48) rfl))) (by decide) (backOf (W := 0) (rm9_3 l Z aw hw [] ob_384 cb_384 k_367 (nar .byte z1) (nar .byte z2) (nar .byte z3) T403.heap n0 Z419 B416 B417 B418) hZ (hw _ (List.mem_of_getElem? (i := 50) rfl)) (hw _ (List.mem_of_getElem? (i := 8) rfl)) (by decide) (by decide)) q434a q434c (g := (mkF m 85 #[iv p0, iv p1, iv p2, iv p3, iv p4, iv 3, iv z1, iv z2, iv z3, rv b_367, rv b_374, rv ob_384, rv ob_403, iv (own_f5_3 z1 z2 z3), .unset, .unset, .unset, .unset] [(.ref ob_384)])) rfl (by rw [hml]; rfl) (Steps.refl _) (argsL := []) (rest := []) (lenOf pd_9 rfl) rfl (by show 2 * 0 + _ ≤ _; exact Nat.le_of_eq rfl) (hb hby at_85) (fun _ _ => ⟨rfl, eh432, (by decide : 6 + 0 ≤ _), (by decide : 14 + 0 ≤ _)⟩)
    dsimp only [Pt.U, Pt.locs, Pt.cells, Pt.slots] at X434 l434 y434 z434 st434 hQ434
    subst l434 y434 z434
    obtain ⟨rfl, N434q, eh434⟩ := hQ434
    have N435 := Fr.app N433 N434q
    refine own_via (fun k => st434.trans k) ?_
    show own_Go p e below s _ _ (T434.setTop (mkF m 88 #[iv p0, iv p1, iv p2, iv p3, iv p4, iv 3, iv z1, iv z2, iv z3, rv b_367, rv b_374, rv ob_384, rv ob_403, iv (own_f5_3 z1 z2 z3), .unset, .unset, .unset, .unset] [(.int (own_f9_3 (nar .byte z1) (nar .byte z2) (nar .byte z3)))]))
    refine own_via (fun k => XS.iload X434.here hx rfl (hb hby at_88) rfl  k) ?_
    show own_Go p e below s _ _ (T434.setTop (mkF m 90 #[iv p0, iv p1, iv p2, iv p3, iv p4, iv 3, iv z1, iv z2, iv z3, rv b_367, rv b_374, rv ob_384, rv ob_403, iv (own_f5_3 z1 z2 z3), .unset, .unset, .unset, .unset] [(.int (own_f5_3 z1 z2 z3)), (.int (own_f9_3 (nar .byte z1) (nar .byte z2) (nar .byte z3)))]))
    refine own_via (fun k => XS.icmpNo X434.here hx rfl (hb hby at_90) rfl (teq (own_law3_90 p0 p1 p2 p3 z1 hz1 z2 hz2 z3 hz3 hl4)).2 k) ?_
    show own_Go p e below s _ _ (T434.setTop (mkF m 93 #[iv p0, iv p1, iv p2, iv p3, iv p4, iv 3, iv z1, iv z2, iv z3, rv b_367, rv b_374, rv ob_384, rv ob_403, iv (own_f5_3 z1 z2 z3), .unset, .unset, .unset, .unset] []))
    refine own_via (fun k => XS.iconst X434.here hx rfl (hb hby at_93) (XS.goto X434.here hx rfl (pc0 := 94) (pc' := 98) rfl (hb hby at_94) (by decide) (by decide) (XS.istore X434.here hx rfl (hb hby at_98) rfl (l' := #[iv p0, iv p1, iv p2, iv p3, iv p4, iv 3, iv z1, iv z2, iv z3, rv b_367, rv b_374, rv ob_384, rv ob_403, iv (own_f5_3 z1 z2 z3), iv 1, .unset, .unset, .unset]) rfl (XS.iload X434.here hx rfl (hb hby at_100) rfl  k)))) ?_
    show own_Go p e below s _ _ (T434.setTop (mkF m 102 #[iv p0, iv p1, iv p2, iv p3, iv p4, iv 3, iv z1, iv z2, iv z3, rv b_367, rv b_374, rv ob_384, rv ob_403, iv (own_f5_3 z1 z2 z3), iv 1, .unset, .unset, .unset] [(.int 3)]))
    refine own_via (fun k => XS.ifNo X434.here hx rfl (hb hby at_102) rfl (by decide) k) ?_
    show own_Go p e below s _ _ (T434.setTop (mkF m 105 #[iv p0, iv p1, iv p2, iv p3, iv p4, iv 3, iv z1, iv z2, iv z3, rv b_367, rv b_374, rv ob_384, rv ob_403, iv (own_f5_3 z1 z2 z3), iv 1, .unset, .unset, .unset] []))
    refine own_via (fun k => XS.aload X434.here hx rfl (hb hby at_105) rfl rfl  (XS.iconst X434.here hx rfl (hb hby at_107) (XS.iload X434.here hx rfl (hb hby at_108) rfl  (XS.iconst X434.here hx rfl (hb hby at_110) k)))) ?_
    show own_Go p e below s _ _ (T434.setTop (mkF m 111 #[iv p0, iv p1, iv p2, iv p3, iv p4, iv 3, iv z1, iv z2, iv z3, rv b_367, rv b_374, rv ob_384, rv ob_403, iv (own_f5_3 z1 z2 z3), iv 1, .unset, .unset, .unset] [(.int 1), (.int z1), (.int 0), (.ref b_367)]))
    refine own_via (fun k => XS.iadd X434.here hx rfl (hb hby at_111) rfl (XS.iload X434.here hx rfl (hb hby at_112) rfl  (X434.ldcInt hx hown (mvT hZ (hw _ (List.mem_of_getElem? (i := 0) rfl))) (g := (mkF m 114 #[iv p0, iv p1, iv p2, iv p3, iv p4, iv 3, iv z1, iv z2, iv z3, rv b_367, rv b_374, rv ob_384, rv ob_403, iv (own_f5_3 z1 z2 z3), iv 1, .unset, .unset, .unset] [(.int p4), (.int (z1 + (1 : Int32))), (.int 0), (.ref b_367)])) rfl (hb hby at_114) _ (XS.iand X434.here hx rfl (hb hby at_116) rfl k)))) ?_
    show own_Go p e below s _ _ (T434.setTop (mkF m 117 #[iv p0, iv p1, iv p2, iv p3, iv p4, iv 3, iv z1, iv z2, iv z3, rv b_367, rv b_374, rv ob_384, rv ob_403, iv (own_f5_3 z1 z2 z3), iv 1, .unset, .unset, .unset] [(.int (p4 &&& (2147483647 : Int32))), (.int (z1 + (1 : Int32))), (.int 0), (.ref b_367)]))
    refine own_via (fun k => XS.sipush X434.here hx rfl (hb hby at_117) (Jvm.RoadKit.iremM X434 hx rfl (hb hby at_120) rfl (by decide) (XS.iadd X434.here hx rfl (hb hby at_121) rfl (XS.i2b X434.here hx rfl (hb hby at_122) rfl k)))) ?_
    show own_Go p e below s _ _ (T434.setTop (mkF m 123 #[iv p0, iv p1, iv p2, iv p3, iv p4, iv 3, iv z1, iv z2, iv z3, rv b_367, rv b_374, rv ob_384, rv ob_403, iv (own_f5_3 z1 z2 z3), iv 1, .unset, .unset, .unset] [(.int (((z1 + (1 : Int32)) + ((p4 &&& (2147483647 : Int32)) % (255 : Int32))).toInt8.toInt32)), (.int 0), (.ref b_367)]))
    obtain ⟨z436, hz436⟩ : ∃ z : Int32, z = (((z1 + (1 : Int32)) + ((p4 &&& (2147483647 : Int32)) % (255 : Int32))).toInt8.toInt32) := ⟨_, rfl⟩
    rw [← hz436]
    show own_Go p e below s _ _ (T434.setTop (mkF m 123 #[iv p0, iv p1, iv p2, iv p3, iv p4, iv 3, iv z1, iv z2, iv z3, rv b_367, rv b_374, rv ob_384, rv ob_403, iv (own_f5_3 z1 z2 z3), iv 1, .unset, .unset, .unset] [(.int z436), (.int 0), (.ref b_367)]))
    obtain ⟨cl437, Ar437, q437, S437, NN437, H437, G437⟩ := id B411
    have hin437 : ¬ ((0 : Int32) < 0 ∨ cl437.slots.size ≤ ((0 : Int32)).toNatClampNeg) := inb_of S437 ⟨by decide, by decide⟩
    obtain ⟨T437, h437, X437, e437, W437, st437⟩ := stB X434 hx hZ eh434 Ar437 (j := (0 : Int32)) hin437 (g := (mkF m 123 #[iv p0, iv p1, iv p2, iv p3, iv p4, iv 3, iv z1, iv z2, iv z3, rv b_367, rv b_374, rv ob_384, rv ob_403, iv (own_f5_3 z1 z2 z3), iv 1, .unset, .unset, .unset] [(.int z436), (.int 0), (.ref b_367)])) rfl rfl (hb hby at_123)
    refine own_via (fun k => st437 _ k) ?_
    show own_Go p e below s _ _ (T437.setTop (mkF m 124 #[iv p0, iv p1, iv p2, iv p3, iv p4, iv 3, iv z1, iv z2, iv z3, rv b_367, rv b_374, rv ob_384, rv ob_403, iv (own_f5_3 z1 z2 z3), iv 1, .unset, .unset, .unset] []))
    have B438 := B412.wr W437
    have B439 := B413.other W437 (Ne.symm ne383)
    have B440 := B414.wr W437
    have B441 := B415.wr W437
    have B442 := B416.other W437 (Or.inl (Ne.symm ne398))
    have B443 := B417.other W437 (Ne.symm ne401)
    have B444 := B418.wr W437
    have B445 := B404.wr W437
    have B446 := B405.other W437 (Or.inl (Ne.symm ne421))
    have B447 := B406.other W437 (Ne.symm ne426)
    have B448 := B407.wr W437
    have B449 : Arv Z h437 b_367 k_367 .byte (3 : Int32) [(.int (nar .byte z436)), (.int (nar .byte z2)), (.int (nar .byte z3))] (.int 0) := Arv.set Ar437 q437 S437 NN437 H437 G437 (fits_nar_byte _) W437 0 rfl (Nat.le_of_ble_eq_true rfl)
    have N450 := Fr.snoc X437 N435 g373
    have Z451 : n0 ≤ h437.size := Nat.le_trans Z419 (Keep.of_wr W437).1
    refine own_via (fun k => XS.aload X437.here hx rfl (hb hby at_124) rfl rfl  (XS.aload X437.here hx rfl (hb hby at_126) rfl rfl  k)) ?_
    show own_Go p e below s _ _ (T437.setTop (mkF m 128 #[iv p0, iv p1, iv p2, iv p3, iv p4, iv 3, iv z1, iv z2, iv z3, rv b_367, rv b_374, rv ob_384, rv ob_403, iv (own_f5_3 z1 z2 z3), iv 1, .unset, .unset, .unset] [(.ref ob_403), (.ref ob_384)]))
    obtain ⟨cq452, kq452, q452a, q452b, q452c⟩ := isOf hZ e437 B441
    obtain ⟨_, _, ⟨T452, L452, k452, n452⟩, -, X452, ⟨Lc452, hQ452, l452, y452, z452⟩, st452⟩ := X437.virtualBack hx (y := (⟨"com/example/grant3/grant3/policy/Etag", "equals", "(Ljava/lang/Object;)Z"⟩ : MethodName)) (z := (⟨"com/example/grant3/grant3/policy/Etag", "equals", "(Ljava/lang/Object;)Z"⟩ : MethodName)) hown (mvT hZ (hw _ (List.mem_of_getElem? (i := 32) rfl))) (mvT hZ (hw _ (List.mem_of_getElem? (i := 33) rfl))) (notFace_of_selects (args := #[]) (mvT hZ (hw _ (List.mem_of_getElem? (i := 35) rfl)))) (mvT hZ (hw _ (List.mem_of_getElem? (i := 35) rfl))) (mvT hZ (hw _ (List.mem_of_getElem? (i := 34) rfl))) (by decide) (backOf (W := 0) (rm6_3 l Z aw hw [] ob_384 ob_403 cb_384 cb_403 k_367 k_374 (nar .byte z1) (nar .byte z2) (nar .byte z3) (nar .byte z1) (nar .byte z2) (nar .byte z3) h437 n0 Z451 B442 B446 B445 B443 B447 ne429) hZ (hw _ (List.mem_of_getElem? (i := 36) rfl)) (hw _ (List.mem_of_getElem? (i := 8) rfl)) (by decide) (by decide)) q452a q452c (g := (mkF m 128 #[iv p0, iv p1, iv p2, iv p3, iv p4, iv 3, iv z1, iv z2, iv z3, rv b_367, rv b_374, rv ob_384, rv ob_403, iv (own_f5_3 z1 z2 z3), iv 1, .unset, .unset, .unset] [(.ref ob_403), (.ref ob_384)])) rfl (by rw [hml]; rfl) (Steps.refl _) (argsL := [(.ref ob_403)]) (rest := []) (lenOf pd_6 rfl) rfl (by show 2 * 0 + _ ≤ _; exact Nat.le_of_eq rfl) (hb hby at_128) (fun _ _ => ⟨rfl, e437, (by decide : 6 + 0 ≤ _), (by decide : 14 + 0 ≤ _)⟩)
    dsimp only [Pt.U, Pt.locs, Pt.cells, Pt.slots] at X452 l452 y452 z452 st452 hQ452
    subst l452 y452 z452
    obtain ⟨rfl, N452q, eh452⟩ := hQ452
    have N453 := Fr.app N450 N452q
    refine own_via (fun k => st452.trans k) ?_
    show own_Go p e below s _ _ (T452.setTop (mkF m 131 #[iv p0, iv p1, iv p2, iv p3, iv p4, iv 3, iv z1, iv z2, iv z3, rv b_367, rv b_374, rv ob_384, rv ob_403, iv (own_f5_3 z1 z2 z3), iv 1, .unset, .unset, .unset] [(.int (own_f6_3 (nar .byte z1) (nar .byte z2) (nar .byte z3) (nar .byte z1) (nar .byte z2) (nar .byte z3)))]))
    refine own_via (fun k => XS.ifNo X452.here hx rfl (hb hby at_131) rfl ((if0 _ _).trans (feq (own_law3_131 p0 p1 p2 p3 z1 hz1 z2 hz2 z3 hz3 hl4)).1) k) ?_
    show own_Go p e below s _ _ (T452.setTop (mkF m 134 #[iv p0, iv p1, iv p2, iv p3, iv p4, iv 3, iv z1, iv z2, iv z3, rv b_367, rv b_374, rv ob_384, rv ob_403, iv (own_f5_3 z1 z2 z3), iv 1, .unset, .unset, .unset] []))
    refine own_via (fun k => XS.aload X452.here hx rfl (hb hby at_134) rfl rfl  k) ?_
    show own_Go p e below s _ _ (T452.setTop (mkF m 136 #[iv p0, iv p1, iv p2, iv p3, iv p4, iv 3, iv z1, iv z2, iv z3, rv b_367, rv b_374, rv ob_384, rv ob_403, iv (own_f5_3 z1 z2 z3), iv 1, .unset, .unset, .unset] [(.ref ob_384)]))
    obtain ⟨cq454, kq454, q454a, q454b, q454c⟩ := isOf hZ eh452 B441
    obtain ⟨_, _, ⟨T454, L454, k454, n454⟩, -, X454, ⟨Lc454, hQ454, l454, y454, z454⟩, st454⟩ := X452.virtualBack hx (y := (⟨"com/example/grant3/grant3/policy/Etag", "hashCode", "()I"⟩ : MethodName)) (z := (⟨"com/example/grant3/grant3/policy/Etag", "hashCode", "()I"⟩ : MethodName)) hown (mvT hZ (hw _ (List.mem_of_getElem? (i := 46) rfl))) (mvT hZ (hw _ (List.mem_of_getElem? (i := 47) rfl))) (notFace_of_selects (args := #[]) (mvT hZ (hw _ (List.mem_of_getElem? (i := 49) rfl)))) (mvT hZ (hw _ (List.mem_of_getElem? (i := 49) rfl))) (mvT hZ (hw _ (List.mem_of_getElem? (i := 48) rfl))) (by decide) (backOf (W := 0) (rm9_3 l Z aw hw [] ob_384 cb_384 k_367 (nar .byte z1) (nar .byte z2) (nar .byte z3) h437 n0 Z451 B442 B443 B444) hZ (hw _ (List.mem_of_getElem? (i := 50) rfl)) (hw _ (List.mem_of_getElem? (i := 8) rfl)) (by decide) (by decide)) q454a q454c (g := (mkF m 136 #[iv p0, iv p1, iv p2, iv p3, iv p4, iv 3, iv z1, iv z2, iv z3, rv b_367, rv b_374, rv ob_384, rv ob_403, iv (own_f5_3 z1 z2 z3), iv 1, .unset, .unset, .unset] [(.ref ob_384)])) rfl (by rw [hml]; rfl) (Steps.refl _) (argsL := []) (rest := []) (lenOf pd_9 rfl) rfl (by show 2 * 0 + _ ≤ _; exact Nat.le_of_eq rfl) (hb hby at_136) (fun _ _ => ⟨rfl, eh452, (by decide : 6 + 0 ≤ _), (by decide : 14 + 0 ≤ _)⟩)
    dsimp only [Pt.U, Pt.locs, Pt.cells, Pt.slots] at X454 l454 y454 z454 st454 hQ454
    subst l454 y454 z454
    obtain ⟨rfl, N454q, eh454⟩ := hQ454
    have N455 := Fr.app N453 N454q
    refine own_via (fun k => st454.trans k) ?_
    show own_Go p e below s _ _ (T454.setTop (mkF m 139 #[iv p0, iv p1, iv p2, iv p3, iv p4, iv 3, iv z1, iv z2, iv z3, rv b_367, rv b_374, rv ob_384, rv ob_403, iv (own_f5_3 z1 z2 z3), iv 1, .unset, .unset, .unset] [(.int (own_f9_3 (nar .byte z1) (nar .byte z2) (nar .byte z3)))]))
    refine own_via (fun k => XS.iload X454.here hx rfl (hb hby at_139) rfl  k) ?_
    show own_Go p e below s _ _ (T454.setTop (mkF m 141 #[iv p0, iv p1, iv p2, iv p3, iv p4, iv 3, iv z1, iv z2, iv z3, rv b_367, rv b_374, rv ob_384, rv ob_403, iv (own_f5_3 z1 z2 z3), iv 1, .unset, .unset, .unset] [(.int (own_f5_3 z1 z2 z3)), (.int (own_f9_3 (nar .byte z1) (nar .byte z2) (nar .byte z3)))]))
    refine own_via (fun k => XS.icmpNo X454.here hx rfl (hb hby at_141) rfl (teq (own_law3_141 p0 p1 p2 p3 z1 hz1 z2 hz2 z3 hz3 hl4)).2 k) ?_
    show own_Go p e below s _ _ (T454.setTop (mkF m 144 #[iv p0, iv p1, iv p2, iv p3, iv p4, iv 3, iv z1, iv z2, iv z3, rv b_367, rv b_374, rv ob_384, rv ob_403, iv (own_f5_3 z1 z2 z3), iv 1, .unset, .unset, .unset] []))
    refine own_via (fun k => XS.iconst X454.here hx rfl (hb hby at_144) (XS.goto X454.here hx rfl (pc0 := 145) (pc' := 149) rfl (hb hby at_145) (by decide) (by decide) (XS.istore X454.here hx rfl (hb hby at_149) rfl (l' := #[iv p0, iv p1, iv p2, iv p3, iv p4, iv 3, iv z1, iv z2, iv z3, rv b_367, rv b_374, rv ob_384, rv ob_403, iv (own_f5_3 z1 z2 z3), iv 1, iv 1, .unset, .unset]) rfl (XS.aload X454.here hx rfl (hb hby at_151) rfl rfl  k)))) ?_
    show own_Go p e below s _ _ (T454.setTop (mkF m 153 #[iv p0, iv p1, iv p2, iv p3, iv p4, iv 3, iv z1, iv z2, iv z3, rv b_367, rv b_374, rv ob_384, rv ob_403, iv (own_f5_3 z1 z2 z3), iv 1, iv 1, .unset, .unset] [(.ref b_367)]))
    obtain ⟨_, _, ⟨T456, L456, k456, n456⟩, -, X456, ⟨Lc456, hQ456, l456, y456, z456⟩, st456⟩ := Jvm.LawKit.callS X454 hx (y := (⟨"com/example/grant3/grant3/policy/Etag", "of", "([B)Lcom/example/grant3/grant3/policy/Etag;"⟩ : MethodName)) hown (mvT hZ (hw _ (List.mem_of_getElem? (i := 6) rfl))) (mvT hZ (hw _ (List.mem_of_getElem? (i := 7) rfl))) (mvT hZ (hw _ (List.mem_of_getElem? (i := 8) rfl))) (mvT hZ (hw _ (List.mem_of_getElem? (i := 9) rfl))) (by decide) (backOf (W := 0) (rm2_3 l Z aw hw [] b_367 k_367 (nar .byte z436) (nar .byte z2) (nar .byte z3) h437 n0 Z451 B449 B438) hZ (hw _ (List.mem_of_getElem? (i := 9) rfl)) (hw _ (List.mem_of_getElem? (i := 8) rfl)) (by decide) (by decide)) (g := (mkF m 153 #[iv p0, iv p1, iv p2, iv p3, iv p4, iv 3, iv z1, iv z2, iv z3, rv b_367, rv b_374, rv ob_384, rv ob_403, iv (own_f5_3 z1 z2 z3), iv 1, iv 1, .unset, .unset] [(.ref b_367)])) rfl (by rw [hml]; rfl) (argsL := [(.ref b_367)]) (rest := []) (lenOf pd_1 rfl) rfl (by show 2 * 0 + _ ≤ _; exact Nat.le_of_eq rfl) (hb hby at_153) (fun _ _ => ⟨rfl, eh454, (by decide : 6 + 2 ≤ _), (by decide : 14 + 4 ≤ _)⟩)
    dsimp only [Pt.U, Pt.locs, Pt.cells, Pt.slots] at X456 l456 y456 z456 st456 hQ456
    subst l456 y456 z456
    obtain ⟨ob_456, cb_456, rfl, N456q, K456, B457, B458, B459, B460, g461, g462⟩ := hQ456
    have N463 := Fr.app N455 N456q
    have B464 := B438.keep K456
    have B465 := B439.keep K456 nin0
    have B466 := B440.keep K456
    have B467 := B441.keep K456
    have B468 := B442.keep K456 nin0
    have B469 := B443.keep K456 nin0
    have B470 := B444.keep K456
    have B471 := B445.keep K456
    have B472 := B446.keep K456 nin0
    have B473 := B447.keep K456 nin0
    have B474 := B448.keep K456
    have B475 := B449.keep K456 nin0
    have Z476 : n0 ≤ T456.heap.size := Nat.le_trans Z451 K456.1
    have g477 : n0 ≤ ob_456 := Nat.le_trans Z451 g461
    have ne478 : b_367 ≠ ob_456 := Nat.ne_of_lt (Nat.lt_of_lt_of_le B438.lt g461)
    have ne479 : b_374 ≠ ob_456 := Nat.ne_of_lt (Nat.lt_of_lt_of_le B439.lt g461)
    have ne480 : ob_384 ≠ ob_456 := Nat.ne_of_lt (Nat.lt_of_lt_of_le B441.lt g461)
    have ne481 : cb_384 ≠ ob_456 := Nat.ne_of_lt (Nat.lt_of_lt_of_le B443.lt g461)
    have ne482 : ob_403 ≠ ob_456 := Nat.ne_of_lt (Nat.lt_of_lt_of_le B445.lt g461)
    have ne483 : cb_403 ≠ ob_456 := Nat.ne_of_lt (Nat.lt_of_lt_of_le B447.lt g461)
    have g484 : n0 ≤ cb_456 := Nat.le_trans Z451 g462
    have ne485 : b_367 ≠ cb_456 := Nat.ne_of_lt (Nat.lt_of_lt_of_le B438.lt g462)
    have ne486 : b_374 ≠ cb_456 := Nat.ne_of_lt (Nat.lt_of_lt_of_le B439.lt g462)
    have ne487 : ob_384 ≠ cb_456 := Nat.ne_of_lt (Nat.lt_of_lt_of_le B441.lt g462)
    have ne488 : cb_384 ≠ cb_456 := Nat.ne_of_lt (Nat.lt_of_lt_of_le B443.lt g462)
    have ne489 : ob_403 ≠ cb_456 := Nat.ne_of_lt (Nat.lt_of_lt_of_le B445.lt g462)
    have ne490 : cb_403 ≠ cb_456 := Nat.ne_of_lt (Nat.lt_of_lt_of_le B447.lt g462)
    refine own_via (fun k => st456 _ k) ?_
    show own_Go p e below s _ _ (T456.setTop (mkF m 156 #[iv p0, iv p1, iv p2, iv p3, iv p4, iv 3, iv z1, iv z2, iv z3, rv b_367, rv b_374, rv ob_384, rv ob_403, iv (own_f5_3 z1 z2 z3), iv 1, iv 1, .unset, .unset] [(.ref ob_456)]))
    refine own_via (fun k => XS.astore X456.here hx rfl (hb hby at_156) rfl rfl (l' := #[iv p0, iv p1, iv p2, iv p3, iv p4, iv 3, iv z1, iv z2, iv z3, rv b_367, rv b_374, rv ob_384, rv ob_403, iv (own_f5_3 z1 z2 z3), iv 1, iv 1, rv ob_456, .unset]) rfl (XS.iload X456.here hx rfl (hb hby at_158) rfl  k)) ?_
    show own_Go p e below s _ _ (T456.setTop (mkF m 160 #[iv p0, iv p1, iv p2, iv p3, iv p4, iv 3, iv z1, iv z2, iv z3, rv b_367, rv b_374, rv ob_384, rv ob_403, iv (own_f5_3 z1 z2 z3), iv 1, iv 1, rv ob_456, .unset] [(.int 3)]))
    refine own_via (fun k => XS.ifNo X456.here hx rfl (hb hby at_160) rfl (by decide) k) ?_
    show own_Go p e below s _ _ (T456.setTop (mkF m 163 #[iv p0, iv p1, iv p2, iv p3, iv p4, iv 3, iv z1, iv z2, iv z3, rv b_367, rv b_374, rv ob_384, rv ob_403, iv (own_f5_3 z1 z2 z3), iv 1, iv 1, rv ob_456, .unset] []))
    refine own_via (fun k => XS.aload X456.here hx rfl (hb hby at_163) rfl rfl  (XS.aload X456.here hx rfl (hb hby at_165) rfl rfl  k)) ?_
    show own_Go p e below s _ _ (T456.setTop (mkF m 167 #[iv p0, iv p1, iv p2, iv p3, iv p4, iv 3, iv z1, iv z2, iv z3, rv b_367, rv b_374, rv ob_384, rv ob_403, iv (own_f5_3 z1 z2 z3), iv 1, iv 1, rv ob_456, .unset] [(.ref ob_384), (.ref ob_456)]))
    obtain ⟨cq491, kq491, q491a, q491b, q491c⟩ := isOf hZ rfl B457
    obtain ⟨_, _, ⟨T491, L491, k491, n491⟩, -, X491, ⟨Lc491, hQ491, l491, y491, z491⟩, st491⟩ := X456.virtualBack hx (y := (⟨"com/example/grant3/grant3/policy/Etag", "equals", "(Ljava/lang/Object;)Z"⟩ : MethodName)) (z := (⟨"com/example/grant3/grant3/policy/Etag", "equals", "(Ljava/lang/Object;)Z"⟩ : MethodName)) hown (mvT hZ (hw _ (List.mem_of_getElem? (i := 32) rfl))) (mvT hZ (hw _ (List.mem_of_getElem? (i := 33) rfl))) (notFace_of_selects (args := #[]) (mvT hZ (hw _ (List.mem_of_getElem? (i := 35) rfl)))) (mvT hZ (hw _ (List.mem_of_getElem? (i := 35) rfl))) (mvT hZ (hw _ (List.mem_of_getElem? (i := 34) rfl))) (by decide) (backOf (W := 0) (rm6_3 l Z aw hw [] ob_456 ob_384 cb_456 cb_384 k_367 k_367 (nar .byte z436) (nar .byte z2) (nar .byte z3) (nar .byte z1) (nar .byte z2) (nar .byte z3) T456.heap n0 Z476 B458 B468 B467 B459 B469 (Ne.symm ne488)) hZ (hw _ (List.mem_of_getElem? (i := 36) rfl)) (hw _ (List.mem_of_getElem? (i := 8) rfl)) (by decide) (by decide)) q491a q491c (g := (mkF m 167 #[iv p0, iv p1, iv p2, iv p3, iv p4, iv 3, iv z1, iv z2, iv z3, rv b_367, rv b_374, rv ob_384, rv ob_403, iv (own_f5_3 z1 z2 z3), iv 1, iv 1, rv ob_456, .unset] [(.ref ob_384), (.ref ob_456)])) rfl (by rw [hml]; rfl) (Steps.refl _) (argsL := [(.ref ob_384)]) (rest := []) (lenOf pd_6 rfl) rfl (by show 2 * 0 + _ ≤ _; exact Nat.le_of_eq rfl) (hb hby at_167) (fun _ _ => ⟨rfl, rfl, (by decide : 8 + 0 ≤ _), (by decide : 18 + 0 ≤ _)⟩)
    dsimp only [Pt.U, Pt.locs, Pt.cells, Pt.slots] at X491 l491 y491 z491 st491 hQ491
    subst l491 y491 z491
    obtain ⟨rfl, N491q, eh491⟩ := hQ491
    have N492 := Fr.app N463 N491q
    refine own_via (fun k => st491.trans k) ?_
    show own_Go p e below s _ _ (T491.setTop (mkF m 170 #[iv p0, iv p1, iv p2, iv p3, iv p4, iv 3, iv z1, iv z2, iv z3, rv b_367, rv b_374, rv ob_384, rv ob_403, iv (own_f5_3 z1 z2 z3), iv 1, iv 1, rv ob_456, .unset] [(.int (own_f6_3 (nar .byte z436) (nar .byte z2) (nar .byte z3) (nar .byte z1) (nar .byte z2) (nar .byte z3)))]))
    refine own_via (fun k => XS.ifNo X491.here hx rfl (hb hby at_170) rfl ((if0 _ _).trans (teq (own_law3_170 p0 p1 p2 p3 p4 z1 hz1 z2 hz2 z3 hz3 z436 hz436 hl4)).2) k) ?_
    show own_Go p e below s _ _ (T491.setTop (mkF m 173 #[iv p0, iv p1, iv p2, iv p3, iv p4, iv 3, iv z1, iv z2, iv z3, rv b_367, rv b_374, rv ob_384, rv ob_403, iv (own_f5_3 z1 z2 z3), iv 1, iv 1, rv ob_456, .unset] []))
    refine own_via (fun k => XS.iconst X491.here hx rfl (hb hby at_173) (XS.goto X491.here hx rfl (pc0 := 174) (pc' := 188) rfl (hb hby at_174) (by decide) (by decide) (XS.istore X491.here hx rfl (hb hby at_188) rfl (l' := #[iv p0, iv p1, iv p2, iv p3, iv p4, iv 3, iv z1, iv z2, iv z3, rv b_367, rv b_374, rv ob_384, rv ob_403, iv (own_f5_3 z1 z2 z3), iv 1, iv 1, rv ob_456, iv 1]) rfl (XS.iload X491.here hx rfl (hb hby at_190) rfl  k)))) ?_
    show own_Go p e below s _ _ (T491.setTop (mkF m 192 #[iv p0, iv p1, iv p2, iv p3, iv p4, iv 3, iv z1, iv z2, iv z3, rv b_367, rv b_374, rv ob_384, rv ob_403, iv (own_f5_3 z1 z2 z3), iv 1, iv 1, rv ob_456, iv 1] [(.int 1)]))
    refine own_via (fun k => XS.ifNo X491.here hx rfl (hb hby at_192) rfl (by decide) k) ?_
    show own_Go p e below s _ _ (T491.setTop (mkF m 195 #[iv p0, iv p1, iv p2, iv p3, iv p4, iv 3, iv z1, iv z2, iv z3, rv b_367, rv b_374, rv ob_384, rv ob_403, iv (own_f5_3 z1 z2 z3), iv 1, iv 1, rv ob_456, iv 1] []))
    refine own_via (fun k => XS.iload X491.here hx rfl (hb hby at_195) rfl  k) ?_
    show own_Go p e below s _ _ (T491.setTop (mkF m 197 #[iv p0, iv p1, iv p2, iv p3, iv p4, iv 3, iv z1, iv z2, iv z3, rv b_367, rv b_374, rv ob_384, rv ob_403, iv (own_f5_3 z1 z2 z3), iv 1, iv 1, rv ob_456, iv 1] [(.int 1)]))
    refine own_via (fun k => XS.ifNo X491.here hx rfl (hb hby at_197) rfl (by decide) k) ?_
    show own_Go p e below s _ _ (T491.setTop (mkF m 200 #[iv p0, iv p1, iv p2, iv p3, iv p4, iv 3, iv z1, iv z2, iv z3, rv b_367, rv b_374, rv ob_384, rv ob_403, iv (own_f5_3 z1 z2 z3), iv 1, iv 1, rv ob_456, iv 1] []))
    refine own_via (fun k => XS.iload X491.here hx rfl (hb hby at_200) rfl  k) ?_
    show own_Go p e below s _ _ (T491.setTop (mkF m 202 #[iv p0, iv p1, iv p2, iv p3, iv p4, iv 3, iv z1, iv z2, iv z3, rv b_367, rv b_374, rv ob_384, rv ob_403, iv (own_f5_3 z1 z2 z3), iv 1, iv 1, rv ob_456, iv 1] [(.int 1)]))
    refine own_via (fun k => XS.ifNo X491.here hx rfl (hb hby at_202) rfl (by decide) k) ?_
    show own_Go p e below s _ _ (T491.setTop (mkF m 205 #[iv p0, iv p1, iv p2, iv p3, iv p4, iv 3, iv z1, iv z2, iv z3, rv b_367, rv b_374, rv ob_384, rv ob_403, iv (own_f5_3 z1 z2 z3), iv 1, iv 1, rv ob_456, iv 1] []))
    refine own_via (fun k => XS.iconst X491.here hx rfl (hb hby at_205) (XS.goto X491.here hx rfl (pc0 := 206) (pc' := 210) rfl (hb hby at_206) (by decide) (by decide) k)) ?_
    show own_Go p e below s _ _ (T491.setTop (mkF m 210 #[iv p0, iv p1, iv p2, iv p3, iv p4, iv 3, iv z1, iv z2, iv z3, rv b_367, rv b_374, rv ob_384, rv ob_403, iv (own_f5_3 z1 z2 z3), iv 1, iv 1, rv ob_456, iv 1] [(.int 1)]))
    exact own_retN X491 hx hlk (t := .boolean) Bd.returns (by simp) (hb hby at_210) (Q := (Q0 Z p0 p1 p2 p3 p4 h0 n0)) ⟨rfl, N492⟩ (by decide) (by decide)
set_option maxRecDepth 65536 in
set_option maxHeartbeats 40000000 in
theorem comes_1 {Post : Tables → Env → Array Value → State → Outcome → State → Prop} (hpost : ∀ tb e args s v u, (limb_1_1.after args s (.returned v) u = true ∧ limb_1_2.after args s (.returned v) u = true ∧ True) → FrameEnd s (.returned v) u (Jvm.fieldLocs frame_1_writes args s ++ Jvm.arrayLocs frame_1_arrays args s ++ Jvm.staticLocs frame_1_statics s) 24 128 → Post tb e args s (.returned v) u) :
    ArmFor flags0 classFile x code maxLocals ret World_1 tables_1 room_1 Calls_1 rest_1 Pre_1 Post := by
  intro l hfl _ _ p e ha hc hk s m args below hf hA hF happ hP
  obtain ⟨hcalls, hrest, hpre⟩ := hP
  obtain ⟨-, -, -, hnamed, -, -, -, hat⟩ := (Spec.applies_iff hf).mp happ
  obtain ⟨hg, hn⟩ := and_e (Cond.before_iff.mp (show (Jvm.Cond.and given_1 narrow_1).before args s = true from hpre))
  obtain ⟨g1, g2⟩ := and_e hg
  obtain ⟨g3, g4⟩ := and_e g2
  obtain ⟨g5, g6⟩ := and_e g4
  obtain ⟨g7, g8⟩ := and_e g6
  obtain ⟨g9, g10⟩ := and_e g8
  obtain ⟨w0, w1, w2, w3, w4, rfl⟩ : ∃ w0 w1 w2 w3 w4 : Value, args = #[w0, w1, w2, w3, w4] := by
    have hs : args.size = 5 := by simpa [Cond.value, given_1] using g1
    obtain ⟨L⟩ := args
    match L, hs with
    | [w0, w1, w2, w3, w4], _ => exact ⟨w0, w1, w2, w3, w4, rfl⟩
  have hw := fun d (hd : d ∈ tables_1) => atoms_spec (ws := Jvm.Cond.code x code maxLocals ret :: tables_1) hat d (List.mem_cons_of_mem _ hd)
  obtain ⟨i0, ei0⟩ := is_v g3
  obtain rfl : w0 = (.int i0) := Option.some.inj ei0
  obtain ⟨i1, ei1⟩ := is_v g5
  obtain rfl : w1 = (.int i1) := Option.some.inj ei1
  obtain ⟨i2, ei2⟩ := is_v g7
  obtain rfl : w2 = (.int i2) := Option.some.inj ei2
  obtain ⟨i3, ei3⟩ := is_v g9
  obtain rfl : w3 = (.int i3) := Option.some.inj ei3
  obtain ⟨i4, ei4⟩ := is_v g10
  obtain rfl : w4 = (.int i4) := Option.some.inj ei4
  obtain ⟨n, o, h1, h2, h3, _, L, rfl, ⟨rfl, N⟩, hq⟩ := rm0 l s _ hw tables_1 i0 i1 i2 i3 i4 s.heap s.heap.size (Nat.le_refl _) p e ha hc hk s m _ below hf ((Spec.applies_iff_loose hf).mp happ).1 ⟨rfl, State.Warmed39.refl s, rfl⟩ trivial
  refine ⟨n, _, h1, h2, h3, hpost _ _ _ _ _ _ ⟨Cond.after_iff.mpr rfl, Cond.after_iff.mpr (eq_i res_at (Term.int_eval (1)) rfl), trivial⟩ ⟨hq.1, hq.2.1, (hq.2.2.sift fun y hy => Or.inr (N y hy)).mono (by decide) (by decide)⟩⟩
theorem main_1_1 : Claimed_1_1 := comes_1 fun _ _ _ _ _ _ h hF => ⟨h.1, hF⟩
theorem main_1_2 : Claimed_1_2 := comes_1 fun _ _ _ _ _ _ h hF => ⟨h.2.1, hF⟩
end Jvm.Pilot.@@N@@
namespace Jvm.Pilot.@@N@@
open Jvm Jvm.ClassFile Sem Op Lib Jvm.Free Jvm.Stand Jvm.Pilot.@@N@@.Jvm.D
/-! MADE BY PROGRAM (witnessworld.py) out of the Statement's table words and the real class files: 11 classes; the members and pool entries that the words name. The judged class is class 1, her method 1. -/
namespace start1
open Jvm.ClassFile
def u (s : String) : CpInfo := .utf8 (stringToUtf16 s)
/-- a pool by its gaps: so many unusable entries, then the entry; so many at the end -/
def gap : Nat → List CpInfo → List CpInfo
  | 0, r => r
  | n + 1, r => .unusable :: gap n r
def poolList (es : List (Nat × CpInfo)) (last : Nat) : List CpInfo := es.foldr (fun e r => gap e.1 (e.2 :: r)) (gap last [])
def pool (es : List (Nat × CpInfo)) (last : Nat) : Array CpInfo := ⟨poolList es last⟩
def fileOf (pool : Array CpInfo) (this : Nat) (attrs : Array Attribute := #[]) (ms : Array MethodInfo := #[]) (fl : Nat := 33) (sup : Nat := 0) (ifs : Array Nat := #[]) (fds : Array FieldInfo := #[]) : ClassFile where
  minorVersion := 0
  majorVersion := 65
  constantPool := pool
  accessFlags := fl
  thisClass := this
  superClass := sup
  interfaces := ifs
  fields := fds
  methods := ms
  attributes := attrs
def plain (name : String) (sup : Option ClassId) : Class where
  name := name
  kind := .ordinary
  loader := none
  accessFlags := 33
  super := sup
  interfaces := #[]
  cf := none
  fields := #[]
  methods := #[]
  instanceTypes := #[]
  staticTypes := #[]
  resolved := #[]
  callSites := []
  init := .initialized
  statics := none
  mirror := none

def pool0 : Array CpInfo := pool [(5, u "<init>"), (0, u "()V"), (1, .class_ 10), (1, u "java/lang/Object"), (85, u "clone"), (0, u "()Ljava/lang/Object;")] 26

def k0c0 : Code := { maxStack := 0, maxLocals := 1, code := object_method_1_code, exceptionTable := #[], attributes := #[] }
def k0m0 : Method := { name := "<init>", desc := "()V", sig := { parameters := [], returnType := none }, accessFlags := 1, code := some k0c0 }
def k0m1 : Method := { name := "clone", desc := "()Ljava/lang/Object;", sig := { parameters := [], returnType := some (.object "java/lang/Object") }, accessFlags := 260, code := none }
/-- java/lang/Object -/
def k0 : Class := { plain "java/lang/Object" none with
  accessFlags := 33
  interfaces := #[]
  cf := some (fileOf pool0 8 #[] #[{ accessFlags := 1, nameIndex := 5, descriptorIndex := 6, attributes := #[] }, { accessFlags := 260, nameIndex := 96, descriptorIndex := 97, attributes := #[] }] 33 0 #[] #[])
  fields := #[]
  methods := #[k0m0, k0m1]
  instanceTypes := #[]
  staticTypes := #[]
  resolved := Array.replicate 124 none
  statics := none }

def pool1 : Array CpInfo := pool [(2, .class_ 4), (1, u "java/lang/Object"), (0, u "<init>"), (0, u "()V"), (0, .integer 2147483647), (0, .methodref 9 10), (0, .class_ 11), (0, .nameAndType 12 13), (0, u "com/example/grant3/grant3/policy/EtagOfPinLaw"), (0, u "make"), (0, u "(IBBB)[B"), (0, .methodref 15 16), (0, .class_ 17), (0, .nameAndType 18 19), (0, u "com/example/grant3/grant3/policy/Etag"), (0, u "of"), (0, u "([B)Lcom/example/grant3/grant3/policy/Etag;"), (0, .methodref 9 21), (0, .nameAndType 22 23), (0, u "refHash"), (0, u "(IBBB)I"), (0, .methodref 15 25), (0, .nameAndType 26 27), (0, u "equals"), (0, u "(Ljava/lang/Object;)Z"), (0, .methodref 15 29), (0, .nameAndType 30 31), (0, u "hashCode"), (0, u "()I"), (2, u "law"), (0, u "(IIIII)Z")] 5

def k1m0 : Method := { name := "<init>", desc := "()V", sig := { parameters := [], returnType := none }, accessFlags := 1, code := none }
def k1c1 : Code := { maxStack := 5, maxLocals := 18, code := code, exceptionTable := #[], attributes := #[] }
def k1m1 : Method := { name := "law", desc := "(IIIII)Z", sig := { parameters := [.int, .int, .int, .int, .int], returnType := some .boolean }, accessFlags := 9, code := some k1c1 }
def k1c2 : Code := { maxStack := 3, maxLocals := 5, code := method_3_code, exceptionTable := #[], attributes := #[] }
def k1m2 : Method := { name := "make", desc := "(IBBB)[B", sig := { parameters := [.int, .byte, .byte, .byte], returnType := some (.array .byte) }, accessFlags := 10, code := some k1c2 }
def k1c3 : Code := { maxStack := 2, maxLocals := 5, code := method_4_code, exceptionTable := #[], attributes := #[] }
def k1m3 : Method := { name := "refHash", desc := "(IBBB)I", sig := { parameters := [.int, .byte, .byte, .byte], returnType := some .int }, accessFlags := 10, code := some k1c3 }
/-- com/example/grant3/grant3/policy/EtagOfPinLaw -/
def k1 : Class := { plain "com/example/grant3/grant3/policy/EtagOfPinLaw" (some 0) with
  accessFlags := 49
  interfaces := #[]
  cf := some (fileOf pool1 9 #[] #[{ accessFlags := 1, nameIndex := 5, descriptorIndex := 6, attributes := #[] }, { accessFlags := 9, nameIndex := 34, descriptorIndex := 35, attributes := #[] }, { accessFlags := 10, nameIndex := 12, descriptorIndex := 13, attributes := #[] }, { accessFlags := 10, nameIndex := 22, descriptorIndex := 23, attributes := #[] }] 49 2 #[] #[])
  fields := #[]
  methods := #[k1m0, k1m1, k1m2, k1m3]
  instanceTypes := #[]
  staticTypes := #[]
  resolved := Array.replicate 41 none
  statics := none }

def pool2 : Array CpInfo := pool [(1, .methodref 2 3), (0, .class_ 4), (0, .nameAndType 5 6), (0, u "java/lang/Object"), (0, u "<init>"), (0, u "()V"), (0, .fieldref 8 9), (0, .class_ 10), (0, .nameAndType 11 12), (0, u "com/example/grant3/grant3/policy/Etag"), (0, u "bytes"), (0, u "[B"), (0, .methodref 14 15), (0, .class_ 12), (0, .nameAndType 16 17), (0, u "clone"), (0, u "()Ljava/lang/Object;"), (0, .methodref 8 19), (0, .nameAndType 5 20), (0, u "([B)V"), (28, .methodref 50 51), (0, .class_ 52), (0, .nameAndType 53 54), (0, u "java/util/Arrays"), (0, u "equals"), (0, u "([B[B)Z"), (0, .methodref 50 56), (0, .nameAndType 57 58), (0, u "hashCode"), (0, u "([B)I"), (6, u "of"), (0, u "([B)Lcom/example/grant3/grant3/policy/Etag;"), (2, u "(Ljava/lang/Object;)Z"), (1, u "()I")] 6

def k2c0 : Code := { maxStack := 2, maxLocals := 2, code := prog_14_method_1_code, exceptionTable := #[], attributes := #[] }
def k2m0 : Method := { name := "<init>", desc := "([B)V", sig := { parameters := [(.array .byte)], returnType := none }, accessFlags := 2, code := some k2c0 }
def k2c1 : Code := { maxStack := 3, maxLocals := 1, code := prog_14_method_2_code, exceptionTable := #[], attributes := #[] }
def k2m1 : Method := { name := "of", desc := "([B)Lcom/example/grant3/grant3/policy/Etag;", sig := { parameters := [(.array .byte)], returnType := some (.object "com/example/grant3/grant3/policy/Etag") }, accessFlags := 9, code := some k2c1 }
def k2c2 : Code := { maxStack := 2, maxLocals := 3, code := prog_14_method_5_code, exceptionTable := #[], attributes := #[] }
def k2m2 : Method := { name := "equals", desc := "(Ljava/lang/Object;)Z", sig := { parameters := [(.object "java/lang/Object")], returnType := some .boolean }, accessFlags := 1, code := some k2c2 }
def k2c3 : Code := { maxStack := 1, maxLocals := 1, code := prog_14_method_6_code, exceptionTable := #[], attributes := #[] }
def k2m3 : Method := { name := "hashCode", desc := "()I", sig := { parameters := [], returnType := some .int }, accessFlags := 1, code := some k2c3 }
/-- com/example/grant3/grant3/policy/Etag -/
def k2 : Class := { plain "com/example/grant3/grant3/policy/Etag" (some 0) with
  accessFlags := 49
  interfaces := #[]
  cf := some (fileOf pool2 8 #[] #[{ accessFlags := 2, nameIndex := 5, descriptorIndex := 20, attributes := #[] }, { accessFlags := 9, nameIndex := 65, descriptorIndex := 66, attributes := #[] }, { accessFlags := 1, nameIndex := 53, descriptorIndex := 69, attributes := #[] }, { accessFlags := 1, nameIndex := 57, descriptorIndex := 71, attributes := #[] }] 49 2 #[] #[{ accessFlags := 18, nameIndex := 11, descriptorIndex := 12, attributes := #[] }])
  fields := #[{ name := "bytes", type := (.array .byte), accessFlags := 18, slot := 0, constantValue := 0 }]
  methods := #[k2m0, k2m1, k2m2, k2m3]
  instanceTypes := #[(.array .byte)]
  staticTypes := #[]
  resolved := Array.replicate 78 none
  statics := none }

def pool3 : Array CpInfo := pool [(1, .class_ 2), (0, u "java/lang/Cloneable"), (0, .class_ 4), (0, u "java/lang/Object")] 2

/-- java/lang/Cloneable -/
def k3 : Class := { plain "java/lang/Cloneable" (some 0) with
  accessFlags := 1537
  interfaces := #[]
  cf := some (fileOf pool3 1 #[] #[] 1537 3 #[] #[])
  fields := #[]
  methods := #[]
  instanceTypes := #[]
  staticTypes := #[]
  resolved := Array.replicate 7 none
  statics := none }

def pool4 : Array CpInfo := pool [(2, .class_ 4), (1, u "java/lang/Object"), (0, u "<init>"), (0, u "()V"), (7, .class_ 16), (1, u "java/util/Arrays"), (57, .class_ 76), (1, u "java/util/Arrays$NaturalOrder"), (36, .class_ 115), (1, u "java/util/Arrays$LegacyMergeSort"), (1, u "Z"), (128, .class_ 248), (1, u "jdk/internal/util/ArraysSupport"), (0, u "mismatch"), (22, .methodref 246 273), (0, .nameAndType 249 274), (0, u "([B[BI)I"), (23, u "equals"), (76, .class_ 376), (0, u "java/util/Arrays$ArrayList"), (2, .methodref 246 380), (0, .nameAndType 381 382), (0, u "vectorizedHashCode"), (0, u "(Ljava/lang/Object;IIII)I"), (2, u "hashCode"), (16, u "([B)I"), (42, u "$assertionsDisabled"), (9, u "([B[B)Z"), (259, u "MIN_ARRAY_SORT_GRAN"), (0, u "I"), (2, u "INSERTIONSORT_THRESHOLD"), (255, .class_ 976), (0, u "java/util/Arrays$ArrayItr")] 52

def k4m0 : Method := { name := "<init>", desc := "()V", sig := { parameters := [], returnType := none }, accessFlags := 2, code := none }
def k4c1 : Code := { maxStack := 3, maxLocals := 3, code := jdk_65_method_89_code, exceptionTable := #[], attributes := #[] }
def k4m1 : Method := { name := "equals", desc := "([B[B)Z", sig := { parameters := [(.array .byte), (.array .byte)], returnType := some .boolean }, accessFlags := 9, code := some k4c1 }
def k4c2 : Code := { maxStack := 5, maxLocals := 1, code := jdk_65_method_153_code, exceptionTable := #[], attributes := #[] }
def k4m2 : Method := { name := "hashCode", desc := "([B)I", sig := { parameters := [(.array .byte)], returnType := some .int }, accessFlags := 9, code := some k4c2 }
/-- java/util/Arrays -/
def k4 : Class := { plain "java/util/Arrays" (some 0) with
  accessFlags := 49
  interfaces := #[]
  cf := some (fileOf pool4 14 #[.nestMembers #[975, 375, 113, 74]] #[{ accessFlags := 2, nameIndex := 5, descriptorIndex := 6, attributes := #[] }, { accessFlags := 9, nameIndex := 298, descriptorIndex := 455, attributes := #[] }, { accessFlags := 9, nameIndex := 385, descriptorIndex := 402, attributes := #[] }] 49 2 #[] #[{ accessFlags := 26, nameIndex := 715, descriptorIndex := 716, attributes := #[] }, { accessFlags := 26, nameIndex := 719, descriptorIndex := 716, attributes := #[] }, { accessFlags := 4120, nameIndex := 445, descriptorIndex := 117, attributes := #[] }])
  fields := #[{ name := "MIN_ARRAY_SORT_GRAN", type := .int, accessFlags := 26, slot := 0, constantValue := 0 }, { name := "INSERTIONSORT_THRESHOLD", type := .int, accessFlags := 26, slot := 1, constantValue := 0 }, { name := "$assertionsDisabled", type := .boolean, accessFlags := 4120, slot := 2, constantValue := 0 }]
  methods := #[k4m0, k4m1, k4m2]
  instanceTypes := #[]
  staticTypes := #[.int, .int, .boolean]
  resolved := Array.replicate 1029 none
  statics := none }

def pool5 : Array CpInfo := pool [(9, u "<init>"), (6, .class_ 18), (1, u "java/lang/Object"), (0, u "()V"), (1, .class_ 23), (1, u "jdk/internal/util/ArraysSupport"), (0, u "LOG2_ARRAY_LONG_INDEX_SCALE"), (0, u "I"), (2, u "U"), (0, u "Ljdk/internal/misc/Unsafe;"), (8, u "BIG_ENDIAN"), (0, u "Z"), (8, u "LOG2_BYTE_BIT_SIZE"), (4, u "LOG2_ARRAY_INT_INDEX_SCALE"), (6, .class_ 61), (0, u "[B"), (3, u "(I[BII)I"), (7, u "hashCode"), (1, .methodref 21 76), (0, .nameAndType 73 65), (31, u "JLA"), (0, u "Ljdk/internal/access/JavaLangAccess;"), (11, u "LOG2_ARRAY_BOOLEAN_INDEX_SCALE"), (9, u "LOG2_ARRAY_BYTE_INDEX_SCALE"), (5, u "LOG2_ARRAY_CHAR_INDEX_SCALE"), (5, u "LOG2_ARRAY_SHORT_INDEX_SCALE"), (5, u "mismatch"), (12, u "LOG2_ARRAY_FLOAT_INDEX_SCALE"), (24, u "LOG2_ARRAY_DOUBLE_INDEX_SCALE"), (89, u "T_BOOLEAN"), (2, u "T_CHAR"), (1, u "T_FLOAT"), (1, u "T_DOUBLE"), (1, u "T_BYTE"), (1, u "T_SHORT"), (1, u "T_INT"), (1, u "T_LONG"), (1, u "SOFT_MAX_ARRAY_LENGTH"), (26, u "vectorizedHashCode"), (0, u "(Ljava/lang/Object;IIII)I"), (13, u "([B[BI)I")] 41

def k5m0 : Method := { name := "<init>", desc := "()V", sig := { parameters := [], returnType := none }, accessFlags := 2, code := none }
def k5c1 : Code := { maxStack := 4, maxLocals := 5, code := jdk_48_method_4_code, exceptionTable := #[], attributes := #[] }
def k5m1 : Method := { name := "vectorizedHashCode", desc := "(Ljava/lang/Object;IIII)I", sig := { parameters := [(.object "java/lang/Object"), .int, .int, .int, .int], returnType := some .int }, accessFlags := 9, code := some k5c1 }
def k5c2 : Code := { maxStack := 3, maxLocals := 6, code := jdk_48_method_6_code, exceptionTable := #[], attributes := #[] }
def k5m2 : Method := { name := "hashCode", desc := "(I[BII)I", sig := { parameters := [.int, (.array .byte), .int, .int], returnType := some .int }, accessFlags := 10, code := some k5c2 }
def k5c3 : Code := { maxStack := 8, maxLocals := 4, code := jdk_48_method_13_code, exceptionTable := #[], attributes := #[] }
def k5m3 : Method := { name := "mismatch", desc := "([B[BI)I", sig := { parameters := [(.array .byte), (.array .byte), .int], returnType := some .int }, accessFlags := 9, code := some k5c3 }
/-- jdk/internal/util/ArraysSupport -/
def k5 : Class := { plain "jdk/internal/util/ArraysSupport" (some 0) with
  accessFlags := 33
  interfaces := #[]
  cf := some (fileOf pool5 21 #[] #[{ accessFlags := 2, nameIndex := 9, descriptorIndex := 19, attributes := #[] }, { accessFlags := 9, nameIndex := 321, descriptorIndex := 322, attributes := #[] }, { accessFlags := 10, nameIndex := 73, descriptorIndex := 65, attributes := #[] }, { accessFlags := 9, nameIndex := 149, descriptorIndex := 336, attributes := #[] }] 33 16 #[] #[{ accessFlags := 24, nameIndex := 28, descriptorIndex := 29, attributes := #[] }, { accessFlags := 26, nameIndex := 38, descriptorIndex := 39, attributes := #[] }, { accessFlags := 25, nameIndex := 121, descriptorIndex := 25, attributes := #[] }, { accessFlags := 25, nameIndex := 131, descriptorIndex := 25, attributes := #[] }, { accessFlags := 25, nameIndex := 137, descriptorIndex := 25, attributes := #[] }, { accessFlags := 25, nameIndex := 143, descriptorIndex := 25, attributes := #[] }, { accessFlags := 25, nameIndex := 53, descriptorIndex := 25, attributes := #[] }, { accessFlags := 25, nameIndex := 24, descriptorIndex := 25, attributes := #[] }, { accessFlags := 25, nameIndex := 162, descriptorIndex := 25, attributes := #[] }, { accessFlags := 25, nameIndex := 187, descriptorIndex := 25, attributes := #[] }, { accessFlags := 26, nameIndex := 48, descriptorIndex := 25, attributes := #[] }, { accessFlags := 25, nameIndex := 277, descriptorIndex := 25, attributes := #[] }, { accessFlags := 25, nameIndex := 280, descriptorIndex := 25, attributes := #[] }, { accessFlags := 25, nameIndex := 282, descriptorIndex := 25, attributes := #[] }, { accessFlags := 25, nameIndex := 284, descriptorIndex := 25, attributes := #[] }, { accessFlags := 25, nameIndex := 286, descriptorIndex := 25, attributes := #[] }, { accessFlags := 25, nameIndex := 288, descriptorIndex := 25, attributes := #[] }, { accessFlags := 25, nameIndex := 290, descriptorIndex := 25, attributes := #[] }, { accessFlags := 25, nameIndex := 292, descriptorIndex := 25, attributes := #[] }, { accessFlags := 26, nameIndex := 108, descriptorIndex := 109, attributes := #[] }, { accessFlags := 25, nameIndex := 294, descriptorIndex := 25, attributes := #[] }])
  fields := #[{ name := "U", type := (.object "jdk/internal/misc/Unsafe"), accessFlags := 24, slot := 0, constantValue := 0 }, { name := "BIG_ENDIAN", type := .boolean, accessFlags := 26, slot := 1, constantValue := 0 }, { name := "LOG2_ARRAY_BOOLEAN_INDEX_SCALE", type := .int, accessFlags := 25, slot := 2, constantValue := 0 }, { name := "LOG2_ARRAY_BYTE_INDEX_SCALE", type := .int, accessFlags := 25, slot := 3, constantValue := 0 }, { name := "LOG2_ARRAY_CHAR_INDEX_SCALE", type := .int, accessFlags := 25, slot := 4, constantValue := 0 }, { name := "LOG2_ARRAY_SHORT_INDEX_SCALE", type := .int, accessFlags := 25, slot := 5, constantValue := 0 }, { name := "LOG2_ARRAY_INT_INDEX_SCALE", type := .int, accessFlags := 25, slot := 6, constantValue := 0 }, { name := "LOG2_ARRAY_LONG_INDEX_SCALE", type := .int, accessFlags := 25, slot := 7, constantValue := 0 }, { name := "LOG2_ARRAY_FLOAT_INDEX_SCALE", type := .int, accessFlags := 25, slot := 8, constantValue := 0 }, { name := "LOG2_ARRAY_DOUBLE_INDEX_SCALE", type := .int, accessFlags := 25, slot := 9, constantValue := 0 }, { name := "LOG2_BYTE_BIT_SIZE", type := .int, accessFlags := 26, slot := 10, constantValue := 0 }, { name := "T_BOOLEAN", type := .int, accessFlags := 25, slot := 11, constantValue := 0 }, { name := "T_CHAR", type := .int, accessFlags := 25, slot := 12, constantValue := 0 }, { name := "T_FLOAT", type := .int, accessFlags := 25, slot := 13, constantValue := 0 }, { name := "T_DOUBLE", type := .int, accessFlags := 25, slot := 14, constantValue := 0 }, { name := "T_BYTE", type := .int, accessFlags := 25, slot := 15, constantValue := 0 }, { name := "T_SHORT", type := .int, accessFlags := 25, slot := 16, constantValue := 0 }, { name := "T_INT", type := .int, accessFlags := 25, slot := 17, constantValue := 0 }, { name := "T_LONG", type := .int, accessFlags := 25, slot := 18, constantValue := 0 }, { name := "JLA", type := (.object "jdk/internal/access/JavaLangAccess"), accessFlags := 26, slot := 19, constantValue := 0 }, { name := "SOFT_MAX_ARRAY_LENGTH", type := .int, accessFlags := 25, slot := 20, constantValue := 0 }]
  methods := #[k5m0, k5m1, k5m2, k5m3]
  instanceTypes := #[]
  staticTypes := #[(.object "jdk/internal/misc/Unsafe"), .boolean, .int, .int, .int, .int, .int, .int, .int, .int, .int, .int, .int, .int, .int, .int, .int, .int, .int, (.object "jdk/internal/access/JavaLangAccess"), .int]
  resolved := Array.replicate 378 none
  statics := none }

def pool6 : Array CpInfo := pool [(1, u "java/io/Serializable"), (0, .class_ 1), (0, u "java/lang/Object"), (0, .class_ 3)] 3

/-- java/io/Serializable -/
def k6 : Class := { plain "java/io/Serializable" (some 0) with
  accessFlags := 1537
  interfaces := #[]
  cf := some (fileOf pool6 2 #[] #[] 1537 4 #[] #[])
  fields := #[]
  methods := #[]
  instanceTypes := #[]
  staticTypes := #[]
  resolved := Array.replicate 8 none
  statics := none }

/-- the primitive byte -/
def k7 : Class := { plain "byte" none with kind := .primitive 'B', accessFlags := 0x411 }
/-- [B -/
def k8 : Class := { plain "[B" (some 0) with kind := .array 7 .byte, interfaces := #[3, 6], accessFlags := 1041 }

/-- the primitive int -/
def k9 : Class := { plain "int" none with kind := .primitive 'I', accessFlags := 0x411 }
/-- [I -/
def k10 : Class := { plain "[I" (some 0) with kind := .array 9 .int, interfaces := #[3, 6], accessFlags := 1041 }

def heap : Heap := #[]
def classes : Array Class := #[k0, k1, k2, k3, k4, k5, k6, k7, k8, k9, k10]
def interned : List (Array UInt16 × Addr) := []
def slotsUsed : Nat := 0
def theMethod : MethodId := ⟨1, 1⟩
def args0 : Array Value := #[.int 5, .int 3, .int 2, .int 3, .int 2]
def aboutOver (below : List Frame) : State where
  vm := { classes := classes, interned := interned.toArray }
  heap := heap
  slotsUsed := slotsUsed
  threads := #[{ frames := .invoking theMethod args0 :: below }]
def below0 : List Frame := [.native { method := ⟨0, 0⟩, args := #[] }]
def about1 : State := aboutOver below0
def p0 : Program := .bare "" "" ""
def e0 : Env := launch0.env 0 0 0
theorem w_frames : about1.frames = Frame.invoking theMethod args0 :: below0 := rfl
set_option maxRecDepth 65536 in
theorem w_args : argsFit about1.vm theMethod args0 = true := by decide +kernel
set_option maxRecDepth 65536 in
theorem w_heap : heapFits about1 = true := by decide +kernel
set_option maxRecDepth 65536 in
theorem w_runnable : about1.curStatus? = some .runnable := by decide +kernel
set_option maxRecDepth 65536 in
theorem w_alone : about1.alone = true := by decide +kernel
set_option maxRecDepth 65536 in
theorem w_named : about1.methodNamed? x = some theMethod := by decide +kernel
set_option maxRecDepth 65536 in
theorem w_hears : about1.hears theMethod below0 = true := by decide +kernel
set_option maxRecDepth 65536 in
theorem w_ripe : about1.ripe theMethod args0 below0 = true := by decide +kernel
theorem w_running : about1.status = .running := rfl
set_option maxRecDepth 65536 in
theorem w_room : about1.hasRoom e0.platform room_1 = true :=
  launch0.hasRoom_least _ room_1 (by decide +kernel) (by decide +kernel) (by decide +kernel) (by decide +kernel) (by decide +kernel) (by decide +kernel)
theorem allAtoms_all (ts : List Jvm.Cond) (a : Array Jvm.Value) (st : Jvm.State) : (allAtoms ts).before a st = ts.all (fun c => c.before a st) := by
  induction ts with
  | nil => rfl
  | cons c t ih =>
    show (Jvm.Cond.and c (allAtoms t)).before a st = _
    rw [Jvm.Cond.before_and, ih, List.all_cons]
def words1 : List Jvm.Cond := Jvm.Cond.code x code maxLocals ret :: tables_1
/-- a 'code' word, met by the world's own term for the bytes: nothing is compared byte by byte -/
theorem code_word {y : MethodName} {bytes : ByteArray} {mx : Nat} {rt : Option FieldType} {a : Array Value} {s : State} {m : MethodId} {meth : Method} {c : Code} (h1 : s.methodNamed? y = some m) (h2 : s.vm.method? m = some meth) (h3 : meth.code = some c) (h4 : c.code = bytes)
    (h5 : (c.maxLocals == mx && c.exceptionTable.isEmpty && decide (c.maxStack ≤ mostOperands) && decide (meth.sig.returnType = rt) && !meth.locks && decide (parseMethodDescriptor y.desc = some meth.sig)) = true) : (Jvm.Cond.code y bytes mx rt).before a s = true := by
  simp only [Bool.and_eq_true, beq_iff_eq, Bool.not_eq_true', decide_eq_true_eq] at h5
  obtain ⟨⟨⟨⟨⟨g1, g2⟩, g3⟩, g4⟩, g5⟩, g6⟩ := h5
  simp [Cond.before, Cond.holds, Cond.value, h1, h2, h3, h4, g1, g2, g3, g4, g5, g6]
def isCode : Jvm.Cond → Bool
  | .code _ _ _ _ => true
  | _ => false
theorem all_split {L : List Jvm.Cond} {P : Jvm.Cond → Bool} (h1 : L.all (fun c => isCode c || P c) = true) (h2 : ∀ c ∈ L.filter isCode, P c = true) : L.all P = true := by
  refine List.all_eq_true.mpr fun c hc => ?_
  have h := List.all_eq_true.mp h1 c hc
  rcases Bool.eq_false_or_eq_true (isCode c) with hi | hi
  · exact h2 c (List.mem_filter.mpr ⟨hc, hi⟩)
  · simpa [hi] using h
set_option maxRecDepth 65536 in
theorem w_c0 : (Jvm.Cond.code x code maxLocals ret).before args0 about1 = true := code_word (m := ⟨1, 1⟩) (meth := k1m1) (c := k1c1) (by decide +kernel) rfl rfl rfl (by decide +kernel)
set_option maxRecDepth 65536 in
theorem w_c1 : (Jvm.Cond.code ({ cls := "com/example/grant3/grant3/policy/EtagOfPinLaw", name := "make", desc := "(IBBB)[B" } : Jvm.MethodName) method_3_code (5 : Nat) (Option.some (Jvm.ClassFile.FieldType.array Jvm.ClassFile.FieldType.byte))).before args0 about1 = true := code_word (m := ⟨1, 2⟩) (meth := k1m2) (c := k1c2) (by decide +kernel) rfl rfl rfl (by decide +kernel)
set_option maxRecDepth 65536 in
theorem w_c2 : (Jvm.Cond.code ({ cls := "com/example/grant3/grant3/policy/Etag", name := "of", desc := "([B)Lcom/example/grant3/grant3/policy/Etag;" } : Jvm.MethodName) prog_14_method_2_code (1 : Nat) (Option.some (Jvm.ClassFile.FieldType.object "com/example/grant3/grant3/policy/Etag"))).before args0 about1 = true := code_word (m := ⟨2, 1⟩) (meth := k2m1) (c := k2c1) (by decide +kernel) rfl rfl rfl (by decide +kernel)
set_option maxRecDepth 65536 in
theorem w_c3 : (Jvm.Cond.code ({ cls := "com/example/grant3/grant3/policy/Etag", name := "<init>", desc := "([B)V" } : Jvm.MethodName) prog_14_method_1_code (2 : Nat) (Option.none : Option Jvm.ClassFile.FieldType)).before args0 about1 = true := code_word (m := ⟨2, 0⟩) (meth := k2m0) (c := k2c0) (by decide +kernel) rfl rfl rfl (by decide +kernel)
set_option maxRecDepth 65536 in
theorem w_c4 : (Jvm.Cond.code ({ cls := "java/lang/Object", name := "<init>", desc := "()V" } : Jvm.MethodName) object_method_1_code (1 : Nat) (Option.none : Option Jvm.ClassFile.FieldType)).before args0 about1 = true := code_word (m := ⟨0, 0⟩) (meth := k0m0) (c := k0c0) (by decide +kernel) rfl rfl rfl (by decide +kernel)
set_option maxRecDepth 65536 in
theorem w_c5 : (Jvm.Cond.code ({ cls := "com/example/grant3/grant3/policy/EtagOfPinLaw", name := "refHash", desc := "(IBBB)I" } : Jvm.MethodName) method_4_code (5 : Nat) (Option.some Jvm.ClassFile.FieldType.int)).before args0 about1 = true := code_word (m := ⟨1, 3⟩) (meth := k1m3) (c := k1c3) (by decide +kernel) rfl rfl rfl (by decide +kernel)
set_option maxRecDepth 65536 in
theorem w_c6 : (Jvm.Cond.code ({ cls := "com/example/grant3/grant3/policy/Etag", name := "equals", desc := "(Ljava/lang/Object;)Z" } : Jvm.MethodName) prog_14_method_5_code (3 : Nat) (Option.some Jvm.ClassFile.FieldType.boolean)).before args0 about1 = true := code_word (m := ⟨2, 2⟩) (meth := k2m2) (c := k2c2) (by decide +kernel) rfl rfl rfl (by decide +kernel)
set_option maxRecDepth 65536 in
theorem w_c7 : (Jvm.Cond.code ({ cls := "java/util/Arrays", name := "equals", desc := "([B[B)Z" } : Jvm.MethodName) jdk_65_method_89_code (3 : Nat) (Option.some Jvm.ClassFile.FieldType.boolean)).before args0 about1 = true := code_word (m := ⟨4, 1⟩) (meth := k4m1) (c := k4c1) (by decide +kernel) rfl rfl rfl (by decide +kernel)
set_option maxRecDepth 65536 in
theorem w_c8 : (Jvm.Cond.code ({ cls := "jdk/internal/util/ArraysSupport", name := "mismatch", desc := "([B[BI)I" } : Jvm.MethodName) jdk_48_method_13_code (4 : Nat) (Option.some Jvm.ClassFile.FieldType.int)).before args0 about1 = true := code_word (m := ⟨5, 3⟩) (meth := k5m3) (c := k5c3) (by decide +kernel) rfl rfl rfl (by decide +kernel)
set_option maxRecDepth 65536 in
theorem w_c9 : (Jvm.Cond.code ({ cls := "com/example/grant3/grant3/policy/Etag", name := "hashCode", desc := "()I" } : Jvm.MethodName) prog_14_method_6_code (1 : Nat) (Option.some Jvm.ClassFile.FieldType.int)).before args0 about1 = true := code_word (m := ⟨2, 3⟩) (meth := k2m3) (c := k2c3) (by decide +kernel) rfl rfl rfl (by decide +kernel)
set_option maxRecDepth 65536 in
theorem w_c10 : (Jvm.Cond.code ({ cls := "java/util/Arrays", name := "hashCode", desc := "([B)I" } : Jvm.MethodName) jdk_65_method_153_code (1 : Nat) (Option.some Jvm.ClassFile.FieldType.int)).before args0 about1 = true := code_word (m := ⟨4, 2⟩) (meth := k4m2) (c := k4c2) (by decide +kernel) rfl rfl rfl (by decide +kernel)
set_option maxRecDepth 65536 in
theorem w_c11 : (Jvm.Cond.code ({ cls := "jdk/internal/util/ArraysSupport", name := "vectorizedHashCode", desc := "(Ljava/lang/Object;IIII)I" } : Jvm.MethodName) jdk_48_method_4_code (5 : Nat) (Option.some Jvm.ClassFile.FieldType.int)).before args0 about1 = true := code_word (m := ⟨5, 1⟩) (meth := k5m1) (c := k5c1) (by decide +kernel) rfl rfl rfl (by decide +kernel)
set_option maxRecDepth 65536 in
theorem w_c12 : (Jvm.Cond.code ({ cls := "jdk/internal/util/ArraysSupport", name := "hashCode", desc := "(I[BII)I" } : Jvm.MethodName) jdk_48_method_6_code (6 : Nat) (Option.some Jvm.ClassFile.FieldType.int)).before args0 about1 = true := code_word (m := ⟨5, 2⟩) (meth := k5m2) (c := k5c2) (by decide +kernel) rfl rfl rfl (by decide +kernel)
def codes1 : List Jvm.Cond := [Jvm.Cond.code x code maxLocals ret, Jvm.Cond.code ({ cls := "com/example/grant3/grant3/policy/EtagOfPinLaw", name := "make", desc := "(IBBB)[B" } : Jvm.MethodName) method_3_code (5 : Nat) (Option.some (Jvm.ClassFile.FieldType.array Jvm.ClassFile.FieldType.byte)), Jvm.Cond.code ({ cls := "com/example/grant3/grant3/policy/Etag", name := "of", desc := "([B)Lcom/example/grant3/grant3/policy/Etag;" } : Jvm.MethodName) prog_14_method_2_code (1 : Nat) (Option.some (Jvm.ClassFile.FieldType.object "com/example/grant3/grant3/policy/Etag")), Jvm.Cond.code ({ cls := "com/example/grant3/grant3/policy/Etag", name := "<init>", desc := "([B)V" } : Jvm.MethodName) prog_14_method_1_code (2 : Nat) (Option.none : Option Jvm.ClassFile.FieldType), Jvm.Cond.code ({ cls := "java/lang/Object", name := "<init>", desc := "()V" } : Jvm.MethodName) object_method_1_code (1 : Nat) (Option.none : Option Jvm.ClassFile.FieldType), Jvm.Cond.code ({ cls := "com/example/grant3/grant3/policy/EtagOfPinLaw", name := "refHash", desc := "(IBBB)I" } : Jvm.MethodName) method_4_code (5 : Nat) (Option.some Jvm.ClassFile.FieldType.int), Jvm.Cond.code ({ cls := "com/example/grant3/grant3/policy/Etag", name := "equals", desc := "(Ljava/lang/Object;)Z" } : Jvm.MethodName) prog_14_method_5_code (3 : Nat) (Option.some Jvm.ClassFile.FieldType.boolean), Jvm.Cond.code ({ cls := "java/util/Arrays", name := "equals", desc := "([B[B)Z" } : Jvm.MethodName) jdk_65_method_89_code (3 : Nat) (Option.some Jvm.ClassFile.FieldType.boolean), Jvm.Cond.code ({ cls := "jdk/internal/util/ArraysSupport", name := "mismatch", desc := "([B[BI)I" } : Jvm.MethodName) jdk_48_method_13_code (4 : Nat) (Option.some Jvm.ClassFile.FieldType.int), Jvm.Cond.code ({ cls := "com/example/grant3/grant3/policy/Etag", name := "hashCode", desc := "()I" } : Jvm.MethodName) prog_14_method_6_code (1 : Nat) (Option.some Jvm.ClassFile.FieldType.int), Jvm.Cond.code ({ cls := "java/util/Arrays", name := "hashCode", desc := "([B)I" } : Jvm.MethodName) jdk_65_method_153_code (1 : Nat) (Option.some Jvm.ClassFile.FieldType.int), Jvm.Cond.code ({ cls := "jdk/internal/util/ArraysSupport", name := "vectorizedHashCode", desc := "(Ljava/lang/Object;IIII)I" } : Jvm.MethodName) jdk_48_method_4_code (5 : Nat) (Option.some Jvm.ClassFile.FieldType.int), Jvm.Cond.code ({ cls := "jdk/internal/util/ArraysSupport", name := "hashCode", desc := "(I[BII)I" } : Jvm.MethodName) jdk_48_method_6_code (6 : Nat) (Option.some Jvm.ClassFile.FieldType.int)]
set_option maxRecDepth 65536 in
theorem codes_eq : words1.filter isCode = codes1 := rfl
theorem w_codes : ∀ c ∈ words1.filter isCode, c.before args0 about1 = true := by
  rw [codes_eq]
  intro c hc
  simp only [codes1, List.mem_cons, List.not_mem_nil, or_false] at hc
  rcases hc with rfl | rfl | rfl | rfl | rfl | rfl | rfl | rfl | rfl | rfl | rfl | rfl | rfl
  · exact w_c0
  · exact w_c1
  · exact w_c2
  · exact w_c3
  · exact w_c4
  · exact w_c5
  · exact w_c6
  · exact w_c7
  · exact w_c8
  · exact w_c9
  · exact w_c10
  · exact w_c11
  · exact w_c12
set_option maxRecDepth 65536 in
theorem w_t1 : (words1.take 24).all (fun c => isCode c || c.before args0 about1) = true := by decide +kernel
set_option maxRecDepth 65536 in
theorem w_t2 : ((words1.drop 24).take 24).all (fun c => isCode c || c.before args0 about1) = true := by decide +kernel
set_option maxRecDepth 65536 in
theorem w_t3 : ((words1.drop 24).drop 24).all (fun c => isCode c || c.before args0 about1) = true := by decide +kernel
theorem w_tables : (allAtoms (Jvm.Cond.code x code maxLocals ret :: tables_1)).before args0 about1 = true := by
  rw [allAtoms_all]
  show words1.all (fun c => c.before args0 about1) = true
  refine all_split ?_ w_codes
  rw [← List.take_append_drop 24 words1, List.all_append, w_t1, ← List.take_append_drop 24 (words1.drop 24), List.all_append, w_t2, w_t3]
  rfl
set_option maxRecDepth 65536 in
theorem w_case : (Jvm.Cond.and given_1 narrow_1).before args0 about1 = true := by decide +kernel
theorem w_applies : (headSpec (Jvm.Cond.code x code maxLocals ret :: tables_1) room_1).applies x e0.platform about1 = true :=
  (Spec.applies_iff w_frames).mpr ⟨w_running, w_runnable, w_alone, w_named, w_hears, w_ripe, w_room, w_tables⟩
theorem atStart : AtStart classFile x code maxLocals ret World_1 tables_1 room_1 Calls_1 rest_1 Pre_1 launch0 p0 e0 about1 theMethod args0 below0 :=
  ⟨lists_1, trivial, launch0.admits_env _ _ _, launch0.least_env, fairChoices_fair.cas, fairChoices_fair.clock, w_frames, w_args, w_heap, w_applies, trivial, trivial, w_case⟩
end start1
theorem witness_1 : WitnessClaimed_1 := ⟨start1.p0, start1.e0, start1.about1, start1.theMethod, start1.args0, start1.below0, start1.atStart⟩
end Jvm.Pilot.@@N@@
