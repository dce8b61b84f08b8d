import JvmDerived
import JvmDerived.Pilot.@@N@@Statement
import JvmDerived.Pilot.@@N@@Code
set_option linter.unusedVariables false
set_option linter.unusedSimpArgs false
namespace Jvm.RoadKit
open Sem ClassFile Op Lib Jvm.Stand Jvm.Free Jvm.LawKit
section New
variable {p : Program} {l : Launch} {e : Env} {R : Room} {s : State} {m : MethodId} {args : Array Value} {below : List Frame} {meth : Method} {c : Code} {T : State} {locs : List Loc} {cells slots : Nat}
theorem retI (X : Stand p l e R s m args below meth c T locs cells slots) (hx : p.tables.exec = Jvm.exec) {pc : Nat} {Ls : Array Slot} {z : Int32} {rest : List Value} (hret : meth.sig.returnType = some .int) (hd : decode c.code pc = .ok (.ireturn, 1)) {fs : List Frame}
    (hl : ∀ (f : JFrame) (acts : List Action), f.method = m → f.locked = none → f.entered = [] → (doReturn e (T.setTop f) acts (some (.int z))).1 = T.setFrames fs) : Steps p.tables e below (T.setTop (mkF m pc Ls (.int z :: rest))) (T.setFrames fs) := by
  have hm' : T.vm.method? m = some meth := X.method'
  have hn : narrow .int (.int z) = .int z := rfl
  show Steps p.tables e below (T.setTop { method := m, pc := pc, locals := Ls, stack := _ :: rest, locked := none }) _
  jvm_step X.here [X.here.top, hx, hd, hm', hret, hn]
  first | (intro acts; rw [hl _ acts rfl rfl rfl]) | rw [hl _ _ rfl rfl rfl]
  exact Steps.refl _
abbrev jv (x : Int64) : Slot := .val (.long x)
/-- from the state st the run ends as Q says -/
def own_Go (p : Program) (e : Env) (below : List Frame) (s : State) (Q : Option Value → Heap → List Loc → Prop) (CS : Nat × Nat) (st : State) : Prop :=
  ∃ s₂ o, Steps p.tables e below st s₂ ∧ s₂.status = .running ∧ Ended s₂ below o ∧ ∃ v L, o = .returned v ∧ Q v s₂.heap L ∧ FrameEnd s o s₂ L CS.1 CS.2
variable {Q : Option Value → Heap → List Loc → Prop} {CS : Nat × Nat} {st st' : State}
theorem own_via (h : ∀ {t}, Steps p.tables e below st t → Steps p.tables e below st' t) (g : own_Go p e below s Q CS st) : own_Go p e below s Q CS st' := by
  obtain ⟨s₂, o, h1, h2⟩ := g
  exact ⟨s₂, o, h h1, h2⟩
theorem own_start {g g' : JFrame} (q : g = g') (h : own_Go p e below s Q CS (T.setTop g')) : ∃ s₂ o, Steps p.tables e below (T.setTop g) s₂ ∧ s₂.status = .running ∧ Ended s₂ below o ∧ ∃ v L, o = .returned v ∧ Q v s₂.heap L ∧ FrameEnd s o s₂ L CS.1 CS.2 := q ▸ h
theorem own_retN (X : Stand p l e R s m args below meth c T locs cells slots) (hx : p.tables.exec = Jvm.exec) (hlk : meth.locks = false) {pc : Nat} {Ls : Array Slot} {z : Int32} {t : FieldType} {rest : List Value} (hret : meth.sig.returnType = some t) (ht : t = .boolean ∨ t = .byte ∨ t = .char ∨ t = .short)
    (hd : decode c.code pc = .ok (.ireturn, 1)) (hq : Q (some (.int (nar t z))) T.heap locs) (hc : cells ≤ CS.1) (hs : slots ≤ CS.2) : own_Go p e below s Q CS (T.setTop (mkF m pc Ls (.int z :: rest))) := by
  obtain ⟨fs, hr, hrun, hended, hW, hsame⟩ := X.leave (v := some (.int (nar t z))) (fun h => by rw [hret] at h; cases h) hlk
  exact ⟨_, _, retN X hx hret ht hd hr, hrun, hended, _, _, rfl, hq, ⟨_, rfl⟩, hW, hsame.mono hc hs⟩
theorem own_retI (X : Stand p l e R s m args below meth c T locs cells slots) (hx : p.tables.exec = Jvm.exec) (hlk : meth.locks = false) {pc : Nat} {Ls : Array Slot} {z : Int32} {rest : List Value} (hret : meth.sig.returnType = some .int)
    (hd : decode c.code pc = .ok (.ireturn, 1)) (hq : Q (some (.int z)) T.heap locs) (hc : cells ≤ CS.1) (hs : slots ≤ CS.2) : own_Go p e below s Q CS (T.setTop (mkF m pc Ls (.int z :: rest))) := by
  obtain ⟨fs, hr, hrun, hended, hW, hsame⟩ := X.leave (v := some (.int z)) (fun h => by rw [hret] at h; cases h) hlk
  exact ⟨_, _, retI X hx hret hd hr, hrun, hended, _, _, rfl, hq, ⟨_, rfl⟩, hW, hsame.mono hc hs⟩
theorem own_retL (X : Stand p l e R s m args below meth c T locs cells slots) (hx : p.tables.exec = Jvm.exec) (hlk : meth.locks = false) {pc : Nat} {Ls : Array Slot} {z : Int64} (hret : meth.sig.returnType = some .long)
    (hd : decode c.code pc = .ok (.lreturn, 1)) (hq : Q (some (.long z)) T.heap locs) (hc : cells ≤ CS.1) (hs : slots ≤ CS.2) : own_Go p e below s Q CS (T.setTop (mkF m pc Ls [.long z])) := by
  obtain ⟨fs, hr, hrun, hended, hW, hsame⟩ := X.leave (v := some (.long z)) (fun h => by rw [hret] at h; cases h) hlk
  exact ⟨_, _, X.lreturnOut hx hret hd hr, hrun, hended, _, _, rfl, hq, ⟨_, rfl⟩, hW, hsame.mono hc hs⟩
theorem own_retA (X : Stand p l e R s m args below meth c T locs cells slots) (hx : p.tables.exec = Jvm.exec) (hlk : meth.locks = false) {pc : Nat} {Ls : Array Slot} {w : Value} (hw : w.isRef = true) {t : FieldType} (hret : meth.sig.returnType = some t) (ht : t.isReference = true)
    (hd : decode c.code pc = .ok (.areturn, 1)) (hq : Q (some w) T.heap locs) (hc : cells ≤ CS.1) (hs : slots ≤ CS.2) : own_Go p e below s Q CS (T.setTop (mkF m pc Ls [w])) := by
  obtain ⟨fs, hr, hrun, hended, hW, hsame⟩ := X.leave (v := some w) (fun h => by rw [hret] at h; cases h) hlk
  exact ⟨_, _, X.areturnOut hx hw hret ht hd hr, hrun, hended, _, _, rfl, hq, ⟨_, rfl⟩, hW, hsame.mono hc hs⟩
theorem own_ret0 (X : Stand p l e R s m args below meth c T locs cells slots) (hx : p.tables.exec = Jvm.exec) (hlk : meth.locks = false) {pc : Nat} {Ls : Array Slot} (hret : meth.sig.returnType = none)
    (hd : decode c.code pc = .ok (.return_, 1)) (hq : Q none T.heap locs) (hc : cells ≤ CS.1) (hs : slots ≤ CS.2) : own_Go p e below s Q CS (T.setTop (mkF m pc Ls [])) := by
  obtain ⟨fs, hr, hrun, hended, hW, hsame⟩ := X.leave (v := none) (fun _ => rfl) hlk
  exact ⟨_, _, X.returnOut hx hret hd hr, hrun, hended, _, _, rfl, hq, ⟨_, rfl⟩, hW, hsame.mono hc hs⟩
theorem own_selPriv {s : State} {args args' : Array Value} {y y' : MethodName} {C : String} (w : (Cond.selects C y' y').before args' s = true) (hc : y'.cls = y.cls) (hinst : (Cond.instanceMethod y).before args s = true) (hpriv : s.PrivateAt y) (hy : y.cls ≠ "java/lang/invoke/MethodHandle" ∧ y.cls ≠ "java/lang/invoke/VarHandle") : (Cond.selects y.cls y y).before args s = true := by
  obtain ⟨c2, r2, m2, q1, q2, q3, q4, kP, hkP, hkPi⟩ := Cond.selects_spec w
  exact selects_self_of_private (c := m2.cls) (k := kP) (by rw [← hc]; exact findClass_of_methodNamed q3) hkP hkPi hpriv hinst hy
theorem own_fldI {Z : State} {h : Heap} {a : Addr} {C n d : String} {v w : Int32} (q : v = w) (F : Fld Z h a C n d (.int v)) : Fld Z h a C n d (.int w) := q ▸ F
theorem own_fldJ {Z : State} {h : Heap} {a : Addr} {C n d : String} {v w : Int64} (q : v = w) (F : Fld Z h a C n d (.long v)) : Fld Z h a C n d (.long w) := q ▸ F
theorem own_arv {Z : State} {h : Heap} {a : Addr} {k : ClassId} {ty : FieldType} {n : Int32} {vs vs' : List Value} {d : Value} (q : vs = vs') (F : Arv Z h a k ty n vs d) : Arv Z h a k ty n vs' d := q ▸ F
theorem own_fits {t : FieldType} {v w : Int32} (q : v = w) (F : fits t (.int v) = true) : fits t (.int w) = true := q ▸ F
end New
end Jvm.RoadKit
namespace Jvm.Pilot.@@N@@
open Jvm Jvm.ClassFile Sem Op Lib Jvm.Free Jvm.Stand Jvm.LawKit Jvm.RoadKit Bundle Jvm.Pilot.@@N@@.Jvm.D
theorem own_l32 {x y : Int32} : x < y ↔ x.toInt < y.toInt := Int32.lt_iff_toInt_lt
theorem own_e32 {x y : Int32} : x = y ↔ x.toInt = y.toInt := Int32.toInt_inj.symm
theorem own_l64 {x y : Int64} : x < y ↔ x.toInt < y.toInt := Int64.lt_iff_toInt_lt
theorem own_e64 {x y : Int64} : x = y ↔ x.toInt = y.toInt := Int64.toInt_inj.symm
theorem own_all8 {P : Int8 → Prop} (h : ∀ n : Fin 256, P (Int8.ofBitVec (BitVec.ofFin n))) (i : Int8) : P i := h i.toBitVec.toFin
theorem d1_0 : decode prog_24_method_1_code 0 = .ok (.aload_n 0, 1) := by decide +kernel
theorem d1_1 : decode prog_24_method_1_code 1 = .ok (.invokespecial 3, 3) := by decide +kernel
theorem d1_4 : decode prog_24_method_1_code 4 = .ok (.aload_n 0, 1) := by decide +kernel
theorem d1_5 : decode prog_24_method_1_code 5 = .ok (.bipush 8, 2) := by decide +kernel
theorem d1_7 : decode prog_24_method_1_code 7 = .ok (.newarray .long, 2) := by decide +kernel
theorem d1_9 : decode prog_24_method_1_code 9 = .ok (.putfield 9, 3) := by decide +kernel
theorem d1_12 : decode prog_24_method_1_code 12 = .ok (.return_, 1) := by decide +kernel
theorem pn_1 : plainName "com/example/tree_to_rows/treetorows/query/Outcomes" = true := by first | (simp [plainName, overriddenIn]; done) | decide +kernel
theorem ef_1 (m : MethodId) (x0 : Addr) : entryFrame m #[(.ref x0)] 1 = mkF m 0 #[rv x0] [] := by first | (simp [entryFrame, mkF, argsToLocals, Value.category]; done) | rfl
def Q1 (Z : State) (a0 : Addr) (h0 : Heap) (n0 : Nat) (v : Option Value) (h : Heap) (L : List Loc) : Prop := v = none ∧ Fr n0 L ∧ Keep h0 h [a0] ∧ Fld Z h a0 "com/example/tree_to_rows/treetorows/query/Outcomes" "size" "I" (.int 0) ∧ Fld Z h a0 "com/example/tree_to_rows/treetorows/query/Outcomes" "used" "I" (.int 0) ∧ Fld Z h a0 "com/example/tree_to_rows/treetorows/query/Outcomes" "waiting" "I" (.int 0) ∧ Fld Z h a0 "com/example/tree_to_rows/treetorows/query/Outcomes" "bits" "J" (.long 0) ∧ Fld Z h a0 "com/example/tree_to_rows/treetorows/query/Outcomes" "current" "J" (.long 0) ∧ Fld Z h a0 "com/example/tree_to_rows/treetorows/query/Outcomes" "readWord" "I" (.int 0) ∧ Fld Z h a0 "com/example/tree_to_rows/treetorows/query/Outcomes" "readGroup" "J" (.long 0) ∧ Fld Z h a0 "com/example/tree_to_rows/treetorows/query/Outcomes" "readBit" "I" (.int 0) ∧ Fld Z h a0 "com/example/tree_to_rows/treetorows/query/Outcomes" "read" "J" (.long 0)
set_option maxRecDepth 65536 in
set_option maxHeartbeats 40000000 in
theorem rm1 (l : Launch) (Z : State) (aw : Array Value) (hw : ∀ d ∈ tables_1, d.before aw Z = true) (ws : List Jvm.Cond) (a0 : Addr) (h0 : Heap) (n0 : Nat) (Z0 : n0 ≤ h0.size) (P0 : Fld Z h0 a0 "com/example/tree_to_rows/treetorows/query/Outcomes" "words" "[J" .null) (P1 : Exa Z h0 a0 "com/example/tree_to_rows/treetorows/query/Outcomes") (P2 : Fld Z h0 a0 "com/example/tree_to_rows/treetorows/query/Outcomes" "size" "I" (.int 0)) (P3 : Fld Z h0 a0 "com/example/tree_to_rows/treetorows/query/Outcomes" "used" "I" (.int 0)) (P4 : Fld Z h0 a0 "com/example/tree_to_rows/treetorows/query/Outcomes" "waiting" "I" (.int 0)) (P5 : Fld Z h0 a0 "com/example/tree_to_rows/treetorows/query/Outcomes" "bits" "J" (.long 0)) (P6 : Fld Z h0 a0 "com/example/tree_to_rows/treetorows/query/Outcomes" "current" "J" (.long 0)) (P7 : Fld Z h0 a0 "com/example/tree_to_rows/treetorows/query/Outcomes" "readWord" "I" (.int 0)) (P8 : Fld Z h0 a0 "com/example/tree_to_rows/treetorows/query/Outcomes" "readGroup" "J" (.long 0)) (P9 : Fld Z h0 a0 "com/example/tree_to_rows/treetorows/query/Outcomes" "readBit" "I" (.int 0)) (P10 : Fld Z h0 a0 "com/example/tree_to_rows/treetorows/query/Outcomes" "read" "J" (.long 0)) (ge0 : n0 ≤ a0) :
    MetFree l (⟨"com/example/tree_to_rows/treetorows/query/Outcomes", "<init>", "()V"⟩ : MethodName) (head1 (Jvm.Cond.code (⟨"com/example/tree_to_rows/treetorows/query/Outcomes", "<init>", "()V"⟩ : MethodName) prog_24_method_1_code 1 none :: ws) ({ frames := 1, cells := 1, slots := 8, locals := 12 } : Room)) (fun a U => a = #[(.ref a0)] ∧ Z.Warmed39 U.vm ∧ U.heap = h0) (fun _ _ _ _ _ => True) (fun _ U o U' => ∃ v L, o = .returned v ∧ Q1 Z a0 h0 n0 v U'.heap L ∧ FrameEnd U o U' L ({ frames := 1, cells := 1, slots := 8, locals := 12 } : Room).cells ({ frames := 1, cells := 1, slots := 8, locals := 12 } : Room).slots) := by
  refine MetFree.of_bodySF (plainFor_of_name pn_1) hisR ?_
  intro p e s m args below meth c s₁ Bd hml0 hP hK
  obtain ⟨rfl, hZ, hh⟩ := hP
  have hx := Bd.exec
  have hby := Bd.bytes
  have hml : c.maxLocals = 1 := hml0
  have hown : s.vm.findClass "com/example/tree_to_rows/treetorows/query/Outcomes" = some m.cls := findClass_of_methodNamed Bd.named
  have hnm := (name_of_methodNamed Bd.named Bd.method).1
  have hlk : meth.locks = false := by first | exact BodyLoose.notSynchronized (by assumption) | exact Body.notSynchronized (by assumption)
  have X0 : Stand p l e ({ frames := 1, cells := 1, slots := 8, locals := 12 } : Room) s m #[(.ref a0)] below meth c s₁ [] 0 0 := Stand.of_body Bd
  have e0 : s₁.heap = h0 := by rw [← hh, Bd.state]; rfl
  have N0 := Fr.nil n0
  have K0 : Keep h0 h0 [a0] := Keep.refl _ _
  refine own_start (CS := (1, 8)) (Q := (Q1 Z a0 h0 n0)) (ef_1 m a0) ?_
  show own_Go p e below s _ _ (s₁.setTop (mkF m 0 #[rv a0] []))
  refine own_via (fun k => XS.aloadN X0.here hx rfl (hb hby d1_0) rfl rfl  k) ?_
  show own_Go p e below s _ _ (s₁.setTop (mkF m 1 #[rv a0] [(.ref a0)]))
  obtain ⟨T1, X1, e1, st1⟩ := initO X0 hx hZ hown (hw _ (List.mem_of_getElem? (i := 6) rfl)) (hw _ (List.mem_of_getElem? (i := 7) rfl)) (hw _ (List.mem_of_getElem? (i := 8) rfl)) e0 (g := (mkF m 1 #[rv a0] [(.ref a0)])) rfl (by rw [hml]; rfl) rfl (hb hby d1_1) (by decide) (W := 0) (by show 2 * 0 + _ ≤ _; exact Nat.le_of_eq rfl) (by decide)
  refine own_via (fun k => st1 _ k) ?_
  show own_Go p e below s _ _ (T1.setTop (mkF m 4 #[rv a0] []))
  refine own_via (fun k => XS.aloadN X1.here hx rfl (hb hby d1_4) rfl rfl  (XS.bipush X1.here hx rfl (hb hby d1_5) k)) ?_
  show own_Go p e below s _ _ (T1.setTop (mkF m 7 #[rv a0] [(.int 8), (.ref a0)]))
  obtain ⟨T2, h2, k2, X2, e2, E2, A2, st2⟩ := newP X1 hx hZ (hw _ (List.mem_of_getElem? (i := 9) rfl)) e1 (g := (mkF m 7 #[rv a0] [(.int 8), (.ref a0)])) rfl (hb hby d1_7) rfl (by decide) (cap := 8) (by decide) (by decide) (by decide) (by decide)
  obtain ⟨b2, g2⟩ : ∃ z, z = h0.size := ⟨_, rfl⟩
  rw [← g2] at A2 st2
  refine own_via (fun k => st2 _ k) ?_
  show own_Go p e below s _ _ (T2.setTop (mkF m 9 #[rv a0] [(.ref b2), (.ref a0)]))
  have g3 : n0 ≤ b2 := Nat.le_trans Z0 (Nat.le_of_eq g2.symm)
  have sz4 : h0.size ≤ b2 := Nat.le_trans K0.1 (Nat.le_of_eq g2.symm)
  have ne5 : a0 ≠ b2 := Nat.ne_of_lt (Nat.lt_of_lt_of_le P0.lt (Nat.le_of_eq g2.symm))
  have B6 := P0.ext E2
  have B7 := P1.ext E2
  have B8 := P2.ext E2
  have B9 := P3.ext E2
  have B10 := P4.ext E2
  have B11 := P5.ext E2
  have B12 := P6.ext E2
  have B13 := P7.ext E2
  have B14 := P8.ext E2
  have B15 := P9.ext E2
  have B16 := P10.ext E2
  have K17 : Keep h0 h2 [a0] := K0.ext E2
  have Z18 : n0 ≤ h2.size := Nat.le_trans Z0 E2.1
  have B19 : Arv Z h2 b2 k2 .long (8 : Int32) [(.long 0), (.long 0), (.long 0), (.long 0), (.long 0), (.long 0), (.long 0), (.long 0)] (.long 0) := (Arv.new A2 (by decide)).pad (pad_rep [] (.long 0) 8)
  obtain ⟨T20, h20, X20, e20, W20, st20⟩ := putF X2 hx hZ hown (host := "") (Or.inl (hw _ (List.mem_of_getElem? (i := 10) rfl))) Via.refl e2 B6 B7 (Or.inl (hw _ (List.mem_of_getElem? (i := 11) rfl))) (hw _ (List.mem_of_getElem? (i := 1) rfl)) (ty := (.array .long)) (by decide) rfl rfl (g := (mkF m 9 #[rv a0] [(.ref b2), (.ref a0)])) rfl rfl (hb hby d1_9)
  refine own_via (fun k => st20 _ k) ?_
  show own_Go p e below s _ _ (T20.setTop (mkF m 12 #[rv a0] []))
  have B21 := B7.wr W20
  have B22 := B8.other W20 (Or.inr (slot_ne (Or.inl (hw _ (List.mem_of_getElem? (i := 18) rfl))) (Or.inl (hw _ (List.mem_of_getElem? (i := 11) rfl))) (by decide) (t := .int) (t' := (.array .long)) (by decide) (by decide)))
  have B23 := B9.other W20 (Or.inr (slot_ne (Or.inl (hw _ (List.mem_of_getElem? (i := 20) rfl))) (Or.inl (hw _ (List.mem_of_getElem? (i := 11) rfl))) (by decide) (t := .int) (t' := (.array .long)) (by decide) (by decide)))
  have B24 := B10.other W20 (Or.inr (slot_ne (Or.inl (hw _ (List.mem_of_getElem? (i := 22) rfl))) (Or.inl (hw _ (List.mem_of_getElem? (i := 11) rfl))) (by decide) (t := .int) (t' := (.array .long)) (by decide) (by decide)))
  have B25 := B11.other W20 (Or.inr (slot_ne (Or.inl (hw _ (List.mem_of_getElem? (i := 28) rfl))) (Or.inl (hw _ (List.mem_of_getElem? (i := 11) rfl))) (by decide) (t := .long) (t' := (.array .long)) (by decide) (by decide)))
  have B26 := B12.other W20 (Or.inr (slot_ne (Or.inl (hw _ (List.mem_of_getElem? (i := 42) rfl))) (Or.inl (hw _ (List.mem_of_getElem? (i := 11) rfl))) (by decide) (t := .long) (t' := (.array .long)) (by decide) (by decide)))
  have B27 := B13.other W20 (Or.inr (slot_ne (Or.inl (hw _ (List.mem_of_getElem? (i := 49) rfl))) (Or.inl (hw _ (List.mem_of_getElem? (i := 11) rfl))) (by decide) (t := .int) (t' := (.array .long)) (by decide) (by decide)))
  have B28 := B14.other W20 (Or.inr (slot_ne (Or.inl (hw _ (List.mem_of_getElem? (i := 51) rfl))) (Or.inl (hw _ (List.mem_of_getElem? (i := 11) rfl))) (by decide) (t := .long) (t' := (.array .long)) (by decide) (by decide)))
  have B29 := B15.other W20 (Or.inr (slot_ne (Or.inl (hw _ (List.mem_of_getElem? (i := 53) rfl))) (Or.inl (hw _ (List.mem_of_getElem? (i := 11) rfl))) (by decide) (t := .int) (t' := (.array .long)) (by decide) (by decide)))
  have B30 := B16.other W20 (Or.inr (slot_ne (Or.inl (hw _ (List.mem_of_getElem? (i := 55) rfl))) (Or.inl (hw _ (List.mem_of_getElem? (i := 11) rfl))) (by decide) (t := .long) (t' := (.array .long)) (by decide) (by decide)))
  have B31 := B19.other W20 (Ne.symm ne5)
  have B32 : Fld Z h20 a0 "com/example/tree_to_rows/treetorows/query/Outcomes" "words" "[J" (.ref b2) := B6.same W20
  have N33 := Fr.snoc X20 N0 ge0
  have K34 : Keep h0 h20 [a0] := K17.wr W20 (Or.inl (List.mem_of_getElem? (i := 0) rfl))
  have Z35 : n0 ≤ h20.size := Nat.le_trans Z18 (Keep.of_wr W20).1
  exact own_ret0 X20 hx hlk Bd.returns (hb hby d1_12) (Q := (Q1 Z a0 h0 n0)) ⟨rfl, N33, (by rw [e20]; exact K34), (by rw [e20]; exact B22), (by rw [e20]; exact B23), (by rw [e20]; exact B24), (by rw [e20]; exact B25), (by rw [e20]; exact B26), (by rw [e20]; exact B27), (by rw [e20]; exact B28), (by rw [e20]; exact B29), (by rw [e20]; exact B30)⟩ (by decide) (by decide)
theorem d4_0 : decode prog_24_method_6_code 0 = .ok (.aload_n 0, 1) := by decide +kernel
theorem d4_1 : decode prog_24_method_6_code 1 = .ok (.dup, 1) := by decide +kernel
theorem d4_2 : decode prog_24_method_6_code 2 = .ok (.getfield 17, 3) := by decide +kernel
theorem d4_5 : decode prog_24_method_6_code 5 = .ok (.iconst 1, 1) := by decide +kernel
theorem d4_6 : decode prog_24_method_6_code 6 = .ok (.iadd, 1) := by decide +kernel
theorem d4_7 : decode prog_24_method_6_code 7 = .ok (.putfield 17, 3) := by decide +kernel
theorem d4_10 : decode prog_24_method_6_code 10 = .ok (.aload_n 0, 1) := by decide +kernel
theorem d4_11 : decode prog_24_method_6_code 11 = .ok (.dup, 1) := by decide +kernel
theorem d4_12 : decode prog_24_method_6_code 12 = .ok (.getfield 35, 3) := by decide +kernel
theorem d4_15 : decode prog_24_method_6_code 15 = .ok (.lconst 1, 1) := by decide +kernel
theorem d4_16 : decode prog_24_method_6_code 16 = .ok (.ladd, 1) := by decide +kernel
theorem d4_17 : decode prog_24_method_6_code 17 = .ok (.putfield 35, 3) := by decide +kernel
theorem d4_20 : decode prog_24_method_6_code 20 = .ok (.aload_n 0, 1) := by decide +kernel
theorem d4_21 : decode prog_24_method_6_code 21 = .ok (.getfield 17, 3) := by decide +kernel
theorem d4_24 : decode prog_24_method_6_code 24 = .ok (.bipush 63, 2) := by decide +kernel
theorem d4_26 : decode prog_24_method_6_code 26 = .ok (.if_icmp .ne 7, 3) := by decide +kernel
theorem d4_33 : decode prog_24_method_6_code 33 = .ok (.return_, 1) := by decide +kernel
theorem pn_4 : plainName "com/example/tree_to_rows/treetorows/query/Outcomes" = true := by first | (simp [plainName, overriddenIn]; done) | decide +kernel
theorem ef_4_0 (m : MethodId) (x0 : Addr) : entryFrame m #[(.ref x0)] 1 = mkF m 0 #[rv x0] [] := by first | (simp [entryFrame, mkF, argsToLocals, Value.category]; done) | rfl
def Q4_0 (Z : State) (a0 : Addr) (v_size : Int32) (v_waiting : Int32) (v_current : Int64) (v_readWord : Int32) (v_readGroup : Int64) (v_readBit : Int32) (v_read : Int64) (h0 : Heap) (n0 : Nat) (v : Option Value) (h : Heap) (L : List Loc) : Prop := v = none ∧ Fr n0 L ∧ Keep h0 h [a0] ∧ Fld Z h a0 "com/example/tree_to_rows/treetorows/query/Outcomes" "size" "I" (.int v_size) ∧ Fld Z h a0 "com/example/tree_to_rows/treetorows/query/Outcomes" "used" "I" (.int 1) ∧ Fld Z h a0 "com/example/tree_to_rows/treetorows/query/Outcomes" "waiting" "I" (.int v_waiting) ∧ Fld Z h a0 "com/example/tree_to_rows/treetorows/query/Outcomes" "bits" "J" (.long 1) ∧ Fld Z h a0 "com/example/tree_to_rows/treetorows/query/Outcomes" "current" "J" (.long v_current) ∧ Fld Z h a0 "com/example/tree_to_rows/treetorows/query/Outcomes" "readWord" "I" (.int v_readWord) ∧ Fld Z h a0 "com/example/tree_to_rows/treetorows/query/Outcomes" "readGroup" "J" (.long v_readGroup) ∧ Fld Z h a0 "com/example/tree_to_rows/treetorows/query/Outcomes" "readBit" "I" (.int v_readBit) ∧ Fld Z h a0 "com/example/tree_to_rows/treetorows/query/Outcomes" "read" "J" (.long v_read)
set_option maxRecDepth 65536 in
set_option maxHeartbeats 40000000 in
theorem rm4_0 (l : Launch) (Z : State) (aw : Array Value) (hw : ∀ d ∈ tables_1, d.before aw Z = true) (ws : List Jvm.Cond) (a0 : Addr) (v_size : Int32) (v_waiting : Int32) (v_current : Int64) (v_readWord : Int32) (v_readGroup : Int64) (v_readBit : Int32) (v_read : Int64) (h0 : Heap) (n0 : Nat) (Z0 : n0 ≤ h0.size) (P0 : Fld Z h0 a0 "com/example/tree_to_rows/treetorows/query/Outcomes" "size" "I" (.int v_size)) (P1 : Fld Z h0 a0 "com/example/tree_to_rows/treetorows/query/Outcomes" "used" "I" (.int 0)) (P2 : Fld Z h0 a0 "com/example/tree_to_rows/treetorows/query/Outcomes" "waiting" "I" (.int v_waiting)) (P3 : Fld Z h0 a0 "com/example/tree_to_rows/treetorows/query/Outcomes" "bits" "J" (.long 0)) (P4 : Fld Z h0 a0 "com/example/tree_to_rows/treetorows/query/Outcomes" "current" "J" (.long v_current)) (P5 : Fld Z h0 a0 "com/example/tree_to_rows/treetorows/query/Outcomes" "readWord" "I" (.int v_readWord)) (P6 : Fld Z h0 a0 "com/example/tree_to_rows/treetorows/query/Outcomes" "readGroup" "J" (.long v_readGroup)) (P7 : Fld Z h0 a0 "com/example/tree_to_rows/treetorows/query/Outcomes" "readBit" "I" (.int v_readBit)) (P8 : Fld Z h0 a0 "com/example/tree_to_rows/treetorows/query/Outcomes" "read" "J" (.long v_read)) (P9 : Exa Z h0 a0 "com/example/tree_to_rows/treetorows/query/Outcomes") (ge0 : n0 ≤ a0) :
    MetFree l (⟨"com/example/tree_to_rows/treetorows/query/Outcomes", "take", "()V"⟩ : MethodName) (head1 (Jvm.Cond.code (⟨"com/example/tree_to_rows/treetorows/query/Outcomes", "take", "()V"⟩ : MethodName) prog_24_method_6_code 1 none :: ws) ({ frames := 0, cells := 0, slots := 0, locals := 0 } : Room)) (fun a U => a = #[(.ref a0)] ∧ Z.Warmed39 U.vm ∧ U.heap = h0) (fun _ _ _ _ _ => True) (fun _ U o U' => ∃ v L, o = .returned v ∧ Q4_0 Z a0 v_size v_waiting v_current v_readWord v_readGroup v_readBit v_read h0 n0 v U'.heap L ∧ FrameEnd U o U' L ({ frames := 0, cells := 0, slots := 0, locals := 0 } : Room).cells ({ frames := 0, cells := 0, slots := 0, locals := 0 } : Room).slots) := by
  refine MetFree.of_bodySF (plainFor_of_name pn_4) hisR ?_
  intro p e s m args below meth c s₁ Bd hml0 hP hK
  obtain ⟨rfl, hZ, hh⟩ := hP
  have hx := Bd.exec
  have hby := Bd.bytes
  have hml : c.maxLocals = 1 := hml0
  have hown : s.vm.findClass "com/example/tree_to_rows/treetorows/query/Outcomes" = some m.cls := findClass_of_methodNamed Bd.named
  have hnm := (name_of_methodNamed Bd.named Bd.method).1
  have hlk : meth.locks = false := by first | exact BodyLoose.notSynchronized (by assumption) | exact Body.notSynchronized (by assumption)
  have X0 : Stand p l e ({ frames := 0, cells := 0, slots := 0, locals := 0 } : Room) s m #[(.ref a0)] below meth c s₁ [] 0 0 := Stand.of_body Bd
  have e0 : s₁.heap = h0 := by rw [← hh, Bd.state]; rfl
  have N0 := Fr.nil n0
  have K0 : Keep h0 h0 [a0] := Keep.refl _ _
  refine own_start (CS := (0, 0)) (Q := (Q4_0 Z a0 v_size v_waiting v_current v_readWord v_readGroup v_readBit v_read h0 n0)) (ef_4_0 m a0) ?_
  show own_Go p e below s _ _ (s₁.setTop (mkF m 0 #[rv a0] []))
  refine own_via (fun k => XS.aloadN X0.here hx rfl (hb hby d4_0) rfl rfl  (XS.dup X0.here hx rfl (hb hby d4_1) rfl rfl k)) ?_
  show own_Go p e below s _ _ (s₁.setTop (mkF m 2 #[rv a0] [(.ref a0), (.ref a0)]))
  obtain ⟨T1, X1, e1, st1⟩ := getF X0 hx hZ hown (host := "") (Or.inl (hw _ (List.mem_of_getElem? (i := 19) rfl))) Via.refl e0 P1 (g := (mkF m 2 #[rv a0] [(.ref a0), (.ref a0)])) rfl rfl (hb hby d4_2)
  refine own_via (fun k => st1 _ k) ?_
  show own_Go p e below s _ _ (T1.setTop (mkF m 5 #[rv a0] [(.int 0), (.ref a0)]))
  refine own_via (fun k => XS.iconst X1.here hx rfl (hb hby d4_5) (XS.iadd X1.here hx rfl (hb hby d4_6) rfl k)) ?_
  show own_Go p e below s _ _ (T1.setTop (mkF m 7 #[rv a0] [(.int 1), (.ref a0)]))
  obtain ⟨T2, h2, X2, e2, W2, st2⟩ := putF X1 hx hZ hown (host := "") (Or.inl (hw _ (List.mem_of_getElem? (i := 19) rfl))) Via.refl e1 P1 P9 (Or.inl (hw _ (List.mem_of_getElem? (i := 20) rfl))) (hw _ (List.mem_of_getElem? (i := 1) rfl)) (ty := .int) (by decide) rfl rfl (g := (mkF m 7 #[rv a0] [(.int 1), (.ref a0)])) rfl rfl (hb hby d4_7)
  refine own_via (fun k => st2 _ k) ?_
  show own_Go p e below s _ _ (T2.setTop (mkF m 10 #[rv a0] []))
  have B3 := P0.other W2 (Or.inr (slot_ne (Or.inl (hw _ (List.mem_of_getElem? (i := 18) rfl))) (Or.inl (hw _ (List.mem_of_getElem? (i := 20) rfl))) (by decide) (t := .int) (t' := .int) (by decide) (by decide)))
  have B4 := P2.other W2 (Or.inr (slot_ne (Or.inl (hw _ (List.mem_of_getElem? (i := 22) rfl))) (Or.inl (hw _ (List.mem_of_getElem? (i := 20) rfl))) (by decide) (t := .int) (t' := .int) (by decide) (by decide)))
  have B5 := P3.other W2 (Or.inr (slot_ne (Or.inl (hw _ (List.mem_of_getElem? (i := 28) rfl))) (Or.inl (hw _ (List.mem_of_getElem? (i := 20) rfl))) (by decide) (t := .long) (t' := .int) (by decide) (by decide)))
  have B6 := P4.other W2 (Or.inr (slot_ne (Or.inl (hw _ (List.mem_of_getElem? (i := 42) rfl))) (Or.inl (hw _ (List.mem_of_getElem? (i := 20) rfl))) (by decide) (t := .long) (t' := .int) (by decide) (by decide)))
  have B7 := P5.other W2 (Or.inr (slot_ne (Or.inl (hw _ (List.mem_of_getElem? (i := 49) rfl))) (Or.inl (hw _ (List.mem_of_getElem? (i := 20) rfl))) (by decide) (t := .int) (t' := .int) (by decide) (by decide)))
  have B8 := P6.other W2 (Or.inr (slot_ne (Or.inl (hw _ (List.mem_of_getElem? (i := 51) rfl))) (Or.inl (hw _ (List.mem_of_getElem? (i := 20) rfl))) (by decide) (t := .long) (t' := .int) (by decide) (by decide)))
  have B9 := P7.other W2 (Or.inr (slot_ne (Or.inl (hw _ (List.mem_of_getElem? (i := 53) rfl))) (Or.inl (hw _ (List.mem_of_getElem? (i := 20) rfl))) (by decide) (t := .int) (t' := .int) (by decide) (by decide)))
  have B10 := P8.other W2 (Or.inr (slot_ne (Or.inl (hw _ (List.mem_of_getElem? (i := 55) rfl))) (Or.inl (hw _ (List.mem_of_getElem? (i := 20) rfl))) (by decide) (t := .long) (t' := .int) (by decide) (by decide)))
  have B11 := P9.wr W2
  have B12 : Fld Z h2 a0 "com/example/tree_to_rows/treetorows/query/Outcomes" "used" "I" (.int 1) := P1.same W2
  have N13 := Fr.snoc X2 N0 ge0
  have K14 : Keep h0 h2 [a0] := K0.wr W2 (Or.inl (List.mem_of_getElem? (i := 0) rfl))
  have Z15 : n0 ≤ h2.size := Nat.le_trans Z0 (Keep.of_wr W2).1
  refine own_via (fun k => XS.aloadN X2.here hx rfl (hb hby d4_10) rfl rfl  (XS.dup X2.here hx rfl (hb hby d4_11) rfl rfl k)) ?_
  show own_Go p e below s _ _ (T2.setTop (mkF m 12 #[rv a0] [(.ref a0), (.ref a0)]))
  obtain ⟨T16, X16, e16, st16⟩ := getF X2 hx hZ hown (host := "") (Or.inl (hw _ (List.mem_of_getElem? (i := 27) rfl))) Via.refl e2 B5 (g := (mkF m 12 #[rv a0] [(.ref a0), (.ref a0)])) rfl rfl (hb hby d4_12)
  refine own_via (fun k => st16 _ k) ?_
  show own_Go p e below s _ _ (T16.setTop (mkF m 15 #[rv a0] [(.long 0), (.ref a0)]))
  refine own_via (fun k => XS.lconst X16.here hx rfl (hb hby d4_15) (XS.ladd X16.here hx rfl (hb hby d4_16) rfl k)) ?_
  show own_Go p e below s _ _ (T16.setTop (mkF m 17 #[rv a0] [(.long 1), (.ref a0)]))
  obtain ⟨T17, h17, X17, e17, W17, st17⟩ := putF X16 hx hZ hown (host := "") (Or.inl (hw _ (List.mem_of_getElem? (i := 27) rfl))) Via.refl e16 B5 B11 (Or.inl (hw _ (List.mem_of_getElem? (i := 28) rfl))) (hw _ (List.mem_of_getElem? (i := 1) rfl)) (ty := .long) (by decide) rfl rfl (g := (mkF m 17 #[rv a0] [(.long 1), (.ref a0)])) rfl rfl (hb hby d4_17)
  refine own_via (fun k => st17 _ k) ?_
  show own_Go p e below s _ _ (T17.setTop (mkF m 20 #[rv a0] []))
  have B18 := B3.other W17 (Or.inr (slot_ne (Or.inl (hw _ (List.mem_of_getElem? (i := 18) rfl))) (Or.inl (hw _ (List.mem_of_getElem? (i := 28) rfl))) (by decide) (t := .int) (t' := .long) (by decide) (by decide)))
  have B19 := B4.other W17 (Or.inr (slot_ne (Or.inl (hw _ (List.mem_of_getElem? (i := 22) rfl))) (Or.inl (hw _ (List.mem_of_getElem? (i := 28) rfl))) (by decide) (t := .int) (t' := .long) (by decide) (by decide)))
  have B20 := B6.other W17 (Or.inr (slot_ne (Or.inl (hw _ (List.mem_of_getElem? (i := 42) rfl))) (Or.inl (hw _ (List.mem_of_getElem? (i := 28) rfl))) (by decide) (t := .long) (t' := .long) (by decide) (by decide)))
  have B21 := B7.other W17 (Or.inr (slot_ne (Or.inl (hw _ (List.mem_of_getElem? (i := 49) rfl))) (Or.inl (hw _ (List.mem_of_getElem? (i := 28) rfl))) (by decide) (t := .int) (t' := .long) (by decide) (by decide)))
  have B22 := B8.other W17 (Or.inr (slot_ne (Or.inl (hw _ (List.mem_of_getElem? (i := 51) rfl))) (Or.inl (hw _ (List.mem_of_getElem? (i := 28) rfl))) (by decide) (t := .long) (t' := .long) (by decide) (by decide)))
  have B23 := B9.other W17 (Or.inr (slot_ne (Or.inl (hw _ (List.mem_of_getElem? (i := 53) rfl))) (Or.inl (hw _ (List.mem_of_getElem? (i := 28) rfl))) (by decide) (t := .int) (t' := .long) (by decide) (by decide)))
  have B24 := B10.other W17 (Or.inr (slot_ne (Or.inl (hw _ (List.mem_of_getElem? (i := 55) rfl))) (Or.inl (hw _ (List.mem_of_getElem? (i := 28) rfl))) (by decide) (t := .long) (t' := .long) (by decide) (by decide)))
  have B25 := B11.wr W17
  have B26 := B12.other W17 (Or.inr (slot_ne (Or.inl (hw _ (List.mem_of_getElem? (i := 20) rfl))) (Or.inl (hw _ (List.mem_of_getElem? (i := 28) rfl))) (by decide) (t := .int) (t' := .long) (by decide) (by decide)))
  have B27 : Fld Z h17 a0 "com/example/tree_to_rows/treetorows/query/Outcomes" "bits" "J" (.long 1) := B5.same W17
  have N28 := Fr.snoc X17 N13 ge0
  have K29 : Keep h0 h17 [a0] := K14.wr W17 (Or.inl (List.mem_of_getElem? (i := 0) rfl))
  have Z30 : n0 ≤ h17.size := Nat.le_trans Z15 (Keep.of_wr W17).1
  refine own_via (fun k => XS.aloadN X17.here hx rfl (hb hby d4_20) rfl rfl  k) ?_
  show own_Go p e below s _ _ (T17.setTop (mkF m 21 #[rv a0] [(.ref a0)]))
  obtain ⟨T31, X31, e31, st31⟩ := getF X17 hx hZ hown (host := "") (Or.inl (hw _ (List.mem_of_getElem? (i := 19) rfl))) Via.refl e17 B26 (g := (mkF m 21 #[rv a0] [(.ref a0)])) rfl rfl (hb hby d4_21)
  refine own_via (fun k => st31 _ k) ?_
  show own_Go p e below s _ _ (T31.setTop (mkF m 24 #[rv a0] [(.int 1)]))
  refine own_via (fun k => XS.bipush X31.here hx rfl (hb hby d4_24) k) ?_
  show own_Go p e below s _ _ (T31.setTop (mkF m 26 #[rv a0] [(.int 63), (.int 1)]))
  refine own_via (fun k => XS.icmpYes X31.here hx rfl (pc0 := 26) (pc' := 33) rfl (hb hby d4_26) rfl (by decide) (by decide) (by decide) k) ?_
  show own_Go p e below s _ _ (T31.setTop (mkF m 33 #[rv a0] []))
  exact own_ret0 X31 hx hlk Bd.returns (hb hby d4_33) (Q := (Q4_0 Z a0 v_size v_waiting v_current v_readWord v_readGroup v_readBit v_read h0 n0)) ⟨rfl, N28, (by rw [e31]; exact K29), (by rw [e31]; exact B18), (by rw [e31]; exact B26), (by rw [e31]; exact B19), (by rw [e31]; exact B27), (by rw [e31]; exact B20), (by rw [e31]; exact B21), (by rw [e31]; exact B22), (by rw [e31]; exact B23), (by rw [e31]; exact B24)⟩ (by decide) (by decide)
theorem ef_4_1 (m : MethodId) (x0 : Addr) : entryFrame m #[(.ref x0)] 1 = mkF m 0 #[rv x0] [] := by first | (simp [entryFrame, mkF, argsToLocals, Value.category]; done) | rfl
def Q4_1 (Z : State) (a0 : Addr) (v_size : Int32) (v_waiting : Int32) (v_current : Int64) (v_readWord : Int32) (v_readGroup : Int64) (v_readBit : Int32) (v_read : Int64) (h0 : Heap) (n0 : Nat) (v : Option Value) (h : Heap) (L : List Loc) : Prop := v = none ∧ Fr n0 L ∧ Keep h0 h [a0] ∧ Fld Z h a0 "com/example/tree_to_rows/treetorows/query/Outcomes" "size" "I" (.int v_size) ∧ Fld Z h a0 "com/example/tree_to_rows/treetorows/query/Outcomes" "used" "I" (.int 2) ∧ Fld Z h a0 "com/example/tree_to_rows/treetorows/query/Outcomes" "waiting" "I" (.int v_waiting) ∧ Fld Z h a0 "com/example/tree_to_rows/treetorows/query/Outcomes" "bits" "J" (.long 2) ∧ Fld Z h a0 "com/example/tree_to_rows/treetorows/query/Outcomes" "current" "J" (.long v_current) ∧ Fld Z h a0 "com/example/tree_to_rows/treetorows/query/Outcomes" "readWord" "I" (.int v_readWord) ∧ Fld Z h a0 "com/example/tree_to_rows/treetorows/query/Outcomes" "readGroup" "J" (.long v_readGroup) ∧ Fld Z h a0 "com/example/tree_to_rows/treetorows/query/Outcomes" "readBit" "I" (.int v_readBit) ∧ Fld Z h a0 "com/example/tree_to_rows/treetorows/query/Outcomes" "read" "J" (.long v_read)
set_option maxRecDepth 65536 in
set_option maxHeartbeats 40000000 in
theorem rm4_1 (l : Launch) (Z : State) (aw : Array Value) (hw : ∀ d ∈ tables_1, d.before aw Z = true) (ws : List Jvm.Cond) (a0 : Addr) (v_size : Int32) (v_waiting : Int32) (v_current : Int64) (v_readWord : Int32) (v_readGroup : Int64) (v_readBit : Int32) (v_read : Int64) (h0 : Heap) (n0 : Nat) (Z0 : n0 ≤ h0.size) (P0 : Fld Z h0 a0 "com/example/tree_to_rows/treetorows/query/Outcomes" "size" "I" (.int v_size)) (P1 : Fld Z h0 a0 "com/example/tree_to_rows/treetorows/query/Outcomes" "used" "I" (.int 1)) (P2 : Fld Z h0 a0 "com/example/tree_to_rows/treetorows/query/Outcomes" "waiting" "I" (.int v_waiting)) (P3 : Fld Z h0 a0 "com/example/tree_to_rows/treetorows/query/Outcomes" "bits" "J" (.long 1)) (P4 : Fld Z h0 a0 "com/example/tree_to_rows/treetorows/query/Outcomes" "current" "J" (.long v_current)) (P5 : Fld Z h0 a0 "com/example/tree_to_rows/treetorows/query/Outcomes" "readWord" "I" (.int v_readWord)) (P6 : Fld Z h0 a0 "com/example/tree_to_rows/treetorows/query/Outcomes" "readGroup" "J" (.long v_readGroup)) (P7 : Fld Z h0 a0 "com/example/tree_to_rows/treetorows/query/Outcomes" "readBit" "I" (.int v_readBit)) (P8 : Fld Z h0 a0 "com/example/tree_to_rows/treetorows/query/Outcomes" "read" "J" (.long v_read)) (P9 : Exa Z h0 a0 "com/example/tree_to_rows/treetorows/query/Outcomes") (ge0 : n0 ≤ a0) :
    MetFree l (⟨"com/example/tree_to_rows/treetorows/query/Outcomes", "take", "()V"⟩ : MethodName) (head1 (Jvm.Cond.code (⟨"com/example/tree_to_rows/treetorows/query/Outcomes", "take", "()V"⟩ : MethodName) prog_24_method_6_code 1 none :: ws) ({ frames := 0, cells := 0, slots := 0, locals := 0 } : Room)) (fun a U => a = #[(.ref a0)] ∧ Z.Warmed39 U.vm ∧ U.heap = h0) (fun _ _ _ _ _ => True) (fun _ U o U' => ∃ v L, o = .returned v ∧ Q4_1 Z a0 v_size v_waiting v_current v_readWord v_readGroup v_readBit v_read h0 n0 v U'.heap L ∧ FrameEnd U o U' L ({ frames := 0, cells := 0, slots := 0, locals := 0 } : Room).cells ({ frames := 0, cells := 0, slots := 0, locals := 0 } : Room).slots) := by
  refine MetFree.of_bodySF (plainFor_of_name pn_4) hisR ?_
  intro p e s m args below meth c s₁ Bd hml0 hP hK
  obtain ⟨rfl, hZ, hh⟩ := hP
  have hx := Bd.exec
  have hby := Bd.bytes
  have hml : c.maxLocals = 1 := hml0
  have hown : s.vm.findClass "com/example/tree_to_rows/treetorows/query/Outcomes" = some m.cls := findClass_of_methodNamed Bd.named
  have hnm := (name_of_methodNamed Bd.named Bd.method).1
  have hlk : meth.locks = false := by first | exact BodyLoose.notSynchronized (by assumption) | exact Body.notSynchronized (by assumption)
  have X0 : Stand p l e ({ frames := 0, cells := 0, slots := 0, locals := 0 } : Room) s m #[(.ref a0)] below meth c s₁ [] 0 0 := Stand.of_body Bd
  have e0 : s₁.heap = h0 := by rw [← hh, Bd.state]; rfl
  have N0 := Fr.nil n0
  have K0 : Keep h0 h0 [a0] := Keep.refl _ _
  refine own_start (CS := (0, 0)) (Q := (Q4_1 Z a0 v_size v_waiting v_current v_readWord v_readGroup v_readBit v_read h0 n0)) (ef_4_1 m a0) ?_
  show own_Go p e below s _ _ (s₁.setTop (mkF m 0 #[rv a0] []))
  refine own_via (fun k => XS.aloadN X0.here hx rfl (hb hby d4_0) rfl rfl  (XS.dup X0.here hx rfl (hb hby d4_1) rfl rfl k)) ?_
  show own_Go p e below s _ _ (s₁.setTop (mkF m 2 #[rv a0] [(.ref a0), (.ref a0)]))
  obtain ⟨T1, X1, e1, st1⟩ := getF X0 hx hZ hown (host := "") (Or.inl (hw _ (List.mem_of_getElem? (i := 19) rfl))) Via.refl e0 P1 (g := (mkF m 2 #[rv a0] [(.ref a0), (.ref a0)])) rfl rfl (hb hby d4_2)
  refine own_via (fun k => st1 _ k) ?_
  show own_Go p e below s _ _ (T1.setTop (mkF m 5 #[rv a0] [(.int 1), (.ref a0)]))
  refine own_via (fun k => XS.iconst X1.here hx rfl (hb hby d4_5) (XS.iadd X1.here hx rfl (hb hby d4_6) rfl k)) ?_
  show own_Go p e below s _ _ (T1.setTop (mkF m 7 #[rv a0] [(.int 2), (.ref a0)]))
  obtain ⟨T2, h2, X2, e2, W2, st2⟩ := putF X1 hx hZ hown (host := "") (Or.inl (hw _ (List.mem_of_getElem? (i := 19) rfl))) Via.refl e1 P1 P9 (Or.inl (hw _ (List.mem_of_getElem? (i := 20) rfl))) (hw _ (List.mem_of_getElem? (i := 1) rfl)) (ty := .int) (by decide) rfl rfl (g := (mkF m 7 #[rv a0] [(.int 2), (.ref a0)])) rfl rfl (hb hby d4_7)
  refine own_via (fun k => st2 _ k) ?_
  show own_Go p e below s _ _ (T2.setTop (mkF m 10 #[rv a0] []))
  have B3 := P0.other W2 (Or.inr (slot_ne (Or.inl (hw _ (List.mem_of_getElem? (i := 18) rfl))) (Or.inl (hw _ (List.mem_of_getElem? (i := 20) rfl))) (by decide) (t := .int) (t' := .int) (by decide) (by decide)))
  have B4 := P2.other W2 (Or.inr (slot_ne (Or.inl (hw _ (List.mem_of_getElem? (i := 22) rfl))) (Or.inl (hw _ (List.mem_of_getElem? (i := 20) rfl))) (by decide) (t := .int) (t' := .int) (by decide) (by decide)))
  have B5 := P3.other W2 (Or.inr (slot_ne (Or.inl (hw _ (List.mem_of_getElem? (i := 28) rfl))) (Or.inl (hw _ (List.mem_of_getElem? (i := 20) rfl))) (by decide) (t := .long) (t' := .int) (by decide) (by decide)))
  have B6 := P4.other W2 (Or.inr (slot_ne (Or.inl (hw _ (List.mem_of_getElem? (i := 42) rfl))) (Or.inl (hw _ (List.mem_of_getElem? (i := 20) rfl))) (by decide) (t := .long) (t' := .int) (by decide) (by decide)))
  have B7 := P5.other W2 (Or.inr (slot_ne (Or.inl (hw _ (List.mem_of_getElem? (i := 49) rfl))) (Or.inl (hw _ (List.mem_of_getElem? (i := 20) rfl))) (by decide) (t := .int) (t' := .int) (by decide) (by decide)))
  have B8 := P6.other W2 (Or.inr (slot_ne (Or.inl (hw _ (List.mem_of_getElem? (i := 51) rfl))) (Or.inl (hw _ (List.mem_of_getElem? (i := 20) rfl))) (by decide) (t := .long) (t' := .int) (by decide) (by decide)))
  have B9 := P7.other W2 (Or.inr (slot_ne (Or.inl (hw _ (List.mem_of_getElem? (i := 53) rfl))) (Or.inl (hw _ (List.mem_of_getElem? (i := 20) rfl))) (by decide) (t := .int) (t' := .int) (by decide) (by decide)))
  have B10 := P8.other W2 (Or.inr (slot_ne (Or.inl (hw _ (List.mem_of_getElem? (i := 55) rfl))) (Or.inl (hw _ (List.mem_of_getElem? (i := 20) rfl))) (by decide) (t := .long) (t' := .int) (by decide) (by decide)))
  have B11 := P9.wr W2
  have B12 : Fld Z h2 a0 "com/example/tree_to_rows/treetorows/query/Outcomes" "used" "I" (.int 2) := P1.same W2
  have N13 := Fr.snoc X2 N0 ge0
  have K14 : Keep h0 h2 [a0] := K0.wr W2 (Or.inl (List.mem_of_getElem? (i := 0) rfl))
  have Z15 : n0 ≤ h2.size := Nat.le_trans Z0 (Keep.of_wr W2).1
  refine own_via (fun k => XS.aloadN X2.here hx rfl (hb hby d4_10) rfl rfl  (XS.dup X2.here hx rfl (hb hby d4_11) rfl rfl k)) ?_
  show own_Go p e below s _ _ (T2.setTop (mkF m 12 #[rv a0] [(.ref a0), (.ref a0)]))
  obtain ⟨T16, X16, e16, st16⟩ := getF X2 hx hZ hown (host := "") (Or.inl (hw _ (List.mem_of_getElem? (i := 27) rfl))) Via.refl e2 B5 (g := (mkF m 12 #[rv a0] [(.ref a0), (.ref a0)])) rfl rfl (hb hby d4_12)
  refine own_via (fun k => st16 _ k) ?_
  show own_Go p e below s _ _ (T16.setTop (mkF m 15 #[rv a0] [(.long 1), (.ref a0)]))
  refine own_via (fun k => XS.lconst X16.here hx rfl (hb hby d4_15) (XS.ladd X16.here hx rfl (hb hby d4_16) rfl k)) ?_
  show own_Go p e below s _ _ (T16.setTop (mkF m 17 #[rv a0] [(.long 2), (.ref a0)]))
  obtain ⟨T17, h17, X17, e17, W17, st17⟩ := putF X16 hx hZ hown (host := "") (Or.inl (hw _ (List.mem_of_getElem? (i := 27) rfl))) Via.refl e16 B5 B11 (Or.inl (hw _ (List.mem_of_getElem? (i := 28) rfl))) (hw _ (List.mem_of_getElem? (i := 1) rfl)) (ty := .long) (by decide) rfl rfl (g := (mkF m 17 #[rv a0] [(.long 2), (.ref a0)])) rfl rfl (hb hby d4_17)
  refine own_via (fun k => st17 _ k) ?_
  show own_Go p e below s _ _ (T17.setTop (mkF m 20 #[rv a0] []))
  have B18 := B3.other W17 (Or.inr (slot_ne (Or.inl (hw _ (List.mem_of_getElem? (i := 18) rfl))) (Or.inl (hw _ (List.mem_of_getElem? (i := 28) rfl))) (by decide) (t := .int) (t' := .long) (by decide) (by decide)))
  have B19 := B4.other W17 (Or.inr (slot_ne (Or.inl (hw _ (List.mem_of_getElem? (i := 22) rfl))) (Or.inl (hw _ (List.mem_of_getElem? (i := 28) rfl))) (by decide) (t := .int) (t' := .long) (by decide) (by decide)))
  have B20 := B6.other W17 (Or.inr (slot_ne (Or.inl (hw _ (List.mem_of_getElem? (i := 42) rfl))) (Or.inl (hw _ (List.mem_of_getElem? (i := 28) rfl))) (by decide) (t := .long) (t' := .long) (by decide) (by decide)))
  have B21 := B7.other W17 (Or.inr (slot_ne (Or.inl (hw _ (List.mem_of_getElem? (i := 49) rfl))) (Or.inl (hw _ (List.mem_of_getElem? (i := 28) rfl))) (by decide) (t := .int) (t' := .long) (by decide) (by decide)))
  have B22 := B8.other W17 (Or.inr (slot_ne (Or.inl (hw _ (List.mem_of_getElem? (i := 51) rfl))) (Or.inl (hw _ (List.mem_of_getElem? (i := 28) rfl))) (by decide) (t := .long) (t' := .long) (by decide) (by decide)))
  have B23 := B9.other W17 (Or.inr (slot_ne (Or.inl (hw _ (List.mem_of_getElem? (i := 53) rfl))) (Or.inl (hw _ (List.mem_of_getElem? (i := 28) rfl))) (by decide) (t := .int) (t' := .long) (by decide) (by decide)))
  have B24 := B10.other W17 (Or.inr (slot_ne (Or.inl (hw _ (List.mem_of_getElem? (i := 55) rfl))) (Or.inl (hw _ (List.mem_of_getElem? (i := 28) rfl))) (by decide) (t := .long) (t' := .long) (by decide) (by decide)))
  have B25 := B11.wr W17
  have B26 := B12.other W17 (Or.inr (slot_ne (Or.inl (hw _ (List.mem_of_getElem? (i := 20) rfl))) (Or.inl (hw _ (List.mem_of_getElem? (i := 28) rfl))) (by decide) (t := .int) (t' := .long) (by decide) (by decide)))
  have B27 : Fld Z h17 a0 "com/example/tree_to_rows/treetorows/query/Outcomes" "bits" "J" (.long 2) := B5.same W17
  have N28 := Fr.snoc X17 N13 ge0
  have K29 : Keep h0 h17 [a0] := K14.wr W17 (Or.inl (List.mem_of_getElem? (i := 0) rfl))
  have Z30 : n0 ≤ h17.size := Nat.le_trans Z15 (Keep.of_wr W17).1
  refine own_via (fun k => XS.aloadN X17.here hx rfl (hb hby d4_20) rfl rfl  k) ?_
  show own_Go p e below s _ _ (T17.setTop (mkF m 21 #[rv a0] [(.ref a0)]))
  obtain ⟨T31, X31, e31, st31⟩ := getF X17 hx hZ hown (host := "") (Or.inl (hw _ (List.mem_of_getElem? (i := 19) rfl))) Via.refl e17 B26 (g := (mkF m 21 #[rv a0] [(.ref a0)])) rfl rfl (hb hby d4_21)
  refine own_via (fun k => st31 _ k) ?_
  show own_Go p e below s _ _ (T31.setTop (mkF m 24 #[rv a0] [(.int 2)]))
  refine own_via (fun k => XS.bipush X31.here hx rfl (hb hby d4_24) k) ?_
  show own_Go p e below s _ _ (T31.setTop (mkF m 26 #[rv a0] [(.int 63), (.int 2)]))
  refine own_via (fun k => XS.icmpYes X31.here hx rfl (pc0 := 26) (pc' := 33) rfl (hb hby d4_26) rfl (by decide) (by decide) (by decide) k) ?_
  show own_Go p e below s _ _ (T31.setTop (mkF m 33 #[rv a0] []))
  exact own_ret0 X31 hx hlk Bd.returns (hb hby d4_33) (Q := (Q4_1 Z a0 v_size v_waiting v_current v_readWord v_readGroup v_readBit v_read h0 n0)) ⟨rfl, N28, (by rw [e31]; exact K29), (by rw [e31]; exact B18), (by rw [e31]; exact B26), (by rw [e31]; exact B19), (by rw [e31]; exact B27), (by rw [e31]; exact B20), (by rw [e31]; exact B21), (by rw [e31]; exact B22), (by rw [e31]; exact B23), (by rw [e31]; exact B24)⟩ (by decide) (by decide)
theorem ef_4_2 (m : MethodId) (x0 : Addr) : entryFrame m #[(.ref x0)] 1 = mkF m 0 #[rv x0] [] := by first | (simp [entryFrame, mkF, argsToLocals, Value.category]; done) | rfl
def Q4_2 (Z : State) (a0 : Addr) (v_size : Int32) (v_waiting : Int32) (v_current : Int64) (v_readWord : Int32) (v_readGroup : Int64) (v_readBit : Int32) (v_read : Int64) (h0 : Heap) (n0 : Nat) (v : Option Value) (h : Heap) (L : List Loc) : Prop := v = none ∧ Fr n0 L ∧ Keep h0 h [a0] ∧ Fld Z h a0 "com/example/tree_to_rows/treetorows/query/Outcomes" "size" "I" (.int v_size) ∧ Fld Z h a0 "com/example/tree_to_rows/treetorows/query/Outcomes" "used" "I" (.int 3) ∧ Fld Z h a0 "com/example/tree_to_rows/treetorows/query/Outcomes" "waiting" "I" (.int v_waiting) ∧ Fld Z h a0 "com/example/tree_to_rows/treetorows/query/Outcomes" "bits" "J" (.long 3) ∧ Fld Z h a0 "com/example/tree_to_rows/treetorows/query/Outcomes" "current" "J" (.long v_current) ∧ Fld Z h a0 "com/example/tree_to_rows/treetorows/query/Outcomes" "readWord" "I" (.int v_readWord) ∧ Fld Z h a0 "com/example/tree_to_rows/treetorows/query/Outcomes" "readGroup" "J" (.long v_readGroup) ∧ Fld Z h a0 "com/example/tree_to_rows/treetorows/query/Outcomes" "readBit" "I" (.int v_readBit) ∧ Fld Z h a0 "com/example/tree_to_rows/treetorows/query/Outcomes" "read" "J" (.long v_read)
set_option maxRecDepth 65536 in
set_option maxHeartbeats 40000000 in
theorem rm4_2 (l : Launch) (Z : State) (aw : Array Value) (hw : ∀ d ∈ tables_1, d.before aw Z = true) (ws : List Jvm.Cond) (a0 : Addr) (v_size : Int32) (v_waiting : Int32) (v_current : Int64) (v_readWord : Int32) (v_readGroup : Int64) (v_readBit : Int32) (v_read : Int64) (h0 : Heap) (n0 : Nat) (Z0 : n0 ≤ h0.size) (P0 : Fld Z h0 a0 "com/example/tree_to_rows/treetorows/query/Outcomes" "size" "I" (.int v_size)) (P1 : Fld Z h0 a0 "com/example/tree_to_rows/treetorows/query/Outcomes" "used" "I" (.int 2)) (P2 : Fld Z h0 a0 "com/example/tree_to_rows/treetorows/query/Outcomes" "waiting" "I" (.int v_waiting)) (P3 : Fld Z h0 a0 "com/example/tree_to_rows/treetorows/query/Outcomes" "bits" "J" (.long 2)) (P4 : Fld Z h0 a0 "com/example/tree_to_rows/treetorows/query/Outcomes" "current" "J" (.long v_current)) (P5 : Fld Z h0 a0 "com/example/tree_to_rows/treetorows/query/Outcomes" "readWord" "I" (.int v_readWord)) (P6 : Fld Z h0 a0 "com/example/tree_to_rows/treetorows/query/Outcomes" "readGroup" "J" (.long v_readGroup)) (P7 : Fld Z h0 a0 "com/example/tree_to_rows/treetorows/query/Outcomes" "readBit" "I" (.int v_readBit)) (P8 : Fld Z h0 a0 "com/example/tree_to_rows/treetorows/query/Outcomes" "read" "J" (.long v_read)) (P9 : Exa Z h0 a0 "com/example/tree_to_rows/treetorows/query/Outcomes") (ge0 : n0 ≤ a0) :
    MetFree l (⟨"com/example/tree_to_rows/treetorows/query/Outcomes", "take", "()V"⟩ : MethodName) (head1 (Jvm.Cond.code (⟨"com/example/tree_to_rows/treetorows/query/Outcomes", "take", "()V"⟩ : MethodName) prog_24_method_6_code 1 none :: ws) ({ frames := 0, cells := 0, slots := 0, locals := 0 } : Room)) (fun a U => a = #[(.ref a0)] ∧ Z.Warmed39 U.vm ∧ U.heap = h0) (fun _ _ _ _ _ => True) (fun _ U o U' => ∃ v L, o = .returned v ∧ Q4_2 Z a0 v_size v_waiting v_current v_readWord v_readGroup v_readBit v_read h0 n0 v U'.heap L ∧ FrameEnd U o U' L ({ frames := 0, cells := 0, slots := 0, locals := 0 } : Room).cells ({ frames := 0, cells := 0, slots := 0, locals := 0 } : Room).slots) := by
  refine MetFree.of_bodySF (plainFor_of_name pn_4) hisR ?_
  intro p e s m args below meth c s₁ Bd hml0 hP hK
  obtain ⟨rfl, hZ, hh⟩ := hP
  have hx := Bd.exec
  have hby := Bd.bytes
  have hml : c.maxLocals = 1 := hml0
  have hown : s.vm.findClass "com/example/tree_to_rows/treetorows/query/Outcomes" = some m.cls := findClass_of_methodNamed Bd.named
  have hnm := (name_of_methodNamed Bd.named Bd.method).1
  have hlk : meth.locks = false := by first | exact BodyLoose.notSynchronized (by assumption) | exact Body.notSynchronized (by assumption)
  have X0 : Stand p l e ({ frames := 0, cells := 0, slots := 0, locals := 0 } : Room) s m #[(.ref a0)] below meth c s₁ [] 0 0 := Stand.of_body Bd
  have e0 : s₁.heap = h0 := by rw [← hh, Bd.state]; rfl
  have N0 := Fr.nil n0
  have K0 : Keep h0 h0 [a0] := Keep.refl _ _
  refine own_start (CS := (0, 0)) (Q := (Q4_2 Z a0 v_size v_waiting v_current v_readWord v_readGroup v_readBit v_read h0 n0)) (ef_4_2 m a0) ?_
  show own_Go p e below s _ _ (s₁.setTop (mkF m 0 #[rv a0] []))
  refine own_via (fun k => XS.aloadN X0.here hx rfl (hb hby d4_0) rfl rfl  (XS.dup X0.here hx rfl (hb hby d4_1) rfl rfl k)) ?_
  show own_Go p e below s _ _ (s₁.setTop (mkF m 2 #[rv a0] [(.ref a0), (.ref a0)]))
  obtain ⟨T1, X1, e1, st1⟩ := getF X0 hx hZ hown (host := "") (Or.inl (hw _ (List.mem_of_getElem? (i := 19) rfl))) Via.refl e0 P1 (g := (mkF m 2 #[rv a0] [(.ref a0), (.ref a0)])) rfl rfl (hb hby d4_2)
  refine own_via (fun k => st1 _ k) ?_
  show own_Go p e below s _ _ (T1.setTop (mkF m 5 #[rv a0] [(.int 2), (.ref a0)]))
  refine own_via (fun k => XS.iconst X1.here hx rfl (hb hby d4_5) (XS.iadd X1.here hx rfl (hb hby d4_6) rfl k)) ?_
  show own_Go p e below s _ _ (T1.setTop (mkF m 7 #[rv a0] [(.int 3), (.ref a0)]))
  obtain ⟨T2, h2, X2, e2, W2, st2⟩ := putF X1 hx hZ hown (host := "") (Or.inl (hw _ (List.mem_of_getElem? (i := 19) rfl))) Via.refl e1 P1 P9 (Or.inl (hw _ (List.mem_of_getElem? (i := 20) rfl))) (hw _ (List.mem_of_getElem? (i := 1) rfl)) (ty := .int) (by decide) rfl rfl (g := (mkF m 7 #[rv a0] [(.int 3), (.ref a0)])) rfl rfl (hb hby d4_7)
  refine own_via (fun k => st2 _ k) ?_
  show own_Go p e below s _ _ (T2.setTop (mkF m 10 #[rv a0] []))
  have B3 := P0.other W2 (Or.inr (slot_ne (Or.inl (hw _ (List.mem_of_getElem? (i := 18) rfl))) (Or.inl (hw _ (List.mem_of_getElem? (i := 20) rfl))) (by decide) (t := .int) (t' := .int) (by decide) (by decide)))
  have B4 := P2.other W2 (Or.inr (slot_ne (Or.inl (hw _ (List.mem_of_getElem? (i := 22) rfl))) (Or.inl (hw _ (List.mem_of_getElem? (i := 20) rfl))) (by decide) (t := .int) (t' := .int) (by decide) (by decide)))
  have B5 := P3.other W2 (Or.inr (slot_ne (Or.inl (hw _ (List.mem_of_getElem? (i := 28) rfl))) (Or.inl (hw _ (List.mem_of_getElem? (i := 20) rfl))) (by decide) (t := .long) (t' := .int) (by decide) (by decide)))
  have B6 := P4.other W2 (Or.inr (slot_ne (Or.inl (hw _ (List.mem_of_getElem? (i := 42) rfl))) (Or.inl (hw _ (List.mem_of_getElem? (i := 20) rfl))) (by decide) (t := .long) (t' := .int) (by decide) (by decide)))
  have B7 := P5.other W2 (Or.inr (slot_ne (Or.inl (hw _ (List.mem_of_getElem? (i := 49) rfl))) (Or.inl (hw _ (List.mem_of_getElem? (i := 20) rfl))) (by decide) (t := .int) (t' := .int) (by decide) (by decide)))
  have B8 := P6.other W2 (Or.inr (slot_ne (Or.inl (hw _ (List.mem_of_getElem? (i := 51) rfl))) (Or.inl (hw _ (List.mem_of_getElem? (i := 20) rfl))) (by decide) (t := .long) (t' := .int) (by decide) (by decide)))
  have B9 := P7.other W2 (Or.inr (slot_ne (Or.inl (hw _ (List.mem_of_getElem? (i := 53) rfl))) (Or.inl (hw _ (List.mem_of_getElem? (i := 20) rfl))) (by decide) (t := .int) (t' := .int) (by decide) (by decide)))
  have B10 := P8.other W2 (Or.inr (slot_ne (Or.inl (hw _ (List.mem_of_getElem? (i := 55) rfl))) (Or.inl (hw _ (List.mem_of_getElem? (i := 20) rfl))) (by decide) (t := .long) (t' := .int) (by decide) (by decide)))
  have B11 := P9.wr W2
  have B12 : Fld Z h2 a0 "com/example/tree_to_rows/treetorows/query/Outcomes" "used" "I" (.int 3) := P1.same W2
  have N13 := Fr.snoc X2 N0 ge0
  have K14 : Keep h0 h2 [a0] := K0.wr W2 (Or.inl (List.mem_of_getElem? (i := 0) rfl))
  have Z15 : n0 ≤ h2.size := Nat.le_trans Z0 (Keep.of_wr W2).1
  refine own_via (fun k => XS.aloadN X2.here hx rfl (hb hby d4_10) rfl rfl  (XS.dup X2.here hx rfl (hb hby d4_11) rfl rfl k)) ?_
  show own_Go p e below s _ _ (T2.setTop (mkF m 12 #[rv a0] [(.ref a0), (.ref a0)]))
  obtain ⟨T16, X16, e16, st16⟩ := getF X2 hx hZ hown (host := "") (Or.inl (hw _ (List.mem_of_getElem? (i := 27) rfl))) Via.refl e2 B5 (g := (mkF m 12 #[rv a0] [(.ref a0), (.ref a0)])) rfl rfl (hb hby d4_12)
  refine own_via (fun k => st16 _ k) ?_
  show own_Go p e below s _ _ (T16.setTop (mkF m 15 #[rv a0] [(.long 2), (.ref a0)]))
  refine own_via (fun k => XS.lconst X16.here hx rfl (hb hby d4_15) (XS.ladd X16.here hx rfl (hb hby d4_16) rfl k)) ?_
  show own_Go p e below s _ _ (T16.setTop (mkF m 17 #[rv a0] [(.long 3), (.ref a0)]))
  obtain ⟨T17, h17, X17, e17, W17, st17⟩ := putF X16 hx hZ hown (host := "") (Or.inl (hw _ (List.mem_of_getElem? (i := 27) rfl))) Via.refl e16 B5 B11 (Or.inl (hw _ (List.mem_of_getElem? (i := 28) rfl))) (hw _ (List.mem_of_getElem? (i := 1) rfl)) (ty := .long) (by decide) rfl rfl (g := (mkF m 17 #[rv a0] [(.long 3), (.ref a0)])) rfl rfl (hb hby d4_17)
  refine own_via (fun k => st17 _ k) ?_
  show own_Go p e below s _ _ (T17.setTop (mkF m 20 #[rv a0] []))
  have B18 := B3.other W17 (Or.inr (slot_ne (Or.inl (hw _ (List.mem_of_getElem? (i := 18) rfl))) (Or.inl (hw _ (List.mem_of_getElem? (i := 28) rfl))) (by decide) (t := .int) (t' := .long) (by decide) (by decide)))
  have B19 := B4.other W17 (Or.inr (slot_ne (Or.inl (hw _ (List.mem_of_getElem? (i := 22) rfl))) (Or.inl (hw _ (List.mem_of_getElem? (i := 28) rfl))) (by decide) (t := .int) (t' := .long) (by decide) (by decide)))
  have B20 := B6.other W17 (Or.inr (slot_ne (Or.inl (hw _ (List.mem_of_getElem? (i := 42) rfl))) (Or.inl (hw _ (List.mem_of_getElem? (i := 28) rfl))) (by decide) (t := .long) (t' := .long) (by decide) (by decide)))
  have B21 := B7.other W17 (Or.inr (slot_ne (Or.inl (hw _ (List.mem_of_getElem? (i := 49) rfl))) (Or.inl (hw _ (List.mem_of_getElem? (i := 28) rfl))) (by decide) (t := .int) (t' := .long) (by decide) (by decide)))
  have B22 := B8.other W17 (Or.inr (slot_ne (Or.inl (hw _ (List.mem_of_getElem? (i := 51) rfl))) (Or.inl (hw _ (List.mem_of_getElem? (i := 28) rfl))) (by decide) (t := .long) (t' := .long) (by decide) (by decide)))
  have B23 := B9.other W17 (Or.inr (slot_ne (Or.inl (hw _ (List.mem_of_getElem? (i := 53) rfl))) (Or.inl (hw _ (List.mem_of_getElem? (i := 28) rfl))) (by decide) (t := .int) (t' := .long) (by decide) (by decide)))
  have B24 := B10.other W17 (Or.inr (slot_ne (Or.inl (hw _ (List.mem_of_getElem? (i := 55) rfl))) (Or.inl (hw _ (List.mem_of_getElem? (i := 28) rfl))) (by decide) (t := .long) (t' := .long) (by decide) (by decide)))
  have B25 := B11.wr W17
  have B26 := B12.other W17 (Or.inr (slot_ne (Or.inl (hw _ (List.mem_of_getElem? (i := 20) rfl))) (Or.inl (hw _ (List.mem_of_getElem? (i := 28) rfl))) (by decide) (t := .int) (t' := .long) (by decide) (by decide)))
  have B27 : Fld Z h17 a0 "com/example/tree_to_rows/treetorows/query/Outcomes" "bits" "J" (.long 3) := B5.same W17
  have N28 := Fr.snoc X17 N13 ge0
  have K29 : Keep h0 h17 [a0] := K14.wr W17 (Or.inl (List.mem_of_getElem? (i := 0) rfl))
  have Z30 : n0 ≤ h17.size := Nat.le_trans Z15 (Keep.of_wr W17).1
  refine own_via (fun k => XS.aloadN X17.here hx rfl (hb hby d4_20) rfl rfl  k) ?_
  show own_Go p e below s _ _ (T17.setTop (mkF m 21 #[rv a0] [(.ref a0)]))
  obtain ⟨T31, X31, e31, st31⟩ := getF X17 hx hZ hown (host := "") (Or.inl (hw _ (List.mem_of_getElem? (i := 19) rfl))) Via.refl e17 B26 (g := (mkF m 21 #[rv a0] [(.ref a0)])) rfl rfl (hb hby d4_21)
  refine own_via (fun k => st31 _ k) ?_
  show own_Go p e below s _ _ (T31.setTop (mkF m 24 #[rv a0] [(.int 3)]))
  refine own_via (fun k => XS.bipush X31.here hx rfl (hb hby d4_24) k) ?_
  show own_Go p e below s _ _ (T31.setTop (mkF m 26 #[rv a0] [(.int 63), (.int 3)]))
  refine own_via (fun k => XS.icmpYes X31.here hx rfl (pc0 := 26) (pc' := 33) rfl (hb hby d4_26) rfl (by decide) (by decide) (by decide) k) ?_
  show own_Go p e below s _ _ (T31.setTop (mkF m 33 #[rv a0] []))
  exact own_ret0 X31 hx hlk Bd.returns (hb hby d4_33) (Q := (Q4_2 Z a0 v_size v_waiting v_current v_readWord v_readGroup v_readBit v_read h0 n0)) ⟨rfl, N28, (by rw [e31]; exact K29), (by rw [e31]; exact B18), (by rw [e31]; exact B26), (by rw [e31]; exact B19), (by rw [e31]; exact B27), (by rw [e31]; exact B20), (by rw [e31]; exact B21), (by rw [e31]; exact B22), (by rw [e31]; exact B23), (by rw [e31]; exact B24)⟩ (by decide) (by decide)
theorem d3_0 : decode prog_24_method_2_code 0 = .ok (.aload_n 0, 1) := by decide +kernel
theorem d3_1 : decode prog_24_method_2_code 1 = .ok (.getfield 13, 3) := by decide +kernel
theorem d3_4 : decode prog_24_method_2_code 4 = .ok (.i2l, 1) := by decide +kernel
theorem d3_5 : decode prog_24_method_2_code 5 = .ok (.bipush 6, 2) := by decide +kernel
theorem d3_7 : decode prog_24_method_2_code 7 = .ok (.lshl, 1) := by decide +kernel
theorem d3_8 : decode prog_24_method_2_code 8 = .ok (.aload_n 0, 1) := by decide +kernel
theorem d3_9 : decode prog_24_method_2_code 9 = .ok (.getfield 17, 3) := by decide +kernel
theorem d3_12 : decode prog_24_method_2_code 12 = .ok (.i2l, 1) := by decide +kernel
theorem d3_13 : decode prog_24_method_2_code 13 = .ok (.lor, 1) := by decide +kernel
theorem d3_14 : decode prog_24_method_2_code 14 = .ok (.lstore_n 1, 1) := by decide +kernel
theorem d3_15 : decode prog_24_method_2_code 15 = .ok (.aload_n 0, 1) := by decide +kernel
theorem d3_16 : decode prog_24_method_2_code 16 = .ok (.dup, 1) := by decide +kernel
theorem d3_17 : decode prog_24_method_2_code 17 = .ok (.getfield 20, 3) := by decide +kernel
theorem d3_20 : decode prog_24_method_2_code 20 = .ok (.iconst 1, 1) := by decide +kernel
theorem d3_21 : decode prog_24_method_2_code 21 = .ok (.iadd, 1) := by decide +kernel
theorem d3_22 : decode prog_24_method_2_code 22 = .ok (.putfield 20, 3) := by decide +kernel
theorem d3_25 : decode prog_24_method_2_code 25 = .ok (.aload_n 0, 1) := by decide +kernel
theorem d3_26 : decode prog_24_method_2_code 26 = .ok (.invokevirtual 23, 3) := by decide +kernel
theorem d3_29 : decode prog_24_method_2_code 29 = .ok (.lload_n 1, 1) := by decide +kernel
theorem d3_30 : decode prog_24_method_2_code 30 = .ok (.lreturn, 1) := by decide +kernel
theorem pn_3 : plainName "com/example/tree_to_rows/treetorows/query/Outcomes" = true := by first | (simp [plainName, overriddenIn]; done) | decide +kernel
theorem pd_0 : parseMethodDescriptor "()V" = some ⟨[], none⟩ := by decide +kernel
theorem ef_3_0 (m : MethodId) (x0 : Addr) : entryFrame m #[(.ref x0)] 3 = mkF m 0 #[rv x0, .unset, .unset] [] := by first | (simp [entryFrame, mkF, argsToLocals, Value.category]; done) | rfl
def Q3_0 (Z : State) (a0 : Addr) (v_current : Int64) (v_readWord : Int32) (v_readGroup : Int64) (v_readBit : Int32) (v_read : Int64) (h0 : Heap) (n0 : Nat) (v : Option Value) (h : Heap) (L : List Loc) : Prop := v = some (.long 0) ∧ Fr n0 L ∧ Keep h0 h [a0] ∧ Fld Z h a0 "com/example/tree_to_rows/treetorows/query/Outcomes" "size" "I" (.int 0) ∧ Fld Z h a0 "com/example/tree_to_rows/treetorows/query/Outcomes" "used" "I" (.int 1) ∧ Fld Z h a0 "com/example/tree_to_rows/treetorows/query/Outcomes" "waiting" "I" (.int 1) ∧ Fld Z h a0 "com/example/tree_to_rows/treetorows/query/Outcomes" "bits" "J" (.long 1) ∧ Fld Z h a0 "com/example/tree_to_rows/treetorows/query/Outcomes" "current" "J" (.long v_current) ∧ Fld Z h a0 "com/example/tree_to_rows/treetorows/query/Outcomes" "readWord" "I" (.int v_readWord) ∧ Fld Z h a0 "com/example/tree_to_rows/treetorows/query/Outcomes" "readGroup" "J" (.long v_readGroup) ∧ Fld Z h a0 "com/example/tree_to_rows/treetorows/query/Outcomes" "readBit" "I" (.int v_readBit) ∧ Fld Z h a0 "com/example/tree_to_rows/treetorows/query/Outcomes" "read" "J" (.long v_read)
set_option maxRecDepth 65536 in
set_option maxHeartbeats 40000000 in
theorem rm3_0 (l : Launch) (Z : State) (aw : Array Value) (hw : ∀ d ∈ tables_1, d.before aw Z = true) (ws : List Jvm.Cond) (a0 : Addr) (v_current : Int64) (v_readWord : Int32) (v_readGroup : Int64) (v_readBit : Int32) (v_read : Int64) (h0 : Heap) (n0 : Nat) (Z0 : n0 ≤ h0.size) (P0 : Fld Z h0 a0 "com/example/tree_to_rows/treetorows/query/Outcomes" "size" "I" (.int 0)) (P1 : Fld Z h0 a0 "com/example/tree_to_rows/treetorows/query/Outcomes" "used" "I" (.int 0)) (P2 : Fld Z h0 a0 "com/example/tree_to_rows/treetorows/query/Outcomes" "waiting" "I" (.int 0)) (P3 : Fld Z h0 a0 "com/example/tree_to_rows/treetorows/query/Outcomes" "bits" "J" (.long 0)) (P4 : Fld Z h0 a0 "com/example/tree_to_rows/treetorows/query/Outcomes" "current" "J" (.long v_current)) (P5 : Fld Z h0 a0 "com/example/tree_to_rows/treetorows/query/Outcomes" "readWord" "I" (.int v_readWord)) (P6 : Fld Z h0 a0 "com/example/tree_to_rows/treetorows/query/Outcomes" "readGroup" "J" (.long v_readGroup)) (P7 : Fld Z h0 a0 "com/example/tree_to_rows/treetorows/query/Outcomes" "readBit" "I" (.int v_readBit)) (P8 : Fld Z h0 a0 "com/example/tree_to_rows/treetorows/query/Outcomes" "read" "J" (.long v_read)) (P9 : Exa Z h0 a0 "com/example/tree_to_rows/treetorows/query/Outcomes") (ge0 : n0 ≤ a0) :
    MetFree l (⟨"com/example/tree_to_rows/treetorows/query/Outcomes", "place", "()J"⟩ : MethodName) (head1 (Jvm.Cond.code (⟨"com/example/tree_to_rows/treetorows/query/Outcomes", "place", "()J"⟩ : MethodName) prog_24_method_2_code 3 (some .long) :: ws) ({ frames := 1, cells := 0, slots := 0, locals := 12 } : Room)) (fun a U => a = #[(.ref a0)] ∧ Z.Warmed39 U.vm ∧ U.heap = h0) (fun _ _ _ _ _ => True) (fun _ U o U' => ∃ v L, o = .returned v ∧ Q3_0 Z a0 v_current v_readWord v_readGroup v_readBit v_read h0 n0 v U'.heap L ∧ FrameEnd U o U' L ({ frames := 1, cells := 0, slots := 0, locals := 12 } : Room).cells ({ frames := 1, cells := 0, slots := 0, locals := 12 } : Room).slots) := by
  refine MetFree.of_bodySF (plainFor_of_name pn_3) hisR ?_
  intro p e s m args below meth c s₁ Bd hml0 hP hK
  obtain ⟨rfl, hZ, hh⟩ := hP
  have hx := Bd.exec
  have hby := Bd.bytes
  have hml : c.maxLocals = 3 := hml0
  have hown : s.vm.findClass "com/example/tree_to_rows/treetorows/query/Outcomes" = some m.cls := findClass_of_methodNamed Bd.named
  have hnm := (name_of_methodNamed Bd.named Bd.method).1
  have hlk : meth.locks = false := by first | exact BodyLoose.notSynchronized (by assumption) | exact Body.notSynchronized (by assumption)
  have X0 : Stand p l e ({ frames := 1, cells := 0, slots := 0, locals := 12 } : Room) s m #[(.ref a0)] below meth c s₁ [] 0 0 := Stand.of_body Bd
  have e0 : s₁.heap = h0 := by rw [← hh, Bd.state]; rfl
  have N0 := Fr.nil n0
  have K0 : Keep h0 h0 [a0] := Keep.refl _ _
  refine own_start (CS := (0, 0)) (Q := (Q3_0 Z a0 v_current v_readWord v_readGroup v_readBit v_read h0 n0)) (ef_3_0 m a0) ?_
  show own_Go p e below s _ _ (s₁.setTop (mkF m 0 #[rv a0, .unset, .unset] []))
  refine own_via (fun k => XS.aloadN X0.here hx rfl (hb hby d3_0) rfl rfl  k) ?_
  show own_Go p e below s _ _ (s₁.setTop (mkF m 1 #[rv a0, .unset, .unset] [(.ref a0)]))
  obtain ⟨T1, X1, e1, st1⟩ := getF X0 hx hZ hown (host := "") (Or.inl (hw _ (List.mem_of_getElem? (i := 17) rfl))) Via.refl e0 P0 (g := (mkF m 1 #[rv a0, .unset, .unset] [(.ref a0)])) rfl rfl (hb hby d3_1)
  refine own_via (fun k => st1 _ k) ?_
  show own_Go p e below s _ _ (T1.setTop (mkF m 4 #[rv a0, .unset, .unset] [(.int 0)]))
  refine own_via (fun k => XS.i2l X1.here hx rfl (hb hby d3_4) rfl (XS.bipush X1.here hx rfl (hb hby d3_5) (XS.lshl X1.here hx rfl (hb hby d3_7) rfl k))) ?_
  show own_Go p e below s _ _ (T1.setTop (mkF m 8 #[rv a0, .unset, .unset] [(.long ((0 : Int64) <<< ((6 : Int32) &&& 0x3f).toInt64))]))
  rw [show ((0 : Int64) <<< ((6 : Int32) &&& 0x3f).toInt64) = (0 : Int64) from by decide]
  show own_Go p e below s _ _ (T1.setTop (mkF m 8 #[rv a0, .unset, .unset] [(.long 0)]))
  refine own_via (fun k => XS.aloadN X1.here hx rfl (hb hby d3_8) rfl rfl  k) ?_
  show own_Go p e below s _ _ (T1.setTop (mkF m 9 #[rv a0, .unset, .unset] [(.ref a0), (.long 0)]))
  obtain ⟨T2, X2, e2, st2⟩ := getF X1 hx hZ hown (host := "") (Or.inl (hw _ (List.mem_of_getElem? (i := 19) rfl))) Via.refl e1 P1 (g := (mkF m 9 #[rv a0, .unset, .unset] [(.ref a0), (.long 0)])) rfl rfl (hb hby d3_9)
  refine own_via (fun k => st2 _ k) ?_
  show own_Go p e below s _ _ (T2.setTop (mkF m 12 #[rv a0, .unset, .unset] [(.int 0), (.long 0)]))
  refine own_via (fun k => XS.i2l X2.here hx rfl (hb hby d3_12) rfl (XS.lor X2.here hx rfl (hb hby d3_13) rfl (XS.lstoreN X2.here hx rfl (hb hby d3_14) rfl (l' := #[rv a0, jv 0, .second]) rfl (XS.aloadN X2.here hx rfl (hb hby d3_15) rfl rfl  k)))) ?_
  show own_Go p e below s _ _ (T2.setTop (mkF m 16 #[rv a0, jv 0, .second] [(.ref a0)]))
  refine own_via (fun k => XS.dup X2.here hx rfl (hb hby d3_16) rfl rfl k) ?_
  show own_Go p e below s _ _ (T2.setTop (mkF m 17 #[rv a0, jv 0, .second] [(.ref a0), (.ref a0)]))
  obtain ⟨T3, X3, e3, st3⟩ := getF X2 hx hZ hown (host := "") (Or.inl (hw _ (List.mem_of_getElem? (i := 21) rfl))) Via.refl e2 P2 (g := (mkF m 17 #[rv a0, jv 0, .second] [(.ref a0), (.ref a0)])) rfl rfl (hb hby d3_17)
  refine own_via (fun k => st3 _ k) ?_
  show own_Go p e below s _ _ (T3.setTop (mkF m 20 #[rv a0, jv 0, .second] [(.int 0), (.ref a0)]))
  refine own_via (fun k => XS.iconst X3.here hx rfl (hb hby d3_20) (XS.iadd X3.here hx rfl (hb hby d3_21) rfl k)) ?_
  show own_Go p e below s _ _ (T3.setTop (mkF m 22 #[rv a0, jv 0, .second] [(.int 1), (.ref a0)]))
  obtain ⟨T4, h4, X4, e4, W4, st4⟩ := putF X3 hx hZ hown (host := "") (Or.inl (hw _ (List.mem_of_getElem? (i := 21) rfl))) Via.refl e3 P2 P9 (Or.inl (hw _ (List.mem_of_getElem? (i := 22) rfl))) (hw _ (List.mem_of_getElem? (i := 1) rfl)) (ty := .int) (by decide) rfl rfl (g := (mkF m 22 #[rv a0, jv 0, .second] [(.int 1), (.ref a0)])) rfl rfl (hb hby d3_22)
  refine own_via (fun k => st4 _ k) ?_
  show own_Go p e below s _ _ (T4.setTop (mkF m 25 #[rv a0, jv 0, .second] []))
  have B5 := P0.other W4 (Or.inr (slot_ne (Or.inl (hw _ (List.mem_of_getElem? (i := 18) rfl))) (Or.inl (hw _ (List.mem_of_getElem? (i := 22) rfl))) (by decide) (t := .int) (t' := .int) (by decide) (by decide)))
  have B6 := P1.other W4 (Or.inr (slot_ne (Or.inl (hw _ (List.mem_of_getElem? (i := 20) rfl))) (Or.inl (hw _ (List.mem_of_getElem? (i := 22) rfl))) (by decide) (t := .int) (t' := .int) (by decide) (by decide)))
  have B7 := P3.other W4 (Or.inr (slot_ne (Or.inl (hw _ (List.mem_of_getElem? (i := 28) rfl))) (Or.inl (hw _ (List.mem_of_getElem? (i := 22) rfl))) (by decide) (t := .long) (t' := .int) (by decide) (by decide)))
  have B8 := P4.other W4 (Or.inr (slot_ne (Or.inl (hw _ (List.mem_of_getElem? (i := 42) rfl))) (Or.inl (hw _ (List.mem_of_getElem? (i := 22) rfl))) (by decide) (t := .long) (t' := .int) (by decide) (by decide)))
  have B9 := P5.other W4 (Or.inr (slot_ne (Or.inl (hw _ (List.mem_of_getElem? (i := 49) rfl))) (Or.inl (hw _ (List.mem_of_getElem? (i := 22) rfl))) (by decide) (t := .int) (t' := .int) (by decide) (by decide)))
  have B10 := P6.other W4 (Or.inr (slot_ne (Or.inl (hw _ (List.mem_of_getElem? (i := 51) rfl))) (Or.inl (hw _ (List.mem_of_getElem? (i := 22) rfl))) (by decide) (t := .long) (t' := .int) (by decide) (by decide)))
  have B11 := P7.other W4 (Or.inr (slot_ne (Or.inl (hw _ (List.mem_of_getElem? (i := 53) rfl))) (Or.inl (hw _ (List.mem_of_getElem? (i := 22) rfl))) (by decide) (t := .int) (t' := .int) (by decide) (by decide)))
  have B12 := P8.other W4 (Or.inr (slot_ne (Or.inl (hw _ (List.mem_of_getElem? (i := 55) rfl))) (Or.inl (hw _ (List.mem_of_getElem? (i := 22) rfl))) (by decide) (t := .long) (t' := .int) (by decide) (by decide)))
  have B13 := P9.wr W4
  have B14 : Fld Z h4 a0 "com/example/tree_to_rows/treetorows/query/Outcomes" "waiting" "I" (.int 1) := P2.same W4
  have N15 := Fr.snoc X4 N0 ge0
  have K16 : Keep h0 h4 [a0] := K0.wr W4 (Or.inl (List.mem_of_getElem? (i := 0) rfl))
  have Z17 : n0 ≤ h4.size := Nat.le_trans Z0 (Keep.of_wr W4).1
  refine own_via (fun k => XS.aloadN X4.here hx rfl (hb hby d3_25) rfl rfl  k) ?_
  show own_Go p e below s _ _ (T4.setTop (mkF m 26 #[rv a0, jv 0, .second] [(.ref a0)]))
  obtain ⟨cq18, q18, q18'⟩ := B13.cell
  obtain ⟨_, _, ⟨T18, L18, k18, n18⟩, -, X18, ⟨Lc18, hQ18, l18, y18, z18⟩, st18⟩ := X4.privateBack hx (y := (⟨"com/example/tree_to_rows/treetorows/query/Outcomes", "take", "()V"⟩ : MethodName)) hown (mvT hZ (hw _ (List.mem_of_getElem? (i := 23) rfl))) (mvT hZ (hw _ (List.mem_of_getElem? (i := 24) rfl))) (own_selPriv (args' := #[]) (y' := (⟨"com/example/tree_to_rows/treetorows/query/Outcomes", "place", "()J"⟩ : MethodName)) (mvT hZ (hw _ (List.mem_of_getElem? (i := 15) rfl))) rfl (mvT hZ (hw _ (List.mem_of_getElem? (i := 24) rfl))) (Cond.privateMethod_at (mvP hZ (hw _ (List.mem_of_getElem? (i := 25) rfl)) (args := #[]))) (by decide)) (Cond.privateMethod_at (mvP hZ (hw _ (List.mem_of_getElem? (i := 25) rfl)) (args := #[]))) (mvT hZ (hw _ (List.mem_of_getElem? (i := 26) rfl))) (by decide) (backOf (W := 0) (rm4_0 l Z aw hw [] a0 (0 : Int32) (1 : Int32) v_current v_readWord v_readGroup v_readBit v_read h4 n0 Z17 B5 B6 B14 B7 B8 B9 B10 B11 B12 B13 ge0) hZ (hw _ (List.mem_of_getElem? (i := 26) rfl)) (hw _ (List.mem_of_getElem? (i := 2) rfl)) (by decide) (by decide)) (g := (mkF m 26 #[rv a0, jv 0, .second] [(.ref a0)])) rfl (by rw [hml]; rfl) (Steps.refl _) (a := a0) (by rw [e4]; exact q18) q18' (argsL := []) (rest := []) (lenOf pd_0 rfl) rfl (by show 2 * 0 + _ ≤ _; exact Nat.le_of_eq rfl) (hb hby d3_26) (fun _ _ => ⟨rfl, e4, (by decide : 0 + 0 ≤ _), (by decide : 0 + 0 ≤ _)⟩)
  dsimp only [Pt.U, Pt.locs, Pt.cells, Pt.slots] at X18 l18 y18 z18 st18 hQ18
  subst l18 y18 z18
  obtain ⟨rfl, N18q, K18, B19, B20, B21, B22, B23, B24, B25, B26, B27⟩ := hQ18
  have N28 := Fr.app N15 N18q
  have B29 := B13.keep K18
  have Z30 : n0 ≤ T18.heap.size := Nat.le_trans Z17 K18.1
  have K31 : Keep h0 T18.heap [a0] := K16.trans K18 (allS (Or.inl (List.mem_of_getElem? (i := 0) rfl)) all0)
  refine own_via (fun k => st18.trans k) ?_
  show own_Go p e below s _ _ (T18.setTop (mkF m 29 #[rv a0, jv 0, .second] []))
  refine own_via (fun k => XS.lloadN X18.here hx rfl (hb hby d3_29) rfl  k) ?_
  show own_Go p e below s _ _ (T18.setTop (mkF m 30 #[rv a0, jv 0, .second] [(.long 0)]))
  exact own_retL X18 hx hlk Bd.returns (hb hby d3_30) (Q := (Q3_0 Z a0 v_current v_readWord v_readGroup v_readBit v_read h0 n0)) ⟨rfl, N28, (K31), (B19), (B20), (B21), (B22), (B23), (B24), (B25), (B26), (B27)⟩ (by decide) (by decide)
theorem ef_3_1 (m : MethodId) (x0 : Addr) : entryFrame m #[(.ref x0)] 3 = mkF m 0 #[rv x0, .unset, .unset] [] := by first | (simp [entryFrame, mkF, argsToLocals, Value.category]; done) | rfl
def Q3_1 (Z : State) (a0 : Addr) (v_current : Int64) (v_readWord : Int32) (v_readGroup : Int64) (v_readBit : Int32) (v_read : Int64) (h0 : Heap) (n0 : Nat) (v : Option Value) (h : Heap) (L : List Loc) : Prop := v = some (.long 1) ∧ Fr n0 L ∧ Keep h0 h [a0] ∧ Fld Z h a0 "com/example/tree_to_rows/treetorows/query/Outcomes" "size" "I" (.int 0) ∧ Fld Z h a0 "com/example/tree_to_rows/treetorows/query/Outcomes" "used" "I" (.int 2) ∧ Fld Z h a0 "com/example/tree_to_rows/treetorows/query/Outcomes" "waiting" "I" (.int 2) ∧ Fld Z h a0 "com/example/tree_to_rows/treetorows/query/Outcomes" "bits" "J" (.long 2) ∧ Fld Z h a0 "com/example/tree_to_rows/treetorows/query/Outcomes" "current" "J" (.long v_current) ∧ Fld Z h a0 "com/example/tree_to_rows/treetorows/query/Outcomes" "readWord" "I" (.int v_readWord) ∧ Fld Z h a0 "com/example/tree_to_rows/treetorows/query/Outcomes" "readGroup" "J" (.long v_readGroup) ∧ Fld Z h a0 "com/example/tree_to_rows/treetorows/query/Outcomes" "readBit" "I" (.int v_readBit) ∧ Fld Z h a0 "com/example/tree_to_rows/treetorows/query/Outcomes" "read" "J" (.long v_read)
set_option maxRecDepth 65536 in
set_option maxHeartbeats 40000000 in
theorem rm3_1 (l : Launch) (Z : State) (aw : Array Value) (hw : ∀ d ∈ tables_1, d.before aw Z = true) (ws : List Jvm.Cond) (a0 : Addr) (v_current : Int64) (v_readWord : Int32) (v_readGroup : Int64) (v_readBit : Int32) (v_read : Int64) (h0 : Heap) (n0 : Nat) (Z0 : n0 ≤ h0.size) (P0 : Fld Z h0 a0 "com/example/tree_to_rows/treetorows/query/Outcomes" "size" "I" (.int 0)) (P1 : Fld Z h0 a0 "com/example/tree_to_rows/treetorows/query/Outcomes" "used" "I" (.int 1)) (P2 : Fld Z h0 a0 "com/example/tree_to_rows/treetorows/query/Outcomes" "waiting" "I" (.int 1)) (P3 : Fld Z h0 a0 "com/example/tree_to_rows/treetorows/query/Outcomes" "bits" "J" (.long 1)) (P4 : Fld Z h0 a0 "com/example/tree_to_rows/treetorows/query/Outcomes" "current" "J" (.long v_current)) (P5 : Fld Z h0 a0 "com/example/tree_to_rows/treetorows/query/Outcomes" "readWord" "I" (.int v_readWord)) (P6 : Fld Z h0 a0 "com/example/tree_to_rows/treetorows/query/Outcomes" "readGroup" "J" (.long v_readGroup)) (P7 : Fld Z h0 a0 "com/example/tree_to_rows/treetorows/query/Outcomes" "readBit" "I" (.int v_readBit)) (P8 : Fld Z h0 a0 "com/example/tree_to_rows/treetorows/query/Outcomes" "read" "J" (.long v_read)) (P9 : Exa Z h0 a0 "com/example/tree_to_rows/treetorows/query/Outcomes") (ge0 : n0 ≤ a0) :
    MetFree l (⟨"com/example/tree_to_rows/treetorows/query/Outcomes", "place", "()J"⟩ : MethodName) (head1 (Jvm.Cond.code (⟨"com/example/tree_to_rows/treetorows/query/Outcomes", "place", "()J"⟩ : MethodName) prog_24_method_2_code 3 (some .long) :: ws) ({ frames := 1, cells := 0, slots := 0, locals := 12 } : Room)) (fun a U => a = #[(.ref a0)] ∧ Z.Warmed39 U.vm ∧ U.heap = h0) (fun _ _ _ _ _ => True) (fun _ U o U' => ∃ v L, o = .returned v ∧ Q3_1 Z a0 v_current v_readWord v_readGroup v_readBit v_read h0 n0 v U'.heap L ∧ FrameEnd U o U' L ({ frames := 1, cells := 0, slots := 0, locals := 12 } : Room).cells ({ frames := 1, cells := 0, slots := 0, locals := 12 } : Room).slots) := by
  refine MetFree.of_bodySF (plainFor_of_name pn_3) hisR ?_
  intro p e s m args below meth c s₁ Bd hml0 hP hK
  obtain ⟨rfl, hZ, hh⟩ := hP
  have hx := Bd.exec
  have hby := Bd.bytes
  have hml : c.maxLocals = 3 := hml0
  have hown : s.vm.findClass "com/example/tree_to_rows/treetorows/query/Outcomes" = some m.cls := findClass_of_methodNamed Bd.named
  have hnm := (name_of_methodNamed Bd.named Bd.method).1
  have hlk : meth.locks = false := by first | exact BodyLoose.notSynchronized (by assumption) | exact Body.notSynchronized (by assumption)
  have X0 : Stand p l e ({ frames := 1, cells := 0, slots := 0, locals := 12 } : Room) s m #[(.ref a0)] below meth c s₁ [] 0 0 := Stand.of_body Bd
  have e0 : s₁.heap = h0 := by rw [← hh, Bd.state]; rfl
  have N0 := Fr.nil n0
  have K0 : Keep h0 h0 [a0] := Keep.refl _ _
  refine own_start (CS := (0, 0)) (Q := (Q3_1 Z a0 v_current v_readWord v_readGroup v_readBit v_read h0 n0)) (ef_3_1 m a0) ?_
  show own_Go p e below s _ _ (s₁.setTop (mkF m 0 #[rv a0, .unset, .unset] []))
  refine own_via (fun k => XS.aloadN X0.here hx rfl (hb hby d3_0) rfl rfl  k) ?_
  show own_Go p e below s _ _ (s₁.setTop (mkF m 1 #[rv a0, .unset, .unset] [(.ref a0)]))
  obtain ⟨T1, X1, e1, st1⟩ := getF X0 hx hZ hown (host := "") (Or.inl (hw _ (List.mem_of_getElem? (i := 17) rfl))) Via.refl e0 P0 (g := (mkF m 1 #[rv a0, .unset, .unset] [(.ref a0)])) rfl rfl (hb hby d3_1)
  refine own_via (fun k => st1 _ k) ?_
  show own_Go p e below s _ _ (T1.setTop (mkF m 4 #[rv a0, .unset, .unset] [(.int 0)]))
  refine own_via (fun k => XS.i2l X1.here hx rfl (hb hby d3_4) rfl (XS.bipush X1.here hx rfl (hb hby d3_5) (XS.lshl X1.here hx rfl (hb hby d3_7) rfl k))) ?_
  show own_Go p e below s _ _ (T1.setTop (mkF m 8 #[rv a0, .unset, .unset] [(.long ((0 : Int64) <<< ((6 : Int32) &&& 0x3f).toInt64))]))
  rw [show ((0 : Int64) <<< ((6 : Int32) &&& 0x3f).toInt64) = (0 : Int64) from by decide]
  show own_Go p e below s _ _ (T1.setTop (mkF m 8 #[rv a0, .unset, .unset] [(.long 0)]))
  refine own_via (fun k => XS.aloadN X1.here hx rfl (hb hby d3_8) rfl rfl  k) ?_
  show own_Go p e below s _ _ (T1.setTop (mkF m 9 #[rv a0, .unset, .unset] [(.ref a0), (.long 0)]))
  obtain ⟨T2, X2, e2, st2⟩ := getF X1 hx hZ hown (host := "") (Or.inl (hw _ (List.mem_of_getElem? (i := 19) rfl))) Via.refl e1 P1 (g := (mkF m 9 #[rv a0, .unset, .unset] [(.ref a0), (.long 0)])) rfl rfl (hb hby d3_9)
  refine own_via (fun k => st2 _ k) ?_
  show own_Go p e below s _ _ (T2.setTop (mkF m 12 #[rv a0, .unset, .unset] [(.int 1), (.long 0)]))
  refine own_via (fun k => XS.i2l X2.here hx rfl (hb hby d3_12) rfl (XS.lor X2.here hx rfl (hb hby d3_13) rfl (XS.lstoreN X2.here hx rfl (hb hby d3_14) rfl (l' := #[rv a0, jv 1, .second]) rfl (XS.aloadN X2.here hx rfl (hb hby d3_15) rfl rfl  k)))) ?_
  show own_Go p e below s _ _ (T2.setTop (mkF m 16 #[rv a0, jv 1, .second] [(.ref a0)]))
  refine own_via (fun k => XS.dup X2.here hx rfl (hb hby d3_16) rfl rfl k) ?_
  show own_Go p e below s _ _ (T2.setTop (mkF m 17 #[rv a0, jv 1, .second] [(.ref a0), (.ref a0)]))
  obtain ⟨T3, X3, e3, st3⟩ := getF X2 hx hZ hown (host := "") (Or.inl (hw _ (List.mem_of_getElem? (i := 21) rfl))) Via.refl e2 P2 (g := (mkF m 17 #[rv a0, jv 1, .second] [(.ref a0), (.ref a0)])) rfl rfl (hb hby d3_17)
  refine own_via (fun k => st3 _ k) ?_
  show own_Go p e below s _ _ (T3.setTop (mkF m 20 #[rv a0, jv 1, .second] [(.int 1), (.ref a0)]))
  refine own_via (fun k => XS.iconst X3.here hx rfl (hb hby d3_20) (XS.iadd X3.here hx rfl (hb hby d3_21) rfl k)) ?_
  show own_Go p e below s _ _ (T3.setTop (mkF m 22 #[rv a0, jv 1, .second] [(.int 2), (.ref a0)]))
  obtain ⟨T4, h4, X4, e4, W4, st4⟩ := putF X3 hx hZ hown (host := "") (Or.inl (hw _ (List.mem_of_getElem? (i := 21) rfl))) Via.refl e3 P2 P9 (Or.inl (hw _ (List.mem_of_getElem? (i := 22) rfl))) (hw _ (List.mem_of_getElem? (i := 1) rfl)) (ty := .int) (by decide) rfl rfl (g := (mkF m 22 #[rv a0, jv 1, .second] [(.int 2), (.ref a0)])) rfl rfl (hb hby d3_22)
  refine own_via (fun k => st4 _ k) ?_
  show own_Go p e below s _ _ (T4.setTop (mkF m 25 #[rv a0, jv 1, .second] []))
  have B5 := P0.other W4 (Or.inr (slot_ne (Or.inl (hw _ (List.mem_of_getElem? (i := 18) rfl))) (Or.inl (hw _ (List.mem_of_getElem? (i := 22) rfl))) (by decide) (t := .int) (t' := .int) (by decide) (by decide)))
  have B6 := P1.other W4 (Or.inr (slot_ne (Or.inl (hw _ (List.mem_of_getElem? (i := 20) rfl))) (Or.inl (hw _ (List.mem_of_getElem? (i := 22) rfl))) (by decide) (t := .int) (t' := .int) (by decide) (by decide)))
  have B7 := P3.other W4 (Or.inr (slot_ne (Or.inl (hw _ (List.mem_of_getElem? (i := 28) rfl))) (Or.inl (hw _ (List.mem_of_getElem? (i := 22) rfl))) (by decide) (t := .long) (t' := .int) (by decide) (by decide)))
  have B8 := P4.other W4 (Or.inr (slot_ne (Or.inl (hw _ (List.mem_of_getElem? (i := 42) rfl))) (Or.inl (hw _ (List.mem_of_getElem? (i := 22) rfl))) (by decide) (t := .long) (t' := .int) (by decide) (by decide)))
  have B9 := P5.other W4 (Or.inr (slot_ne (Or.inl (hw _ (List.mem_of_getElem? (i := 49) rfl))) (Or.inl (hw _ (List.mem_of_getElem? (i := 22) rfl))) (by decide) (t := .int) (t' := .int) (by decide) (by decide)))
  have B10 := P6.other W4 (Or.inr (slot_ne (Or.inl (hw _ (List.mem_of_getElem? (i := 51) rfl))) (Or.inl (hw _ (List.mem_of_getElem? (i := 22) rfl))) (by decide) (t := .long) (t' := .int) (by decide) (by decide)))
  have B11 := P7.other W4 (Or.inr (slot_ne (Or.inl (hw _ (List.mem_of_getElem? (i := 53) rfl))) (Or.inl (hw _ (List.mem_of_getElem? (i := 22) rfl))) (by decide) (t := .int) (t' := .int) (by decide) (by decide)))
  have B12 := P8.other W4 (Or.inr (slot_ne (Or.inl (hw _ (List.mem_of_getElem? (i := 55) rfl))) (Or.inl (hw _ (List.mem_of_getElem? (i := 22) rfl))) (by decide) (t := .long) (t' := .int) (by decide) (by decide)))
  have B13 := P9.wr W4
  have B14 : Fld Z h4 a0 "com/example/tree_to_rows/treetorows/query/Outcomes" "waiting" "I" (.int 2) := P2.same W4
  have N15 := Fr.snoc X4 N0 ge0
  have K16 : Keep h0 h4 [a0] := K0.wr W4 (Or.inl (List.mem_of_getElem? (i := 0) rfl))
  have Z17 : n0 ≤ h4.size := Nat.le_trans Z0 (Keep.of_wr W4).1
  refine own_via (fun k => XS.aloadN X4.here hx rfl (hb hby d3_25) rfl rfl  k) ?_
  show own_Go p e below s _ _ (T4.setTop (mkF m 26 #[rv a0, jv 1, .second] [(.ref a0)]))
  obtain ⟨cq18, q18, q18'⟩ := B13.cell
  obtain ⟨_, _, ⟨T18, L18, k18, n18⟩, -, X18, ⟨Lc18, hQ18, l18, y18, z18⟩, st18⟩ := X4.privateBack hx (y := (⟨"com/example/tree_to_rows/treetorows/query/Outcomes", "take", "()V"⟩ : MethodName)) hown (mvT hZ (hw _ (List.mem_of_getElem? (i := 23) rfl))) (mvT hZ (hw _ (List.mem_of_getElem? (i := 24) rfl))) (own_selPriv (args' := #[]) (y' := (⟨"com/example/tree_to_rows/treetorows/query/Outcomes", "place", "()J"⟩ : MethodName)) (mvT hZ (hw _ (List.mem_of_getElem? (i := 15) rfl))) rfl (mvT hZ (hw _ (List.mem_of_getElem? (i := 24) rfl))) (Cond.privateMethod_at (mvP hZ (hw _ (List.mem_of_getElem? (i := 25) rfl)) (args := #[]))) (by decide)) (Cond.privateMethod_at (mvP hZ (hw _ (List.mem_of_getElem? (i := 25) rfl)) (args := #[]))) (mvT hZ (hw _ (List.mem_of_getElem? (i := 26) rfl))) (by decide) (backOf (W := 0) (rm4_1 l Z aw hw [] a0 (0 : Int32) (2 : Int32) v_current v_readWord v_readGroup v_readBit v_read h4 n0 Z17 B5 B6 B14 B7 B8 B9 B10 B11 B12 B13 ge0) hZ (hw _ (List.mem_of_getElem? (i := 26) rfl)) (hw _ (List.mem_of_getElem? (i := 2) rfl)) (by decide) (by decide)) (g := (mkF m 26 #[rv a0, jv 1, .second] [(.ref a0)])) rfl (by rw [hml]; rfl) (Steps.refl _) (a := a0) (by rw [e4]; exact q18) q18' (argsL := []) (rest := []) (lenOf pd_0 rfl) rfl (by show 2 * 0 + _ ≤ _; exact Nat.le_of_eq rfl) (hb hby d3_26) (fun _ _ => ⟨rfl, e4, (by decide : 0 + 0 ≤ _), (by decide : 0 + 0 ≤ _)⟩)
  dsimp only [Pt.U, Pt.locs, Pt.cells, Pt.slots] at X18 l18 y18 z18 st18 hQ18
  subst l18 y18 z18
  obtain ⟨rfl, N18q, K18, B19, B20, B21, B22, B23, B24, B25, B26, B27⟩ := hQ18
  have N28 := Fr.app N15 N18q
  have B29 := B13.keep K18
  have Z30 : n0 ≤ T18.heap.size := Nat.le_trans Z17 K18.1
  have K31 : Keep h0 T18.heap [a0] := K16.trans K18 (allS (Or.inl (List.mem_of_getElem? (i := 0) rfl)) all0)
  refine own_via (fun k => st18.trans k) ?_
  show own_Go p e below s _ _ (T18.setTop (mkF m 29 #[rv a0, jv 1, .second] []))
  refine own_via (fun k => XS.lloadN X18.here hx rfl (hb hby d3_29) rfl  k) ?_
  show own_Go p e below s _ _ (T18.setTop (mkF m 30 #[rv a0, jv 1, .second] [(.long 1)]))
  exact own_retL X18 hx hlk Bd.returns (hb hby d3_30) (Q := (Q3_1 Z a0 v_current v_readWord v_readGroup v_readBit v_read h0 n0)) ⟨rfl, N28, (K31), (B19), (B20), (B21), (B22), (B23), (B24), (B25), (B26), (B27)⟩ (by decide) (by decide)
theorem ef_3_2 (m : MethodId) (x0 : Addr) : entryFrame m #[(.ref x0)] 3 = mkF m 0 #[rv x0, .unset, .unset] [] := by first | (simp [entryFrame, mkF, argsToLocals, Value.category]; done) | rfl
def Q3_2 (Z : State) (a0 : Addr) (v_current : Int64) (v_readWord : Int32) (v_readGroup : Int64) (v_readBit : Int32) (v_read : Int64) (h0 : Heap) (n0 : Nat) (v : Option Value) (h : Heap) (L : List Loc) : Prop := v = some (.long 2) ∧ Fr n0 L ∧ Keep h0 h [a0] ∧ Fld Z h a0 "com/example/tree_to_rows/treetorows/query/Outcomes" "size" "I" (.int 0) ∧ Fld Z h a0 "com/example/tree_to_rows/treetorows/query/Outcomes" "used" "I" (.int 3) ∧ Fld Z h a0 "com/example/tree_to_rows/treetorows/query/Outcomes" "waiting" "I" (.int 3) ∧ Fld Z h a0 "com/example/tree_to_rows/treetorows/query/Outcomes" "bits" "J" (.long 3) ∧ Fld Z h a0 "com/example/tree_to_rows/treetorows/query/Outcomes" "current" "J" (.long v_current) ∧ Fld Z h a0 "com/example/tree_to_rows/treetorows/query/Outcomes" "readWord" "I" (.int v_readWord) ∧ Fld Z h a0 "com/example/tree_to_rows/treetorows/query/Outcomes" "readGroup" "J" (.long v_readGroup) ∧ Fld Z h a0 "com/example/tree_to_rows/treetorows/query/Outcomes" "readBit" "I" (.int v_readBit) ∧ Fld Z h a0 "com/example/tree_to_rows/treetorows/query/Outcomes" "read" "J" (.long v_read)
set_option maxRecDepth 65536 in
set_option maxHeartbeats 40000000 in
theorem rm3_2 (l : Launch) (Z : State) (aw : Array Value) (hw : ∀ d ∈ tables_1, d.before aw Z = true) (ws : List Jvm.Cond) (a0 : Addr) (v_current : Int64) (v_readWord : Int32) (v_readGroup : Int64) (v_readBit : Int32) (v_read : Int64) (h0 : Heap) (n0 : Nat) (Z0 : n0 ≤ h0.size) (P0 : Fld Z h0 a0 "com/example/tree_to_rows/treetorows/query/Outcomes" "size" "I" (.int 0)) (P1 : Fld Z h0 a0 "com/example/tree_to_rows/treetorows/query/Outcomes" "used" "I" (.int 2)) (P2 : Fld Z h0 a0 "com/example/tree_to_rows/treetorows/query/Outcomes" "waiting" "I" (.int 2)) (P3 : Fld Z h0 a0 "com/example/tree_to_rows/treetorows/query/Outcomes" "bits" "J" (.long 2)) (P4 : Fld Z h0 a0 "com/example/tree_to_rows/treetorows/query/Outcomes" "current" "J" (.long v_current)) (P5 : Fld Z h0 a0 "com/example/tree_to_rows/treetorows/query/Outcomes" "readWord" "I" (.int v_readWord)) (P6 : Fld Z h0 a0 "com/example/tree_to_rows/treetorows/query/Outcomes" "readGroup" "J" (.long v_readGroup)) (P7 : Fld Z h0 a0 "com/example/tree_to_rows/treetorows/query/Outcomes" "readBit" "I" (.int v_readBit)) (P8 : Fld Z h0 a0 "com/example/tree_to_rows/treetorows/query/Outcomes" "read" "J" (.long v_read)) (P9 : Exa Z h0 a0 "com/example/tree_to_rows/treetorows/query/Outcomes") (ge0 : n0 ≤ a0) :
    MetFree l (⟨"com/example/tree_to_rows/treetorows/query/Outcomes", "place", "()J"⟩ : MethodName) (head1 (Jvm.Cond.code (⟨"com/example/tree_to_rows/treetorows/query/Outcomes", "place", "()J"⟩ : MethodName) prog_24_method_2_code 3 (some .long) :: ws) ({ frames := 1, cells := 0, slots := 0, locals := 12 } : Room)) (fun a U => a = #[(.ref a0)] ∧ Z.Warmed39 U.vm ∧ U.heap = h0) (fun _ _ _ _ _ => True) (fun _ U o U' => ∃ v L, o = .returned v ∧ Q3_2 Z a0 v_current v_readWord v_readGroup v_readBit v_read h0 n0 v U'.heap L ∧ FrameEnd U o U' L ({ frames := 1, cells := 0, slots := 0, locals := 12 } : Room).cells ({ frames := 1, cells := 0, slots := 0, locals := 12 } : Room).slots) := by
  refine MetFree.of_bodySF (plainFor_of_name pn_3) hisR ?_
  intro p e s m args below meth c s₁ Bd hml0 hP hK
  obtain ⟨rfl, hZ, hh⟩ := hP
  have hx := Bd.exec
  have hby := Bd.bytes
  have hml : c.maxLocals = 3 := hml0
  have hown : s.vm.findClass "com/example/tree_to_rows/treetorows/query/Outcomes" = some m.cls := findClass_of_methodNamed Bd.named
  have hnm := (name_of_methodNamed Bd.named Bd.method).1
  have hlk : meth.locks = false := by first | exact BodyLoose.notSynchronized (by assumption) | exact Body.notSynchronized (by assumption)
  have X0 : Stand p l e ({ frames := 1, cells := 0, slots := 0, locals := 12 } : Room) s m #[(.ref a0)] below meth c s₁ [] 0 0 := Stand.of_body Bd
  have e0 : s₁.heap = h0 := by rw [← hh, Bd.state]; rfl
  have N0 := Fr.nil n0
  have K0 : Keep h0 h0 [a0] := Keep.refl _ _
  refine own_start (CS := (0, 0)) (Q := (Q3_2 Z a0 v_current v_readWord v_readGroup v_readBit v_read h0 n0)) (ef_3_2 m a0) ?_
  show own_Go p e below s _ _ (s₁.setTop (mkF m 0 #[rv a0, .unset, .unset] []))
  refine own_via (fun k => XS.aloadN X0.here hx rfl (hb hby d3_0) rfl rfl  k) ?_
  show own_Go p e below s _ _ (s₁.setTop (mkF m 1 #[rv a0, .unset, .unset] [(.ref a0)]))
  obtain ⟨T1, X1, e1, st1⟩ := getF X0 hx hZ hown (host := "") (Or.inl (hw _ (List.mem_of_getElem? (i := 17) rfl))) Via.refl e0 P0 (g := (mkF m 1 #[rv a0, .unset, .unset] [(.ref a0)])) rfl rfl (hb hby d3_1)
  refine own_via (fun k => st1 _ k) ?_
  show own_Go p e below s _ _ (T1.setTop (mkF m 4 #[rv a0, .unset, .unset] [(.int 0)]))
  refine own_via (fun k => XS.i2l X1.here hx rfl (hb hby d3_4) rfl (XS.bipush X1.here hx rfl (hb hby d3_5) (XS.lshl X1.here hx rfl (hb hby d3_7) rfl k))) ?_
  show own_Go p e below s _ _ (T1.setTop (mkF m 8 #[rv a0, .unset, .unset] [(.long ((0 : Int64) <<< ((6 : Int32) &&& 0x3f).toInt64))]))
  rw [show ((0 : Int64) <<< ((6 : Int32) &&& 0x3f).toInt64) = (0 : Int64) from by decide]
  show own_Go p e below s _ _ (T1.setTop (mkF m 8 #[rv a0, .unset, .unset] [(.long 0)]))
  refine own_via (fun k => XS.aloadN X1.here hx rfl (hb hby d3_8) rfl rfl  k) ?_
  show own_Go p e below s _ _ (T1.setTop (mkF m 9 #[rv a0, .unset, .unset] [(.ref a0), (.long 0)]))
  obtain ⟨T2, X2, e2, st2⟩ := getF X1 hx hZ hown (host := "") (Or.inl (hw _ (List.mem_of_getElem? (i := 19) rfl))) Via.refl e1 P1 (g := (mkF m 9 #[rv a0, .unset, .unset] [(.ref a0), (.long 0)])) rfl rfl (hb hby d3_9)
  refine own_via (fun k => st2 _ k) ?_
  show own_Go p e below s _ _ (T2.setTop (mkF m 12 #[rv a0, .unset, .unset] [(.int 2), (.long 0)]))
  refine own_via (fun k => XS.i2l X2.here hx rfl (hb hby d3_12) rfl (XS.lor X2.here hx rfl (hb hby d3_13) rfl (XS.lstoreN X2.here hx rfl (hb hby d3_14) rfl (l' := #[rv a0, jv 2, .second]) rfl (XS.aloadN X2.here hx rfl (hb hby d3_15) rfl rfl  k)))) ?_
  show own_Go p e below s _ _ (T2.setTop (mkF m 16 #[rv a0, jv 2, .second] [(.ref a0)]))
  refine own_via (fun k => XS.dup X2.here hx rfl (hb hby d3_16) rfl rfl k) ?_
  show own_Go p e below s _ _ (T2.setTop (mkF m 17 #[rv a0, jv 2, .second] [(.ref a0), (.ref a0)]))
  obtain ⟨T3, X3, e3, st3⟩ := getF X2 hx hZ hown (host := "") (Or.inl (hw _ (List.mem_of_getElem? (i := 21) rfl))) Via.refl e2 P2 (g := (mkF m 17 #[rv a0, jv 2, .second] [(.ref a0), (.ref a0)])) rfl rfl (hb hby d3_17)
  refine own_via (fun k => st3 _ k) ?_
  show own_Go p e below s _ _ (T3.setTop (mkF m 20 #[rv a0, jv 2, .second] [(.int 2), (.ref a0)]))
  refine own_via (fun k => XS.iconst X3.here hx rfl (hb hby d3_20) (XS.iadd X3.here hx rfl (hb hby d3_21) rfl k)) ?_
  show own_Go p e below s _ _ (T3.setTop (mkF m 22 #[rv a0, jv 2, .second] [(.int 3), (.ref a0)]))
  obtain ⟨T4, h4, X4, e4, W4, st4⟩ := putF X3 hx hZ hown (host := "") (Or.inl (hw _ (List.mem_of_getElem? (i := 21) rfl))) Via.refl e3 P2 P9 (Or.inl (hw _ (List.mem_of_getElem? (i := 22) rfl))) (hw _ (List.mem_of_getElem? (i := 1) rfl)) (ty := .int) (by decide) rfl rfl (g := (mkF m 22 #[rv a0, jv 2, .second] [(.int 3), (.ref a0)])) rfl rfl (hb hby d3_22)
  refine own_via (fun k => st4 _ k) ?_
  show own_Go p e below s _ _ (T4.setTop (mkF m 25 #[rv a0, jv 2, .second] []))
  have B5 := P0.other W4 (Or.inr (slot_ne (Or.inl (hw _ (List.mem_of_getElem? (i := 18) rfl))) (Or.inl (hw _ (List.mem_of_getElem? (i := 22) rfl))) (by decide) (t := .int) (t' := .int) (by decide) (by decide)))
  have B6 := P1.other W4 (Or.inr (slot_ne (Or.inl (hw _ (List.mem_of_getElem? (i := 20) rfl))) (Or.inl (hw _ (List.mem_of_getElem? (i := 22) rfl))) (by decide) (t := .int) (t' := .int) (by decide) (by decide)))
  have B7 := P3.other W4 (Or.inr (slot_ne (Or.inl (hw _ (List.mem_of_getElem? (i := 28) rfl))) (Or.inl (hw _ (List.mem_of_getElem? (i := 22) rfl))) (by decide) (t := .long) (t' := .int) (by decide) (by decide)))
  have B8 := P4.other W4 (Or.inr (slot_ne (Or.inl (hw _ (List.mem_of_getElem? (i := 42) rfl))) (Or.inl (hw _ (List.mem_of_getElem? (i := 22) rfl))) (by decide) (t := .long) (t' := .int) (by decide) (by decide)))
  have B9 := P5.other W4 (Or.inr (slot_ne (Or.inl (hw _ (List.mem_of_getElem? (i := 49) rfl))) (Or.inl (hw _ (List.mem_of_getElem? (i := 22) rfl))) (by decide) (t := .int) (t' := .int) (by decide) (by decide)))
  have B10 := P6.other W4 (Or.inr (slot_ne (Or.inl (hw _ (List.mem_of_getElem? (i := 51) rfl))) (Or.inl (hw _ (List.mem_of_getElem? (i := 22) rfl))) (by decide) (t := .long) (t' := .int) (by decide) (by decide)))
  have B11 := P7.other W4 (Or.inr (slot_ne (Or.inl (hw _ (List.mem_of_getElem? (i := 53) rfl))) (Or.inl (hw _ (List.mem_of_getElem? (i := 22) rfl))) (by decide) (t := .int) (t' := .int) (by decide) (by decide)))
  have B12 := P8.other W4 (Or.inr (slot_ne (Or.inl (hw _ (List.mem_of_getElem? (i := 55) rfl))) (Or.inl (hw _ (List.mem_of_getElem? (i := 22) rfl))) (by decide) (t := .long) (t' := .int) (by decide) (by decide)))
  have B13 := P9.wr W4
  have B14 : Fld Z h4 a0 "com/example/tree_to_rows/treetorows/query/Outcomes" "waiting" "I" (.int 3) := P2.same W4
  have N15 := Fr.snoc X4 N0 ge0
  have K16 : Keep h0 h4 [a0] := K0.wr W4 (Or.inl (List.mem_of_getElem? (i := 0) rfl))
  have Z17 : n0 ≤ h4.size := Nat.le_trans Z0 (Keep.of_wr W4).1
  refine own_via (fun k => XS.aloadN X4.here hx rfl (hb hby d3_25) rfl rfl  k) ?_
  show own_Go p e below s _ _ (T4.setTop (mkF m 26 #[rv a0, jv 2, .second] [(.ref a0)]))
  obtain ⟨cq18, q18, q18'⟩ := B13.cell
  obtain ⟨_, _, ⟨T18, L18, k18, n18⟩, -, X18, ⟨Lc18, hQ18, l18, y18, z18⟩, st18⟩ := X4.privateBack hx (y := (⟨"com/example/tree_to_rows/treetorows/query/Outcomes", "take", "()V"⟩ : MethodName)) hown (mvT hZ (hw _ (List.mem_of_getElem? (i := 23) rfl))) (mvT hZ (hw _ (List.mem_of_getElem? (i := 24) rfl))) (own_selPriv (args' := #[]) (y' := (⟨"com/example/tree_to_rows/treetorows/query/Outcomes", "place", "()J"⟩ : MethodName)) (mvT hZ (hw _ (List.mem_of_getElem? (i := 15) rfl))) rfl (mvT hZ (hw _ (List.mem_of_getElem? (i := 24) rfl))) (Cond.privateMethod_at (mvP hZ (hw _ (List.mem_of_getElem? (i := 25) rfl)) (args := #[]))) (by decide)) (Cond.privateMethod_at (mvP hZ (hw _ (List.mem_of_getElem? (i := 25) rfl)) (args := #[]))) (mvT hZ (hw _ (List.mem_of_getElem? (i := 26) rfl))) (by decide) (backOf (W := 0) (rm4_2 l Z aw hw [] a0 (0 : Int32) (3 : Int32) v_current v_readWord v_readGroup v_readBit v_read h4 n0 Z17 B5 B6 B14 B7 B8 B9 B10 B11 B12 B13 ge0) hZ (hw _ (List.mem_of_getElem? (i := 26) rfl)) (hw _ (List.mem_of_getElem? (i := 2) rfl)) (by decide) (by decide)) (g := (mkF m 26 #[rv a0, jv 2, .second] [(.ref a0)])) rfl (by rw [hml]; rfl) (Steps.refl _) (a := a0) (by rw [e4]; exact q18) q18' (argsL := []) (rest := []) (lenOf pd_0 rfl) rfl (by show 2 * 0 + _ ≤ _; exact Nat.le_of_eq rfl) (hb hby d3_26) (fun _ _ => ⟨rfl, e4, (by decide : 0 + 0 ≤ _), (by decide : 0 + 0 ≤ _)⟩)
  dsimp only [Pt.U, Pt.locs, Pt.cells, Pt.slots] at X18 l18 y18 z18 st18 hQ18
  subst l18 y18 z18
  obtain ⟨rfl, N18q, K18, B19, B20, B21, B22, B23, B24, B25, B26, B27⟩ := hQ18
  have N28 := Fr.app N15 N18q
  have B29 := B13.keep K18
  have Z30 : n0 ≤ T18.heap.size := Nat.le_trans Z17 K18.1
  have K31 : Keep h0 T18.heap [a0] := K16.trans K18 (allS (Or.inl (List.mem_of_getElem? (i := 0) rfl)) all0)
  refine own_via (fun k => st18.trans k) ?_
  show own_Go p e below s _ _ (T18.setTop (mkF m 29 #[rv a0, jv 2, .second] []))
  refine own_via (fun k => XS.lloadN X18.here hx rfl (hb hby d3_29) rfl  k) ?_
  show own_Go p e below s _ _ (T18.setTop (mkF m 30 #[rv a0, jv 2, .second] [(.long 2)]))
  exact own_retL X18 hx hlk Bd.returns (hb hby d3_30) (Q := (Q3_2 Z a0 v_current v_readWord v_readGroup v_readBit v_read h0 n0)) ⟨rfl, N28, (K31), (B19), (B20), (B21), (B22), (B23), (B24), (B25), (B26), (B27)⟩ (by decide) (by decide)
theorem d6_0 : decode prog_24_method_3_code 0 = .ok (.lload_n 1, 1) := by decide +kernel
theorem d6_1 : decode prog_24_method_3_code 1 = .ok (.bipush 6, 2) := by decide +kernel
theorem d6_3 : decode prog_24_method_3_code 3 = .ok (.lushr, 1) := by decide +kernel
theorem d6_4 : decode prog_24_method_3_code 4 = .ok (.l2i, 1) := by decide +kernel
theorem d6_5 : decode prog_24_method_3_code 5 = .ok (.istore 4, 2) := by decide +kernel
theorem d6_7 : decode prog_24_method_3_code 7 = .ok (.lconst 1, 1) := by decide +kernel
theorem d6_8 : decode prog_24_method_3_code 8 = .ok (.lload_n 1, 1) := by decide +kernel
theorem d6_9 : decode prog_24_method_3_code 9 = .ok (.ldc2_w 26, 3) := by decide +kernel
theorem d6_12 : decode prog_24_method_3_code 12 = .ok (.land, 1) := by decide +kernel
theorem d6_13 : decode prog_24_method_3_code 13 = .ok (.l2i, 1) := by decide +kernel
theorem d6_14 : decode prog_24_method_3_code 14 = .ok (.lshl, 1) := by decide +kernel
theorem d6_15 : decode prog_24_method_3_code 15 = .ok (.lstore 5, 2) := by decide +kernel
theorem d6_17 : decode prog_24_method_3_code 17 = .ok (.iload 4, 2) := by decide +kernel
theorem d6_19 : decode prog_24_method_3_code 19 = .ok (.aload_n 0, 1) := by decide +kernel
theorem d6_20 : decode prog_24_method_3_code 20 = .ok (.getfield 13, 3) := by decide +kernel
theorem d6_23 : decode prog_24_method_3_code 23 = .ok (.if_icmp .ne 31, 3) := by decide +kernel
theorem d6_26 : decode prog_24_method_3_code 26 = .ok (.iload_n 3, 1) := by decide +kernel
theorem d6_27 : decode prog_24_method_3_code 27 = .ok (.ifCond .eq 14, 3) := by decide +kernel
theorem d6_30 : decode prog_24_method_3_code 30 = .ok (.aload_n 0, 1) := by decide +kernel
theorem d6_31 : decode prog_24_method_3_code 31 = .ok (.dup, 1) := by decide +kernel
theorem d6_32 : decode prog_24_method_3_code 32 = .ok (.getfield 28, 3) := by decide +kernel
theorem d6_35 : decode prog_24_method_3_code 35 = .ok (.lload 5, 2) := by decide +kernel
theorem d6_37 : decode prog_24_method_3_code 37 = .ok (.lor, 1) := by decide +kernel
theorem d6_38 : decode prog_24_method_3_code 38 = .ok (.putfield 28, 3) := by decide +kernel
theorem d6_41 : decode prog_24_method_3_code 41 = .ok (.aload_n 0, 1) := by decide +kernel
theorem d6_42 : decode prog_24_method_3_code 42 = .ok (.dup, 1) := by decide +kernel
theorem d6_43 : decode prog_24_method_3_code 43 = .ok (.getfield 20, 3) := by decide +kernel
theorem d6_46 : decode prog_24_method_3_code 46 = .ok (.iconst 1, 1) := by decide +kernel
theorem d6_47 : decode prog_24_method_3_code 47 = .ok (.isub, 1) := by decide +kernel
theorem d6_48 : decode prog_24_method_3_code 48 = .ok (.putfield 20, 3) := by decide +kernel
theorem d6_51 : decode prog_24_method_3_code 51 = .ok (.goto 19, 3) := by decide +kernel
theorem d6_70 : decode prog_24_method_3_code 70 = .ok (.return_, 1) := by decide +kernel
theorem pn_6 : plainName "com/example/tree_to_rows/treetorows/query/Outcomes" = true := by first | (simp [plainName, overriddenIn]; done) | decide +kernel
theorem ef_6_0 (m : MethodId) (x0 : Addr) (x1 : Int64) (x2 : Int32) : entryFrame m #[(.ref x0), (.long x1), (.int x2)] 7 = mkF m 0 #[rv x0, jv x1, .second, iv x2, .unset, .unset, .unset] [] := by first | (simp [entryFrame, mkF, argsToLocals, Value.category]; done) | rfl
def own_f6_0c (p2 : Int32) (cc : Int64) : Int64 := (if p2 = (0 : Int32) then cc else (cc ||| (1 : Int64)))
def Q6_0 (Z : State) (a0 : Addr) (p2 : Int32) (v_used : Int32) (cw : Int32) (v_bits : Int64) (cc : Int64) (v_readWord : Int32) (v_readGroup : Int64) (v_readBit : Int32) (v_read : Int64) (h0 : Heap) (n0 : Nat) (v : Option Value) (h : Heap) (L : List Loc) : Prop := v = none ∧ Fr n0 L ∧ Keep h0 h [a0] ∧ Fld Z h a0 "com/example/tree_to_rows/treetorows/query/Outcomes" "size" "I" (.int 0) ∧ Fld Z h a0 "com/example/tree_to_rows/treetorows/query/Outcomes" "used" "I" (.int v_used) ∧ Fld Z h a0 "com/example/tree_to_rows/treetorows/query/Outcomes" "waiting" "I" (.int (cw - (1 : Int32))) ∧ Fld Z h a0 "com/example/tree_to_rows/treetorows/query/Outcomes" "bits" "J" (.long v_bits) ∧ Fld Z h a0 "com/example/tree_to_rows/treetorows/query/Outcomes" "current" "J" (.long (own_f6_0c p2 cc)) ∧ Fld Z h a0 "com/example/tree_to_rows/treetorows/query/Outcomes" "readWord" "I" (.int v_readWord) ∧ Fld Z h a0 "com/example/tree_to_rows/treetorows/query/Outcomes" "readGroup" "J" (.long v_readGroup) ∧ Fld Z h a0 "com/example/tree_to_rows/treetorows/query/Outcomes" "readBit" "I" (.int v_readBit) ∧ Fld Z h a0 "com/example/tree_to_rows/treetorows/query/Outcomes" "read" "J" (.long v_read)
set_option maxRecDepth 65536 in
set_option maxHeartbeats 40000000 in
theorem rm6_0 (l : Launch) (Z : State) (aw : Array Value) (hw : ∀ d ∈ tables_1, d.before aw Z = true) (ws : List Jvm.Cond) (a0 : Addr) (p2 : Int32) (v_used : Int32) (cw : Int32) (v_bits : Int64) (cc : Int64) (v_readWord : Int32) (v_readGroup : Int64) (v_readBit : Int32) (v_read : Int64) (h0 : Heap) (n0 : Nat) (Z0 : n0 ≤ h0.size) (P0 : Fld Z h0 a0 "com/example/tree_to_rows/treetorows/query/Outcomes" "size" "I" (.int 0)) (P1 : Fld Z h0 a0 "com/example/tree_to_rows/treetorows/query/Outcomes" "used" "I" (.int v_used)) (P2 : Fld Z h0 a0 "com/example/tree_to_rows/treetorows/query/Outcomes" "waiting" "I" (.int cw)) (P3 : Fld Z h0 a0 "com/example/tree_to_rows/treetorows/query/Outcomes" "bits" "J" (.long v_bits)) (P4 : Fld Z h0 a0 "com/example/tree_to_rows/treetorows/query/Outcomes" "current" "J" (.long cc)) (P5 : Fld Z h0 a0 "com/example/tree_to_rows/treetorows/query/Outcomes" "readWord" "I" (.int v_readWord)) (P6 : Fld Z h0 a0 "com/example/tree_to_rows/treetorows/query/Outcomes" "readGroup" "J" (.long v_readGroup)) (P7 : Fld Z h0 a0 "com/example/tree_to_rows/treetorows/query/Outcomes" "readBit" "I" (.int v_readBit)) (P8 : Fld Z h0 a0 "com/example/tree_to_rows/treetorows/query/Outcomes" "read" "J" (.long v_read)) (P9 : Exa Z h0 a0 "com/example/tree_to_rows/treetorows/query/Outcomes") (ge0 : n0 ≤ a0) :
    MetFree l (⟨"com/example/tree_to_rows/treetorows/query/Outcomes", "set", "(JZ)V"⟩ : MethodName) (head1 (Jvm.Cond.code (⟨"com/example/tree_to_rows/treetorows/query/Outcomes", "set", "(JZ)V"⟩ : MethodName) prog_24_method_3_code 7 none :: ws) ({ frames := 0, cells := 0, slots := 0, locals := 0 } : Room)) (fun a U => a = #[(.ref a0), (.long 0), (.int p2)] ∧ Z.Warmed39 U.vm ∧ U.heap = h0) (fun _ _ _ _ _ => True) (fun _ U o U' => ∃ v L, o = .returned v ∧ Q6_0 Z a0 p2 v_used cw v_bits cc v_readWord v_readGroup v_readBit v_read h0 n0 v U'.heap L ∧ FrameEnd U o U' L ({ frames := 0, cells := 0, slots := 0, locals := 0 } : Room).cells ({ frames := 0, cells := 0, slots := 0, locals := 0 } : Room).slots) := by
  refine MetFree.of_bodySF (plainFor_of_name pn_6) hisR ?_
  intro p e s m args below meth c s₁ Bd hml0 hP hK
  obtain ⟨rfl, hZ, hh⟩ := hP
  have hx := Bd.exec
  have hby := Bd.bytes
  have hml : c.maxLocals = 7 := hml0
  have hown : s.vm.findClass "com/example/tree_to_rows/treetorows/query/Outcomes" = some m.cls := findClass_of_methodNamed Bd.named
  have hnm := (name_of_methodNamed Bd.named Bd.method).1
  have hlk : meth.locks = false := by first | exact BodyLoose.notSynchronized (by assumption) | exact Body.notSynchronized (by assumption)
  have X0 : Stand p l e ({ frames := 0, cells := 0, slots := 0, locals := 0 } : Room) s m #[(.ref a0), (.long 0), (.int p2)] below meth c s₁ [] 0 0 := Stand.of_body Bd
  have e0 : s₁.heap = h0 := by rw [← hh, Bd.state]; rfl
  have N0 := Fr.nil n0
  have K0 : Keep h0 h0 [a0] := Keep.refl _ _
  refine own_start (CS := (0, 0)) (Q := (Q6_0 Z a0 p2 v_used cw v_bits cc v_readWord v_readGroup v_readBit v_read h0 n0)) (ef_6_0 m a0 (0 : Int64) p2) ?_
  show own_Go p e below s _ _ (s₁.setTop (mkF m 0 #[rv a0, jv 0, .second, iv p2, .unset, .unset, .unset] []))
  refine own_via (fun k => XS.lloadN X0.here hx rfl (hb hby d6_0) rfl  (XS.bipush X0.here hx rfl (hb hby d6_1) (XS.lushr X0.here hx rfl (hb hby d6_3) rfl k))) ?_
  show own_Go p e below s _ _ (s₁.setTop (mkF m 4 #[rv a0, jv 0, .second, iv p2, .unset, .unset, .unset] [(.long (((0 : Int64).toUInt64 >>> ((6 : Int32) &&& 0x3f).toInt64.toUInt64).toInt64))]))
  rw [show (((0 : Int64).toUInt64 >>> ((6 : Int32) &&& 0x3f).toInt64.toUInt64).toInt64) = (0 : Int64) from by decide]
  show own_Go p e below s _ _ (s₁.setTop (mkF m 4 #[rv a0, jv 0, .second, iv p2, .unset, .unset, .unset] [(.long 0)]))
  refine own_via (fun k => XS.l2i X0.here hx rfl (hb hby d6_4) rfl (XS.istore X0.here hx rfl (hb hby d6_5) rfl (l' := #[rv a0, jv 0, .second, iv p2, iv 0, .unset, .unset]) rfl (XS.lconst X0.here hx rfl (hb hby d6_7) (XS.lloadN X0.here hx rfl (hb hby d6_8) rfl  k)))) ?_
  show own_Go p e below s _ _ (s₁.setTop (mkF m 9 #[rv a0, jv 0, .second, iv p2, iv 0, .unset, .unset] [(.long 0), (.long 1)]))
  refine own_via (fun k => X0.ldc2Long hx hown (mvT hZ (hw _ (List.mem_of_getElem? (i := 40) rfl))) (g := (mkF m 9 #[rv a0, jv 0, .second, iv p2, iv 0, .unset, .unset] [(.long 0), (.long 1)])) rfl (hb hby d6_9) _ (XS.land X0.here hx rfl (hb hby d6_12) rfl (XS.l2i X0.here hx rfl (hb hby d6_13) rfl (XS.lshl X0.here hx rfl (hb hby d6_14) rfl k)))) ?_
  show own_Go p e below s _ _ (s₁.setTop (mkF m 15 #[rv a0, jv 0, .second, iv p2, iv 0, .unset, .unset] [(.long ((1 : Int64) <<< ((0 : Int32) &&& 0x3f).toInt64))]))
  rw [show ((1 : Int64) <<< ((0 : Int32) &&& 0x3f).toInt64) = (1 : Int64) from by decide]
  show own_Go p e below s _ _ (s₁.setTop (mkF m 15 #[rv a0, jv 0, .second, iv p2, iv 0, .unset, .unset] [(.long 1)]))
  refine own_via (fun k => XS.lstore X0.here hx rfl (hb hby d6_15) rfl (l' := #[rv a0, jv 0, .second, iv p2, iv 0, jv 1, .second]) rfl (XS.iload X0.here hx rfl (hb hby d6_17) rfl  (XS.aloadN X0.here hx rfl (hb hby d6_19) rfl rfl  k))) ?_
  show own_Go p e below s _ _ (s₁.setTop (mkF m 20 #[rv a0, jv 0, .second, iv p2, iv 0, jv 1, .second] [(.ref a0), (.int 0)]))
  obtain ⟨T1, X1, e1, st1⟩ := getF X0 hx hZ hown (host := "") (Or.inl (hw _ (List.mem_of_getElem? (i := 17) rfl))) Via.refl e0 P0 (g := (mkF m 20 #[rv a0, jv 0, .second, iv p2, iv 0, jv 1, .second] [(.ref a0), (.int 0)])) rfl rfl (hb hby d6_20)
  refine own_via (fun k => st1 _ k) ?_
  show own_Go p e below s _ _ (T1.setTop (mkF m 23 #[rv a0, jv 0, .second, iv p2, iv 0, jv 1, .second] [(.int 0), (.int 0)]))
  refine own_via (fun k => XS.icmpNo X1.here hx rfl (hb hby d6_23) rfl (by decide) k) ?_
  show own_Go p e below s _ _ (T1.setTop (mkF m 26 #[rv a0, jv 0, .second, iv p2, iv 0, jv 1, .second] []))
  refine own_via (fun k => XS.iloadN X1.here hx rfl (hb hby d6_26) rfl  k) ?_
  show own_Go p e below s _ _ (T1.setTop (mkF m 27 #[rv a0, jv 0, .second, iv p2, iv 0, jv 1, .second] [(.int p2)]))
  by_cases hc2 : p2 = (0 : Int32)
  · refine own_via (fun k => XS.ifYes X1.here hx rfl (pc0 := 27) (pc' := 41) rfl (hb hby d6_27) rfl ((if0 _ _).trans (teq hc2).1) (by decide) (by decide) k) ?_
    show own_Go p e below s _ _ (T1.setTop (mkF m 41 #[rv a0, jv 0, .second, iv p2, iv 0, jv 1, .second] []))
    refine own_via (fun k => XS.aloadN X1.here hx rfl (hb hby d6_41) rfl rfl  (XS.dup X1.here hx rfl (hb hby d6_42) rfl rfl k)) ?_
    show own_Go p e below s _ _ (T1.setTop (mkF m 43 #[rv a0, jv 0, .second, iv p2, iv 0, jv 1, .second] [(.ref a0), (.ref a0)]))
    obtain ⟨T3, X3, e3, st3⟩ := getF X1 hx hZ hown (host := "") (Or.inl (hw _ (List.mem_of_getElem? (i := 21) rfl))) Via.refl e1 P2 (g := (mkF m 43 #[rv a0, jv 0, .second, iv p2, iv 0, jv 1, .second] [(.ref a0), (.ref a0)])) rfl rfl (hb hby d6_43)
    refine own_via (fun k => st3 _ k) ?_
    show own_Go p e below s _ _ (T3.setTop (mkF m 46 #[rv a0, jv 0, .second, iv p2, iv 0, jv 1, .second] [(.int cw), (.ref a0)]))
    refine own_via (fun k => XS.iconst X3.here hx rfl (hb hby d6_46) (XS.isub X3.here hx rfl (hb hby d6_47) rfl k)) ?_
    show own_Go p e below s _ _ (T3.setTop (mkF m 48 #[rv a0, jv 0, .second, iv p2, iv 0, jv 1, .second] [(.int (cw - (1 : Int32))), (.ref a0)]))
    obtain ⟨T4, h4, X4, e4, W4, st4⟩ := putF X3 hx hZ hown (host := "") (Or.inl (hw _ (List.mem_of_getElem? (i := 21) rfl))) Via.refl e3 P2 P9 (Or.inl (hw _ (List.mem_of_getElem? (i := 22) rfl))) (hw _ (List.mem_of_getElem? (i := 1) rfl)) (ty := .int) (by decide) rfl rfl (g := (mkF m 48 #[rv a0, jv 0, .second, iv p2, iv 0, jv 1, .second] [(.int (cw - (1 : Int32))), (.ref a0)])) rfl rfl (hb hby d6_48)
    refine own_via (fun k => st4 _ k) ?_
    show own_Go p e below s _ _ (T4.setTop (mkF m 51 #[rv a0, jv 0, .second, iv p2, iv 0, jv 1, .second] []))
    have B5 := P0.other W4 (Or.inr (slot_ne (Or.inl (hw _ (List.mem_of_getElem? (i := 18) rfl))) (Or.inl (hw _ (List.mem_of_getElem? (i := 22) rfl))) (by decide) (t := .int) (t' := .int) (by decide) (by decide)))
    have B6 := P1.other W4 (Or.inr (slot_ne (Or.inl (hw _ (List.mem_of_getElem? (i := 20) rfl))) (Or.inl (hw _ (List.mem_of_getElem? (i := 22) rfl))) (by decide) (t := .int) (t' := .int) (by decide) (by decide)))
    have B7 := P3.other W4 (Or.inr (slot_ne (Or.inl (hw _ (List.mem_of_getElem? (i := 28) rfl))) (Or.inl (hw _ (List.mem_of_getElem? (i := 22) rfl))) (by decide) (t := .long) (t' := .int) (by decide) (by decide)))
    have B8 := P4.other W4 (Or.inr (slot_ne (Or.inl (hw _ (List.mem_of_getElem? (i := 42) rfl))) (Or.inl (hw _ (List.mem_of_getElem? (i := 22) rfl))) (by decide) (t := .long) (t' := .int) (by decide) (by decide)))
    have B9 := P5.other W4 (Or.inr (slot_ne (Or.inl (hw _ (List.mem_of_getElem? (i := 49) rfl))) (Or.inl (hw _ (List.mem_of_getElem? (i := 22) rfl))) (by decide) (t := .int) (t' := .int) (by decide) (by decide)))
    have B10 := P6.other W4 (Or.inr (slot_ne (Or.inl (hw _ (List.mem_of_getElem? (i := 51) rfl))) (Or.inl (hw _ (List.mem_of_getElem? (i := 22) rfl))) (by decide) (t := .long) (t' := .int) (by decide) (by decide)))
    have B11 := P7.other W4 (Or.inr (slot_ne (Or.inl (hw _ (List.mem_of_getElem? (i := 53) rfl))) (Or.inl (hw _ (List.mem_of_getElem? (i := 22) rfl))) (by decide) (t := .int) (t' := .int) (by decide) (by decide)))
    have B12 := P8.other W4 (Or.inr (slot_ne (Or.inl (hw _ (List.mem_of_getElem? (i := 55) rfl))) (Or.inl (hw _ (List.mem_of_getElem? (i := 22) rfl))) (by decide) (t := .long) (t' := .int) (by decide) (by decide)))
    have B13 := P9.wr W4
    have B14 : Fld Z h4 a0 "com/example/tree_to_rows/treetorows/query/Outcomes" "waiting" "I" (.int (cw - (1 : Int32))) := P2.same W4
    have N15 := Fr.snoc X4 N0 ge0
    have K16 : Keep h0 h4 [a0] := K0.wr W4 (Or.inl (List.mem_of_getElem? (i := 0) rfl))
    have Z17 : n0 ≤ h4.size := Nat.le_trans Z0 (Keep.of_wr W4).1
    refine own_via (fun k => XS.goto X4.here hx rfl (pc0 := 51) (pc' := 70) rfl (hb hby d6_51) (by decide) (by decide) k) ?_
    show own_Go p e below s _ _ (T4.setTop (mkF m 70 #[rv a0, jv 0, .second, iv p2, iv 0, jv 1, .second] []))
    exact own_ret0 X4 hx hlk Bd.returns (hb hby d6_70) (Q := (Q6_0 Z a0 p2 v_used cw v_bits cc v_readWord v_readGroup v_readBit v_read h0 n0)) ⟨rfl, N15, (by rw [e4]; exact K16), (by rw [e4]; exact B5), (by rw [e4]; exact B6), (by rw [e4]; exact B14), (by rw [e4]; exact B7), (by rw [e4]; exact own_fldJ (show cc = (own_f6_0c p2 cc) from (by unfold own_f6_0c; exact ((if_pos hc2).trans rfl).symm)) B8), (by rw [e4]; exact B9), (by rw [e4]; exact B10), (by rw [e4]; exact B11), (by rw [e4]; exact B12)⟩ (by decide) (by decide)
  · refine own_via (fun k => XS.ifNo X1.here hx rfl (hb hby d6_27) rfl ((if0 _ _).trans (feq hc2).1) k) ?_
    show own_Go p e below s _ _ (T1.setTop (mkF m 30 #[rv a0, jv 0, .second, iv p2, iv 0, jv 1, .second] []))
    refine own_via (fun k => XS.aloadN X1.here hx rfl (hb hby d6_30) rfl rfl  (XS.dup X1.here hx rfl (hb hby d6_31) rfl rfl k)) ?_
    show own_Go p e below s _ _ (T1.setTop (mkF m 32 #[rv a0, jv 0, .second, iv p2, iv 0, jv 1, .second] [(.ref a0), (.ref a0)]))
    obtain ⟨T18, X18, e18, st18⟩ := getF X1 hx hZ hown (host := "") (Or.inl (hw _ (List.mem_of_getElem? (i := 41) rfl))) Via.refl e1 P4 (g := (mkF m 32 #[rv a0, jv 0, .second, iv p2, iv 0, jv 1, .second] [(.ref a0), (.ref a0)])) rfl rfl (hb hby d6_32)
    refine own_via (fun k => st18 _ k) ?_
    show own_Go p e below s _ _ (T18.setTop (mkF m 35 #[rv a0, jv 0, .second, iv p2, iv 0, jv 1, .second] [(.long cc), (.ref a0)]))
    refine own_via (fun k => XS.lload X18.here hx rfl (hb hby d6_35) rfl  (XS.lor X18.here hx rfl (hb hby d6_37) rfl k)) ?_
    show own_Go p e below s _ _ (T18.setTop (mkF m 38 #[rv a0, jv 0, .second, iv p2, iv 0, jv 1, .second] [(.long (cc ||| (1 : Int64))), (.ref a0)]))
    obtain ⟨T19, h19, X19, e19, W19, st19⟩ := putF X18 hx hZ hown (host := "") (Or.inl (hw _ (List.mem_of_getElem? (i := 41) rfl))) Via.refl e18 P4 P9 (Or.inl (hw _ (List.mem_of_getElem? (i := 42) rfl))) (hw _ (List.mem_of_getElem? (i := 1) rfl)) (ty := .long) (by decide) rfl rfl (g := (mkF m 38 #[rv a0, jv 0, .second, iv p2, iv 0, jv 1, .second] [(.long (cc ||| (1 : Int64))), (.ref a0)])) rfl rfl (hb hby d6_38)
    refine own_via (fun k => st19 _ k) ?_
    show own_Go p e below s _ _ (T19.setTop (mkF m 41 #[rv a0, jv 0, .second, iv p2, iv 0, jv 1, .second] []))
    have B20 := P0.other W19 (Or.inr (slot_ne (Or.inl (hw _ (List.mem_of_getElem? (i := 18) rfl))) (Or.inl (hw _ (List.mem_of_getElem? (i := 42) rfl))) (by decide) (t := .int) (t' := .long) (by decide) (by decide)))
    have B21 := P1.other W19 (Or.inr (slot_ne (Or.inl (hw _ (List.mem_of_getElem? (i := 20) rfl))) (Or.inl (hw _ (List.mem_of_getElem? (i := 42) rfl))) (by decide) (t := .int) (t' := .long) (by decide) (by decide)))
    have B22 := P2.other W19 (Or.inr (slot_ne (Or.inl (hw _ (List.mem_of_getElem? (i := 22) rfl))) (Or.inl (hw _ (List.mem_of_getElem? (i := 42) rfl))) (by decide) (t := .int) (t' := .long) (by decide) (by decide)))
    have B23 := P3.other W19 (Or.inr (slot_ne (Or.inl (hw _ (List.mem_of_getElem? (i := 28) rfl))) (Or.inl (hw _ (List.mem_of_getElem? (i := 42) rfl))) (by decide) (t := .long) (t' := .long) (by decide) (by decide)))
    have B24 := P5.other W19 (Or.inr (slot_ne (Or.inl (hw _ (List.mem_of_getElem? (i := 49) rfl))) (Or.inl (hw _ (List.mem_of_getElem? (i := 42) rfl))) (by decide) (t := .int) (t' := .long) (by decide) (by decide)))
    have B25 := P6.other W19 (Or.inr (slot_ne (Or.inl (hw _ (List.mem_of_getElem? (i := 51) rfl))) (Or.inl (hw _ (List.mem_of_getElem? (i := 42) rfl))) (by decide) (t := .long) (t' := .long) (by decide) (by decide)))
    have B26 := P7.other W19 (Or.inr (slot_ne (Or.inl (hw _ (List.mem_of_getElem? (i := 53) rfl))) (Or.inl (hw _ (List.mem_of_getElem? (i := 42) rfl))) (by decide) (t := .int) (t' := .long) (by decide) (by decide)))
    have B27 := P8.other W19 (Or.inr (slot_ne (Or.inl (hw _ (List.mem_of_getElem? (i := 55) rfl))) (Or.inl (hw _ (List.mem_of_getElem? (i := 42) rfl))) (by decide) (t := .long) (t' := .long) (by decide) (by decide)))
    have B28 := P9.wr W19
    have B29 : Fld Z h19 a0 "com/example/tree_to_rows/treetorows/query/Outcomes" "current" "J" (.long (cc ||| (1 : Int64))) := P4.same W19
    have N30 := Fr.snoc X19 N0 ge0
    have K31 : Keep h0 h19 [a0] := K0.wr W19 (Or.inl (List.mem_of_getElem? (i := 0) rfl))
    have Z32 : n0 ≤ h19.size := Nat.le_trans Z0 (Keep.of_wr W19).1
    refine own_via (fun k => XS.aloadN X19.here hx rfl (hb hby d6_41) rfl rfl  (XS.dup X19.here hx rfl (hb hby d6_42) rfl rfl k)) ?_
    show own_Go p e below s _ _ (T19.setTop (mkF m 43 #[rv a0, jv 0, .second, iv p2, iv 0, jv 1, .second] [(.ref a0), (.ref a0)]))
    obtain ⟨T33, X33, e33, st33⟩ := getF X19 hx hZ hown (host := "") (Or.inl (hw _ (List.mem_of_getElem? (i := 21) rfl))) Via.refl e19 B22 (g := (mkF m 43 #[rv a0, jv 0, .second, iv p2, iv 0, jv 1, .second] [(.ref a0), (.ref a0)])) rfl rfl (hb hby d6_43)
    refine own_via (fun k => st33 _ k) ?_
    show own_Go p e below s _ _ (T33.setTop (mkF m 46 #[rv a0, jv 0, .second, iv p2, iv 0, jv 1, .second] [(.int cw), (.ref a0)]))
    refine own_via (fun k => XS.iconst X33.here hx rfl (hb hby d6_46) (XS.isub X33.here hx rfl (hb hby d6_47) rfl k)) ?_
    show own_Go p e below s _ _ (T33.setTop (mkF m 48 #[rv a0, jv 0, .second, iv p2, iv 0, jv 1, .second] [(.int (cw - (1 : Int32))), (.ref a0)]))
    obtain ⟨T34, h34, X34, e34, W34, st34⟩ := putF X33 hx hZ hown (host := "") (Or.inl (hw _ (List.mem_of_getElem? (i := 21) rfl))) Via.refl e33 B22 B28 (Or.inl (hw _ (List.mem_of_getElem? (i := 22) rfl))) (hw _ (List.mem_of_getElem? (i := 1) rfl)) (ty := .int) (by decide) rfl rfl (g := (mkF m 48 #[rv a0, jv 0, .second, iv p2, iv 0, jv 1, .second] [(.int (cw - (1 : Int32))), (.ref a0)])) rfl rfl (hb hby d6_48)
    refine own_via (fun k => st34 _ k) ?_
    show own_Go p e below s _ _ (T34.setTop (mkF m 51 #[rv a0, jv 0, .second, iv p2, iv 0, jv 1, .second] []))
    have B35 := B20.other W34 (Or.inr (slot_ne (Or.inl (hw _ (List.mem_of_getElem? (i := 18) rfl))) (Or.inl (hw _ (List.mem_of_getElem? (i := 22) rfl))) (by decide) (t := .int) (t' := .int) (by decide) (by decide)))
    have B36 := B21.other W34 (Or.inr (slot_ne (Or.inl (hw _ (List.mem_of_getElem? (i := 20) rfl))) (Or.inl (hw _ (List.mem_of_getElem? (i := 22) rfl))) (by decide) (t := .int) (t' := .int) (by decide) (by decide)))
    have B37 := B23.other W34 (Or.inr (slot_ne (Or.inl (hw _ (List.mem_of_getElem? (i := 28) rfl))) (Or.inl (hw _ (List.mem_of_getElem? (i := 22) rfl))) (by decide) (t := .long) (t' := .int) (by decide) (by decide)))
    have B38 := B24.other W34 (Or.inr (slot_ne (Or.inl (hw _ (List.mem_of_getElem? (i := 49) rfl))) (Or.inl (hw _ (List.mem_of_getElem? (i := 22) rfl))) (by decide) (t := .int) (t' := .int) (by decide) (by decide)))
    have B39 := B25.other W34 (Or.inr (slot_ne (Or.inl (hw _ (List.mem_of_getElem? (i := 51) rfl))) (Or.inl (hw _ (List.mem_of_getElem? (i := 22) rfl))) (by decide) (t := .long) (t' := .int) (by decide) (by decide)))
    have B40 := B26.other W34 (Or.inr (slot_ne (Or.inl (hw _ (List.mem_of_getElem? (i := 53) rfl))) (Or.inl (hw _ (List.mem_of_getElem? (i := 22) rfl))) (by decide) (t := .int) (t' := .int) (by decide) (by decide)))
    have B41 := B27.other W34 (Or.inr (slot_ne (Or.inl (hw _ (List.mem_of_getElem? (i := 55) rfl))) (Or.inl (hw _ (List.mem_of_getElem? (i := 22) rfl))) (by decide) (t := .long) (t' := .int) (by decide) (by decide)))
    have B42 := B28.wr W34
    have B43 := B29.other W34 (Or.inr (slot_ne (Or.inl (hw _ (List.mem_of_getElem? (i := 42) rfl))) (Or.inl (hw _ (List.mem_of_getElem? (i := 22) rfl))) (by decide) (t := .long) (t' := .int) (by decide) (by decide)))
    have B44 : Fld Z h34 a0 "com/example/tree_to_rows/treetorows/query/Outcomes" "waiting" "I" (.int (cw - (1 : Int32))) := B22.same W34
    have N45 := Fr.snoc X34 N30 ge0
    have K46 : Keep h0 h34 [a0] := K31.wr W34 (Or.inl (List.mem_of_getElem? (i := 0) rfl))
    have Z47 : n0 ≤ h34.size := Nat.le_trans Z32 (Keep.of_wr W34).1
    refine own_via (fun k => XS.goto X34.here hx rfl (pc0 := 51) (pc' := 70) rfl (hb hby d6_51) (by decide) (by decide) k) ?_
    show own_Go p e below s _ _ (T34.setTop (mkF m 70 #[rv a0, jv 0, .second, iv p2, iv 0, jv 1, .second] []))
    exact own_ret0 X34 hx hlk Bd.returns (hb hby d6_70) (Q := (Q6_0 Z a0 p2 v_used cw v_bits cc v_readWord v_readGroup v_readBit v_read h0 n0)) ⟨rfl, N45, (by rw [e34]; exact K46), (by rw [e34]; exact B35), (by rw [e34]; exact B36), (by rw [e34]; exact B44), (by rw [e34]; exact B37), (by rw [e34]; exact own_fldJ (show (cc ||| (1 : Int64)) = (own_f6_0c p2 cc) from (by unfold own_f6_0c; exact ((if_neg hc2).trans rfl).symm)) B43), (by rw [e34]; exact B38), (by rw [e34]; exact B39), (by rw [e34]; exact B40), (by rw [e34]; exact B41)⟩ (by decide) (by decide)
theorem ef_6_1 (m : MethodId) (x0 : Addr) (x1 : Int64) (x2 : Int32) : entryFrame m #[(.ref x0), (.long x1), (.int x2)] 7 = mkF m 0 #[rv x0, jv x1, .second, iv x2, .unset, .unset, .unset] [] := by first | (simp [entryFrame, mkF, argsToLocals, Value.category]; done) | rfl
def own_f6_1c (p2 : Int32) (cc : Int64) : Int64 := (if p2 = (0 : Int32) then cc else (cc ||| (2 : Int64)))
def Q6_1 (Z : State) (a0 : Addr) (p2 : Int32) (v_used : Int32) (cw : Int32) (v_bits : Int64) (cc : Int64) (v_readWord : Int32) (v_readGroup : Int64) (v_readBit : Int32) (v_read : Int64) (h0 : Heap) (n0 : Nat) (v : Option Value) (h : Heap) (L : List Loc) : Prop := v = none ∧ Fr n0 L ∧ Keep h0 h [a0] ∧ Fld Z h a0 "com/example/tree_to_rows/treetorows/query/Outcomes" "size" "I" (.int 0) ∧ Fld Z h a0 "com/example/tree_to_rows/treetorows/query/Outcomes" "used" "I" (.int v_used) ∧ Fld Z h a0 "com/example/tree_to_rows/treetorows/query/Outcomes" "waiting" "I" (.int (cw - (1 : Int32))) ∧ Fld Z h a0 "com/example/tree_to_rows/treetorows/query/Outcomes" "bits" "J" (.long v_bits) ∧ Fld Z h a0 "com/example/tree_to_rows/treetorows/query/Outcomes" "current" "J" (.long (own_f6_1c p2 cc)) ∧ Fld Z h a0 "com/example/tree_to_rows/treetorows/query/Outcomes" "readWord" "I" (.int v_readWord) ∧ Fld Z h a0 "com/example/tree_to_rows/treetorows/query/Outcomes" "readGroup" "J" (.long v_readGroup) ∧ Fld Z h a0 "com/example/tree_to_rows/treetorows/query/Outcomes" "readBit" "I" (.int v_readBit) ∧ Fld Z h a0 "com/example/tree_to_rows/treetorows/query/Outcomes" "read" "J" (.long v_read)
set_option maxRecDepth 65536 in
set_option maxHeartbeats 40000000 in
theorem rm6_1 (l : Launch) (Z : State) (aw : Array Value) (hw : ∀ d ∈ tables_1, d.before aw Z = true) (ws : List Jvm.Cond) (a0 : Addr) (p2 : Int32) (v_used : Int32) (cw : Int32) (v_bits : Int64) (cc : Int64) (v_readWord : Int32) (v_readGroup : Int64) (v_readBit : Int32) (v_read : Int64) (h0 : Heap) (n0 : Nat) (Z0 : n0 ≤ h0.size) (P0 : Fld Z h0 a0 "com/example/tree_to_rows/treetorows/query/Outcomes" "size" "I" (.int 0)) (P1 : Fld Z h0 a0 "com/example/tree_to_rows/treetorows/query/Outcomes" "used" "I" (.int v_used)) (P2 : Fld Z h0 a0 "com/example/tree_to_rows/treetorows/query/Outcomes" "waiting" "I" (.int cw)) (P3 : Fld Z h0 a0 "com/example/tree_to_rows/treetorows/query/Outcomes" "bits" "J" (.long v_bits)) (P4 : Fld Z h0 a0 "com/example/tree_to_rows/treetorows/query/Outcomes" "current" "J" (.long cc)) (P5 : Fld Z h0 a0 "com/example/tree_to_rows/treetorows/query/Outcomes" "readWord" "I" (.int v_readWord)) (P6 : Fld Z h0 a0 "com/example/tree_to_rows/treetorows/query/Outcomes" "readGroup" "J" (.long v_readGroup)) (P7 : Fld Z h0 a0 "com/example/tree_to_rows/treetorows/query/Outcomes" "readBit" "I" (.int v_readBit)) (P8 : Fld Z h0 a0 "com/example/tree_to_rows/treetorows/query/Outcomes" "read" "J" (.long v_read)) (P9 : Exa Z h0 a0 "com/example/tree_to_rows/treetorows/query/Outcomes") (ge0 : n0 ≤ a0) :
    MetFree l (⟨"com/example/tree_to_rows/treetorows/query/Outcomes", "set", "(JZ)V"⟩ : MethodName) (head1 (Jvm.Cond.code (⟨"com/example/tree_to_rows/treetorows/query/Outcomes", "set", "(JZ)V"⟩ : MethodName) prog_24_method_3_code 7 none :: ws) ({ frames := 0, cells := 0, slots := 0, locals := 0 } : Room)) (fun a U => a = #[(.ref a0), (.long 1), (.int p2)] ∧ Z.Warmed39 U.vm ∧ U.heap = h0) (fun _ _ _ _ _ => True) (fun _ U o U' => ∃ v L, o = .returned v ∧ Q6_1 Z a0 p2 v_used cw v_bits cc v_readWord v_readGroup v_readBit v_read h0 n0 v U'.heap L ∧ FrameEnd U o U' L ({ frames := 0, cells := 0, slots := 0, locals := 0 } : Room).cells ({ frames := 0, cells := 0, slots := 0, locals := 0 } : Room).slots) := by
  refine MetFree.of_bodySF (plainFor_of_name pn_6) hisR ?_
  intro p e s m args below meth c s₁ Bd hml0 hP hK
  obtain ⟨rfl, hZ, hh⟩ := hP
  have hx := Bd.exec
  have hby := Bd.bytes
  have hml : c.maxLocals = 7 := hml0
  have hown : s.vm.findClass "com/example/tree_to_rows/treetorows/query/Outcomes" = some m.cls := findClass_of_methodNamed Bd.named
  have hnm := (name_of_methodNamed Bd.named Bd.method).1
  have hlk : meth.locks = false := by first | exact BodyLoose.notSynchronized (by assumption) | exact Body.notSynchronized (by assumption)
  have X0 : Stand p l e ({ frames := 0, cells := 0, slots := 0, locals := 0 } : Room) s m #[(.ref a0), (.long 1), (.int p2)] below meth c s₁ [] 0 0 := Stand.of_body Bd
  have e0 : s₁.heap = h0 := by rw [← hh, Bd.state]; rfl
  have N0 := Fr.nil n0
  have K0 : Keep h0 h0 [a0] := Keep.refl _ _
  refine own_start (CS := (0, 0)) (Q := (Q6_1 Z a0 p2 v_used cw v_bits cc v_readWord v_readGroup v_readBit v_read h0 n0)) (ef_6_1 m a0 (1 : Int64) p2) ?_
  show own_Go p e below s _ _ (s₁.setTop (mkF m 0 #[rv a0, jv 1, .second, iv p2, .unset, .unset, .unset] []))
  refine own_via (fun k => XS.lloadN X0.here hx rfl (hb hby d6_0) rfl  (XS.bipush X0.here hx rfl (hb hby d6_1) (XS.lushr X0.here hx rfl (hb hby d6_3) rfl k))) ?_
  show own_Go p e below s _ _ (s₁.setTop (mkF m 4 #[rv a0, jv 1, .second, iv p2, .unset, .unset, .unset] [(.long (((1 : Int64).toUInt64 >>> ((6 : Int32) &&& 0x3f).toInt64.toUInt64).toInt64))]))
  rw [show (((1 : Int64).toUInt64 >>> ((6 : Int32) &&& 0x3f).toInt64.toUInt64).toInt64) = (0 : Int64) from by decide]
  show own_Go p e below s _ _ (s₁.setTop (mkF m 4 #[rv a0, jv 1, .second, iv p2, .unset, .unset, .unset] [(.long 0)]))
  refine own_via (fun k => XS.l2i X0.here hx rfl (hb hby d6_4) rfl (XS.istore X0.here hx rfl (hb hby d6_5) rfl (l' := #[rv a0, jv 1, .second, iv p2, iv 0, .unset, .unset]) rfl (XS.lconst X0.here hx rfl (hb hby d6_7) (XS.lloadN X0.here hx rfl (hb hby d6_8) rfl  k)))) ?_
  show own_Go p e below s _ _ (s₁.setTop (mkF m 9 #[rv a0, jv 1, .second, iv p2, iv 0, .unset, .unset] [(.long 1), (.long 1)]))
  refine own_via (fun k => X0.ldc2Long hx hown (mvT hZ (hw _ (List.mem_of_getElem? (i := 40) rfl))) (g := (mkF m 9 #[rv a0, jv 1, .second, iv p2, iv 0, .unset, .unset] [(.long 1), (.long 1)])) rfl (hb hby d6_9) _ (XS.land X0.here hx rfl (hb hby d6_12) rfl (XS.l2i X0.here hx rfl (hb hby d6_13) rfl (XS.lshl X0.here hx rfl (hb hby d6_14) rfl k)))) ?_
  show own_Go p e below s _ _ (s₁.setTop (mkF m 15 #[rv a0, jv 1, .second, iv p2, iv 0, .unset, .unset] [(.long ((1 : Int64) <<< ((1 : Int32) &&& 0x3f).toInt64))]))
  rw [show ((1 : Int64) <<< ((1 : Int32) &&& 0x3f).toInt64) = (2 : Int64) from by decide]
  show own_Go p e below s _ _ (s₁.setTop (mkF m 15 #[rv a0, jv 1, .second, iv p2, iv 0, .unset, .unset] [(.long 2)]))
  refine own_via (fun k => XS.lstore X0.here hx rfl (hb hby d6_15) rfl (l' := #[rv a0, jv 1, .second, iv p2, iv 0, jv 2, .second]) rfl (XS.iload X0.here hx rfl (hb hby d6_17) rfl  (XS.aloadN X0.here hx rfl (hb hby d6_19) rfl rfl  k))) ?_
  show own_Go p e below s _ _ (s₁.setTop (mkF m 20 #[rv a0, jv 1, .second, iv p2, iv 0, jv 2, .second] [(.ref a0), (.int 0)]))
  obtain ⟨T1, X1, e1, st1⟩ := getF X0 hx hZ hown (host := "") (Or.inl (hw _ (List.mem_of_getElem? (i := 17) rfl))) Via.refl e0 P0 (g := (mkF m 20 #[rv a0, jv 1, .second, iv p2, iv 0, jv 2, .second] [(.ref a0), (.int 0)])) rfl rfl (hb hby d6_20)
  refine own_via (fun k => st1 _ k) ?_
  show own_Go p e below s _ _ (T1.setTop (mkF m 23 #[rv a0, jv 1, .second, iv p2, iv 0, jv 2, .second] [(.int 0), (.int 0)]))
  refine own_via (fun k => XS.icmpNo X1.here hx rfl (hb hby d6_23) rfl (by decide) k) ?_
  show own_Go p e below s _ _ (T1.setTop (mkF m 26 #[rv a0, jv 1, .second, iv p2, iv 0, jv 2, .second] []))
  refine own_via (fun k => XS.iloadN X1.here hx rfl (hb hby d6_26) rfl  k) ?_
  show own_Go p e below s _ _ (T1.setTop (mkF m 27 #[rv a0, jv 1, .second, iv p2, iv 0, jv 2, .second] [(.int p2)]))
  by_cases hc2 : p2 = (0 : Int32)
  · refine own_via (fun k => XS.ifYes X1.here hx rfl (pc0 := 27) (pc' := 41) rfl (hb hby d6_27) rfl ((if0 _ _).trans (teq hc2).1) (by decide) (by decide) k) ?_
    show own_Go p e below s _ _ (T1.setTop (mkF m 41 #[rv a0, jv 1, .second, iv p2, iv 0, jv 2, .second] []))
    refine own_via (fun k => XS.aloadN X1.here hx rfl (hb hby d6_41) rfl rfl  (XS.dup X1.here hx rfl (hb hby d6_42) rfl rfl k)) ?_
    show own_Go p e below s _ _ (T1.setTop (mkF m 43 #[rv a0, jv 1, .second, iv p2, iv 0, jv 2, .second] [(.ref a0), (.ref a0)]))
    obtain ⟨T3, X3, e3, st3⟩ := getF X1 hx hZ hown (host := "") (Or.inl (hw _ (List.mem_of_getElem? (i := 21) rfl))) Via.refl e1 P2 (g := (mkF m 43 #[rv a0, jv 1, .second, iv p2, iv 0, jv 2, .second] [(.ref a0), (.ref a0)])) rfl rfl (hb hby d6_43)
    refine own_via (fun k => st3 _ k) ?_
    show own_Go p e below s _ _ (T3.setTop (mkF m 46 #[rv a0, jv 1, .second, iv p2, iv 0, jv 2, .second] [(.int cw), (.ref a0)]))
    refine own_via (fun k => XS.iconst X3.here hx rfl (hb hby d6_46) (XS.isub X3.here hx rfl (hb hby d6_47) rfl k)) ?_
    show own_Go p e below s _ _ (T3.setTop (mkF m 48 #[rv a0, jv 1, .second, iv p2, iv 0, jv 2, .second] [(.int (cw - (1 : Int32))), (.ref a0)]))
    obtain ⟨T4, h4, X4, e4, W4, st4⟩ := putF X3 hx hZ hown (host := "") (Or.inl (hw _ (List.mem_of_getElem? (i := 21) rfl))) Via.refl e3 P2 P9 (Or.inl (hw _ (List.mem_of_getElem? (i := 22) rfl))) (hw _ (List.mem_of_getElem? (i := 1) rfl)) (ty := .int) (by decide) rfl rfl (g := (mkF m 48 #[rv a0, jv 1, .second, iv p2, iv 0, jv 2, .second] [(.int (cw - (1 : Int32))), (.ref a0)])) rfl rfl (hb hby d6_48)
    refine own_via (fun k => st4 _ k) ?_
    show own_Go p e below s _ _ (T4.setTop (mkF m 51 #[rv a0, jv 1, .second, iv p2, iv 0, jv 2, .second] []))
    have B5 := P0.other W4 (Or.inr (slot_ne (Or.inl (hw _ (List.mem_of_getElem? (i := 18) rfl))) (Or.inl (hw _ (List.mem_of_getElem? (i := 22) rfl))) (by decide) (t := .int) (t' := .int) (by decide) (by decide)))
    have B6 := P1.other W4 (Or.inr (slot_ne (Or.inl (hw _ (List.mem_of_getElem? (i := 20) rfl))) (Or.inl (hw _ (List.mem_of_getElem? (i := 22) rfl))) (by decide) (t := .int) (t' := .int) (by decide) (by decide)))
    have B7 := P3.other W4 (Or.inr (slot_ne (Or.inl (hw _ (List.mem_of_getElem? (i := 28) rfl))) (Or.inl (hw _ (List.mem_of_getElem? (i := 22) rfl))) (by decide) (t := .long) (t' := .int) (by decide) (by decide)))
    have B8 := P4.other W4 (Or.inr (slot_ne (Or.inl (hw _ (List.mem_of_getElem? (i := 42) rfl))) (Or.inl (hw _ (List.mem_of_getElem? (i := 22) rfl))) (by decide) (t := .long) (t' := .int) (by decide) (by decide)))
    have B9 := P5.other W4 (Or.inr (slot_ne (Or.inl (hw _ (List.mem_of_getElem? (i := 49) rfl))) (Or.inl (hw _ (List.mem_of_getElem? (i := 22) rfl))) (by decide) (t := .int) (t' := .int) (by decide) (by decide)))
    have B10 := P6.other W4 (Or.inr (slot_ne (Or.inl (hw _ (List.mem_of_getElem? (i := 51) rfl))) (Or.inl (hw _ (List.mem_of_getElem? (i := 22) rfl))) (by decide) (t := .long) (t' := .int) (by decide) (by decide)))
    have B11 := P7.other W4 (Or.inr (slot_ne (Or.inl (hw _ (List.mem_of_getElem? (i := 53) rfl))) (Or.inl (hw _ (List.mem_of_getElem? (i := 22) rfl))) (by decide) (t := .int) (t' := .int) (by decide) (by decide)))
    have B12 := P8.other W4 (Or.inr (slot_ne (Or.inl (hw _ (List.mem_of_getElem? (i := 55) rfl))) (Or.inl (hw _ (List.mem_of_getElem? (i := 22) rfl))) (by decide) (t := .long) (t' := .int) (by decide) (by decide)))
    have B13 := P9.wr W4
    have B14 : Fld Z h4 a0 "com/example/tree_to_rows/treetorows/query/Outcomes" "waiting" "I" (.int (cw - (1 : Int32))) := P2.same W4
    have N15 := Fr.snoc X4 N0 ge0
    have K16 : Keep h0 h4 [a0] := K0.wr W4 (Or.inl (List.mem_of_getElem? (i := 0) rfl))
    have Z17 : n0 ≤ h4.size := Nat.le_trans Z0 (Keep.of_wr W4).1
    refine own_via (fun k => XS.goto X4.here hx rfl (pc0 := 51) (pc' := 70) rfl (hb hby d6_51) (by decide) (by decide) k) ?_
    show own_Go p e below s _ _ (T4.setTop (mkF m 70 #[rv a0, jv 1, .second, iv p2, iv 0, jv 2, .second] []))
    exact own_ret0 X4 hx hlk Bd.returns (hb hby d6_70) (Q := (Q6_1 Z a0 p2 v_used cw v_bits cc v_readWord v_readGroup v_readBit v_read h0 n0)) ⟨rfl, N15, (by rw [e4]; exact K16), (by rw [e4]; exact B5), (by rw [e4]; exact B6), (by rw [e4]; exact B14), (by rw [e4]; exact B7), (by rw [e4]; exact own_fldJ (show cc = (own_f6_1c p2 cc) from (by unfold own_f6_1c; exact ((if_pos hc2).trans rfl).symm)) B8), (by rw [e4]; exact B9), (by rw [e4]; exact B10), (by rw [e4]; exact B11), (by rw [e4]; exact B12)⟩ (by decide) (by decide)
  · refine own_via (fun k => XS.ifNo X1.here hx rfl (hb hby d6_27) rfl ((if0 _ _).trans (feq hc2).1) k) ?_
    show own_Go p e below s _ _ (T1.setTop (mkF m 30 #[rv a0, jv 1, .second, iv p2, iv 0, jv 2, .second] []))
    refine own_via (fun k => XS.aloadN X1.here hx rfl (hb hby d6_30) rfl rfl  (XS.dup X1.here hx rfl (hb hby d6_31) rfl rfl k)) ?_
    show own_Go p e below s _ _ (T1.setTop (mkF m 32 #[rv a0, jv 1, .second, iv p2, iv 0, jv 2, .second] [(.ref a0), (.ref a0)]))
    obtain ⟨T18, X18, e18, st18⟩ := getF X1 hx hZ hown (host := "") (Or.inl (hw _ (List.mem_of_getElem? (i := 41) rfl))) Via.refl e1 P4 (g := (mkF m 32 #[rv a0, jv 1, .second, iv p2, iv 0, jv 2, .second] [(.ref a0), (.ref a0)])) rfl rfl (hb hby d6_32)
    refine own_via (fun k => st18 _ k) ?_
    show own_Go p e below s _ _ (T18.setTop (mkF m 35 #[rv a0, jv 1, .second, iv p2, iv 0, jv 2, .second] [(.long cc), (.ref a0)]))
    refine own_via (fun k => XS.lload X18.here hx rfl (hb hby d6_35) rfl  (XS.lor X18.here hx rfl (hb hby d6_37) rfl k)) ?_
    show own_Go p e below s _ _ (T18.setTop (mkF m 38 #[rv a0, jv 1, .second, iv p2, iv 0, jv 2, .second] [(.long (cc ||| (2 : Int64))), (.ref a0)]))
    obtain ⟨T19, h19, X19, e19, W19, st19⟩ := putF X18 hx hZ hown (host := "") (Or.inl (hw _ (List.mem_of_getElem? (i := 41) rfl))) Via.refl e18 P4 P9 (Or.inl (hw _ (List.mem_of_getElem? (i := 42) rfl))) (hw _ (List.mem_of_getElem? (i := 1) rfl)) (ty := .long) (by decide) rfl rfl (g := (mkF m 38 #[rv a0, jv 1, .second, iv p2, iv 0, jv 2, .second] [(.long (cc ||| (2 : Int64))), (.ref a0)])) rfl rfl (hb hby d6_38)
    refine own_via (fun k => st19 _ k) ?_
    show own_Go p e below s _ _ (T19.setTop (mkF m 41 #[rv a0, jv 1, .second, iv p2, iv 0, jv 2, .second] []))
    have B20 := P0.other W19 (Or.inr (slot_ne (Or.inl (hw _ (List.mem_of_getElem? (i := 18) rfl))) (Or.inl (hw _ (List.mem_of_getElem? (i := 42) rfl))) (by decide) (t := .int) (t' := .long) (by decide) (by decide)))
    have B21 := P1.other W19 (Or.inr (slot_ne (Or.inl (hw _ (List.mem_of_getElem? (i := 20) rfl))) (Or.inl (hw _ (List.mem_of_getElem? (i := 42) rfl))) (by decide) (t := .int) (t' := .long) (by decide) (by decide)))
    have B22 := P2.other W19 (Or.inr (slot_ne (Or.inl (hw _ (List.mem_of_getElem? (i := 22) rfl))) (Or.inl (hw _ (List.mem_of_getElem? (i := 42) rfl))) (by decide) (t := .int) (t' := .long) (by decide) (by decide)))
    have B23 := P3.other W19 (Or.inr (slot_ne (Or.inl (hw _ (List.mem_of_getElem? (i := 28) rfl))) (Or.inl (hw _ (List.mem_of_getElem? (i := 42) rfl))) (by decide) (t := .long) (t' := .long) (by decide) (by decide)))
    have B24 := P5.other W19 (Or.inr (slot_ne (Or.inl (hw _ (List.mem_of_getElem? (i := 49) rfl))) (Or.inl (hw _ (List.mem_of_getElem? (i := 42) rfl))) (by decide) (t := .int) (t' := .long) (by decide) (by decide)))
    have B25 := P6.other W19 (Or.inr (slot_ne (Or.inl (hw _ (List.mem_of_getElem? (i := 51) rfl))) (Or.inl (hw _ (List.mem_of_getElem? (i := 42) rfl))) (by decide) (t := .long) (t' := .long) (by decide) (by decide)))
    have B26 := P7.other W19 (Or.inr (slot_ne (Or.inl (hw _ (List.mem_of_getElem? (i := 53) rfl))) (Or.inl (hw _ (List.mem_of_getElem? (i := 42) rfl))) (by decide) (t := .int) (t' := .long) (by decide) (by decide)))
    have B27 := P8.other W19 (Or.inr (slot_ne (Or.inl (hw _ (List.mem_of_getElem? (i := 55) rfl))) (Or.inl (hw _ (List.mem_of_getElem? (i := 42) rfl))) (by decide) (t := .long) (t' := .long) (by decide) (by decide)))
    have B28 := P9.wr W19
    have B29 : Fld Z h19 a0 "com/example/tree_to_rows/treetorows/query/Outcomes" "current" "J" (.long (cc ||| (2 : Int64))) := P4.same W19
    have N30 := Fr.snoc X19 N0 ge0
    have K31 : Keep h0 h19 [a0] := K0.wr W19 (Or.inl (List.mem_of_getElem? (i := 0) rfl))
    have Z32 : n0 ≤ h19.size := Nat.le_trans Z0 (Keep.of_wr W19).1
    refine own_via (fun k => XS.aloadN X19.here hx rfl (hb hby d6_41) rfl rfl  (XS.dup X19.here hx rfl (hb hby d6_42) rfl rfl k)) ?_
    show own_Go p e below s _ _ (T19.setTop (mkF m 43 #[rv a0, jv 1, .second, iv p2, iv 0, jv 2, .second] [(.ref a0), (.ref a0)]))
    obtain ⟨T33, X33, e33, st33⟩ := getF X19 hx hZ hown (host := "") (Or.inl (hw _ (List.mem_of_getElem? (i := 21) rfl))) Via.refl e19 B22 (g := (mkF m 43 #[rv a0, jv 1, .second, iv p2, iv 0, jv 2, .second] [(.ref a0), (.ref a0)])) rfl rfl (hb hby d6_43)
    refine own_via (fun k => st33 _ k) ?_
    show own_Go p e below s _ _ (T33.setTop (mkF m 46 #[rv a0, jv 1, .second, iv p2, iv 0, jv 2, .second] [(.int cw), (.ref a0)]))
    refine own_via (fun k => XS.iconst X33.here hx rfl (hb hby d6_46) (XS.isub X33.here hx rfl (hb hby d6_47) rfl k)) ?_
    show own_Go p e below s _ _ (T33.setTop (mkF m 48 #[rv a0, jv 1, .second, iv p2, iv 0, jv 2, .second] [(.int (cw - (1 : Int32))), (.ref a0)]))
    obtain ⟨T34, h34, X34, e34, W34, st34⟩ := putF X33 hx hZ hown (host := "") (Or.inl (hw _ (List.mem_of_getElem? (i := 21) rfl))) Via.refl e33 B22 B28 (Or.inl (hw _ (List.mem_of_getElem? (i := 22) rfl))) (hw _ (List.mem_of_getElem? (i := 1) rfl)) (ty := .int) (by decide) rfl rfl (g := (mkF m 48 #[rv a0, jv 1, .second, iv p2, iv 0, jv 2, .second] [(.int (cw - (1 : Int32))), (.ref a0)])) rfl rfl (hb hby d6_48)
    refine own_via (fun k => st34 _ k) ?_
    show own_Go p e below s _ _ (T34.setTop (mkF m 51 #[rv a0, jv 1, .second, iv p2, iv 0, jv 2, .second] []))
    have B35 := B20.other W34 (Or.inr (slot_ne (Or.inl (hw _ (List.mem_of_getElem? (i := 18) rfl))) (Or.inl (hw _ (List.mem_of_getElem? (i := 22) rfl))) (by decide) (t := .int) (t' := .int) (by decide) (by decide)))
    have B36 := B21.other W34 (Or.inr (slot_ne (Or.inl (hw _ (List.mem_of_getElem? (i := 20) rfl))) (Or.inl (hw _ (List.mem_of_getElem? (i := 22) rfl))) (by decide) (t := .int) (t' := .int) (by decide) (by decide)))
    have B37 := B23.other W34 (Or.inr (slot_ne (Or.inl (hw _ (List.mem_of_getElem? (i := 28) rfl))) (Or.inl (hw _ (List.mem_of_getElem? (i := 22) rfl))) (by decide) (t := .long) (t' := .int) (by decide) (by decide)))
    have B38 := B24.other W34 (Or.inr (slot_ne (Or.inl (hw _ (List.mem_of_getElem? (i := 49) rfl))) (Or.inl (hw _ (List.mem_of_getElem? (i := 22) rfl))) (by decide) (t := .int) (t' := .int) (by decide) (by decide)))
    have B39 := B25.other W34 (Or.inr (slot_ne (Or.inl (hw _ (List.mem_of_getElem? (i := 51) rfl))) (Or.inl (hw _ (List.mem_of_getElem? (i := 22) rfl))) (by decide) (t := .long) (t' := .int) (by decide) (by decide)))
    have B40 := B26.other W34 (Or.inr (slot_ne (Or.inl (hw _ (List.mem_of_getElem? (i := 53) rfl))) (Or.inl (hw _ (List.mem_of_getElem? (i := 22) rfl))) (by decide) (t := .int) (t' := .int) (by decide) (by decide)))
    have B41 := B27.other W34 (Or.inr (slot_ne (Or.inl (hw _ (List.mem_of_getElem? (i := 55) rfl))) (Or.inl (hw _ (List.mem_of_getElem? (i := 22) rfl))) (by decide) (t := .long) (t' := .int) (by decide) (by decide)))
    have B42 := B28.wr W34
    have B43 := B29.other W34 (Or.inr (slot_ne (Or.inl (hw _ (List.mem_of_getElem? (i := 42) rfl))) (Or.inl (hw _ (List.mem_of_getElem? (i := 22) rfl))) (by decide) (t := .long) (t' := .int) (by decide) (by decide)))
    have B44 : Fld Z h34 a0 "com/example/tree_to_rows/treetorows/query/Outcomes" "waiting" "I" (.int (cw - (1 : Int32))) := B22.same W34
    have N45 := Fr.snoc X34 N30 ge0
    have K46 : Keep h0 h34 [a0] := K31.wr W34 (Or.inl (List.mem_of_getElem? (i := 0) rfl))
    have Z47 : n0 ≤ h34.size := Nat.le_trans Z32 (Keep.of_wr W34).1
    refine own_via (fun k => XS.goto X34.here hx rfl (pc0 := 51) (pc' := 70) rfl (hb hby d6_51) (by decide) (by decide) k) ?_
    show own_Go p e below s _ _ (T34.setTop (mkF m 70 #[rv a0, jv 1, .second, iv p2, iv 0, jv 2, .second] []))
    exact own_ret0 X34 hx hlk Bd.returns (hb hby d6_70) (Q := (Q6_1 Z a0 p2 v_used cw v_bits cc v_readWord v_readGroup v_readBit v_read h0 n0)) ⟨rfl, N45, (by rw [e34]; exact K46), (by rw [e34]; exact B35), (by rw [e34]; exact B36), (by rw [e34]; exact B44), (by rw [e34]; exact B37), (by rw [e34]; exact own_fldJ (show (cc ||| (2 : Int64)) = (own_f6_1c p2 cc) from (by unfold own_f6_1c; exact ((if_neg hc2).trans rfl).symm)) B43), (by rw [e34]; exact B38), (by rw [e34]; exact B39), (by rw [e34]; exact B40), (by rw [e34]; exact B41)⟩ (by decide) (by decide)
theorem ef_6_2 (m : MethodId) (x0 : Addr) (x1 : Int64) (x2 : Int32) : entryFrame m #[(.ref x0), (.long x1), (.int x2)] 7 = mkF m 0 #[rv x0, jv x1, .second, iv x2, .unset, .unset, .unset] [] := by first | (simp [entryFrame, mkF, argsToLocals, Value.category]; done) | rfl
def own_f6_2c (p2 : Int32) (cc : Int64) : Int64 := (if p2 = (0 : Int32) then cc else (cc ||| (4 : Int64)))
def Q6_2 (Z : State) (a0 : Addr) (p2 : Int32) (v_used : Int32) (cw : Int32) (v_bits : Int64) (cc : Int64) (v_readWord : Int32) (v_readGroup : Int64) (v_readBit : Int32) (v_read : Int64) (h0 : Heap) (n0 : Nat) (v : Option Value) (h : Heap) (L : List Loc) : Prop := v = none ∧ Fr n0 L ∧ Keep h0 h [a0] ∧ Fld Z h a0 "com/example/tree_to_rows/treetorows/query/Outcomes" "size" "I" (.int 0) ∧ Fld Z h a0 "com/example/tree_to_rows/treetorows/query/Outcomes" "used" "I" (.int v_used) ∧ Fld Z h a0 "com/example/tree_to_rows/treetorows/query/Outcomes" "waiting" "I" (.int (cw - (1 : Int32))) ∧ Fld Z h a0 "com/example/tree_to_rows/treetorows/query/Outcomes" "bits" "J" (.long v_bits) ∧ Fld Z h a0 "com/example/tree_to_rows/treetorows/query/Outcomes" "current" "J" (.long (own_f6_2c p2 cc)) ∧ Fld Z h a0 "com/example/tree_to_rows/treetorows/query/Outcomes" "readWord" "I" (.int v_readWord) ∧ Fld Z h a0 "com/example/tree_to_rows/treetorows/query/Outcomes" "readGroup" "J" (.long v_readGroup) ∧ Fld Z h a0 "com/example/tree_to_rows/treetorows/query/Outcomes" "readBit" "I" (.int v_readBit) ∧ Fld Z h a0 "com/example/tree_to_rows/treetorows/query/Outcomes" "read" "J" (.long v_read)
set_option maxRecDepth 65536 in
set_option maxHeartbeats 40000000 in
theorem rm6_2 (l : Launch) (Z : State) (aw : Array Value) (hw : ∀ d ∈ tables_1, d.before aw Z = true) (ws : List Jvm.Cond) (a0 : Addr) (p2 : Int32) (v_used : Int32) (cw : Int32) (v_bits : Int64) (cc : Int64) (v_readWord : Int32) (v_readGroup : Int64) (v_readBit : Int32) (v_read : Int64) (h0 : Heap) (n0 : Nat) (Z0 : n0 ≤ h0.size) (P0 : Fld Z h0 a0 "com/example/tree_to_rows/treetorows/query/Outcomes" "size" "I" (.int 0)) (P1 : Fld Z h0 a0 "com/example/tree_to_rows/treetorows/query/Outcomes" "used" "I" (.int v_used)) (P2 : Fld Z h0 a0 "com/example/tree_to_rows/treetorows/query/Outcomes" "waiting" "I" (.int cw)) (P3 : Fld Z h0 a0 "com/example/tree_to_rows/treetorows/query/Outcomes" "bits" "J" (.long v_bits)) (P4 : Fld Z h0 a0 "com/example/tree_to_rows/treetorows/query/Outcomes" "current" "J" (.long cc)) (P5 : Fld Z h0 a0 "com/example/tree_to_rows/treetorows/query/Outcomes" "readWord" "I" (.int v_readWord)) (P6 : Fld Z h0 a0 "com/example/tree_to_rows/treetorows/query/Outcomes" "readGroup" "J" (.long v_readGroup)) (P7 : Fld Z h0 a0 "com/example/tree_to_rows/treetorows/query/Outcomes" "readBit" "I" (.int v_readBit)) (P8 : Fld Z h0 a0 "com/example/tree_to_rows/treetorows/query/Outcomes" "read" "J" (.long v_read)) (P9 : Exa Z h0 a0 "com/example/tree_to_rows/treetorows/query/Outcomes") (ge0 : n0 ≤ a0) :
    MetFree l (⟨"com/example/tree_to_rows/treetorows/query/Outcomes", "set", "(JZ)V"⟩ : MethodName) (head1 (Jvm.Cond.code (⟨"com/example/tree_to_rows/treetorows/query/Outcomes", "set", "(JZ)V"⟩ : MethodName) prog_24_method_3_code 7 none :: ws) ({ frames := 0, cells := 0, slots := 0, locals := 0 } : Room)) (fun a U => a = #[(.ref a0), (.long 2), (.int p2)] ∧ Z.Warmed39 U.vm ∧ U.heap = h0) (fun _ _ _ _ _ => True) (fun _ U o U' => ∃ v L, o = .returned v ∧ Q6_2 Z a0 p2 v_used cw v_bits cc v_readWord v_readGroup v_readBit v_read h0 n0 v U'.heap L ∧ FrameEnd U o U' L ({ frames := 0, cells := 0, slots := 0, locals := 0 } : Room).cells ({ frames := 0, cells := 0, slots := 0, locals := 0 } : Room).slots) := by
  refine MetFree.of_bodySF (plainFor_of_name pn_6) hisR ?_
  intro p e s m args below meth c s₁ Bd hml0 hP hK
  obtain ⟨rfl, hZ, hh⟩ := hP
  have hx := Bd.exec
  have hby := Bd.bytes
  have hml : c.maxLocals = 7 := hml0
  have hown : s.vm.findClass "com/example/tree_to_rows/treetorows/query/Outcomes" = some m.cls := findClass_of_methodNamed Bd.named
  have hnm := (name_of_methodNamed Bd.named Bd.method).1
  have hlk : meth.locks = false := by first | exact BodyLoose.notSynchronized (by assumption) | exact Body.notSynchronized (by assumption)
  have X0 : Stand p l e ({ frames := 0, cells := 0, slots := 0, locals := 0 } : Room) s m #[(.ref a0), (.long 2), (.int p2)] below meth c s₁ [] 0 0 := Stand.of_body Bd
  have e0 : s₁.heap = h0 := by rw [← hh, Bd.state]; rfl
  have N0 := Fr.nil n0
  have K0 : Keep h0 h0 [a0] := Keep.refl _ _
  refine own_start (CS := (0, 0)) (Q := (Q6_2 Z a0 p2 v_used cw v_bits cc v_readWord v_readGroup v_readBit v_read h0 n0)) (ef_6_2 m a0 (2 : Int64) p2) ?_
  show own_Go p e below s _ _ (s₁.setTop (mkF m 0 #[rv a0, jv 2, .second, iv p2, .unset, .unset, .unset] []))
  refine own_via (fun k => XS.lloadN X0.here hx rfl (hb hby d6_0) rfl  (XS.bipush X0.here hx rfl (hb hby d6_1) (XS.lushr X0.here hx rfl (hb hby d6_3) rfl k))) ?_
  show own_Go p e below s _ _ (s₁.setTop (mkF m 4 #[rv a0, jv 2, .second, iv p2, .unset, .unset, .unset] [(.long (((2 : Int64).toUInt64 >>> ((6 : Int32) &&& 0x3f).toInt64.toUInt64).toInt64))]))
  rw [show (((2 : Int64).toUInt64 >>> ((6 : Int32) &&& 0x3f).toInt64.toUInt64).toInt64) = (0 : Int64) from by decide]
  show own_Go p e below s _ _ (s₁.setTop (mkF m 4 #[rv a0, jv 2, .second, iv p2, .unset, .unset, .unset] [(.long 0)]))
  refine own_via (fun k => XS.l2i X0.here hx rfl (hb hby d6_4) rfl (XS.istore X0.here hx rfl (hb hby d6_5) rfl (l' := #[rv a0, jv 2, .second, iv p2, iv 0, .unset, .unset]) rfl (XS.lconst X0.here hx rfl (hb hby d6_7) (XS.lloadN X0.here hx rfl (hb hby d6_8) rfl  k)))) ?_
  show own_Go p e below s _ _ (s₁.setTop (mkF m 9 #[rv a0, jv 2, .second, iv p2, iv 0, .unset, .unset] [(.long 2), (.long 1)]))
  refine own_via (fun k => X0.ldc2Long hx hown (mvT hZ (hw _ (List.mem_of_getElem? (i := 40) rfl))) (g := (mkF m 9 #[rv a0, jv 2, .second, iv p2, iv 0, .unset, .unset] [(.long 2), (.long 1)])) rfl (hb hby d6_9) _ (XS.land X0.here hx rfl (hb hby d6_12) rfl (XS.l2i X0.here hx rfl (hb hby d6_13) rfl (XS.lshl X0.here hx rfl (hb hby d6_14) rfl k)))) ?_
  show own_Go p e below s _ _ (s₁.setTop (mkF m 15 #[rv a0, jv 2, .second, iv p2, iv 0, .unset, .unset] [(.long ((1 : Int64) <<< ((2 : Int32) &&& 0x3f).toInt64))]))
  rw [show ((1 : Int64) <<< ((2 : Int32) &&& 0x3f).toInt64) = (4 : Int64) from by decide]
  show own_Go p e below s _ _ (s₁.setTop (mkF m 15 #[rv a0, jv 2, .second, iv p2, iv 0, .unset, .unset] [(.long 4)]))
  refine own_via (fun k => XS.lstore X0.here hx rfl (hb hby d6_15) rfl (l' := #[rv a0, jv 2, .second, iv p2, iv 0, jv 4, .second]) rfl (XS.iload X0.here hx rfl (hb hby d6_17) rfl  (XS.aloadN X0.here hx rfl (hb hby d6_19) rfl rfl  k))) ?_
  show own_Go p e below s _ _ (s₁.setTop (mkF m 20 #[rv a0, jv 2, .second, iv p2, iv 0, jv 4, .second] [(.ref a0), (.int 0)]))
  obtain ⟨T1, X1, e1, st1⟩ := getF X0 hx hZ hown (host := "") (Or.inl (hw _ (List.mem_of_getElem? (i := 17) rfl))) Via.refl e0 P0 (g := (mkF m 20 #[rv a0, jv 2, .second, iv p2, iv 0, jv 4, .second] [(.ref a0), (.int 0)])) rfl rfl (hb hby d6_20)
  refine own_via (fun k => st1 _ k) ?_
  show own_Go p e below s _ _ (T1.setTop (mkF m 23 #[rv a0, jv 2, .second, iv p2, iv 0, jv 4, .second] [(.int 0), (.int 0)]))
  refine own_via (fun k => XS.icmpNo X1.here hx rfl (hb hby d6_23) rfl (by decide) k) ?_
  show own_Go p e below s _ _ (T1.setTop (mkF m 26 #[rv a0, jv 2, .second, iv p2, iv 0, jv 4, .second] []))
  refine own_via (fun k => XS.iloadN X1.here hx rfl (hb hby d6_26) rfl  k) ?_
  show own_Go p e below s _ _ (T1.setTop (mkF m 27 #[rv a0, jv 2, .second, iv p2, iv 0, jv 4, .second] [(.int p2)]))
  by_cases hc2 : p2 = (0 : Int32)
  · refine own_via (fun k => XS.ifYes X1.here hx rfl (pc0 := 27) (pc' := 41) rfl (hb hby d6_27) rfl ((if0 _ _).trans (teq hc2).1) (by decide) (by decide) k) ?_
    show own_Go p e below s _ _ (T1.setTop (mkF m 41 #[rv a0, jv 2, .second, iv p2, iv 0, jv 4, .second] []))
    refine own_via (fun k => XS.aloadN X1.here hx rfl (hb hby d6_41) rfl rfl  (XS.dup X1.here hx rfl (hb hby d6_42) rfl rfl k)) ?_
    show own_Go p e below s _ _ (T1.setTop (mkF m 43 #[rv a0, jv 2, .second, iv p2, iv 0, jv 4, .second] [(.ref a0), (.ref a0)]))
    obtain ⟨T3, X3, e3, st3⟩ := getF X1 hx hZ hown (host := "") (Or.inl (hw _ (List.mem_of_getElem? (i := 21) rfl))) Via.refl e1 P2 (g := (mkF m 43 #[rv a0, jv 2, .second, iv p2, iv 0, jv 4, .second] [(.ref a0), (.ref a0)])) rfl rfl (hb hby d6_43)
    refine own_via (fun k => st3 _ k) ?_
    show own_Go p e below s _ _ (T3.setTop (mkF m 46 #[rv a0, jv 2, .second, iv p2, iv 0, jv 4, .second] [(.int cw), (.ref a0)]))
    refine own_via (fun k => XS.iconst X3.here hx rfl (hb hby d6_46) (XS.isub X3.here hx rfl (hb hby d6_47) rfl k)) ?_
    show own_Go p e below s _ _ (T3.setTop (mkF m 48 #[rv a0, jv 2, .second, iv p2, iv 0, jv 4, .second] [(.int (cw - (1 : Int32))), (.ref a0)]))
    obtain ⟨T4, h4, X4, e4, W4, st4⟩ := putF X3 hx hZ hown (host := "") (Or.inl (hw _ (List.mem_of_getElem? (i := 21) rfl))) Via.refl e3 P2 P9 (Or.inl (hw _ (List.mem_of_getElem? (i := 22) rfl))) (hw _ (List.mem_of_getElem? (i := 1) rfl)) (ty := .int) (by decide) rfl rfl (g := (mkF m 48 #[rv a0, jv 2, .second, iv p2, iv 0, jv 4, .second] [(.int (cw - (1 : Int32))), (.ref a0)])) rfl rfl (hb hby d6_48)
    refine own_via (fun k => st4 _ k) ?_
    show own_Go p e below s _ _ (T4.setTop (mkF m 51 #[rv a0, jv 2, .second, iv p2, iv 0, jv 4, .second] []))
    have B5 := P0.other W4 (Or.inr (slot_ne (Or.inl (hw _ (List.mem_of_getElem? (i := 18) rfl))) (Or.inl (hw _ (List.mem_of_getElem? (i := 22) rfl))) (by decide) (t := .int) (t' := .int) (by decide) (by decide)))
    have B6 := P1.other W4 (Or.inr (slot_ne (Or.inl (hw _ (List.mem_of_getElem? (i := 20) rfl))) (Or.inl (hw _ (List.mem_of_getElem? (i := 22) rfl))) (by decide) (t := .int) (t' := .int) (by decide) (by decide)))
    have B7 := P3.other W4 (Or.inr (slot_ne (Or.inl (hw _ (List.mem_of_getElem? (i := 28) rfl))) (Or.inl (hw _ (List.mem_of_getElem? (i := 22) rfl))) (by decide) (t := .long) (t' := .int) (by decide) (by decide)))
    have B8 := P4.other W4 (Or.inr (slot_ne (Or.inl (hw _ (List.mem_of_getElem? (i := 42) rfl))) (Or.inl (hw _ (List.mem_of_getElem? (i := 22) rfl))) (by decide) (t := .long) (t' := .int) (by decide) (by decide)))
    have B9 := P5.other W4 (Or.inr (slot_ne (Or.inl (hw _ (List.mem_of_getElem? (i := 49) rfl))) (Or.inl (hw _ (List.mem_of_getElem? (i := 22) rfl))) (by decide) (t := .int) (t' := .int) (by decide) (by decide)))
    have B10 := P6.other W4 (Or.inr (slot_ne (Or.inl (hw _ (List.mem_of_getElem? (i := 51) rfl))) (Or.inl (hw _ (List.mem_of_getElem? (i := 22) rfl))) (by decide) (t := .long) (t' := .int) (by decide) (by decide)))
    have B11 := P7.other W4 (Or.inr (slot_ne (Or.inl (hw _ (List.mem_of_getElem? (i := 53) rfl))) (Or.inl (hw _ (List.mem_of_getElem? (i := 22) rfl))) (by decide) (t := .int) (t' := .int) (by decide) (by decide)))
    have B12 := P8.other W4 (Or.inr (slot_ne (Or.inl (hw _ (List.mem_of_getElem? (i := 55) rfl))) (Or.inl (hw _ (List.mem_of_getElem? (i := 22) rfl))) (by decide) (t := .long) (t' := .int) (by decide) (by decide)))
    have B13 := P9.wr W4
    have B14 : Fld Z h4 a0 "com/example/tree_to_rows/treetorows/query/Outcomes" "waiting" "I" (.int (cw - (1 : Int32))) := P2.same W4
    have N15 := Fr.snoc X4 N0 ge0
    have K16 : Keep h0 h4 [a0] := K0.wr W4 (Or.inl (List.mem_of_getElem? (i := 0) rfl))
    have Z17 : n0 ≤ h4.size := Nat.le_trans Z0 (Keep.of_wr W4).1
    refine own_via (fun k => XS.goto X4.here hx rfl (pc0 := 51) (pc' := 70) rfl (hb hby d6_51) (by decide) (by decide) k) ?_
    show own_Go p e below s _ _ (T4.setTop (mkF m 70 #[rv a0, jv 2, .second, iv p2, iv 0, jv 4, .second] []))
    exact own_ret0 X4 hx hlk Bd.returns (hb hby d6_70) (Q := (Q6_2 Z a0 p2 v_used cw v_bits cc v_readWord v_readGroup v_readBit v_read h0 n0)) ⟨rfl, N15, (by rw [e4]; exact K16), (by rw [e4]; exact B5), (by rw [e4]; exact B6), (by rw [e4]; exact B14), (by rw [e4]; exact B7), (by rw [e4]; exact own_fldJ (show cc = (own_f6_2c p2 cc) from (by unfold own_f6_2c; exact ((if_pos hc2).trans rfl).symm)) B8), (by rw [e4]; exact B9), (by rw [e4]; exact B10), (by rw [e4]; exact B11), (by rw [e4]; exact B12)⟩ (by decide) (by decide)
  · refine own_via (fun k => XS.ifNo X1.here hx rfl (hb hby d6_27) rfl ((if0 _ _).trans (feq hc2).1) k) ?_
    show own_Go p e below s _ _ (T1.setTop (mkF m 30 #[rv a0, jv 2, .second, iv p2, iv 0, jv 4, .second] []))
    refine own_via (fun k => XS.aloadN X1.here hx rfl (hb hby d6_30) rfl rfl  (XS.dup X1.here hx rfl (hb hby d6_31) rfl rfl k)) ?_
    show own_Go p e below s _ _ (T1.setTop (mkF m 32 #[rv a0, jv 2, .second, iv p2, iv 0, jv 4, .second] [(.ref a0), (.ref a0)]))
    obtain ⟨T18, X18, e18, st18⟩ := getF X1 hx hZ hown (host := "") (Or.inl (hw _ (List.mem_of_getElem? (i := 41) rfl))) Via.refl e1 P4 (g := (mkF m 32 #[rv a0, jv 2, .second, iv p2, iv 0, jv 4, .second] [(.ref a0), (.ref a0)])) rfl rfl (hb hby d6_32)
    refine own_via (fun k => st18 _ k) ?_
    show own_Go p e below s _ _ (T18.setTop (mkF m 35 #[rv a0, jv 2, .second, iv p2, iv 0, jv 4, .second] [(.long cc), (.ref a0)]))
    refine own_via (fun k => XS.lload X18.here hx rfl (hb hby d6_35) rfl  (XS.lor X18.here hx rfl (hb hby d6_37) rfl k)) ?_
    show own_Go p e below s _ _ (T18.setTop (mkF m 38 #[rv a0, jv 2, .second, iv p2, iv 0, jv 4, .second] [(.long (cc ||| (4 : Int64))), (.ref a0)]))
    obtain ⟨T19, h19, X19, e19, W19, st19⟩ := putF X18 hx hZ hown (host := "") (Or.inl (hw _ (List.mem_of_getElem? (i := 41) rfl))) Via.refl e18 P4 P9 (Or.inl (hw _ (List.mem_of_getElem? (i := 42) rfl))) (hw _ (List.mem_of_getElem? (i := 1) rfl)) (ty := .long) (by decide) rfl rfl (g := (mkF m 38 #[rv a0, jv 2, .second, iv p2, iv 0, jv 4, .second] [(.long (cc ||| (4 : Int64))), (.ref a0)])) rfl rfl (hb hby d6_38)
    refine own_via (fun k => st19 _ k) ?_
    show own_Go p e below s _ _ (T19.setTop (mkF m 41 #[rv a0, jv 2, .second, iv p2, iv 0, jv 4, .second] []))
    have B20 := P0.other W19 (Or.inr (slot_ne (Or.inl (hw _ (List.mem_of_getElem? (i := 18) rfl))) (Or.inl (hw _ (List.mem_of_getElem? (i := 42) rfl))) (by decide) (t := .int) (t' := .long) (by decide) (by decide)))
    have B21 := P1.other W19 (Or.inr (slot_ne (Or.inl (hw _ (List.mem_of_getElem? (i := 20) rfl))) (Or.inl (hw _ (List.mem_of_getElem? (i := 42) rfl))) (by decide) (t := .int) (t' := .long) (by decide) (by decide)))
    have B22 := P2.other W19 (Or.inr (slot_ne (Or.inl (hw _ (List.mem_of_getElem? (i := 22) rfl))) (Or.inl (hw _ (List.mem_of_getElem? (i := 42) rfl))) (by decide) (t := .int) (t' := .long) (by decide) (by decide)))
    have B23 := P3.other W19 (Or.inr (slot_ne (Or.inl (hw _ (List.mem_of_getElem? (i := 28) rfl))) (Or.inl (hw _ (List.mem_of_getElem? (i := 42) rfl))) (by decide) (t := .long) (t' := .long) (by decide) (by decide)))
    have B24 := P5.other W19 (Or.inr (slot_ne (Or.inl (hw _ (List.mem_of_getElem? (i := 49) rfl))) (Or.inl (hw _ (List.mem_of_getElem? (i := 42) rfl))) (by decide) (t := .int) (t' := .long) (by decide) (by decide)))
    have B25 := P6.other W19 (Or.inr (slot_ne (Or.inl (hw _ (List.mem_of_getElem? (i := 51) rfl))) (Or.inl (hw _ (List.mem_of_getElem? (i := 42) rfl))) (by decide) (t := .long) (t' := .long) (by decide) (by decide)))
    have B26 := P7.other W19 (Or.inr (slot_ne (Or.inl (hw _ (List.mem_of_getElem? (i := 53) rfl))) (Or.inl (hw _ (List.mem_of_getElem? (i := 42) rfl))) (by decide) (t := .int) (t' := .long) (by decide) (by decide)))
    have B27 := P8.other W19 (Or.inr (slot_ne (Or.inl (hw _ (List.mem_of_getElem? (i := 55) rfl))) (Or.inl (hw _ (List.mem_of_getElem? (i := 42) rfl))) (by decide) (t := .long) (t' := .long) (by decide) (by decide)))
    have B28 := P9.wr W19
    have B29 : Fld Z h19 a0 "com/example/tree_to_rows/treetorows/query/Outcomes" "current" "J" (.long (cc ||| (4 : Int64))) := P4.same W19
    have N30 := Fr.snoc X19 N0 ge0
    have K31 : Keep h0 h19 [a0] := K0.wr W19 (Or.inl (List.mem_of_getElem? (i := 0) rfl))
    have Z32 : n0 ≤ h19.size := Nat.le_trans Z0 (Keep.of_wr W19).1
    refine own_via (fun k => XS.aloadN X19.here hx rfl (hb hby d6_41) rfl rfl  (XS.dup X19.here hx rfl (hb hby d6_42) rfl rfl k)) ?_
    show own_Go p e below s _ _ (T19.setTop (mkF m 43 #[rv a0, jv 2, .second, iv p2, iv 0, jv 4, .second] [(.ref a0), (.ref a0)]))
    obtain ⟨T33, X33, e33, st33⟩ := getF X19 hx hZ hown (host := "") (Or.inl (hw _ (List.mem_of_getElem? (i := 21) rfl))) Via.refl e19 B22 (g := (mkF m 43 #[rv a0, jv 2, .second, iv p2, iv 0, jv 4, .second] [(.ref a0), (.ref a0)])) rfl rfl (hb hby d6_43)
    refine own_via (fun k => st33 _ k) ?_
    show own_Go p e below s _ _ (T33.setTop (mkF m 46 #[rv a0, jv 2, .second, iv p2, iv 0, jv 4, .second] [(.int cw), (.ref a0)]))
    refine own_via (fun k => XS.iconst X33.here hx rfl (hb hby d6_46) (XS.isub X33.here hx rfl (hb hby d6_47) rfl k)) ?_
    show own_Go p e below s _ _ (T33.setTop (mkF m 48 #[rv a0, jv 2, .second, iv p2, iv 0, jv 4, .second] [(.int (cw - (1 : Int32))), (.ref a0)]))
    obtain ⟨T34, h34, X34, e34, W34, st34⟩ := putF X33 hx hZ hown (host := "") (Or.inl (hw _ (List.mem_of_getElem? (i := 21) rfl))) Via.refl e33 B22 B28 (Or.inl (hw _ (List.mem_of_getElem? (i := 22) rfl))) (hw _ (List.mem_of_getElem? (i := 1) rfl)) (ty := .int) (by decide) rfl rfl (g := (mkF m 48 #[rv a0, jv 2, .second, iv p2, iv 0, jv 4, .second] [(.int (cw - (1 : Int32))), (.ref a0)])) rfl rfl (hb hby d6_48)
    refine own_via (fun k => st34 _ k) ?_
    show own_Go p e below s _ _ (T34.setTop (mkF m 51 #[rv a0, jv 2, .second, iv p2, iv 0, jv 4, .second] []))
    have B35 := B20.other W34 (Or.inr (slot_ne (Or.inl (hw _ (List.mem_of_getElem? (i := 18) rfl))) (Or.inl (hw _ (List.mem_of_getElem? (i := 22) rfl))) (by decide) (t := .int) (t' := .int) (by decide) (by decide)))
    have B36 := B21.other W34 (Or.inr (slot_ne (Or.inl (hw _ (List.mem_of_getElem? (i := 20) rfl))) (Or.inl (hw _ (List.mem_of_getElem? (i := 22) rfl))) (by decide) (t := .int) (t' := .int) (by decide) (by decide)))
    have B37 := B23.other W34 (Or.inr (slot_ne (Or.inl (hw _ (List.mem_of_getElem? (i := 28) rfl))) (Or.inl (hw _ (List.mem_of_getElem? (i := 22) rfl))) (by decide) (t := .long) (t' := .int) (by decide) (by decide)))
    have B38 := B24.other W34 (Or.inr (slot_ne (Or.inl (hw _ (List.mem_of_getElem? (i := 49) rfl))) (Or.inl (hw _ (List.mem_of_getElem? (i := 22) rfl))) (by decide) (t := .int) (t' := .int) (by decide) (by decide)))
    have B39 := B25.other W34 (Or.inr (slot_ne (Or.inl (hw _ (List.mem_of_getElem? (i := 51) rfl))) (Or.inl (hw _ (List.mem_of_getElem? (i := 22) rfl))) (by decide) (t := .long) (t' := .int) (by decide) (by decide)))
    have B40 := B26.other W34 (Or.inr (slot_ne (Or.inl (hw _ (List.mem_of_getElem? (i := 53) rfl))) (Or.inl (hw _ (List.mem_of_getElem? (i := 22) rfl))) (by decide) (t := .int) (t' := .int) (by decide) (by decide)))
    have B41 := B27.other W34 (Or.inr (slot_ne (Or.inl (hw _ (List.mem_of_getElem? (i := 55) rfl))) (Or.inl (hw _ (List.mem_of_getElem? (i := 22) rfl))) (by decide) (t := .long) (t' := .int) (by decide) (by decide)))
    have B42 := B28.wr W34
    have B43 := B29.other W34 (Or.inr (slot_ne (Or.inl (hw _ (List.mem_of_getElem? (i := 42) rfl))) (Or.inl (hw _ (List.mem_of_getElem? (i := 22) rfl))) (by decide) (t := .long) (t' := .int) (by decide) (by decide)))
    have B44 : Fld Z h34 a0 "com/example/tree_to_rows/treetorows/query/Outcomes" "waiting" "I" (.int (cw - (1 : Int32))) := B22.same W34
    have N45 := Fr.snoc X34 N30 ge0
    have K46 : Keep h0 h34 [a0] := K31.wr W34 (Or.inl (List.mem_of_getElem? (i := 0) rfl))
    have Z47 : n0 ≤ h34.size := Nat.le_trans Z32 (Keep.of_wr W34).1
    refine own_via (fun k => XS.goto X34.here hx rfl (pc0 := 51) (pc' := 70) rfl (hb hby d6_51) (by decide) (by decide) k) ?_
    show own_Go p e below s _ _ (T34.setTop (mkF m 70 #[rv a0, jv 2, .second, iv p2, iv 0, jv 4, .second] []))
    exact own_ret0 X34 hx hlk Bd.returns (hb hby d6_70) (Q := (Q6_2 Z a0 p2 v_used cw v_bits cc v_readWord v_readGroup v_readBit v_read h0 n0)) ⟨rfl, N45, (by rw [e34]; exact K46), (by rw [e34]; exact B35), (by rw [e34]; exact B36), (by rw [e34]; exact B44), (by rw [e34]; exact B37), (by rw [e34]; exact own_fldJ (show (cc ||| (4 : Int64)) = (own_f6_2c p2 cc) from (by unfold own_f6_2c; exact ((if_neg hc2).trans rfl).symm)) B43), (by rw [e34]; exact B38), (by rw [e34]; exact B39), (by rw [e34]; exact B40), (by rw [e34]; exact B41)⟩ (by decide) (by decide)
theorem d5_0 : decode method_2_code 0 = .ok (.aload_n 2, 1) := by decide +kernel
theorem d5_1 : decode method_2_code 1 = .ok (.iload 4, 2) := by decide +kernel
theorem d5_3 : decode method_2_code 3 = .ok (.baload, 1) := by decide +kernel
theorem d5_4 : decode method_2_code 4 = .ok (.ifCond .eq 15, 3) := by decide +kernel
theorem d5_7 : decode method_2_code 7 = .ok (.aload_n 0, 1) := by decide +kernel
theorem d5_8 : decode method_2_code 8 = .ok (.aload_n 1, 1) := by decide +kernel
theorem d5_9 : decode method_2_code 9 = .ok (.iload 4, 2) := by decide +kernel
theorem d5_11 : decode method_2_code 11 = .ok (.laload, 1) := by decide +kernel
theorem d5_12 : decode method_2_code 12 = .ok (.aload_n 3, 1) := by decide +kernel
theorem d5_13 : decode method_2_code 13 = .ok (.iload 4, 2) := by decide +kernel
theorem d5_15 : decode method_2_code 15 = .ok (.baload, 1) := by decide +kernel
theorem d5_16 : decode method_2_code 16 = .ok (.invokevirtual 7, 3) := by decide +kernel
theorem d5_19 : decode method_2_code 19 = .ok (.return_, 1) := by decide +kernel
theorem pn_5 : plainName "com/example/tree_to_rows/treetorows/query/OutcomesSetPinLaw" = true := by first | (simp [plainName, overriddenIn]; done) | decide +kernel
theorem pd_3 : parseMethodDescriptor "(JZ)V" = some ⟨[.long, .boolean], none⟩ := by decide +kernel
theorem ef_5_0 (m : MethodId) (x0 : Addr) (x1 : Addr) (x2 : Addr) (x3 : Addr) (x4 : Int32) : entryFrame m #[(.ref x0), (.ref x1), (.ref x2), (.ref x3), (.int x4)] 5 = mkF m 0 #[rv x0, rv x1, rv x2, rv x3, iv x4] [] := by first | (simp [entryFrame, mkF, argsToLocals, Value.category]; done) | rfl
def own_f5_0w (cw : Int32) (s0 : Int32) : Int32 := (if s0 = (0 : Int32) then cw else (cw - (1 : Int32)))
def own_f5_0c (cc : Int64) (s0 : Int32) (h_0 : Int32) : Int64 := (if s0 = (0 : Int32) then cc else (own_f6_0c h_0 cc))
def Q5_0 (Z : State) (a0 : Addr) (a1 : Addr) (a2 : Addr) (a3 : Addr) (v_used : Int32) (cw : Int32) (v_bits : Int64) (cc : Int64) (v_readWord : Int32) (v_readGroup : Int64) (v_readBit : Int32) (v_read : Int64) (k1 : ClassId) (k2 : ClassId) (k3 : ClassId) (s0 : Int32) (s1 : Int32) (s2 : Int32) (h_0 : Int32) (h_1 : Int32) (h_2 : Int32) (h0 : Heap) (n0 : Nat) (v : Option Value) (h : Heap) (L : List Loc) : Prop := v = none ∧ Fr n0 L ∧ Keep h0 h [a0] ∧ Fld Z h a0 "com/example/tree_to_rows/treetorows/query/Outcomes" "size" "I" (.int 0) ∧ Fld Z h a0 "com/example/tree_to_rows/treetorows/query/Outcomes" "used" "I" (.int v_used) ∧ Fld Z h a0 "com/example/tree_to_rows/treetorows/query/Outcomes" "waiting" "I" (.int (own_f5_0w cw s0)) ∧ Fld Z h a0 "com/example/tree_to_rows/treetorows/query/Outcomes" "bits" "J" (.long v_bits) ∧ Fld Z h a0 "com/example/tree_to_rows/treetorows/query/Outcomes" "current" "J" (.long (own_f5_0c cc s0 h_0)) ∧ Fld Z h a0 "com/example/tree_to_rows/treetorows/query/Outcomes" "readWord" "I" (.int v_readWord) ∧ Fld Z h a0 "com/example/tree_to_rows/treetorows/query/Outcomes" "readGroup" "J" (.long v_readGroup) ∧ Fld Z h a0 "com/example/tree_to_rows/treetorows/query/Outcomes" "readBit" "I" (.int v_readBit) ∧ Fld Z h a0 "com/example/tree_to_rows/treetorows/query/Outcomes" "read" "J" (.long v_read)
set_option maxRecDepth 65536 in
set_option maxHeartbeats 40000000 in
theorem rm5_0 (l : Launch) (Z : State) (aw : Array Value) (hw : ∀ d ∈ tables_1, d.before aw Z = true) (ws : List Jvm.Cond) (a0 : Addr) (a1 : Addr) (a2 : Addr) (a3 : Addr) (v_used : Int32) (cw : Int32) (v_bits : Int64) (cc : Int64) (v_readWord : Int32) (v_readGroup : Int64) (v_readBit : Int32) (v_read : Int64) (k1 : ClassId) (k2 : ClassId) (k3 : ClassId) (s0 : Int32) (s1 : Int32) (s2 : Int32) (h_0 : Int32) (h_1 : Int32) (h_2 : Int32) (h0 : Heap) (n0 : Nat) (Z0 : n0 ≤ h0.size) (P0 : Fld Z h0 a0 "com/example/tree_to_rows/treetorows/query/Outcomes" "size" "I" (.int 0)) (P1 : Fld Z h0 a0 "com/example/tree_to_rows/treetorows/query/Outcomes" "used" "I" (.int v_used)) (P2 : Fld Z h0 a0 "com/example/tree_to_rows/treetorows/query/Outcomes" "waiting" "I" (.int cw)) (P3 : Fld Z h0 a0 "com/example/tree_to_rows/treetorows/query/Outcomes" "bits" "J" (.long v_bits)) (P4 : Fld Z h0 a0 "com/example/tree_to_rows/treetorows/query/Outcomes" "current" "J" (.long cc)) (P5 : Fld Z h0 a0 "com/example/tree_to_rows/treetorows/query/Outcomes" "readWord" "I" (.int v_readWord)) (P6 : Fld Z h0 a0 "com/example/tree_to_rows/treetorows/query/Outcomes" "readGroup" "J" (.long v_readGroup)) (P7 : Fld Z h0 a0 "com/example/tree_to_rows/treetorows/query/Outcomes" "readBit" "I" (.int v_readBit)) (P8 : Fld Z h0 a0 "com/example/tree_to_rows/treetorows/query/Outcomes" "read" "J" (.long v_read)) (P9 : Exa Z h0 a0 "com/example/tree_to_rows/treetorows/query/Outcomes") (P10 : Arv Z h0 a1 k1 .long (3 : Int32) [(.long 0), (.long 1), (.long 2)] (.long 0)) (P11 : Arv Z h0 a2 k2 .boolean (3 : Int32) [(.int s0), (.int s1), (.int s2)] (.int 0)) (P12 : Arv Z h0 a3 k3 .boolean (3 : Int32) [(.int h_0), (.int h_1), (.int h_2)] (.int 0)) (ge0 : n0 ≤ a0) (nx0 : a1 ≠ a0) (nx1 : a2 ≠ a0) (nx2 : a3 ≠ a0) :
    MetFree l (⟨"com/example/tree_to_rows/treetorows/query/OutcomesSetPinLaw", "step", "(Lcom/example/tree_to_rows/treetorows/query/Outcomes;[J[Z[ZI)V"⟩ : MethodName) (head1 (Jvm.Cond.code (⟨"com/example/tree_to_rows/treetorows/query/OutcomesSetPinLaw", "step", "(Lcom/example/tree_to_rows/treetorows/query/Outcomes;[J[Z[ZI)V"⟩ : MethodName) method_2_code 5 none :: ws) ({ frames := 1, cells := 0, slots := 0, locals := 18 } : Room)) (fun a U => a = #[(.ref a0), (.ref a1), (.ref a2), (.ref a3), (.int 0)] ∧ Z.Warmed39 U.vm ∧ U.heap = h0) (fun _ _ _ _ _ => True) (fun _ U o U' => ∃ v L, o = .returned v ∧ Q5_0 Z a0 a1 a2 a3 v_used cw v_bits cc v_readWord v_readGroup v_readBit v_read k1 k2 k3 s0 s1 s2 h_0 h_1 h_2 h0 n0 v U'.heap L ∧ FrameEnd U o U' L ({ frames := 1, cells := 0, slots := 0, locals := 18 } : Room).cells ({ frames := 1, cells := 0, slots := 0, locals := 18 } : Room).slots) := by
  refine MetFree.of_bodySF (plainFor_of_name pn_5) hisR ?_
  intro p e s m args below meth c s₁ Bd hml0 hP hK
  obtain ⟨rfl, hZ, hh⟩ := hP
  have hx := Bd.exec
  have hby := Bd.bytes
  have hml : c.maxLocals = 5 := hml0
  have hown : s.vm.findClass "com/example/tree_to_rows/treetorows/query/OutcomesSetPinLaw" = some m.cls := findClass_of_methodNamed Bd.named
  have hnm := (name_of_methodNamed Bd.named Bd.method).1
  have hlk : meth.locks = false := by first | exact BodyLoose.notSynchronized (by assumption) | exact Body.notSynchronized (by assumption)
  have X0 : Stand p l e ({ frames := 1, cells := 0, slots := 0, locals := 18 } : Room) s m #[(.ref a0), (.ref a1), (.ref a2), (.ref a3), (.int 0)] below meth c s₁ [] 0 0 := Stand.of_body Bd
  have e0 : s₁.heap = h0 := by rw [← hh, Bd.state]; rfl
  have N0 := Fr.nil n0
  have K0 : Keep h0 h0 [a0] := Keep.refl _ _
  refine own_start (CS := (0, 0)) (Q := (Q5_0 Z a0 a1 a2 a3 v_used cw v_bits cc v_readWord v_readGroup v_readBit v_read k1 k2 k3 s0 s1 s2 h_0 h_1 h_2 h0 n0)) (ef_5_0 m a0 a1 a2 a3 (0 : Int32)) ?_
  show own_Go p e below s _ _ (s₁.setTop (mkF m 0 #[rv a0, rv a1, rv a2, rv a3, iv 0] []))
  refine own_via (fun k => XS.aloadN X0.here hx rfl (hb hby d5_0) rfl rfl  (XS.iload X0.here hx rfl (hb hby d5_1) rfl  k)) ?_
  show own_Go p e below s _ _ (s₁.setTop (mkF m 3 #[rv a0, rv a1, rv a2, rv a3, iv 0] [(.int 0), (.ref a2)]))
  obtain ⟨cl1, Ar1, q1, S1, NN1, H1, G1⟩ := id P11
  have hin1 : ¬ ((0 : Int32) < 0 ∨ cl1.slots.size ≤ ((0 : Int32)).toNatClampNeg) := inb_of S1 ⟨by decide, by decide⟩
  have hat1 : cl1.slots[((0 : Int32)).toNatClampNeg]? = some (.int s0) := H1.at hin1 rfl
  refine own_via (fun k => X0.baloadBooleans hx (j := (0 : Int32)) (v := (.int s0)) (by rw [e0]; exact Ar1.1) (State.isArrayOf_alike hZ.alike Ar1.2.1) Ar1.2.2 hin1 hat1 (g := (mkF m 3 #[rv a0, rv a1, rv a2, rv a3, iv 0] [(.int 0), (.ref a2)])) rfl rfl (hb hby d5_3) _ k) ?_
  show own_Go p e below s _ _ (s₁.setTop (mkF m 4 #[rv a0, rv a1, rv a2, rv a3, iv 0] [(.int s0)]))
  by_cases hc2 : s0 = (0 : Int32)
  · refine own_via (fun k => XS.ifYes X0.here hx rfl (pc0 := 4) (pc' := 19) rfl (hb hby d5_4) rfl ((if0 _ _).trans (teq hc2).1) (by decide) (by decide) k) ?_
    show own_Go p e below s _ _ (s₁.setTop (mkF m 19 #[rv a0, rv a1, rv a2, rv a3, iv 0] []))
    exact own_ret0 X0 hx hlk Bd.returns (hb hby d5_19) (Q := (Q5_0 Z a0 a1 a2 a3 v_used cw v_bits cc v_readWord v_readGroup v_readBit v_read k1 k2 k3 s0 s1 s2 h_0 h_1 h_2 h0 n0)) ⟨rfl, N0, (by rw [e0]; exact K0), (by rw [e0]; exact P0), (by rw [e0]; exact P1), (by rw [e0]; exact own_fldI (show cw = (own_f5_0w cw s0) from (by unfold own_f5_0w; exact ((if_pos hc2).trans rfl).symm)) P2), (by rw [e0]; exact P3), (by rw [e0]; exact own_fldJ (show cc = (own_f5_0c cc s0 h_0) from (by unfold own_f5_0c; exact ((if_pos hc2).trans rfl).symm)) P4), (by rw [e0]; exact P5), (by rw [e0]; exact P6), (by rw [e0]; exact P7), (by rw [e0]; exact P8)⟩ (by decide) (by decide)
  · refine own_via (fun k => XS.ifNo X0.here hx rfl (hb hby d5_4) rfl ((if0 _ _).trans (feq hc2).1) k) ?_
    show own_Go p e below s _ _ (s₁.setTop (mkF m 7 #[rv a0, rv a1, rv a2, rv a3, iv 0] []))
    refine own_via (fun k => XS.aloadN X0.here hx rfl (hb hby d5_7) rfl rfl  (XS.aloadN X0.here hx rfl (hb hby d5_8) rfl rfl  (XS.iload X0.here hx rfl (hb hby d5_9) rfl  k))) ?_
    show own_Go p e below s _ _ (s₁.setTop (mkF m 11 #[rv a0, rv a1, rv a2, rv a3, iv 0] [(.int 0), (.ref a1), (.ref a0)]))
    obtain ⟨cl3, Ar3, q3, S3, NN3, H3, G3⟩ := id P10
    have hin3 : ¬ ((0 : Int32) < 0 ∨ cl3.slots.size ≤ ((0 : Int32)).toNatClampNeg) := inb_of S3 ⟨by decide, by decide⟩
    have hat3 : cl3.slots[((0 : Int32)).toNatClampNeg]? = some (.long 0) := H3.at hin3 rfl
    refine own_via (fun k => X0.laload hx (j := (0 : Int32)) (v := (.long 0)) (by rw [e0]; exact Ar3.1) (State.isArrayOf_alike hZ.alike Ar3.2.1) Ar3.2.2 hin3 hat3 (g := (mkF m 11 #[rv a0, rv a1, rv a2, rv a3, iv 0] [(.int 0), (.ref a1), (.ref a0)])) rfl rfl (hb hby d5_11) _ k) ?_
    show own_Go p e below s _ _ (s₁.setTop (mkF m 12 #[rv a0, rv a1, rv a2, rv a3, iv 0] [(.long 0), (.ref a0)]))
    refine own_via (fun k => XS.aloadN X0.here hx rfl (hb hby d5_12) rfl rfl  (XS.iload X0.here hx rfl (hb hby d5_13) rfl  k)) ?_
    show own_Go p e below s _ _ (s₁.setTop (mkF m 15 #[rv a0, rv a1, rv a2, rv a3, iv 0] [(.int 0), (.ref a3), (.long 0), (.ref a0)]))
    obtain ⟨cl4, Ar4, q4, S4, NN4, H4, G4⟩ := id P12
    have hin4 : ¬ ((0 : Int32) < 0 ∨ cl4.slots.size ≤ ((0 : Int32)).toNatClampNeg) := inb_of S4 ⟨by decide, by decide⟩
    have hat4 : cl4.slots[((0 : Int32)).toNatClampNeg]? = some (.int h_0) := H4.at hin4 rfl
    refine own_via (fun k => X0.baloadBooleans hx (j := (0 : Int32)) (v := (.int h_0)) (by rw [e0]; exact Ar4.1) (State.isArrayOf_alike hZ.alike Ar4.2.1) Ar4.2.2 hin4 hat4 (g := (mkF m 15 #[rv a0, rv a1, rv a2, rv a3, iv 0] [(.int 0), (.ref a3), (.long 0), (.ref a0)])) rfl rfl (hb hby d5_15) _ k) ?_
    show own_Go p e below s _ _ (s₁.setTop (mkF m 16 #[rv a0, rv a1, rv a2, rv a3, iv 0] [(.int h_0), (.long 0), (.ref a0)]))
    obtain ⟨cq5, kq5, q5a, q5b, q5c⟩ := isOf hZ e0 P9
    obtain ⟨_, _, ⟨T5, L5, k5, n5⟩, -, X5, ⟨Lc5, hQ5, l5, y5, z5⟩, st5⟩ := X0.virtualBack hx (y := (⟨"com/example/tree_to_rows/treetorows/query/Outcomes", "set", "(JZ)V"⟩ : MethodName)) (z := (⟨"com/example/tree_to_rows/treetorows/query/Outcomes", "set", "(JZ)V"⟩ : MethodName)) hown (mvT hZ (hw _ (List.mem_of_getElem? (i := 35) rfl))) (mvT hZ (hw _ (List.mem_of_getElem? (i := 36) rfl))) (notFace_of_selects (args := #[]) (mvT hZ (hw _ (List.mem_of_getElem? (i := 38) rfl)))) (mvT hZ (hw _ (List.mem_of_getElem? (i := 38) rfl))) (mvT hZ (hw _ (List.mem_of_getElem? (i := 37) rfl))) (by decide) (backOf (W := 0) (rm6_0 l Z aw hw [] a0 h_0 v_used cw v_bits cc v_readWord v_readGroup v_readBit v_read h0 n0 Z0 P0 P1 P2 P3 P4 P5 P6 P7 P8 P9 ge0) hZ (hw _ (List.mem_of_getElem? (i := 39) rfl)) (hw _ (List.mem_of_getElem? (i := 2) rfl)) (by decide) (by decide)) q5a q5c (g := (mkF m 16 #[rv a0, rv a1, rv a2, rv a3, iv 0] [(.int h_0), (.long 0), (.ref a0)])) rfl (by rw [hml]; rfl) (Steps.refl _) (argsL := [(.long 0), (.int h_0)]) (rest := []) (lenOf pd_3 rfl) rfl (by show 2 * 0 + _ ≤ _; exact Nat.le_of_eq rfl) (hb hby d5_16) (fun _ _ => ⟨rfl, e0, (by decide : 0 + 0 ≤ _), (by decide : 0 + 0 ≤ _)⟩)
    dsimp only [Pt.U, Pt.locs, Pt.cells, Pt.slots] at X5 l5 y5 z5 st5 hQ5
    subst l5 y5 z5
    obtain ⟨rfl, N5q, K5, B6, B7, B8, B9, B10, B11, B12, B13, B14⟩ := hQ5
    have N15 := Fr.app N0 N5q
    have B16 := P9.keep K5
    have B17 := P10.keep K5 (ninS nx0 nin0)
    have B18 := P11.keep K5 (ninS nx1 nin0)
    have B19 := P12.keep K5 (ninS nx2 nin0)
    have Z20 : n0 ≤ T5.heap.size := Nat.le_trans Z0 K5.1
    have K21 : Keep h0 T5.heap [a0] := K0.trans K5 (allS (Or.inl (List.mem_of_getElem? (i := 0) rfl)) all0)
    refine own_via (fun k => st5.trans k) ?_
    show own_Go p e below s _ _ (T5.setTop (mkF m 19 #[rv a0, rv a1, rv a2, rv a3, iv 0] []))
    exact own_ret0 X5 hx hlk Bd.returns (hb hby d5_19) (Q := (Q5_0 Z a0 a1 a2 a3 v_used cw v_bits cc v_readWord v_readGroup v_readBit v_read k1 k2 k3 s0 s1 s2 h_0 h_1 h_2 h0 n0)) ⟨rfl, N15, (K21), (B6), (B7), (own_fldI (show (cw - (1 : Int32)) = (own_f5_0w cw s0) from (by unfold own_f5_0w; exact ((if_neg hc2).trans rfl).symm)) B8), (B9), (own_fldJ (show (own_f6_0c h_0 cc) = (own_f5_0c cc s0 h_0) from (by unfold own_f5_0c; exact ((if_neg hc2).trans rfl).symm)) B10), (B11), (B12), (B13), (B14)⟩ (by decide) (by decide)
theorem ef_5_1 (m : MethodId) (x0 : Addr) (x1 : Addr) (x2 : Addr) (x3 : Addr) (x4 : Int32) : entryFrame m #[(.ref x0), (.ref x1), (.ref x2), (.ref x3), (.int x4)] 5 = mkF m 0 #[rv x0, rv x1, rv x2, rv x3, iv x4] [] := by first | (simp [entryFrame, mkF, argsToLocals, Value.category]; done) | rfl
def own_f5_1w (cw : Int32) (s1 : Int32) : Int32 := (if s1 = (0 : Int32) then cw else (cw - (1 : Int32)))
def own_f5_1c (cc : Int64) (s1 : Int32) (h_1 : Int32) : Int64 := (if s1 = (0 : Int32) then cc else (own_f6_1c h_1 cc))
def Q5_1 (Z : State) (a0 : Addr) (a1 : Addr) (a2 : Addr) (a3 : Addr) (v_used : Int32) (cw : Int32) (v_bits : Int64) (cc : Int64) (v_readWord : Int32) (v_readGroup : Int64) (v_readBit : Int32) (v_read : Int64) (k1 : ClassId) (k2 : ClassId) (k3 : ClassId) (s0 : Int32) (s1 : Int32) (s2 : Int32) (h_0 : Int32) (h_1 : Int32) (h_2 : Int32) (h0 : Heap) (n0 : Nat) (v : Option Value) (h : Heap) (L : List Loc) : Prop := v = none ∧ Fr n0 L ∧ Keep h0 h [a0] ∧ Fld Z h a0 "com/example/tree_to_rows/treetorows/query/Outcomes" "size" "I" (.int 0) ∧ Fld Z h a0 "com/example/tree_to_rows/treetorows/query/Outcomes" "used" "I" (.int v_used) ∧ Fld Z h a0 "com/example/tree_to_rows/treetorows/query/Outcomes" "waiting" "I" (.int (own_f5_1w cw s1)) ∧ Fld Z h a0 "com/example/tree_to_rows/treetorows/query/Outcomes" "bits" "J" (.long v_bits) ∧ Fld Z h a0 "com/example/tree_to_rows/treetorows/query/Outcomes" "current" "J" (.long (own_f5_1c cc s1 h_1)) ∧ Fld Z h a0 "com/example/tree_to_rows/treetorows/query/Outcomes" "readWord" "I" (.int v_readWord) ∧ Fld Z h a0 "com/example/tree_to_rows/treetorows/query/Outcomes" "readGroup" "J" (.long v_readGroup) ∧ Fld Z h a0 "com/example/tree_to_rows/treetorows/query/Outcomes" "readBit" "I" (.int v_readBit) ∧ Fld Z h a0 "com/example/tree_to_rows/treetorows/query/Outcomes" "read" "J" (.long v_read)
set_option maxRecDepth 65536 in
set_option maxHeartbeats 40000000 in
theorem rm5_1 (l : Launch) (Z : State) (aw : Array Value) (hw : ∀ d ∈ tables_1, d.before aw Z = true) (ws : List Jvm.Cond) (a0 : Addr) (a1 : Addr) (a2 : Addr) (a3 : Addr) (v_used : Int32) (cw : Int32) (v_bits : Int64) (cc : Int64) (v_readWord : Int32) (v_readGroup : Int64) (v_readBit : Int32) (v_read : Int64) (k1 : ClassId) (k2 : ClassId) (k3 : ClassId) (s0 : Int32) (s1 : Int32) (s2 : Int32) (h_0 : Int32) (h_1 : Int32) (h_2 : Int32) (h0 : Heap) (n0 : Nat) (Z0 : n0 ≤ h0.size) (P0 : Fld Z h0 a0 "com/example/tree_to_rows/treetorows/query/Outcomes" "size" "I" (.int 0)) (P1 : Fld Z h0 a0 "com/example/tree_to_rows/treetorows/query/Outcomes" "used" "I" (.int v_used)) (P2 : Fld Z h0 a0 "com/example/tree_to_rows/treetorows/query/Outcomes" "waiting" "I" (.int cw)) (P3 : Fld Z h0 a0 "com/example/tree_to_rows/treetorows/query/Outcomes" "bits" "J" (.long v_bits)) (P4 : Fld Z h0 a0 "com/example/tree_to_rows/treetorows/query/Outcomes" "current" "J" (.long cc)) (P5 : Fld Z h0 a0 "com/example/tree_to_rows/treetorows/query/Outcomes" "readWord" "I" (.int v_readWord)) (P6 : Fld Z h0 a0 "com/example/tree_to_rows/treetorows/query/Outcomes" "readGroup" "J" (.long v_readGroup)) (P7 : Fld Z h0 a0 "com/example/tree_to_rows/treetorows/query/Outcomes" "readBit" "I" (.int v_readBit)) (P8 : Fld Z h0 a0 "com/example/tree_to_rows/treetorows/query/Outcomes" "read" "J" (.long v_read)) (P9 : Exa Z h0 a0 "com/example/tree_to_rows/treetorows/query/Outcomes") (P10 : Arv Z h0 a1 k1 .long (3 : Int32) [(.long 0), (.long 1), (.long 2)] (.long 0)) (P11 : Arv Z h0 a2 k2 .boolean (3 : Int32) [(.int s0), (.int s1), (.int s2)] (.int 0)) (P12 : Arv Z h0 a3 k3 .boolean (3 : Int32) [(.int h_0), (.int h_1), (.int h_2)] (.int 0)) (ge0 : n0 ≤ a0) (nx0 : a1 ≠ a0) (nx1 : a2 ≠ a0) (nx2 : a3 ≠ a0) :
    MetFree l (⟨"com/example/tree_to_rows/treetorows/query/OutcomesSetPinLaw", "step", "(Lcom/example/tree_to_rows/treetorows/query/Outcomes;[J[Z[ZI)V"⟩ : MethodName) (head1 (Jvm.Cond.code (⟨"com/example/tree_to_rows/treetorows/query/OutcomesSetPinLaw", "step", "(Lcom/example/tree_to_rows/treetorows/query/Outcomes;[J[Z[ZI)V"⟩ : MethodName) method_2_code 5 none :: ws) ({ frames := 1, cells := 0, slots := 0, locals := 18 } : Room)) (fun a U => a = #[(.ref a0), (.ref a1), (.ref a2), (.ref a3), (.int 1)] ∧ Z.Warmed39 U.vm ∧ U.heap = h0) (fun _ _ _ _ _ => True) (fun _ U o U' => ∃ v L, o = .returned v ∧ Q5_1 Z a0 a1 a2 a3 v_used cw v_bits cc v_readWord v_readGroup v_readBit v_read k1 k2 k3 s0 s1 s2 h_0 h_1 h_2 h0 n0 v U'.heap L ∧ FrameEnd U o U' L ({ frames := 1, cells := 0, slots := 0, locals := 18 } : Room).cells ({ frames := 1, cells := 0, slots := 0, locals := 18 } : Room).slots) := by
  refine MetFree.of_bodySF (plainFor_of_name pn_5) hisR ?_
  intro p e s m args below meth c s₁ Bd hml0 hP hK
  obtain ⟨rfl, hZ, hh⟩ := hP
  have hx := Bd.exec
  have hby := Bd.bytes
  have hml : c.maxLocals = 5 := hml0
  have hown : s.vm.findClass "com/example/tree_to_rows/treetorows/query/OutcomesSetPinLaw" = some m.cls := findClass_of_methodNamed Bd.named
  have hnm := (name_of_methodNamed Bd.named Bd.method).1
  have hlk : meth.locks = false := by first | exact BodyLoose.notSynchronized (by assumption) | exact Body.notSynchronized (by assumption)
  have X0 : Stand p l e ({ frames := 1, cells := 0, slots := 0, locals := 18 } : Room) s m #[(.ref a0), (.ref a1), (.ref a2), (.ref a3), (.int 1)] below meth c s₁ [] 0 0 := Stand.of_body Bd
  have e0 : s₁.heap = h0 := by rw [← hh, Bd.state]; rfl
  have N0 := Fr.nil n0
  have K0 : Keep h0 h0 [a0] := Keep.refl _ _
  refine own_start (CS := (0, 0)) (Q := (Q5_1 Z a0 a1 a2 a3 v_used cw v_bits cc v_readWord v_readGroup v_readBit v_read k1 k2 k3 s0 s1 s2 h_0 h_1 h_2 h0 n0)) (ef_5_1 m a0 a1 a2 a3 (1 : Int32)) ?_
  show own_Go p e below s _ _ (s₁.setTop (mkF m 0 #[rv a0, rv a1, rv a2, rv a3, iv 1] []))
  refine own_via (fun k => XS.aloadN X0.here hx rfl (hb hby d5_0) rfl rfl  (XS.iload X0.here hx rfl (hb hby d5_1) rfl  k)) ?_
  show own_Go p e below s _ _ (s₁.setTop (mkF m 3 #[rv a0, rv a1, rv a2, rv a3, iv 1] [(.int 1), (.ref a2)]))
  obtain ⟨cl1, Ar1, q1, S1, NN1, H1, G1⟩ := id P11
  have hin1 : ¬ ((1 : Int32) < 0 ∨ cl1.slots.size ≤ ((1 : Int32)).toNatClampNeg) := inb_of S1 ⟨by decide, by decide⟩
  have hat1 : cl1.slots[((1 : Int32)).toNatClampNeg]? = some (.int s1) := H1.at hin1 rfl
  refine own_via (fun k => X0.baloadBooleans hx (j := (1 : Int32)) (v := (.int s1)) (by rw [e0]; exact Ar1.1) (State.isArrayOf_alike hZ.alike Ar1.2.1) Ar1.2.2 hin1 hat1 (g := (mkF m 3 #[rv a0, rv a1, rv a2, rv a3, iv 1] [(.int 1), (.ref a2)])) rfl rfl (hb hby d5_3) _ k) ?_
  show own_Go p e below s _ _ (s₁.setTop (mkF m 4 #[rv a0, rv a1, rv a2, rv a3, iv 1] [(.int s1)]))
  by_cases hc2 : s1 = (0 : Int32)
  · refine own_via (fun k => XS.ifYes X0.here hx rfl (pc0 := 4) (pc' := 19) rfl (hb hby d5_4) rfl ((if0 _ _).trans (teq hc2).1) (by decide) (by decide) k) ?_
    show own_Go p e below s _ _ (s₁.setTop (mkF m 19 #[rv a0, rv a1, rv a2, rv a3, iv 1] []))
    exact own_ret0 X0 hx hlk Bd.returns (hb hby d5_19) (Q := (Q5_1 Z a0 a1 a2 a3 v_used cw v_bits cc v_readWord v_readGroup v_readBit v_read k1 k2 k3 s0 s1 s2 h_0 h_1 h_2 h0 n0)) ⟨rfl, N0, (by rw [e0]; exact K0), (by rw [e0]; exact P0), (by rw [e0]; exact P1), (by rw [e0]; exact own_fldI (show cw = (own_f5_1w cw s1) from (by unfold own_f5_1w; exact ((if_pos hc2).trans rfl).symm)) P2), (by rw [e0]; exact P3), (by rw [e0]; exact own_fldJ (show cc = (own_f5_1c cc s1 h_1) from (by unfold own_f5_1c; exact ((if_pos hc2).trans rfl).symm)) P4), (by rw [e0]; exact P5), (by rw [e0]; exact P6), (by rw [e0]; exact P7), (by rw [e0]; exact P8)⟩ (by decide) (by decide)
  · refine own_via (fun k => XS.ifNo X0.here hx rfl (hb hby d5_4) rfl ((if0 _ _).trans (feq hc2).1) k) ?_
    show own_Go p e below s _ _ (s₁.setTop (mkF m 7 #[rv a0, rv a1, rv a2, rv a3, iv 1] []))
    refine own_via (fun k => XS.aloadN X0.here hx rfl (hb hby d5_7) rfl rfl  (XS.aloadN X0.here hx rfl (hb hby d5_8) rfl rfl  (XS.iload X0.here hx rfl (hb hby d5_9) rfl  k))) ?_
    show own_Go p e below s _ _ (s₁.setTop (mkF m 11 #[rv a0, rv a1, rv a2, rv a3, iv 1] [(.int 1), (.ref a1), (.ref a0)]))
    obtain ⟨cl3, Ar3, q3, S3, NN3, H3, G3⟩ := id P10
    have hin3 : ¬ ((1 : Int32) < 0 ∨ cl3.slots.size ≤ ((1 : Int32)).toNatClampNeg) := inb_of S3 ⟨by decide, by decide⟩
    have hat3 : cl3.slots[((1 : Int32)).toNatClampNeg]? = some (.long 1) := H3.at hin3 rfl
    refine own_via (fun k => X0.laload hx (j := (1 : Int32)) (v := (.long 1)) (by rw [e0]; exact Ar3.1) (State.isArrayOf_alike hZ.alike Ar3.2.1) Ar3.2.2 hin3 hat3 (g := (mkF m 11 #[rv a0, rv a1, rv a2, rv a3, iv 1] [(.int 1), (.ref a1), (.ref a0)])) rfl rfl (hb hby d5_11) _ k) ?_
    show own_Go p e below s _ _ (s₁.setTop (mkF m 12 #[rv a0, rv a1, rv a2, rv a3, iv 1] [(.long 1), (.ref a0)]))
    refine own_via (fun k => XS.aloadN X0.here hx rfl (hb hby d5_12) rfl rfl  (XS.iload X0.here hx rfl (hb hby d5_13) rfl  k)) ?_
    show own_Go p e below s _ _ (s₁.setTop (mkF m 15 #[rv a0, rv a1, rv a2, rv a3, iv 1] [(.int 1), (.ref a3), (.long 1), (.ref a0)]))
    obtain ⟨cl4, Ar4, q4, S4, NN4, H4, G4⟩ := id P12
    have hin4 : ¬ ((1 : Int32) < 0 ∨ cl4.slots.size ≤ ((1 : Int32)).toNatClampNeg) := inb_of S4 ⟨by decide, by decide⟩
    have hat4 : cl4.slots[((1 : Int32)).toNatClampNeg]? = some (.int h_1) := H4.at hin4 rfl
    refine own_via (fun k => X0.baloadBooleans hx (j := (1 : Int32)) (v := (.int h_1)) (by rw [e0]; exact Ar4.1) (State.isArrayOf_alike hZ.alike Ar4.2.1) Ar4.2.2 hin4 hat4 (g := (mkF m 15 #[rv a0, rv a1, rv a2, rv a3, iv 1] [(.int 1), (.ref a3), (.long 1), (.ref a0)])) rfl rfl (hb hby d5_15) _ k) ?_
    show own_Go p e below s _ _ (s₁.setTop (mkF m 16 #[rv a0, rv a1, rv a2, rv a3, iv 1] [(.int h_1), (.long 1), (.ref a0)]))
    obtain ⟨cq5, kq5, q5a, q5b, q5c⟩ := isOf hZ e0 P9
    obtain ⟨_, _, ⟨T5, L5, k5, n5⟩, -, X5, ⟨Lc5, hQ5, l5, y5, z5⟩, st5⟩ := X0.virtualBack hx (y := (⟨"com/example/tree_to_rows/treetorows/query/Outcomes", "set", "(JZ)V"⟩ : MethodName)) (z := (⟨"com/example/tree_to_rows/treetorows/query/Outcomes", "set", "(JZ)V"⟩ : MethodName)) hown (mvT hZ (hw _ (List.mem_of_getElem? (i := 35) rfl))) (mvT hZ (hw _ (List.mem_of_getElem? (i := 36) rfl))) (notFace_of_selects (args := #[]) (mvT hZ (hw _ (List.mem_of_getElem? (i := 38) rfl)))) (mvT hZ (hw _ (List.mem_of_getElem? (i := 38) rfl))) (mvT hZ (hw _ (List.mem_of_getElem? (i := 37) rfl))) (by decide) (backOf (W := 0) (rm6_1 l Z aw hw [] a0 h_1 v_used cw v_bits cc v_readWord v_readGroup v_readBit v_read h0 n0 Z0 P0 P1 P2 P3 P4 P5 P6 P7 P8 P9 ge0) hZ (hw _ (List.mem_of_getElem? (i := 39) rfl)) (hw _ (List.mem_of_getElem? (i := 2) rfl)) (by decide) (by decide)) q5a q5c (g := (mkF m 16 #[rv a0, rv a1, rv a2, rv a3, iv 1] [(.int h_1), (.long 1), (.ref a0)])) rfl (by rw [hml]; rfl) (Steps.refl _) (argsL := [(.long 1), (.int h_1)]) (rest := []) (lenOf pd_3 rfl) rfl (by show 2 * 0 + _ ≤ _; exact Nat.le_of_eq rfl) (hb hby d5_16) (fun _ _ => ⟨rfl, e0, (by decide : 0 + 0 ≤ _), (by decide : 0 + 0 ≤ _)⟩)
    dsimp only [Pt.U, Pt.locs, Pt.cells, Pt.slots] at X5 l5 y5 z5 st5 hQ5
    subst l5 y5 z5
    obtain ⟨rfl, N5q, K5, B6, B7, B8, B9, B10, B11, B12, B13, B14⟩ := hQ5
    have N15 := Fr.app N0 N5q
    have B16 := P9.keep K5
    have B17 := P10.keep K5 (ninS nx0 nin0)
    have B18 := P11.keep K5 (ninS nx1 nin0)
    have B19 := P12.keep K5 (ninS nx2 nin0)
    have Z20 : n0 ≤ T5.heap.size := Nat.le_trans Z0 K5.1
    have K21 : Keep h0 T5.heap [a0] := K0.trans K5 (allS (Or.inl (List.mem_of_getElem? (i := 0) rfl)) all0)
    refine own_via (fun k => st5.trans k) ?_
    show own_Go p e below s _ _ (T5.setTop (mkF m 19 #[rv a0, rv a1, rv a2, rv a3, iv 1] []))
    exact own_ret0 X5 hx hlk Bd.returns (hb hby d5_19) (Q := (Q5_1 Z a0 a1 a2 a3 v_used cw v_bits cc v_readWord v_readGroup v_readBit v_read k1 k2 k3 s0 s1 s2 h_0 h_1 h_2 h0 n0)) ⟨rfl, N15, (K21), (B6), (B7), (own_fldI (show (cw - (1 : Int32)) = (own_f5_1w cw s1) from (by unfold own_f5_1w; exact ((if_neg hc2).trans rfl).symm)) B8), (B9), (own_fldJ (show (own_f6_1c h_1 cc) = (own_f5_1c cc s1 h_1) from (by unfold own_f5_1c; exact ((if_neg hc2).trans rfl).symm)) B10), (B11), (B12), (B13), (B14)⟩ (by decide) (by decide)
theorem ef_5_2 (m : MethodId) (x0 : Addr) (x1 : Addr) (x2 : Addr) (x3 : Addr) (x4 : Int32) : entryFrame m #[(.ref x0), (.ref x1), (.ref x2), (.ref x3), (.int x4)] 5 = mkF m 0 #[rv x0, rv x1, rv x2, rv x3, iv x4] [] := by first | (simp [entryFrame, mkF, argsToLocals, Value.category]; done) | rfl
def own_f5_2w (cw : Int32) (s2 : Int32) : Int32 := (if s2 = (0 : Int32) then cw else (cw - (1 : Int32)))
def own_f5_2c (cc : Int64) (s2 : Int32) (h_2 : Int32) : Int64 := (if s2 = (0 : Int32) then cc else (own_f6_2c h_2 cc))
def Q5_2 (Z : State) (a0 : Addr) (a1 : Addr) (a2 : Addr) (a3 : Addr) (v_used : Int32) (cw : Int32) (v_bits : Int64) (cc : Int64) (v_readWord : Int32) (v_readGroup : Int64) (v_readBit : Int32) (v_read : Int64) (k1 : ClassId) (k2 : ClassId) (k3 : ClassId) (s0 : Int32) (s1 : Int32) (s2 : Int32) (h_0 : Int32) (h_1 : Int32) (h_2 : Int32) (h0 : Heap) (n0 : Nat) (v : Option Value) (h : Heap) (L : List Loc) : Prop := v = none ∧ Fr n0 L ∧ Keep h0 h [a0] ∧ Fld Z h a0 "com/example/tree_to_rows/treetorows/query/Outcomes" "size" "I" (.int 0) ∧ Fld Z h a0 "com/example/tree_to_rows/treetorows/query/Outcomes" "used" "I" (.int v_used) ∧ Fld Z h a0 "com/example/tree_to_rows/treetorows/query/Outcomes" "waiting" "I" (.int (own_f5_2w cw s2)) ∧ Fld Z h a0 "com/example/tree_to_rows/treetorows/query/Outcomes" "bits" "J" (.long v_bits) ∧ Fld Z h a0 "com/example/tree_to_rows/treetorows/query/Outcomes" "current" "J" (.long (own_f5_2c cc s2 h_2)) ∧ Fld Z h a0 "com/example/tree_to_rows/treetorows/query/Outcomes" "readWord" "I" (.int v_readWord) ∧ Fld Z h a0 "com/example/tree_to_rows/treetorows/query/Outcomes" "readGroup" "J" (.long v_readGroup) ∧ Fld Z h a0 "com/example/tree_to_rows/treetorows/query/Outcomes" "readBit" "I" (.int v_readBit) ∧ Fld Z h a0 "com/example/tree_to_rows/treetorows/query/Outcomes" "read" "J" (.long v_read)
set_option maxRecDepth 65536 in
set_option maxHeartbeats 40000000 in
theorem rm5_2 (l : Launch) (Z : State) (aw : Array Value) (hw : ∀ d ∈ tables_1, d.before aw Z = true) (ws : List Jvm.Cond) (a0 : Addr) (a1 : Addr) (a2 : Addr) (a3 : Addr) (v_used : Int32) (cw : Int32) (v_bits : Int64) (cc : Int64) (v_readWord : Int32) (v_readGroup : Int64) (v_readBit : Int32) (v_read : Int64) (k1 : ClassId) (k2 : ClassId) (k3 : ClassId) (s0 : Int32) (s1 : Int32) (s2 : Int32) (h_0 : Int32) (h_1 : Int32) (h_2 : Int32) (h0 : Heap) (n0 : Nat) (Z0 : n0 ≤ h0.size) (P0 : Fld Z h0 a0 "com/example/tree_to_rows/treetorows/query/Outcomes" "size" "I" (.int 0)) (P1 : Fld Z h0 a0 "com/example/tree_to_rows/treetorows/query/Outcomes" "used" "I" (.int v_used)) (P2 : Fld Z h0 a0 "com/example/tree_to_rows/treetorows/query/Outcomes" "waiting" "I" (.int cw)) (P3 : Fld Z h0 a0 "com/example/tree_to_rows/treetorows/query/Outcomes" "bits" "J" (.long v_bits)) (P4 : Fld Z h0 a0 "com/example/tree_to_rows/treetorows/query/Outcomes" "current" "J" (.long cc)) (P5 : Fld Z h0 a0 "com/example/tree_to_rows/treetorows/query/Outcomes" "readWord" "I" (.int v_readWord)) (P6 : Fld Z h0 a0 "com/example/tree_to_rows/treetorows/query/Outcomes" "readGroup" "J" (.long v_readGroup)) (P7 : Fld Z h0 a0 "com/example/tree_to_rows/treetorows/query/Outcomes" "readBit" "I" (.int v_readBit)) (P8 : Fld Z h0 a0 "com/example/tree_to_rows/treetorows/query/Outcomes" "read" "J" (.long v_read)) (P9 : Exa Z h0 a0 "com/example/tree_to_rows/treetorows/query/Outcomes") (P10 : Arv Z h0 a1 k1 .long (3 : Int32) [(.long 0), (.long 1), (.long 2)] (.long 0)) (P11 : Arv Z h0 a2 k2 .boolean (3 : Int32) [(.int s0), (.int s1), (.int s2)] (.int 0)) (P12 : Arv Z h0 a3 k3 .boolean (3 : Int32) [(.int h_0), (.int h_1), (.int h_2)] (.int 0)) (ge0 : n0 ≤ a0) (nx0 : a1 ≠ a0) (nx1 : a2 ≠ a0) (nx2 : a3 ≠ a0) :
    MetFree l (⟨"com/example/tree_to_rows/treetorows/query/OutcomesSetPinLaw", "step", "(Lcom/example/tree_to_rows/treetorows/query/Outcomes;[J[Z[ZI)V"⟩ : MethodName) (head1 (Jvm.Cond.code (⟨"com/example/tree_to_rows/treetorows/query/OutcomesSetPinLaw", "step", "(Lcom/example/tree_to_rows/treetorows/query/Outcomes;[J[Z[ZI)V"⟩ : MethodName) method_2_code 5 none :: ws) ({ frames := 1, cells := 0, slots := 0, locals := 18 } : Room)) (fun a U => a = #[(.ref a0), (.ref a1), (.ref a2), (.ref a3), (.int 2)] ∧ Z.Warmed39 U.vm ∧ U.heap = h0) (fun _ _ _ _ _ => True) (fun _ U o U' => ∃ v L, o = .returned v ∧ Q5_2 Z a0 a1 a2 a3 v_used cw v_bits cc v_readWord v_readGroup v_readBit v_read k1 k2 k3 s0 s1 s2 h_0 h_1 h_2 h0 n0 v U'.heap L ∧ FrameEnd U o U' L ({ frames := 1, cells := 0, slots := 0, locals := 18 } : Room).cells ({ frames := 1, cells := 0, slots := 0, locals := 18 } : Room).slots) := by
  refine MetFree.of_bodySF (plainFor_of_name pn_5) hisR ?_
  intro p e s m args below meth c s₁ Bd hml0 hP hK
  obtain ⟨rfl, hZ, hh⟩ := hP
  have hx := Bd.exec
  have hby := Bd.bytes
  have hml : c.maxLocals = 5 := hml0
  have hown : s.vm.findClass "com/example/tree_to_rows/treetorows/query/OutcomesSetPinLaw" = some m.cls := findClass_of_methodNamed Bd.named
  have hnm := (name_of_methodNamed Bd.named Bd.method).1
  have hlk : meth.locks = false := by first | exact BodyLoose.notSynchronized (by assumption) | exact Body.notSynchronized (by assumption)
  have X0 : Stand p l e ({ frames := 1, cells := 0, slots := 0, locals := 18 } : Room) s m #[(.ref a0), (.ref a1), (.ref a2), (.ref a3), (.int 2)] below meth c s₁ [] 0 0 := Stand.of_body Bd
  have e0 : s₁.heap = h0 := by rw [← hh, Bd.state]; rfl
  have N0 := Fr.nil n0
  have K0 : Keep h0 h0 [a0] := Keep.refl _ _
  refine own_start (CS := (0, 0)) (Q := (Q5_2 Z a0 a1 a2 a3 v_used cw v_bits cc v_readWord v_readGroup v_readBit v_read k1 k2 k3 s0 s1 s2 h_0 h_1 h_2 h0 n0)) (ef_5_2 m a0 a1 a2 a3 (2 : Int32)) ?_
  show own_Go p e below s _ _ (s₁.setTop (mkF m 0 #[rv a0, rv a1, rv a2, rv a3, iv 2] []))
  refine own_via (fun k => XS.aloadN X0.here hx rfl (hb hby d5_0) rfl rfl  (XS.iload X0.here hx rfl (hb hby d5_1) rfl  k)) ?_
  show own_Go p e below s _ _ (s₁.setTop (mkF m 3 #[rv a0, rv a1, rv a2, rv a3, iv 2] [(.int 2), (.ref a2)]))
  obtain ⟨cl1, Ar1, q1, S1, NN1, H1, G1⟩ := id P11
  have hin1 : ¬ ((2 : Int32) < 0 ∨ cl1.slots.size ≤ ((2 : Int32)).toNatClampNeg) := inb_of S1 ⟨by decide, by decide⟩
  have hat1 : cl1.slots[((2 : Int32)).toNatClampNeg]? = some (.int s2) := H1.at hin1 rfl
  refine own_via (fun k => X0.baloadBooleans hx (j := (2 : Int32)) (v := (.int s2)) (by rw [e0]; exact Ar1.1) (State.isArrayOf_alike hZ.alike Ar1.2.1) Ar1.2.2 hin1 hat1 (g := (mkF m 3 #[rv a0, rv a1, rv a2, rv a3, iv 2] [(.int 2), (.ref a2)])) rfl rfl (hb hby d5_3) _ k) ?_
  show own_Go p e below s _ _ (s₁.setTop (mkF m 4 #[rv a0, rv a1, rv a2, rv a3, iv 2] [(.int s2)]))
  by_cases hc2 : s2 = (0 : Int32)
  · refine own_via (fun k => XS.ifYes X0.here hx rfl (pc0 := 4) (pc' := 19) rfl (hb hby d5_4) rfl ((if0 _ _).trans (teq hc2).1) (by decide) (by decide) k) ?_
    show own_Go p e below s _ _ (s₁.setTop (mkF m 19 #[rv a0, rv a1, rv a2, rv a3, iv 2] []))
    exact own_ret0 X0 hx hlk Bd.returns (hb hby d5_19) (Q := (Q5_2 Z a0 a1 a2 a3 v_used cw v_bits cc v_readWord v_readGroup v_readBit v_read k1 k2 k3 s0 s1 s2 h_0 h_1 h_2 h0 n0)) ⟨rfl, N0, (by rw [e0]; exact K0), (by rw [e0]; exact P0), (by rw [e0]; exact P1), (by rw [e0]; exact own_fldI (show cw = (own_f5_2w cw s2) from (by unfold own_f5_2w; exact ((if_pos hc2).trans rfl).symm)) P2), (by rw [e0]; exact P3), (by rw [e0]; exact own_fldJ (show cc = (own_f5_2c cc s2 h_2) from (by unfold own_f5_2c; exact ((if_pos hc2).trans rfl).symm)) P4), (by rw [e0]; exact P5), (by rw [e0]; exact P6), (by rw [e0]; exact P7), (by rw [e0]; exact P8)⟩ (by decide) (by decide)
  · refine own_via (fun k => XS.ifNo X0.here hx rfl (hb hby d5_4) rfl ((if0 _ _).trans (feq hc2).1) k) ?_
    show own_Go p e below s _ _ (s₁.setTop (mkF m 7 #[rv a0, rv a1, rv a2, rv a3, iv 2] []))
    refine own_via (fun k => XS.aloadN X0.here hx rfl (hb hby d5_7) rfl rfl  (XS.aloadN X0.here hx rfl (hb hby d5_8) rfl rfl  (XS.iload X0.here hx rfl (hb hby d5_9) rfl  k))) ?_
    show own_Go p e below s _ _ (s₁.setTop (mkF m 11 #[rv a0, rv a1, rv a2, rv a3, iv 2] [(.int 2), (.ref a1), (.ref a0)]))
    obtain ⟨cl3, Ar3, q3, S3, NN3, H3, G3⟩ := id P10
    have hin3 : ¬ ((2 : Int32) < 0 ∨ cl3.slots.size ≤ ((2 : Int32)).toNatClampNeg) := inb_of S3 ⟨by decide, by decide⟩
    have hat3 : cl3.slots[((2 : Int32)).toNatClampNeg]? = some (.long 2) := H3.at hin3 rfl
    refine own_via (fun k => X0.laload hx (j := (2 : Int32)) (v := (.long 2)) (by rw [e0]; exact Ar3.1) (State.isArrayOf_alike hZ.alike Ar3.2.1) Ar3.2.2 hin3 hat3 (g := (mkF m 11 #[rv a0, rv a1, rv a2, rv a3, iv 2] [(.int 2), (.ref a1), (.ref a0)])) rfl rfl (hb hby d5_11) _ k) ?_
    show own_Go p e below s _ _ (s₁.setTop (mkF m 12 #[rv a0, rv a1, rv a2, rv a3, iv 2] [(.long 2), (.ref a0)]))
    refine own_via (fun k => XS.aloadN X0.here hx rfl (hb hby d5_12) rfl rfl  (XS.iload X0.here hx rfl (hb hby d5_13) rfl  k)) ?_
    show own_Go p e below s _ _ (s₁.setTop (mkF m 15 #[rv a0, rv a1, rv a2, rv a3, iv 2] [(.int 2), (.ref a3), (.long 2), (.ref a0)]))
    obtain ⟨cl4, Ar4, q4, S4, NN4, H4, G4⟩ := id P12
    have hin4 : ¬ ((2 : Int32) < 0 ∨ cl4.slots.size ≤ ((2 : Int32)).toNatClampNeg) := inb_of S4 ⟨by decide, by decide⟩
    have hat4 : cl4.slots[((2 : Int32)).toNatClampNeg]? = some (.int h_2) := H4.at hin4 rfl
    refine own_via (fun k => X0.baloadBooleans hx (j := (2 : Int32)) (v := (.int h_2)) (by rw [e0]; exact Ar4.1) (State.isArrayOf_alike hZ.alike Ar4.2.1) Ar4.2.2 hin4 hat4 (g := (mkF m 15 #[rv a0, rv a1, rv a2, rv a3, iv 2] [(.int 2), (.ref a3), (.long 2), (.ref a0)])) rfl rfl (hb hby d5_15) _ k) ?_
    show own_Go p e below s _ _ (s₁.setTop (mkF m 16 #[rv a0, rv a1, rv a2, rv a3, iv 2] [(.int h_2), (.long 2), (.ref a0)]))
    obtain ⟨cq5, kq5, q5a, q5b, q5c⟩ := isOf hZ e0 P9
    obtain ⟨_, _, ⟨T5, L5, k5, n5⟩, -, X5, ⟨Lc5, hQ5, l5, y5, z5⟩, st5⟩ := X0.virtualBack hx (y := (⟨"com/example/tree_to_rows/treetorows/query/Outcomes", "set", "(JZ)V"⟩ : MethodName)) (z := (⟨"com/example/tree_to_rows/treetorows/query/Outcomes", "set", "(JZ)V"⟩ : MethodName)) hown (mvT hZ (hw _ (List.mem_of_getElem? (i := 35) rfl))) (mvT hZ (hw _ (List.mem_of_getElem? (i := 36) rfl))) (notFace_of_selects (args := #[]) (mvT hZ (hw _ (List.mem_of_getElem? (i := 38) rfl)))) (mvT hZ (hw _ (List.mem_of_getElem? (i := 38) rfl))) (mvT hZ (hw _ (List.mem_of_getElem? (i := 37) rfl))) (by decide) (backOf (W := 0) (rm6_2 l Z aw hw [] a0 h_2 v_used cw v_bits cc v_readWord v_readGroup v_readBit v_read h0 n0 Z0 P0 P1 P2 P3 P4 P5 P6 P7 P8 P9 ge0) hZ (hw _ (List.mem_of_getElem? (i := 39) rfl)) (hw _ (List.mem_of_getElem? (i := 2) rfl)) (by decide) (by decide)) q5a q5c (g := (mkF m 16 #[rv a0, rv a1, rv a2, rv a3, iv 2] [(.int h_2), (.long 2), (.ref a0)])) rfl (by rw [hml]; rfl) (Steps.refl _) (argsL := [(.long 2), (.int h_2)]) (rest := []) (lenOf pd_3 rfl) rfl (by show 2 * 0 + _ ≤ _; exact Nat.le_of_eq rfl) (hb hby d5_16) (fun _ _ => ⟨rfl, e0, (by decide : 0 + 0 ≤ _), (by decide : 0 + 0 ≤ _)⟩)
    dsimp only [Pt.U, Pt.locs, Pt.cells, Pt.slots] at X5 l5 y5 z5 st5 hQ5
    subst l5 y5 z5
    obtain ⟨rfl, N5q, K5, B6, B7, B8, B9, B10, B11, B12, B13, B14⟩ := hQ5
    have N15 := Fr.app N0 N5q
    have B16 := P9.keep K5
    have B17 := P10.keep K5 (ninS nx0 nin0)
    have B18 := P11.keep K5 (ninS nx1 nin0)
    have B19 := P12.keep K5 (ninS nx2 nin0)
    have Z20 : n0 ≤ T5.heap.size := Nat.le_trans Z0 K5.1
    have K21 : Keep h0 T5.heap [a0] := K0.trans K5 (allS (Or.inl (List.mem_of_getElem? (i := 0) rfl)) all0)
    refine own_via (fun k => st5.trans k) ?_
    show own_Go p e below s _ _ (T5.setTop (mkF m 19 #[rv a0, rv a1, rv a2, rv a3, iv 2] []))
    exact own_ret0 X5 hx hlk Bd.returns (hb hby d5_19) (Q := (Q5_2 Z a0 a1 a2 a3 v_used cw v_bits cc v_readWord v_readGroup v_readBit v_read k1 k2 k3 s0 s1 s2 h_0 h_1 h_2 h0 n0)) ⟨rfl, N15, (K21), (B6), (B7), (own_fldI (show (cw - (1 : Int32)) = (own_f5_2w cw s2) from (by unfold own_f5_2w; exact ((if_neg hc2).trans rfl).symm)) B8), (B9), (own_fldJ (show (own_f6_2c h_2 cc) = (own_f5_2c cc s2 h_2) from (by unfold own_f5_2c; exact ((if_neg hc2).trans rfl).symm)) B10), (B11), (B12), (B13), (B14)⟩ (by decide) (by decide)
theorem d7_0 : decode prog_24_method_5_code 0 = .ok (.aload_n 0, 1) := by decide +kernel
theorem d7_1 : decode prog_24_method_5_code 1 = .ok (.iconst 0, 1) := by decide +kernel
theorem d7_2 : decode prog_24_method_5_code 2 = .ok (.putfield 47, 3) := by decide +kernel
theorem d7_5 : decode prog_24_method_5_code 5 = .ok (.aload_n 0, 1) := by decide +kernel
theorem d7_6 : decode prog_24_method_5_code 6 = .ok (.lconst 0, 1) := by decide +kernel
theorem d7_7 : decode prog_24_method_5_code 7 = .ok (.putfield 57, 3) := by decide +kernel
theorem d7_10 : decode prog_24_method_5_code 10 = .ok (.aload_n 0, 1) := by decide +kernel
theorem d7_11 : decode prog_24_method_5_code 11 = .ok (.iconst 0, 1) := by decide +kernel
theorem d7_12 : decode prog_24_method_5_code 12 = .ok (.putfield 54, 3) := by decide +kernel
theorem d7_15 : decode prog_24_method_5_code 15 = .ok (.aload_n 0, 1) := by decide +kernel
theorem d7_16 : decode prog_24_method_5_code 16 = .ok (.lconst 0, 1) := by decide +kernel
theorem d7_17 : decode prog_24_method_5_code 17 = .ok (.putfield 32, 3) := by decide +kernel
theorem d7_20 : decode prog_24_method_5_code 20 = .ok (.return_, 1) := by decide +kernel
theorem pn_7 : plainName "com/example/tree_to_rows/treetorows/query/Outcomes" = true := by first | (simp [plainName, overriddenIn]; done) | decide +kernel
theorem ef_7 (m : MethodId) (x0 : Addr) : entryFrame m #[(.ref x0)] 1 = mkF m 0 #[rv x0] [] := by first | (simp [entryFrame, mkF, argsToLocals, Value.category]; done) | rfl
def Q7 (Z : State) (a0 : Addr) (v_size : Int32) (v_used : Int32) (v_waiting : Int32) (v_bits : Int64) (v_current : Int64) (h0 : Heap) (n0 : Nat) (v : Option Value) (h : Heap) (L : List Loc) : Prop := v = none ∧ Fr n0 L ∧ Keep h0 h [a0] ∧ Fld Z h a0 "com/example/tree_to_rows/treetorows/query/Outcomes" "size" "I" (.int v_size) ∧ Fld Z h a0 "com/example/tree_to_rows/treetorows/query/Outcomes" "used" "I" (.int v_used) ∧ Fld Z h a0 "com/example/tree_to_rows/treetorows/query/Outcomes" "waiting" "I" (.int v_waiting) ∧ Fld Z h a0 "com/example/tree_to_rows/treetorows/query/Outcomes" "bits" "J" (.long v_bits) ∧ Fld Z h a0 "com/example/tree_to_rows/treetorows/query/Outcomes" "current" "J" (.long v_current) ∧ Fld Z h a0 "com/example/tree_to_rows/treetorows/query/Outcomes" "readWord" "I" (.int 0) ∧ Fld Z h a0 "com/example/tree_to_rows/treetorows/query/Outcomes" "readGroup" "J" (.long 0) ∧ Fld Z h a0 "com/example/tree_to_rows/treetorows/query/Outcomes" "readBit" "I" (.int 0) ∧ Fld Z h a0 "com/example/tree_to_rows/treetorows/query/Outcomes" "read" "J" (.long 0)
set_option maxRecDepth 65536 in
set_option maxHeartbeats 40000000 in
theorem rm7 (l : Launch) (Z : State) (aw : Array Value) (hw : ∀ d ∈ tables_1, d.before aw Z = true) (ws : List Jvm.Cond) (a0 : Addr) (v_size : Int32) (v_used : Int32) (v_waiting : Int32) (v_bits : Int64) (v_current : Int64) (h0 : Heap) (n0 : Nat) (Z0 : n0 ≤ h0.size) (P0 : Fld Z h0 a0 "com/example/tree_to_rows/treetorows/query/Outcomes" "size" "I" (.int v_size)) (P1 : Fld Z h0 a0 "com/example/tree_to_rows/treetorows/query/Outcomes" "used" "I" (.int v_used)) (P2 : Fld Z h0 a0 "com/example/tree_to_rows/treetorows/query/Outcomes" "waiting" "I" (.int v_waiting)) (P3 : Fld Z h0 a0 "com/example/tree_to_rows/treetorows/query/Outcomes" "bits" "J" (.long v_bits)) (P4 : Fld Z h0 a0 "com/example/tree_to_rows/treetorows/query/Outcomes" "current" "J" (.long v_current)) (P5 : Fld Z h0 a0 "com/example/tree_to_rows/treetorows/query/Outcomes" "readWord" "I" (.int 0)) (P6 : Fld Z h0 a0 "com/example/tree_to_rows/treetorows/query/Outcomes" "readGroup" "J" (.long 0)) (P7 : Fld Z h0 a0 "com/example/tree_to_rows/treetorows/query/Outcomes" "readBit" "I" (.int 0)) (P8 : Fld Z h0 a0 "com/example/tree_to_rows/treetorows/query/Outcomes" "read" "J" (.long 0)) (P9 : Exa Z h0 a0 "com/example/tree_to_rows/treetorows/query/Outcomes") (ge0 : n0 ≤ a0) :
    MetFree l (⟨"com/example/tree_to_rows/treetorows/query/Outcomes", "rewind", "()V"⟩ : MethodName) (head1 (Jvm.Cond.code (⟨"com/example/tree_to_rows/treetorows/query/Outcomes", "rewind", "()V"⟩ : MethodName) prog_24_method_5_code 1 none :: ws) ({ frames := 0, cells := 0, slots := 0, locals := 0 } : Room)) (fun a U => a = #[(.ref a0)] ∧ Z.Warmed39 U.vm ∧ U.heap = h0) (fun _ _ _ _ _ => True) (fun _ U o U' => ∃ v L, o = .returned v ∧ Q7 Z a0 v_size v_used v_waiting v_bits v_current h0 n0 v U'.heap L ∧ FrameEnd U o U' L ({ frames := 0, cells := 0, slots := 0, locals := 0 } : Room).cells ({ frames := 0, cells := 0, slots := 0, locals := 0 } : Room).slots) := by
  refine MetFree.of_bodySF (plainFor_of_name pn_7) hisR ?_
  intro p e s m args below meth c s₁ Bd hml0 hP hK
  obtain ⟨rfl, hZ, hh⟩ := hP
  have hx := Bd.exec
  have hby := Bd.bytes
  have hml : c.maxLocals = 1 := hml0
  have hown : s.vm.findClass "com/example/tree_to_rows/treetorows/query/Outcomes" = some m.cls := findClass_of_methodNamed Bd.named
  have hnm := (name_of_methodNamed Bd.named Bd.method).1
  have hlk : meth.locks = false := by first | exact BodyLoose.notSynchronized (by assumption) | exact Body.notSynchronized (by assumption)
  have X0 : Stand p l e ({ frames := 0, cells := 0, slots := 0, locals := 0 } : Room) s m #[(.ref a0)] below meth c s₁ [] 0 0 := Stand.of_body Bd
  have e0 : s₁.heap = h0 := by rw [← hh, Bd.state]; rfl
  have N0 := Fr.nil n0
  have K0 : Keep h0 h0 [a0] := Keep.refl _ _
  refine own_start (CS := (0, 0)) (Q := (Q7 Z a0 v_size v_used v_waiting v_bits v_current h0 n0)) (ef_7 m a0) ?_
  show own_Go p e below s _ _ (s₁.setTop (mkF m 0 #[rv a0] []))
  refine own_via (fun k => XS.aloadN X0.here hx rfl (hb hby d7_0) rfl rfl  (XS.iconst X0.here hx rfl (hb hby d7_1) k)) ?_
  show own_Go p e below s _ _ (s₁.setTop (mkF m 2 #[rv a0] [(.int 0), (.ref a0)]))
  obtain ⟨T1, h1, X1, e1, W1, st1⟩ := putF X0 hx hZ hown (host := "") (Or.inl (hw _ (List.mem_of_getElem? (i := 48) rfl))) Via.refl e0 P5 P9 (Or.inl (hw _ (List.mem_of_getElem? (i := 49) rfl))) (hw _ (List.mem_of_getElem? (i := 1) rfl)) (ty := .int) (by decide) rfl rfl (g := (mkF m 2 #[rv a0] [(.int 0), (.ref a0)])) rfl rfl (hb hby d7_2)
  refine own_via (fun k => st1 _ k) ?_
  show own_Go p e below s _ _ (T1.setTop (mkF m 5 #[rv a0] []))
  have B2 := P0.other W1 (Or.inr (slot_ne (Or.inl (hw _ (List.mem_of_getElem? (i := 18) rfl))) (Or.inl (hw _ (List.mem_of_getElem? (i := 49) rfl))) (by decide) (t := .int) (t' := .int) (by decide) (by decide)))
  have B3 := P1.other W1 (Or.inr (slot_ne (Or.inl (hw _ (List.mem_of_getElem? (i := 20) rfl))) (Or.inl (hw _ (List.mem_of_getElem? (i := 49) rfl))) (by decide) (t := .int) (t' := .int) (by decide) (by decide)))
  have B4 := P2.other W1 (Or.inr (slot_ne (Or.inl (hw _ (List.mem_of_getElem? (i := 22) rfl))) (Or.inl (hw _ (List.mem_of_getElem? (i := 49) rfl))) (by decide) (t := .int) (t' := .int) (by decide) (by decide)))
  have B5 := P3.other W1 (Or.inr (slot_ne (Or.inl (hw _ (List.mem_of_getElem? (i := 28) rfl))) (Or.inl (hw _ (List.mem_of_getElem? (i := 49) rfl))) (by decide) (t := .long) (t' := .int) (by decide) (by decide)))
  have B6 := P4.other W1 (Or.inr (slot_ne (Or.inl (hw _ (List.mem_of_getElem? (i := 42) rfl))) (Or.inl (hw _ (List.mem_of_getElem? (i := 49) rfl))) (by decide) (t := .long) (t' := .int) (by decide) (by decide)))
  have B7 := P6.other W1 (Or.inr (slot_ne (Or.inl (hw _ (List.mem_of_getElem? (i := 51) rfl))) (Or.inl (hw _ (List.mem_of_getElem? (i := 49) rfl))) (by decide) (t := .long) (t' := .int) (by decide) (by decide)))
  have B8 := P7.other W1 (Or.inr (slot_ne (Or.inl (hw _ (List.mem_of_getElem? (i := 53) rfl))) (Or.inl (hw _ (List.mem_of_getElem? (i := 49) rfl))) (by decide) (t := .int) (t' := .int) (by decide) (by decide)))
  have B9 := P8.other W1 (Or.inr (slot_ne (Or.inl (hw _ (List.mem_of_getElem? (i := 55) rfl))) (Or.inl (hw _ (List.mem_of_getElem? (i := 49) rfl))) (by decide) (t := .long) (t' := .int) (by decide) (by decide)))
  have B10 := P9.wr W1
  have B11 : Fld Z h1 a0 "com/example/tree_to_rows/treetorows/query/Outcomes" "readWord" "I" (.int 0) := P5.same W1
  have N12 := Fr.snoc X1 N0 ge0
  have K13 : Keep h0 h1 [a0] := K0.wr W1 (Or.inl (List.mem_of_getElem? (i := 0) rfl))
  have Z14 : n0 ≤ h1.size := Nat.le_trans Z0 (Keep.of_wr W1).1
  refine own_via (fun k => XS.aloadN X1.here hx rfl (hb hby d7_5) rfl rfl  (XS.lconst X1.here hx rfl (hb hby d7_6) k)) ?_
  show own_Go p e below s _ _ (T1.setTop (mkF m 7 #[rv a0] [(.long 0), (.ref a0)]))
  obtain ⟨T15, h15, X15, e15, W15, st15⟩ := putF X1 hx hZ hown (host := "") (Or.inl (hw _ (List.mem_of_getElem? (i := 50) rfl))) Via.refl e1 B7 B10 (Or.inl (hw _ (List.mem_of_getElem? (i := 51) rfl))) (hw _ (List.mem_of_getElem? (i := 1) rfl)) (ty := .long) (by decide) rfl rfl (g := (mkF m 7 #[rv a0] [(.long 0), (.ref a0)])) rfl rfl (hb hby d7_7)
  refine own_via (fun k => st15 _ k) ?_
  show own_Go p e below s _ _ (T15.setTop (mkF m 10 #[rv a0] []))
  have B16 := B2.other W15 (Or.inr (slot_ne (Or.inl (hw _ (List.mem_of_getElem? (i := 18) rfl))) (Or.inl (hw _ (List.mem_of_getElem? (i := 51) rfl))) (by decide) (t := .int) (t' := .long) (by decide) (by decide)))
  have B17 := B3.other W15 (Or.inr (slot_ne (Or.inl (hw _ (List.mem_of_getElem? (i := 20) rfl))) (Or.inl (hw _ (List.mem_of_getElem? (i := 51) rfl))) (by decide) (t := .int) (t' := .long) (by decide) (by decide)))
  have B18 := B4.other W15 (Or.inr (slot_ne (Or.inl (hw _ (List.mem_of_getElem? (i := 22) rfl))) (Or.inl (hw _ (List.mem_of_getElem? (i := 51) rfl))) (by decide) (t := .int) (t' := .long) (by decide) (by decide)))
  have B19 := B5.other W15 (Or.inr (slot_ne (Or.inl (hw _ (List.mem_of_getElem? (i := 28) rfl))) (Or.inl (hw _ (List.mem_of_getElem? (i := 51) rfl))) (by decide) (t := .long) (t' := .long) (by decide) (by decide)))
  have B20 := B6.other W15 (Or.inr (slot_ne (Or.inl (hw _ (List.mem_of_getElem? (i := 42) rfl))) (Or.inl (hw _ (List.mem_of_getElem? (i := 51) rfl))) (by decide) (t := .long) (t' := .long) (by decide) (by decide)))
  have B21 := B8.other W15 (Or.inr (slot_ne (Or.inl (hw _ (List.mem_of_getElem? (i := 53) rfl))) (Or.inl (hw _ (List.mem_of_getElem? (i := 51) rfl))) (by decide) (t := .int) (t' := .long) (by decide) (by decide)))
  have B22 := B9.other W15 (Or.inr (slot_ne (Or.inl (hw _ (List.mem_of_getElem? (i := 55) rfl))) (Or.inl (hw _ (List.mem_of_getElem? (i := 51) rfl))) (by decide) (t := .long) (t' := .long) (by decide) (by decide)))
  have B23 := B10.wr W15
  have B24 := B11.other W15 (Or.inr (slot_ne (Or.inl (hw _ (List.mem_of_getElem? (i := 49) rfl))) (Or.inl (hw _ (List.mem_of_getElem? (i := 51) rfl))) (by decide) (t := .int) (t' := .long) (by decide) (by decide)))
  have B25 : Fld Z h15 a0 "com/example/tree_to_rows/treetorows/query/Outcomes" "readGroup" "J" (.long 0) := B7.same W15
  have N26 := Fr.snoc X15 N12 ge0
  have K27 : Keep h0 h15 [a0] := K13.wr W15 (Or.inl (List.mem_of_getElem? (i := 0) rfl))
  have Z28 : n0 ≤ h15.size := Nat.le_trans Z14 (Keep.of_wr W15).1
  refine own_via (fun k => XS.aloadN X15.here hx rfl (hb hby d7_10) rfl rfl  (XS.iconst X15.here hx rfl (hb hby d7_11) k)) ?_
  show own_Go p e below s _ _ (T15.setTop (mkF m 12 #[rv a0] [(.int 0), (.ref a0)]))
  obtain ⟨T29, h29, X29, e29, W29, st29⟩ := putF X15 hx hZ hown (host := "") (Or.inl (hw _ (List.mem_of_getElem? (i := 52) rfl))) Via.refl e15 B21 B23 (Or.inl (hw _ (List.mem_of_getElem? (i := 53) rfl))) (hw _ (List.mem_of_getElem? (i := 1) rfl)) (ty := .int) (by decide) rfl rfl (g := (mkF m 12 #[rv a0] [(.int 0), (.ref a0)])) rfl rfl (hb hby d7_12)
  refine own_via (fun k => st29 _ k) ?_
  show own_Go p e below s _ _ (T29.setTop (mkF m 15 #[rv a0] []))
  have B30 := B16.other W29 (Or.inr (slot_ne (Or.inl (hw _ (List.mem_of_getElem? (i := 18) rfl))) (Or.inl (hw _ (List.mem_of_getElem? (i := 53) rfl))) (by decide) (t := .int) (t' := .int) (by decide) (by decide)))
  have B31 := B17.other W29 (Or.inr (slot_ne (Or.inl (hw _ (List.mem_of_getElem? (i := 20) rfl))) (Or.inl (hw _ (List.mem_of_getElem? (i := 53) rfl))) (by decide) (t := .int) (t' := .int) (by decide) (by decide)))
  have B32 := B18.other W29 (Or.inr (slot_ne (Or.inl (hw _ (List.mem_of_getElem? (i := 22) rfl))) (Or.inl (hw _ (List.mem_of_getElem? (i := 53) rfl))) (by decide) (t := .int) (t' := .int) (by decide) (by decide)))
  have B33 := B19.other W29 (Or.inr (slot_ne (Or.inl (hw _ (List.mem_of_getElem? (i := 28) rfl))) (Or.inl (hw _ (List.mem_of_getElem? (i := 53) rfl))) (by decide) (t := .long) (t' := .int) (by decide) (by decide)))
  have B34 := B20.other W29 (Or.inr (slot_ne (Or.inl (hw _ (List.mem_of_getElem? (i := 42) rfl))) (Or.inl (hw _ (List.mem_of_getElem? (i := 53) rfl))) (by decide) (t := .long) (t' := .int) (by decide) (by decide)))
  have B35 := B22.other W29 (Or.inr (slot_ne (Or.inl (hw _ (List.mem_of_getElem? (i := 55) rfl))) (Or.inl (hw _ (List.mem_of_getElem? (i := 53) rfl))) (by decide) (t := .long) (t' := .int) (by decide) (by decide)))
  have B36 := B23.wr W29
  have B37 := B24.other W29 (Or.inr (slot_ne (Or.inl (hw _ (List.mem_of_getElem? (i := 49) rfl))) (Or.inl (hw _ (List.mem_of_getElem? (i := 53) rfl))) (by decide) (t := .int) (t' := .int) (by decide) (by decide)))
  have B38 := B25.other W29 (Or.inr (slot_ne (Or.inl (hw _ (List.mem_of_getElem? (i := 51) rfl))) (Or.inl (hw _ (List.mem_of_getElem? (i := 53) rfl))) (by decide) (t := .long) (t' := .int) (by decide) (by decide)))
  have B39 : Fld Z h29 a0 "com/example/tree_to_rows/treetorows/query/Outcomes" "readBit" "I" (.int 0) := B21.same W29
  have N40 := Fr.snoc X29 N26 ge0
  have K41 : Keep h0 h29 [a0] := K27.wr W29 (Or.inl (List.mem_of_getElem? (i := 0) rfl))
  have Z42 : n0 ≤ h29.size := Nat.le_trans Z28 (Keep.of_wr W29).1
  refine own_via (fun k => XS.aloadN X29.here hx rfl (hb hby d7_15) rfl rfl  (XS.lconst X29.here hx rfl (hb hby d7_16) k)) ?_
  show own_Go p e below s _ _ (T29.setTop (mkF m 17 #[rv a0] [(.long 0), (.ref a0)]))
  obtain ⟨T43, h43, X43, e43, W43, st43⟩ := putF X29 hx hZ hown (host := "") (Or.inl (hw _ (List.mem_of_getElem? (i := 54) rfl))) Via.refl e29 B35 B36 (Or.inl (hw _ (List.mem_of_getElem? (i := 55) rfl))) (hw _ (List.mem_of_getElem? (i := 1) rfl)) (ty := .long) (by decide) rfl rfl (g := (mkF m 17 #[rv a0] [(.long 0), (.ref a0)])) rfl rfl (hb hby d7_17)
  refine own_via (fun k => st43 _ k) ?_
  show own_Go p e below s _ _ (T43.setTop (mkF m 20 #[rv a0] []))
  have B44 := B30.other W43 (Or.inr (slot_ne (Or.inl (hw _ (List.mem_of_getElem? (i := 18) rfl))) (Or.inl (hw _ (List.mem_of_getElem? (i := 55) rfl))) (by decide) (t := .int) (t' := .long) (by decide) (by decide)))
  have B45 := B31.other W43 (Or.inr (slot_ne (Or.inl (hw _ (List.mem_of_getElem? (i := 20) rfl))) (Or.inl (hw _ (List.mem_of_getElem? (i := 55) rfl))) (by decide) (t := .int) (t' := .long) (by decide) (by decide)))
  have B46 := B32.other W43 (Or.inr (slot_ne (Or.inl (hw _ (List.mem_of_getElem? (i := 22) rfl))) (Or.inl (hw _ (List.mem_of_getElem? (i := 55) rfl))) (by decide) (t := .int) (t' := .long) (by decide) (by decide)))
  have B47 := B33.other W43 (Or.inr (slot_ne (Or.inl (hw _ (List.mem_of_getElem? (i := 28) rfl))) (Or.inl (hw _ (List.mem_of_getElem? (i := 55) rfl))) (by decide) (t := .long) (t' := .long) (by decide) (by decide)))
  have B48 := B34.other W43 (Or.inr (slot_ne (Or.inl (hw _ (List.mem_of_getElem? (i := 42) rfl))) (Or.inl (hw _ (List.mem_of_getElem? (i := 55) rfl))) (by decide) (t := .long) (t' := .long) (by decide) (by decide)))
  have B49 := B36.wr W43
  have B50 := B37.other W43 (Or.inr (slot_ne (Or.inl (hw _ (List.mem_of_getElem? (i := 49) rfl))) (Or.inl (hw _ (List.mem_of_getElem? (i := 55) rfl))) (by decide) (t := .int) (t' := .long) (by decide) (by decide)))
  have B51 := B38.other W43 (Or.inr (slot_ne (Or.inl (hw _ (List.mem_of_getElem? (i := 51) rfl))) (Or.inl (hw _ (List.mem_of_getElem? (i := 55) rfl))) (by decide) (t := .long) (t' := .long) (by decide) (by decide)))
  have B52 := B39.other W43 (Or.inr (slot_ne (Or.inl (hw _ (List.mem_of_getElem? (i := 53) rfl))) (Or.inl (hw _ (List.mem_of_getElem? (i := 55) rfl))) (by decide) (t := .int) (t' := .long) (by decide) (by decide)))
  have B53 : Fld Z h43 a0 "com/example/tree_to_rows/treetorows/query/Outcomes" "read" "J" (.long 0) := B35.same W43
  have N54 := Fr.snoc X43 N40 ge0
  have K55 : Keep h0 h43 [a0] := K41.wr W43 (Or.inl (List.mem_of_getElem? (i := 0) rfl))
  have Z56 : n0 ≤ h43.size := Nat.le_trans Z42 (Keep.of_wr W43).1
  exact own_ret0 X43 hx hlk Bd.returns (hb hby d7_20) (Q := (Q7 Z a0 v_size v_used v_waiting v_bits v_current h0 n0)) ⟨rfl, N54, (by rw [e43]; exact K55), (by rw [e43]; exact B44), (by rw [e43]; exact B45), (by rw [e43]; exact B46), (by rw [e43]; exact B47), (by rw [e43]; exact B48), (by rw [e43]; exact B50), (by rw [e43]; exact B51), (by rw [e43]; exact B52), (by rw [e43]; exact B53)⟩ (by decide) (by decide)
theorem d8_0 : decode prog_24_method_4_code 0 = .ok (.aload_n 0, 1) := by decide +kernel
theorem d8_1 : decode prog_24_method_4_code 1 = .ok (.getfield 32, 3) := by decide +kernel
theorem d8_4 : decode prog_24_method_4_code 4 = .ok (.aload_n 0, 1) := by decide +kernel
theorem d8_5 : decode prog_24_method_4_code 5 = .ok (.getfield 35, 3) := by decide +kernel
theorem d8_8 : decode prog_24_method_4_code 8 = .ok (.lcmp, 1) := by decide +kernel
theorem d8_9 : decode prog_24_method_4_code 9 = .ok (.ifCond .ne 20, 3) := by decide +kernel
theorem d8_29 : decode prog_24_method_4_code 29 = .ok (.aload_n 0, 1) := by decide +kernel
theorem d8_30 : decode prog_24_method_4_code 30 = .ok (.getfield 47, 3) := by decide +kernel
theorem d8_33 : decode prog_24_method_4_code 33 = .ok (.aload_n 0, 1) := by decide +kernel
theorem d8_34 : decode prog_24_method_4_code 34 = .ok (.getfield 13, 3) := by decide +kernel
theorem d8_37 : decode prog_24_method_4_code 37 = .ok (.if_icmp .ge 15, 3) := by decide +kernel
theorem d8_52 : decode prog_24_method_4_code 52 = .ok (.aload_n 0, 1) := by decide +kernel
theorem d8_53 : decode prog_24_method_4_code 53 = .ok (.getfield 28, 3) := by decide +kernel
theorem d8_56 : decode prog_24_method_4_code 56 = .ok (.lstore_n 1, 1) := by decide +kernel
theorem d8_57 : decode prog_24_method_4_code 57 = .ok (.lload_n 1, 1) := by decide +kernel
theorem d8_58 : decode prog_24_method_4_code 58 = .ok (.ldc2_w 50, 3) := by decide +kernel
theorem d8_61 : decode prog_24_method_4_code 61 = .ok (.land, 1) := by decide +kernel
theorem d8_62 : decode prog_24_method_4_code 62 = .ok (.lconst 0, 1) := by decide +kernel
theorem d8_63 : decode prog_24_method_4_code 63 = .ok (.lcmp, 1) := by decide +kernel
theorem d8_64 : decode prog_24_method_4_code 64 = .ok (.ifCond .eq 22, 3) := by decide +kernel
theorem d8_67 : decode prog_24_method_4_code 67 = .ok (.lload_n 1, 1) := by decide +kernel
theorem d8_68 : decode prog_24_method_4_code 68 = .ok (.ldc2_w 52, 3) := by decide +kernel
theorem d8_71 : decode prog_24_method_4_code 71 = .ok (.land, 1) := by decide +kernel
theorem d8_72 : decode prog_24_method_4_code 72 = .ok (.lconst 0, 1) := by decide +kernel
theorem d8_73 : decode prog_24_method_4_code 73 = .ok (.lcmp, 1) := by decide +kernel
theorem d8_74 : decode prog_24_method_4_code 74 = .ok (.ifCond .eq 7, 3) := by decide +kernel
theorem d8_77 : decode prog_24_method_4_code 77 = .ok (.iconst 1, 1) := by decide +kernel
theorem d8_78 : decode prog_24_method_4_code 78 = .ok (.goto 4, 3) := by decide +kernel
theorem d8_81 : decode prog_24_method_4_code 81 = .ok (.iconst 0, 1) := by decide +kernel
theorem d8_82 : decode prog_24_method_4_code 82 = .ok (.istore_n 3, 1) := by decide +kernel
theorem d8_83 : decode prog_24_method_4_code 83 = .ok (.goto 22, 3) := by decide +kernel
theorem d8_86 : decode prog_24_method_4_code 86 = .ok (.lload_n 1, 1) := by decide +kernel
theorem d8_87 : decode prog_24_method_4_code 87 = .ok (.aload_n 0, 1) := by decide +kernel
theorem d8_88 : decode prog_24_method_4_code 88 = .ok (.getfield 54, 3) := by decide +kernel
theorem d8_91 : decode prog_24_method_4_code 91 = .ok (.lushr, 1) := by decide +kernel
theorem d8_92 : decode prog_24_method_4_code 92 = .ok (.lconst 1, 1) := by decide +kernel
theorem d8_93 : decode prog_24_method_4_code 93 = .ok (.land, 1) := by decide +kernel
theorem d8_94 : decode prog_24_method_4_code 94 = .ok (.lconst 0, 1) := by decide +kernel
theorem d8_95 : decode prog_24_method_4_code 95 = .ok (.lcmp, 1) := by decide +kernel
theorem d8_96 : decode prog_24_method_4_code 96 = .ok (.ifCond .eq 7, 3) := by decide +kernel
theorem d8_99 : decode prog_24_method_4_code 99 = .ok (.iconst 1, 1) := by decide +kernel
theorem d8_100 : decode prog_24_method_4_code 100 = .ok (.goto 4, 3) := by decide +kernel
theorem d8_103 : decode prog_24_method_4_code 103 = .ok (.iconst 0, 1) := by decide +kernel
theorem d8_104 : decode prog_24_method_4_code 104 = .ok (.istore_n 3, 1) := by decide +kernel
theorem d8_105 : decode prog_24_method_4_code 105 = .ok (.aload_n 0, 1) := by decide +kernel
theorem d8_106 : decode prog_24_method_4_code 106 = .ok (.dup, 1) := by decide +kernel
theorem d8_107 : decode prog_24_method_4_code 107 = .ok (.getfield 32, 3) := by decide +kernel
theorem d8_110 : decode prog_24_method_4_code 110 = .ok (.lconst 1, 1) := by decide +kernel
theorem d8_111 : decode prog_24_method_4_code 111 = .ok (.ladd, 1) := by decide +kernel
theorem d8_112 : decode prog_24_method_4_code 112 = .ok (.putfield 32, 3) := by decide +kernel
theorem d8_115 : decode prog_24_method_4_code 115 = .ok (.aload_n 0, 1) := by decide +kernel
theorem d8_116 : decode prog_24_method_4_code 116 = .ok (.dup, 1) := by decide +kernel
theorem d8_117 : decode prog_24_method_4_code 117 = .ok (.getfield 54, 3) := by decide +kernel
theorem d8_120 : decode prog_24_method_4_code 120 = .ok (.iconst 1, 1) := by decide +kernel
theorem d8_121 : decode prog_24_method_4_code 121 = .ok (.iadd, 1) := by decide +kernel
theorem d8_122 : decode prog_24_method_4_code 122 = .ok (.putfield 54, 3) := by decide +kernel
theorem d8_125 : decode prog_24_method_4_code 125 = .ok (.aload_n 0, 1) := by decide +kernel
theorem d8_126 : decode prog_24_method_4_code 126 = .ok (.getfield 54, 3) := by decide +kernel
theorem d8_129 : decode prog_24_method_4_code 129 = .ok (.bipush 63, 2) := by decide +kernel
theorem d8_131 : decode prog_24_method_4_code 131 = .ok (.if_icmp .ne 56, 3) := by decide +kernel
theorem d8_187 : decode prog_24_method_4_code 187 = .ok (.iload_n 3, 1) := by decide +kernel
theorem d8_188 : decode prog_24_method_4_code 188 = .ok (.ireturn, 1) := by decide +kernel
theorem pn_8 : plainName "com/example/tree_to_rows/treetorows/query/Outcomes" = true := by first | (simp [plainName, overriddenIn]; done) | decide +kernel
theorem ef_8_0 (m : MethodId) (x0 : Addr) : entryFrame m #[(.ref x0)] 4 = mkF m 0 #[rv x0, .unset, .unset, .unset] [] := by first | (simp [entryFrame, mkF, argsToLocals, Value.category]; done) | rfl
def own_f8_0 (v_current : Int64) : Int32 := (let z7 : Int32 := (if (v_current &&& (-9223372036854775808 : Int64)) = (0 : Int64) then (if (((v_current.toUInt64 >>> ((0 : Int32) &&& 0x3f).toInt64.toUInt64).toInt64) &&& (1 : Int64)) = (0 : Int64) then (0 : Int32) else (1 : Int32)) else (if (v_current &&& (4611686018427387904 : Int64)) = (0 : Int64) then (0 : Int32) else (1 : Int32))); (nar .boolean z7))
def Q8_0 (Z : State) (a0 : Addr) (v_used : Int32) (v_waiting : Int32) (v_current : Int64) (v_readGroup : Int64) (h0 : Heap) (n0 : Nat) (v : Option Value) (h : Heap) (L : List Loc) : Prop := v = some (.int (own_f8_0 v_current)) ∧ Fr n0 L ∧ Keep h0 h [a0] ∧ Fld Z h a0 "com/example/tree_to_rows/treetorows/query/Outcomes" "size" "I" (.int 0) ∧ Fld Z h a0 "com/example/tree_to_rows/treetorows/query/Outcomes" "used" "I" (.int v_used) ∧ Fld Z h a0 "com/example/tree_to_rows/treetorows/query/Outcomes" "waiting" "I" (.int v_waiting) ∧ Fld Z h a0 "com/example/tree_to_rows/treetorows/query/Outcomes" "bits" "J" (.long 3) ∧ Fld Z h a0 "com/example/tree_to_rows/treetorows/query/Outcomes" "current" "J" (.long v_current) ∧ Fld Z h a0 "com/example/tree_to_rows/treetorows/query/Outcomes" "readWord" "I" (.int 0) ∧ Fld Z h a0 "com/example/tree_to_rows/treetorows/query/Outcomes" "readGroup" "J" (.long v_readGroup) ∧ Fld Z h a0 "com/example/tree_to_rows/treetorows/query/Outcomes" "readBit" "I" (.int 1) ∧ Fld Z h a0 "com/example/tree_to_rows/treetorows/query/Outcomes" "read" "J" (.long 1)
set_option maxRecDepth 65536 in
set_option maxHeartbeats 40000000 in
theorem rm8_0 (l : Launch) (Z : State) (aw : Array Value) (hw : ∀ d ∈ tables_1, d.before aw Z = true) (ws : List Jvm.Cond) (a0 : Addr) (v_used : Int32) (v_waiting : Int32) (v_current : Int64) (v_readGroup : Int64) (h0 : Heap) (n0 : Nat) (Z0 : n0 ≤ h0.size) (P0 : Fld Z h0 a0 "com/example/tree_to_rows/treetorows/query/Outcomes" "size" "I" (.int 0)) (P1 : Fld Z h0 a0 "com/example/tree_to_rows/treetorows/query/Outcomes" "used" "I" (.int v_used)) (P2 : Fld Z h0 a0 "com/example/tree_to_rows/treetorows/query/Outcomes" "waiting" "I" (.int v_waiting)) (P3 : Fld Z h0 a0 "com/example/tree_to_rows/treetorows/query/Outcomes" "bits" "J" (.long 3)) (P4 : Fld Z h0 a0 "com/example/tree_to_rows/treetorows/query/Outcomes" "current" "J" (.long v_current)) (P5 : Fld Z h0 a0 "com/example/tree_to_rows/treetorows/query/Outcomes" "readWord" "I" (.int 0)) (P6 : Fld Z h0 a0 "com/example/tree_to_rows/treetorows/query/Outcomes" "readGroup" "J" (.long v_readGroup)) (P7 : Fld Z h0 a0 "com/example/tree_to_rows/treetorows/query/Outcomes" "readBit" "I" (.int 0)) (P8 : Fld Z h0 a0 "com/example/tree_to_rows/treetorows/query/Outcomes" "read" "J" (.long 0)) (P9 : Exa Z h0 a0 "com/example/tree_to_rows/treetorows/query/Outcomes") (ge0 : n0 ≤ a0) :
    MetFree l (⟨"com/example/tree_to_rows/treetorows/query/Outcomes", "next", "()Z"⟩ : MethodName) (head1 (Jvm.Cond.code (⟨"com/example/tree_to_rows/treetorows/query/Outcomes", "next", "()Z"⟩ : MethodName) prog_24_method_4_code 4 (some .boolean) :: ws) ({ frames := 0, cells := 0, slots := 0, locals := 0 } : Room)) (fun a U => a = #[(.ref a0)] ∧ Z.Warmed39 U.vm ∧ U.heap = h0) (fun _ _ _ _ _ => True) (fun _ U o U' => ∃ v L, o = .returned v ∧ Q8_0 Z a0 v_used v_waiting v_current v_readGroup h0 n0 v U'.heap L ∧ FrameEnd U o U' L ({ frames := 0, cells := 0, slots := 0, locals := 0 } : Room).cells ({ frames := 0, cells := 0, slots := 0, locals := 0 } : Room).slots) := by
  refine MetFree.of_bodySF (plainFor_of_name pn_8) hisR ?_
  intro p e s m args below meth c s₁ Bd hml0 hP hK
  obtain ⟨rfl, hZ, hh⟩ := hP
  have hx := Bd.exec
  have hby := Bd.bytes
  have hml : c.maxLocals = 4 := hml0
  have hown : s.vm.findClass "com/example/tree_to_rows/treetorows/query/Outcomes" = some m.cls := findClass_of_methodNamed Bd.named
  have hnm := (name_of_methodNamed Bd.named Bd.method).1
  have hlk : meth.locks = false := by first | exact BodyLoose.notSynchronized (by assumption) | exact Body.notSynchronized (by assumption)
  have X0 : Stand p l e ({ frames := 0, cells := 0, slots := 0, locals := 0 } : Room) s m #[(.ref a0)] below meth c s₁ [] 0 0 := Stand.of_body Bd
  have e0 : s₁.heap = h0 := by rw [← hh, Bd.state]; rfl
  have N0 := Fr.nil n0
  have K0 : Keep h0 h0 [a0] := Keep.refl _ _
  refine own_start (CS := (0, 0)) (Q := (Q8_0 Z a0 v_used v_waiting v_current v_readGroup h0 n0)) (ef_8_0 m a0) ?_
  show own_Go p e below s _ _ (s₁.setTop (mkF m 0 #[rv a0, .unset, .unset, .unset] []))
  refine own_via (fun k => XS.aloadN X0.here hx rfl (hb hby d8_0) rfl rfl  k) ?_
  show own_Go p e below s _ _ (s₁.setTop (mkF m 1 #[rv a0, .unset, .unset, .unset] [(.ref a0)]))
  obtain ⟨T1, X1, e1, st1⟩ := getF X0 hx hZ hown (host := "") (Or.inl (hw _ (List.mem_of_getElem? (i := 54) rfl))) Via.refl e0 P8 (g := (mkF m 1 #[rv a0, .unset, .unset, .unset] [(.ref a0)])) rfl rfl (hb hby d8_1)
  refine own_via (fun k => st1 _ k) ?_
  show own_Go p e below s _ _ (T1.setTop (mkF m 4 #[rv a0, .unset, .unset, .unset] [(.long 0)]))
  refine own_via (fun k => XS.aloadN X1.here hx rfl (hb hby d8_4) rfl rfl  k) ?_
  show own_Go p e below s _ _ (T1.setTop (mkF m 5 #[rv a0, .unset, .unset, .unset] [(.ref a0), (.long 0)]))
  obtain ⟨T2, X2, e2, st2⟩ := getF X1 hx hZ hown (host := "") (Or.inl (hw _ (List.mem_of_getElem? (i := 27) rfl))) Via.refl e1 P3 (g := (mkF m 5 #[rv a0, .unset, .unset, .unset] [(.ref a0), (.long 0)])) rfl rfl (hb hby d8_5)
  refine own_via (fun k => st2 _ k) ?_
  show own_Go p e below s _ _ (T2.setTop (mkF m 8 #[rv a0, .unset, .unset, .unset] [(.long 3), (.long 0)]))
  refine own_via (fun k => XS.lcmp X2.here hx rfl (hb hby d8_8) rfl k) ?_
  show own_Go p e below s _ _ (T2.setTop (mkF m 9 #[rv a0, .unset, .unset, .unset] [(.int (lcmpW (0 : Int64) (3 : Int64)))]))
  refine own_via (fun k => XS.ifYes X2.here hx rfl (pc0 := 9) (pc' := 29) rfl (hb hby d8_9) rfl (by decide) (by decide) (by decide) k) ?_
  show own_Go p e below s _ _ (T2.setTop (mkF m 29 #[rv a0, .unset, .unset, .unset] []))
  refine own_via (fun k => XS.aloadN X2.here hx rfl (hb hby d8_29) rfl rfl  k) ?_
  show own_Go p e below s _ _ (T2.setTop (mkF m 30 #[rv a0, .unset, .unset, .unset] [(.ref a0)]))
  obtain ⟨T3, X3, e3, st3⟩ := getF X2 hx hZ hown (host := "") (Or.inl (hw _ (List.mem_of_getElem? (i := 48) rfl))) Via.refl e2 P5 (g := (mkF m 30 #[rv a0, .unset, .unset, .unset] [(.ref a0)])) rfl rfl (hb hby d8_30)
  refine own_via (fun k => st3 _ k) ?_
  show own_Go p e below s _ _ (T3.setTop (mkF m 33 #[rv a0, .unset, .unset, .unset] [(.int 0)]))
  refine own_via (fun k => XS.aloadN X3.here hx rfl (hb hby d8_33) rfl rfl  k) ?_
  show own_Go p e below s _ _ (T3.setTop (mkF m 34 #[rv a0, .unset, .unset, .unset] [(.ref a0), (.int 0)]))
  obtain ⟨T4, X4, e4, st4⟩ := getF X3 hx hZ hown (host := "") (Or.inl (hw _ (List.mem_of_getElem? (i := 17) rfl))) Via.refl e3 P0 (g := (mkF m 34 #[rv a0, .unset, .unset, .unset] [(.ref a0), (.int 0)])) rfl rfl (hb hby d8_34)
  refine own_via (fun k => st4 _ k) ?_
  show own_Go p e below s _ _ (T4.setTop (mkF m 37 #[rv a0, .unset, .unset, .unset] [(.int 0), (.int 0)]))
  refine own_via (fun k => XS.icmpYes X4.here hx rfl (pc0 := 37) (pc' := 52) rfl (hb hby d8_37) rfl (by decide) (by decide) (by decide) k) ?_
  show own_Go p e below s _ _ (T4.setTop (mkF m 52 #[rv a0, .unset, .unset, .unset] []))
  refine own_via (fun k => XS.aloadN X4.here hx rfl (hb hby d8_52) rfl rfl  k) ?_
  show own_Go p e below s _ _ (T4.setTop (mkF m 53 #[rv a0, .unset, .unset, .unset] [(.ref a0)]))
  obtain ⟨T5, X5, e5, st5⟩ := getF X4 hx hZ hown (host := "") (Or.inl (hw _ (List.mem_of_getElem? (i := 41) rfl))) Via.refl e4 P4 (g := (mkF m 53 #[rv a0, .unset, .unset, .unset] [(.ref a0)])) rfl rfl (hb hby d8_53)
  refine own_via (fun k => st5 _ k) ?_
  show own_Go p e below s _ _ (T5.setTop (mkF m 56 #[rv a0, .unset, .unset, .unset] [(.long v_current)]))
  refine own_via (fun k => XS.lstoreN X5.here hx rfl (hb hby d8_56) rfl (l' := #[rv a0, jv v_current, .second, .unset]) rfl (XS.lloadN X5.here hx rfl (hb hby d8_57) rfl  (X5.ldc2Long hx hown (mvT hZ (hw _ (List.mem_of_getElem? (i := 61) rfl))) (g := (mkF m 58 #[rv a0, jv v_current, .second, .unset] [(.long v_current)])) rfl (hb hby d8_58) _ (XS.land X5.here hx rfl (hb hby d8_61) rfl k)))) ?_
  show own_Go p e below s _ _ (T5.setTop (mkF m 62 #[rv a0, jv v_current, .second, .unset] [(.long (v_current &&& (-9223372036854775808 : Int64)))]))
  refine own_via (fun k => XS.lconst X5.here hx rfl (hb hby d8_62) (XS.lcmp X5.here hx rfl (hb hby d8_63) rfl k)) ?_
  show own_Go p e below s _ _ (T5.setTop (mkF m 64 #[rv a0, jv v_current, .second, .unset] [(.int (lcmpW (v_current &&& (-9223372036854775808 : Int64)) (0 : Int64)))]))
  have J8 : ∀ (T8 : State) (lo8 : List Loc), Stand p l e ({ frames := 0, cells := 0, slots := 0, locals := 0 } : Room) s m #[(.ref a0)] below meth c T8 lo8 0 0 → Fr n0 lo8 → T8.heap = h0 → ∀ (z7 : Int32), z7 = (if (v_current &&& (-9223372036854775808 : Int64)) = (0 : Int64) then (if (((v_current.toUInt64 >>> ((0 : Int32) &&& 0x3f).toInt64.toUInt64).toInt64) &&& (1 : Int64)) = (0 : Int64) then (0 : Int32) else (1 : Int32)) else (if (v_current &&& (4611686018427387904 : Int64)) = (0 : Int64) then (0 : Int32) else (1 : Int32))) → own_Go p e below s (Q8_0 Z a0 v_used v_waiting v_current v_readGroup h0 n0) (0, 0) (T8.setTop (mkF m 105 #[rv a0, jv v_current, .second, iv z7] [])) := by
    intro T8 lo8 X8 N8 e8 z7 hz7
    refine own_via (fun k => XS.aloadN X8.here hx rfl (hb hby d8_105) rfl rfl  (XS.dup X8.here hx rfl (hb hby d8_106) rfl rfl k)) ?_
    show own_Go p e below s _ _ (T8.setTop (mkF m 107 #[rv a0, jv v_current, .second, iv z7] [(.ref a0), (.ref a0)]))
    obtain ⟨T9, X9, e9, st9⟩ := getF X8 hx hZ hown (host := "") (Or.inl (hw _ (List.mem_of_getElem? (i := 54) rfl))) Via.refl e8 P8 (g := (mkF m 107 #[rv a0, jv v_current, .second, iv z7] [(.ref a0), (.ref a0)])) rfl rfl (hb hby d8_107)
    refine own_via (fun k => st9 _ k) ?_
    show own_Go p e below s _ _ (T9.setTop (mkF m 110 #[rv a0, jv v_current, .second, iv z7] [(.long 0), (.ref a0)]))
    refine own_via (fun k => XS.lconst X9.here hx rfl (hb hby d8_110) (XS.ladd X9.here hx rfl (hb hby d8_111) rfl k)) ?_
    show own_Go p e below s _ _ (T9.setTop (mkF m 112 #[rv a0, jv v_current, .second, iv z7] [(.long 1), (.ref a0)]))
    obtain ⟨T10, h10, X10, e10, W10, st10⟩ := putF X9 hx hZ hown (host := "") (Or.inl (hw _ (List.mem_of_getElem? (i := 54) rfl))) Via.refl e9 P8 P9 (Or.inl (hw _ (List.mem_of_getElem? (i := 55) rfl))) (hw _ (List.mem_of_getElem? (i := 1) rfl)) (ty := .long) (by decide) rfl rfl (g := (mkF m 112 #[rv a0, jv v_current, .second, iv z7] [(.long 1), (.ref a0)])) rfl rfl (hb hby d8_112)
    refine own_via (fun k => st10 _ k) ?_
    show own_Go p e below s _ _ (T10.setTop (mkF m 115 #[rv a0, jv v_current, .second, iv z7] []))
    have B11 := P0.other W10 (Or.inr (slot_ne (Or.inl (hw _ (List.mem_of_getElem? (i := 18) rfl))) (Or.inl (hw _ (List.mem_of_getElem? (i := 55) rfl))) (by decide) (t := .int) (t' := .long) (by decide) (by decide)))
    have B12 := P1.other W10 (Or.inr (slot_ne (Or.inl (hw _ (List.mem_of_getElem? (i := 20) rfl))) (Or.inl (hw _ (List.mem_of_getElem? (i := 55) rfl))) (by decide) (t := .int) (t' := .long) (by decide) (by decide)))
    have B13 := P2.other W10 (Or.inr (slot_ne (Or.inl (hw _ (List.mem_of_getElem? (i := 22) rfl))) (Or.inl (hw _ (List.mem_of_getElem? (i := 55) rfl))) (by decide) (t := .int) (t' := .long) (by decide) (by decide)))
    have B14 := P3.other W10 (Or.inr (slot_ne (Or.inl (hw _ (List.mem_of_getElem? (i := 28) rfl))) (Or.inl (hw _ (List.mem_of_getElem? (i := 55) rfl))) (by decide) (t := .long) (t' := .long) (by decide) (by decide)))
    have B15 := P4.other W10 (Or.inr (slot_ne (Or.inl (hw _ (List.mem_of_getElem? (i := 42) rfl))) (Or.inl (hw _ (List.mem_of_getElem? (i := 55) rfl))) (by decide) (t := .long) (t' := .long) (by decide) (by decide)))
    have B16 := P5.other W10 (Or.inr (slot_ne (Or.inl (hw _ (List.mem_of_getElem? (i := 49) rfl))) (Or.inl (hw _ (List.mem_of_getElem? (i := 55) rfl))) (by decide) (t := .int) (t' := .long) (by decide) (by decide)))
    have B17 := P6.other W10 (Or.inr (slot_ne (Or.inl (hw _ (List.mem_of_getElem? (i := 51) rfl))) (Or.inl (hw _ (List.mem_of_getElem? (i := 55) rfl))) (by decide) (t := .long) (t' := .long) (by decide) (by decide)))
    have B18 := P7.other W10 (Or.inr (slot_ne (Or.inl (hw _ (List.mem_of_getElem? (i := 53) rfl))) (Or.inl (hw _ (List.mem_of_getElem? (i := 55) rfl))) (by decide) (t := .int) (t' := .long) (by decide) (by decide)))
    have B19 := P9.wr W10
    have B20 : Fld Z h10 a0 "com/example/tree_to_rows/treetorows/query/Outcomes" "read" "J" (.long 1) := P8.same W10
    have N21 := Fr.snoc X10 N8 ge0
    have K22 : Keep h0 h10 [a0] := K0.wr W10 (Or.inl (List.mem_of_getElem? (i := 0) rfl))
    have Z23 : n0 ≤ h10.size := Nat.le_trans Z0 (Keep.of_wr W10).1
    refine own_via (fun k => XS.aloadN X10.here hx rfl (hb hby d8_115) rfl rfl  (XS.dup X10.here hx rfl (hb hby d8_116) rfl rfl k)) ?_
    show own_Go p e below s _ _ (T10.setTop (mkF m 117 #[rv a0, jv v_current, .second, iv z7] [(.ref a0), (.ref a0)]))
    obtain ⟨T24, X24, e24, st24⟩ := getF X10 hx hZ hown (host := "") (Or.inl (hw _ (List.mem_of_getElem? (i := 52) rfl))) Via.refl e10 B18 (g := (mkF m 117 #[rv a0, jv v_current, .second, iv z7] [(.ref a0), (.ref a0)])) rfl rfl (hb hby d8_117)
    refine own_via (fun k => st24 _ k) ?_
    show own_Go p e below s _ _ (T24.setTop (mkF m 120 #[rv a0, jv v_current, .second, iv z7] [(.int 0), (.ref a0)]))
    refine own_via (fun k => XS.iconst X24.here hx rfl (hb hby d8_120) (XS.iadd X24.here hx rfl (hb hby d8_121) rfl k)) ?_
    show own_Go p e below s _ _ (T24.setTop (mkF m 122 #[rv a0, jv v_current, .second, iv z7] [(.int 1), (.ref a0)]))
    obtain ⟨T25, h25, X25, e25, W25, st25⟩ := putF X24 hx hZ hown (host := "") (Or.inl (hw _ (List.mem_of_getElem? (i := 52) rfl))) Via.refl e24 B18 B19 (Or.inl (hw _ (List.mem_of_getElem? (i := 53) rfl))) (hw _ (List.mem_of_getElem? (i := 1) rfl)) (ty := .int) (by decide) rfl rfl (g := (mkF m 122 #[rv a0, jv v_current, .second, iv z7] [(.int 1), (.ref a0)])) rfl rfl (hb hby d8_122)
    refine own_via (fun k => st25 _ k) ?_
    show own_Go p e below s _ _ (T25.setTop (mkF m 125 #[rv a0, jv v_current, .second, iv z7] []))
    have B26 := B11.other W25 (Or.inr (slot_ne (Or.inl (hw _ (List.mem_of_getElem? (i := 18) rfl))) (Or.inl (hw _ (List.mem_of_getElem? (i := 53) rfl))) (by decide) (t := .int) (t' := .int) (by decide) (by decide)))
    have B27 := B12.other W25 (Or.inr (slot_ne (Or.inl (hw _ (List.mem_of_getElem? (i := 20) rfl))) (Or.inl (hw _ (List.mem_of_getElem? (i := 53) rfl))) (by decide) (t := .int) (t' := .int) (by decide) (by decide)))
    have B28 := B13.other W25 (Or.inr (slot_ne (Or.inl (hw _ (List.mem_of_getElem? (i := 22) rfl))) (Or.inl (hw _ (List.mem_of_getElem? (i := 53) rfl))) (by decide) (t := .int) (t' := .int) (by decide) (by decide)))
    have B29 := B14.other W25 (Or.inr (slot_ne (Or.inl (hw _ (List.mem_of_getElem? (i := 28) rfl))) (Or.inl (hw _ (List.mem_of_getElem? (i := 53) rfl))) (by decide) (t := .long) (t' := .int) (by decide) (by decide)))
    have B30 := B15.other W25 (Or.inr (slot_ne (Or.inl (hw _ (List.mem_of_getElem? (i := 42) rfl))) (Or.inl (hw _ (List.mem_of_getElem? (i := 53) rfl))) (by decide) (t := .long) (t' := .int) (by decide) (by decide)))
    have B31 := B16.other W25 (Or.inr (slot_ne (Or.inl (hw _ (List.mem_of_getElem? (i := 49) rfl))) (Or.inl (hw _ (List.mem_of_getElem? (i := 53) rfl))) (by decide) (t := .int) (t' := .int) (by decide) (by decide)))
    have B32 := B17.other W25 (Or.inr (slot_ne (Or.inl (hw _ (List.mem_of_getElem? (i := 51) rfl))) (Or.inl (hw _ (List.mem_of_getElem? (i := 53) rfl))) (by decide) (t := .long) (t' := .int) (by decide) (by decide)))
    have B33 := B19.wr W25
    have B34 := B20.other W25 (Or.inr (slot_ne (Or.inl (hw _ (List.mem_of_getElem? (i := 55) rfl))) (Or.inl (hw _ (List.mem_of_getElem? (i := 53) rfl))) (by decide) (t := .long) (t' := .int) (by decide) (by decide)))
    have B35 : Fld Z h25 a0 "com/example/tree_to_rows/treetorows/query/Outcomes" "readBit" "I" (.int 1) := B18.same W25
    have N36 := Fr.snoc X25 N21 ge0
    have K37 : Keep h0 h25 [a0] := K22.wr W25 (Or.inl (List.mem_of_getElem? (i := 0) rfl))
    have Z38 : n0 ≤ h25.size := Nat.le_trans Z23 (Keep.of_wr W25).1
    refine own_via (fun k => XS.aloadN X25.here hx rfl (hb hby d8_125) rfl rfl  k) ?_
    show own_Go p e below s _ _ (T25.setTop (mkF m 126 #[rv a0, jv v_current, .second, iv z7] [(.ref a0)]))
    obtain ⟨T39, X39, e39, st39⟩ := getF X25 hx hZ hown (host := "") (Or.inl (hw _ (List.mem_of_getElem? (i := 52) rfl))) Via.refl e25 B35 (g := (mkF m 126 #[rv a0, jv v_current, .second, iv z7] [(.ref a0)])) rfl rfl (hb hby d8_126)
    refine own_via (fun k => st39 _ k) ?_
    show own_Go p e below s _ _ (T39.setTop (mkF m 129 #[rv a0, jv v_current, .second, iv z7] [(.int 1)]))
    refine own_via (fun k => XS.bipush X39.here hx rfl (hb hby d8_129) k) ?_
    show own_Go p e below s _ _ (T39.setTop (mkF m 131 #[rv a0, jv v_current, .second, iv z7] [(.int 63), (.int 1)]))
    refine own_via (fun k => XS.icmpYes X39.here hx rfl (pc0 := 131) (pc' := 187) rfl (hb hby d8_131) rfl (by decide) (by decide) (by decide) k) ?_
    show own_Go p e below s _ _ (T39.setTop (mkF m 187 #[rv a0, jv v_current, .second, iv z7] []))
    refine own_via (fun k => XS.iloadN X39.here hx rfl (hb hby d8_187) rfl  k) ?_
    show own_Go p e below s _ _ (T39.setTop (mkF m 188 #[rv a0, jv v_current, .second, iv z7] [(.int z7)]))
    exact own_retN X39 hx hlk (t := .boolean) Bd.returns (by simp) (hb hby d8_188) (Q := (Q8_0 Z a0 v_used v_waiting v_current v_readGroup h0 n0)) ⟨(congrArg (fun z => some (Value.int z)) (show (nar .boolean z7) = (own_f8_0 v_current) from (by subst hz7; unfold own_f8_0; exact rfl.symm))), N36, (by rw [e39]; exact K37), (by rw [e39]; exact B26), (by rw [e39]; exact B27), (by rw [e39]; exact B28), (by rw [e39]; exact B29), (by rw [e39]; exact B30), (by rw [e39]; exact B31), (by rw [e39]; exact B32), (by rw [e39]; exact B35), (by rw [e39]; exact B34)⟩ (by decide) (by decide)
  by_cases hc40 : (v_current &&& (-9223372036854775808 : Int64)) = (0 : Int64)
  · refine own_via (fun k => XS.ifYes X5.here hx rfl (pc0 := 64) (pc' := 86) rfl (hb hby d8_64) rfl ((if0 _ _).trans (teq ((lw_eq _ _).mpr hc40)).1) (by decide) (by decide) k) ?_
    show own_Go p e below s _ _ (T5.setTop (mkF m 86 #[rv a0, jv v_current, .second, .unset] []))
    refine own_via (fun k => XS.lloadN X5.here hx rfl (hb hby d8_86) rfl  (XS.aloadN X5.here hx rfl (hb hby d8_87) rfl rfl  k)) ?_
    show own_Go p e below s _ _ (T5.setTop (mkF m 88 #[rv a0, jv v_current, .second, .unset] [(.ref a0), (.long v_current)]))
    obtain ⟨T41, X41, e41, st41⟩ := getF X5 hx hZ hown (host := "") (Or.inl (hw _ (List.mem_of_getElem? (i := 52) rfl))) Via.refl e5 P7 (g := (mkF m 88 #[rv a0, jv v_current, .second, .unset] [(.ref a0), (.long v_current)])) rfl rfl (hb hby d8_88)
    refine own_via (fun k => st41 _ k) ?_
    show own_Go p e below s _ _ (T41.setTop (mkF m 91 #[rv a0, jv v_current, .second, .unset] [(.int 0), (.long v_current)]))
    refine own_via (fun k => XS.lushr X41.here hx rfl (hb hby d8_91) rfl (XS.lconst X41.here hx rfl (hb hby d8_92) (XS.land X41.here hx rfl (hb hby d8_93) rfl (XS.lconst X41.here hx rfl (hb hby d8_94) k)))) ?_
    show own_Go p e below s _ _ (T41.setTop (mkF m 95 #[rv a0, jv v_current, .second, .unset] [(.long 0), (.long (((v_current.toUInt64 >>> ((0 : Int32) &&& 0x3f).toInt64.toUInt64).toInt64) &&& (1 : Int64)))]))
    refine own_via (fun k => XS.lcmp X41.here hx rfl (hb hby d8_95) rfl k) ?_
    show own_Go p e below s _ _ (T41.setTop (mkF m 96 #[rv a0, jv v_current, .second, .unset] [(.int (lcmpW (((v_current.toUInt64 >>> ((0 : Int32) &&& 0x3f).toInt64.toUInt64).toInt64) &&& (1 : Int64)) (0 : Int64)))]))
    by_cases hc42 : (((v_current.toUInt64 >>> ((0 : Int32) &&& 0x3f).toInt64.toUInt64).toInt64) &&& (1 : Int64)) = (0 : Int64)
    · refine own_via (fun k => XS.ifYes X41.here hx rfl (pc0 := 96) (pc' := 103) rfl (hb hby d8_96) rfl ((if0 _ _).trans (teq ((lw_eq _ _).mpr hc42)).1) (by decide) (by decide) k) ?_
      show own_Go p e below s _ _ (T41.setTop (mkF m 103 #[rv a0, jv v_current, .second, .unset] []))
      refine own_via (fun k => XS.iconst X41.here hx rfl (hb hby d8_103) (XS.istoreN X41.here hx rfl (hb hby d8_104) rfl (l' := #[rv a0, jv v_current, .second, iv 0]) rfl k)) ?_
      show own_Go p e below s _ _ (T41.setTop (mkF m 105 #[rv a0, jv v_current, .second, iv 0] []))
      exact J8 _ _ X41 N0 e41 (0 : Int32) (((if_pos hc40).trans ((if_pos hc42).trans rfl))).symm
    · refine own_via (fun k => XS.ifNo X41.here hx rfl (hb hby d8_96) rfl ((if0 _ _).trans (feq (mt (lw_eq _ _).mp hc42)).1) k) ?_
      show own_Go p e below s _ _ (T41.setTop (mkF m 99 #[rv a0, jv v_current, .second, .unset] []))
      refine own_via (fun k => XS.iconst X41.here hx rfl (hb hby d8_99) (XS.goto X41.here hx rfl (pc0 := 100) (pc' := 104) rfl (hb hby d8_100) (by decide) (by decide) (XS.istoreN X41.here hx rfl (hb hby d8_104) rfl (l' := #[rv a0, jv v_current, .second, iv 1]) rfl k))) ?_
      show own_Go p e below s _ _ (T41.setTop (mkF m 105 #[rv a0, jv v_current, .second, iv 1] []))
      exact J8 _ _ X41 N0 e41 (1 : Int32) (((if_pos hc40).trans ((if_neg hc42).trans rfl))).symm
  · refine own_via (fun k => XS.ifNo X5.here hx rfl (hb hby d8_64) rfl ((if0 _ _).trans (feq (mt (lw_eq _ _).mp hc40)).1) k) ?_
    show own_Go p e below s _ _ (T5.setTop (mkF m 67 #[rv a0, jv v_current, .second, .unset] []))
    refine own_via (fun k => XS.lloadN X5.here hx rfl (hb hby d8_67) rfl  (X5.ldc2Long hx hown (mvT hZ (hw _ (List.mem_of_getElem? (i := 63) rfl))) (g := (mkF m 68 #[rv a0, jv v_current, .second, .unset] [(.long v_current)])) rfl (hb hby d8_68) _ (XS.land X5.here hx rfl (hb hby d8_71) rfl (XS.lconst X5.here hx rfl (hb hby d8_72) k)))) ?_
    show own_Go p e below s _ _ (T5.setTop (mkF m 73 #[rv a0, jv v_current, .second, .unset] [(.long 0), (.long (v_current &&& (4611686018427387904 : Int64)))]))
    refine own_via (fun k => XS.lcmp X5.here hx rfl (hb hby d8_73) rfl k) ?_
    show own_Go p e below s _ _ (T5.setTop (mkF m 74 #[rv a0, jv v_current, .second, .unset] [(.int (lcmpW (v_current &&& (4611686018427387904 : Int64)) (0 : Int64)))]))
    by_cases hc43 : (v_current &&& (4611686018427387904 : Int64)) = (0 : Int64)
    · refine own_via (fun k => XS.ifYes X5.here hx rfl (pc0 := 74) (pc' := 81) rfl (hb hby d8_74) rfl ((if0 _ _).trans (teq ((lw_eq _ _).mpr hc43)).1) (by decide) (by decide) k) ?_
      show own_Go p e below s _ _ (T5.setTop (mkF m 81 #[rv a0, jv v_current, .second, .unset] []))
      refine own_via (fun k => XS.iconst X5.here hx rfl (hb hby d8_81) (XS.istoreN X5.here hx rfl (hb hby d8_82) rfl (l' := #[rv a0, jv v_current, .second, iv 0]) rfl (XS.goto X5.here hx rfl (pc0 := 83) (pc' := 105) rfl (hb hby d8_83) (by decide) (by decide) k))) ?_
      show own_Go p e below s _ _ (T5.setTop (mkF m 105 #[rv a0, jv v_current, .second, iv 0] []))
      exact J8 _ _ X5 N0 e5 (0 : Int32) (((if_neg hc40).trans ((if_pos hc43).trans rfl))).symm
    · refine own_via (fun k => XS.ifNo X5.here hx rfl (hb hby d8_74) rfl ((if0 _ _).trans (feq (mt (lw_eq _ _).mp hc43)).1) k) ?_
      show own_Go p e below s _ _ (T5.setTop (mkF m 77 #[rv a0, jv v_current, .second, .unset] []))
      refine own_via (fun k => XS.iconst X5.here hx rfl (hb hby d8_77) (XS.goto X5.here hx rfl (pc0 := 78) (pc' := 82) rfl (hb hby d8_78) (by decide) (by decide) (XS.istoreN X5.here hx rfl (hb hby d8_82) rfl (l' := #[rv a0, jv v_current, .second, iv 1]) rfl (XS.goto X5.here hx rfl (pc0 := 83) (pc' := 105) rfl (hb hby d8_83) (by decide) (by decide) k)))) ?_
      show own_Go p e below s _ _ (T5.setTop (mkF m 105 #[rv a0, jv v_current, .second, iv 1] []))
      exact J8 _ _ X5 N0 e5 (1 : Int32) (((if_neg hc40).trans ((if_neg hc43).trans rfl))).symm
theorem ef_8_1 (m : MethodId) (x0 : Addr) : entryFrame m #[(.ref x0)] 4 = mkF m 0 #[rv x0, .unset, .unset, .unset] [] := by first | (simp [entryFrame, mkF, argsToLocals, Value.category]; done) | rfl
def own_f8_1 (v_current : Int64) : Int32 := (let z7 : Int32 := (if (v_current &&& (-9223372036854775808 : Int64)) = (0 : Int64) then (if (((v_current.toUInt64 >>> ((1 : Int32) &&& 0x3f).toInt64.toUInt64).toInt64) &&& (1 : Int64)) = (0 : Int64) then (0 : Int32) else (1 : Int32)) else (if (v_current &&& (4611686018427387904 : Int64)) = (0 : Int64) then (0 : Int32) else (1 : Int32))); (nar .boolean z7))
def Q8_1 (Z : State) (a0 : Addr) (v_used : Int32) (v_waiting : Int32) (v_current : Int64) (v_readGroup : Int64) (h0 : Heap) (n0 : Nat) (v : Option Value) (h : Heap) (L : List Loc) : Prop := v = some (.int (own_f8_1 v_current)) ∧ Fr n0 L ∧ Keep h0 h [a0] ∧ Fld Z h a0 "com/example/tree_to_rows/treetorows/query/Outcomes" "size" "I" (.int 0) ∧ Fld Z h a0 "com/example/tree_to_rows/treetorows/query/Outcomes" "used" "I" (.int v_used) ∧ Fld Z h a0 "com/example/tree_to_rows/treetorows/query/Outcomes" "waiting" "I" (.int v_waiting) ∧ Fld Z h a0 "com/example/tree_to_rows/treetorows/query/Outcomes" "bits" "J" (.long 3) ∧ Fld Z h a0 "com/example/tree_to_rows/treetorows/query/Outcomes" "current" "J" (.long v_current) ∧ Fld Z h a0 "com/example/tree_to_rows/treetorows/query/Outcomes" "readWord" "I" (.int 0) ∧ Fld Z h a0 "com/example/tree_to_rows/treetorows/query/Outcomes" "readGroup" "J" (.long v_readGroup) ∧ Fld Z h a0 "com/example/tree_to_rows/treetorows/query/Outcomes" "readBit" "I" (.int 2) ∧ Fld Z h a0 "com/example/tree_to_rows/treetorows/query/Outcomes" "read" "J" (.long 2)
set_option maxRecDepth 65536 in
set_option maxHeartbeats 40000000 in
theorem rm8_1 (l : Launch) (Z : State) (aw : Array Value) (hw : ∀ d ∈ tables_1, d.before aw Z = true) (ws : List Jvm.Cond) (a0 : Addr) (v_used : Int32) (v_waiting : Int32) (v_current : Int64) (v_readGroup : Int64) (h0 : Heap) (n0 : Nat) (Z0 : n0 ≤ h0.size) (P0 : Fld Z h0 a0 "com/example/tree_to_rows/treetorows/query/Outcomes" "size" "I" (.int 0)) (P1 : Fld Z h0 a0 "com/example/tree_to_rows/treetorows/query/Outcomes" "used" "I" (.int v_used)) (P2 : Fld Z h0 a0 "com/example/tree_to_rows/treetorows/query/Outcomes" "waiting" "I" (.int v_waiting)) (P3 : Fld Z h0 a0 "com/example/tree_to_rows/treetorows/query/Outcomes" "bits" "J" (.long 3)) (P4 : Fld Z h0 a0 "com/example/tree_to_rows/treetorows/query/Outcomes" "current" "J" (.long v_current)) (P5 : Fld Z h0 a0 "com/example/tree_to_rows/treetorows/query/Outcomes" "readWord" "I" (.int 0)) (P6 : Fld Z h0 a0 "com/example/tree_to_rows/treetorows/query/Outcomes" "readGroup" "J" (.long v_readGroup)) (P7 : Fld Z h0 a0 "com/example/tree_to_rows/treetorows/query/Outcomes" "readBit" "I" (.int 1)) (P8 : Fld Z h0 a0 "com/example/tree_to_rows/treetorows/query/Outcomes" "read" "J" (.long 1)) (P9 : Exa Z h0 a0 "com/example/tree_to_rows/treetorows/query/Outcomes") (ge0 : n0 ≤ a0) :
    MetFree l (⟨"com/example/tree_to_rows/treetorows/query/Outcomes", "next", "()Z"⟩ : MethodName) (head1 (Jvm.Cond.code (⟨"com/example/tree_to_rows/treetorows/query/Outcomes", "next", "()Z"⟩ : MethodName) prog_24_method_4_code 4 (some .boolean) :: ws) ({ frames := 0, cells := 0, slots := 0, locals := 0 } : Room)) (fun a U => a = #[(.ref a0)] ∧ Z.Warmed39 U.vm ∧ U.heap = h0) (fun _ _ _ _ _ => True) (fun _ U o U' => ∃ v L, o = .returned v ∧ Q8_1 Z a0 v_used v_waiting v_current v_readGroup h0 n0 v U'.heap L ∧ FrameEnd U o U' L ({ frames := 0, cells := 0, slots := 0, locals := 0 } : Room).cells ({ frames := 0, cells := 0, slots := 0, locals := 0 } : Room).slots) := by
  refine MetFree.of_bodySF (plainFor_of_name pn_8) hisR ?_
  intro p e s m args below meth c s₁ Bd hml0 hP hK
  obtain ⟨rfl, hZ, hh⟩ := hP
  have hx := Bd.exec
  have hby := Bd.bytes
  have hml : c.maxLocals = 4 := hml0
  have hown : s.vm.findClass "com/example/tree_to_rows/treetorows/query/Outcomes" = some m.cls := findClass_of_methodNamed Bd.named
  have hnm := (name_of_methodNamed Bd.named Bd.method).1
  have hlk : meth.locks = false := by first | exact BodyLoose.notSynchronized (by assumption) | exact Body.notSynchronized (by assumption)
  have X0 : Stand p l e ({ frames := 0, cells := 0, slots := 0, locals := 0 } : Room) s m #[(.ref a0)] below meth c s₁ [] 0 0 := Stand.of_body Bd
  have e0 : s₁.heap = h0 := by rw [← hh, Bd.state]; rfl
  have N0 := Fr.nil n0
  have K0 : Keep h0 h0 [a0] := Keep.refl _ _
  refine own_start (CS := (0, 0)) (Q := (Q8_1 Z a0 v_used v_waiting v_current v_readGroup h0 n0)) (ef_8_1 m a0) ?_
  show own_Go p e below s _ _ (s₁.setTop (mkF m 0 #[rv a0, .unset, .unset, .unset] []))
  refine own_via (fun k => XS.aloadN X0.here hx rfl (hb hby d8_0) rfl rfl  k) ?_
  show own_Go p e below s _ _ (s₁.setTop (mkF m 1 #[rv a0, .unset, .unset, .unset] [(.ref a0)]))
  obtain ⟨T1, X1, e1, st1⟩ := getF X0 hx hZ hown (host := "") (Or.inl (hw _ (List.mem_of_getElem? (i := 54) rfl))) Via.refl e0 P8 (g := (mkF m 1 #[rv a0, .unset, .unset, .unset] [(.ref a0)])) rfl rfl (hb hby d8_1)
  refine own_via (fun k => st1 _ k) ?_
  show own_Go p e below s _ _ (T1.setTop (mkF m 4 #[rv a0, .unset, .unset, .unset] [(.long 1)]))
  refine own_via (fun k => XS.aloadN X1.here hx rfl (hb hby d8_4) rfl rfl  k) ?_
  show own_Go p e below s _ _ (T1.setTop (mkF m 5 #[rv a0, .unset, .unset, .unset] [(.ref a0), (.long 1)]))
  obtain ⟨T2, X2, e2, st2⟩ := getF X1 hx hZ hown (host := "") (Or.inl (hw _ (List.mem_of_getElem? (i := 27) rfl))) Via.refl e1 P3 (g := (mkF m 5 #[rv a0, .unset, .unset, .unset] [(.ref a0), (.long 1)])) rfl rfl (hb hby d8_5)
  refine own_via (fun k => st2 _ k) ?_
  show own_Go p e below s _ _ (T2.setTop (mkF m 8 #[rv a0, .unset, .unset, .unset] [(.long 3), (.long 1)]))
  refine own_via (fun k => XS.lcmp X2.here hx rfl (hb hby d8_8) rfl k) ?_
  show own_Go p e below s _ _ (T2.setTop (mkF m 9 #[rv a0, .unset, .unset, .unset] [(.int (lcmpW (1 : Int64) (3 : Int64)))]))
  refine own_via (fun k => XS.ifYes X2.here hx rfl (pc0 := 9) (pc' := 29) rfl (hb hby d8_9) rfl (by decide) (by decide) (by decide) k) ?_
  show own_Go p e below s _ _ (T2.setTop (mkF m 29 #[rv a0, .unset, .unset, .unset] []))
  refine own_via (fun k => XS.aloadN X2.here hx rfl (hb hby d8_29) rfl rfl  k) ?_
  show own_Go p e below s _ _ (T2.setTop (mkF m 30 #[rv a0, .unset, .unset, .unset] [(.ref a0)]))
  obtain ⟨T3, X3, e3, st3⟩ := getF X2 hx hZ hown (host := "") (Or.inl (hw _ (List.mem_of_getElem? (i := 48) rfl))) Via.refl e2 P5 (g := (mkF m 30 #[rv a0, .unset, .unset, .unset] [(.ref a0)])) rfl rfl (hb hby d8_30)
  refine own_via (fun k => st3 _ k) ?_
  show own_Go p e below s _ _ (T3.setTop (mkF m 33 #[rv a0, .unset, .unset, .unset] [(.int 0)]))
  refine own_via (fun k => XS.aloadN X3.here hx rfl (hb hby d8_33) rfl rfl  k) ?_
  show own_Go p e below s _ _ (T3.setTop (mkF m 34 #[rv a0, .unset, .unset, .unset] [(.ref a0), (.int 0)]))
  obtain ⟨T4, X4, e4, st4⟩ := getF X3 hx hZ hown (host := "") (Or.inl (hw _ (List.mem_of_getElem? (i := 17) rfl))) Via.refl e3 P0 (g := (mkF m 34 #[rv a0, .unset, .unset, .unset] [(.ref a0), (.int 0)])) rfl rfl (hb hby d8_34)
  refine own_via (fun k => st4 _ k) ?_
  show own_Go p e below s _ _ (T4.setTop (mkF m 37 #[rv a0, .unset, .unset, .unset] [(.int 0), (.int 0)]))
  refine own_via (fun k => XS.icmpYes X4.here hx rfl (pc0 := 37) (pc' := 52) rfl (hb hby d8_37) rfl (by decide) (by decide) (by decide) k) ?_
  show own_Go p e below s _ _ (T4.setTop (mkF m 52 #[rv a0, .unset, .unset, .unset] []))
  refine own_via (fun k => XS.aloadN X4.here hx rfl (hb hby d8_52) rfl rfl  k) ?_
  show own_Go p e below s _ _ (T4.setTop (mkF m 53 #[rv a0, .unset, .unset, .unset] [(.ref a0)]))
  obtain ⟨T5, X5, e5, st5⟩ := getF X4 hx hZ hown (host := "") (Or.inl (hw _ (List.mem_of_getElem? (i := 41) rfl))) Via.refl e4 P4 (g := (mkF m 53 #[rv a0, .unset, .unset, .unset] [(.ref a0)])) rfl rfl (hb hby d8_53)
  refine own_via (fun k => st5 _ k) ?_
  show own_Go p e below s _ _ (T5.setTop (mkF m 56 #[rv a0, .unset, .unset, .unset] [(.long v_current)]))
  refine own_via (fun k => XS.lstoreN X5.here hx rfl (hb hby d8_56) rfl (l' := #[rv a0, jv v_current, .second, .unset]) rfl (XS.lloadN X5.here hx rfl (hb hby d8_57) rfl  (X5.ldc2Long hx hown (mvT hZ (hw _ (List.mem_of_getElem? (i := 61) rfl))) (g := (mkF m 58 #[rv a0, jv v_current, .second, .unset] [(.long v_current)])) rfl (hb hby d8_58) _ (XS.land X5.here hx rfl (hb hby d8_61) rfl k)))) ?_
  show own_Go p e below s _ _ (T5.setTop (mkF m 62 #[rv a0, jv v_current, .second, .unset] [(.long (v_current &&& (-9223372036854775808 : Int64)))]))
  refine own_via (fun k => XS.lconst X5.here hx rfl (hb hby d8_62) (XS.lcmp X5.here hx rfl (hb hby d8_63) rfl k)) ?_
  show own_Go p e below s _ _ (T5.setTop (mkF m 64 #[rv a0, jv v_current, .second, .unset] [(.int (lcmpW (v_current &&& (-9223372036854775808 : Int64)) (0 : Int64)))]))
  have J8 : ∀ (T8 : State) (lo8 : List Loc), Stand p l e ({ frames := 0, cells := 0, slots := 0, locals := 0 } : Room) s m #[(.ref a0)] below meth c T8 lo8 0 0 → Fr n0 lo8 → T8.heap = h0 → ∀ (z7 : Int32), z7 = (if (v_current &&& (-9223372036854775808 : Int64)) = (0 : Int64) then (if (((v_current.toUInt64 >>> ((1 : Int32) &&& 0x3f).toInt64.toUInt64).toInt64) &&& (1 : Int64)) = (0 : Int64) then (0 : Int32) else (1 : Int32)) else (if (v_current &&& (4611686018427387904 : Int64)) = (0 : Int64) then (0 : Int32) else (1 : Int32))) → own_Go p e below s (Q8_1 Z a0 v_used v_waiting v_current v_readGroup h0 n0) (0, 0) (T8.setTop (mkF m 105 #[rv a0, jv v_current, .second, iv z7] [])) := by
    intro T8 lo8 X8 N8 e8 z7 hz7
    refine own_via (fun k => XS.aloadN X8.here hx rfl (hb hby d8_105) rfl rfl  (XS.dup X8.here hx rfl (hb hby d8_106) rfl rfl k)) ?_
    show own_Go p e below s _ _ (T8.setTop (mkF m 107 #[rv a0, jv v_current, .second, iv z7] [(.ref a0), (.ref a0)]))
    obtain ⟨T9, X9, e9, st9⟩ := getF X8 hx hZ hown (host := "") (Or.inl (hw _ (List.mem_of_getElem? (i := 54) rfl))) Via.refl e8 P8 (g := (mkF m 107 #[rv a0, jv v_current, .second, iv z7] [(.ref a0), (.ref a0)])) rfl rfl (hb hby d8_107)
    refine own_via (fun k => st9 _ k) ?_
    show own_Go p e below s _ _ (T9.setTop (mkF m 110 #[rv a0, jv v_current, .second, iv z7] [(.long 1), (.ref a0)]))
    refine own_via (fun k => XS.lconst X9.here hx rfl (hb hby d8_110) (XS.ladd X9.here hx rfl (hb hby d8_111) rfl k)) ?_
    show own_Go p e below s _ _ (T9.setTop (mkF m 112 #[rv a0, jv v_current, .second, iv z7] [(.long 2), (.ref a0)]))
    obtain ⟨T10, h10, X10, e10, W10, st10⟩ := putF X9 hx hZ hown (host := "") (Or.inl (hw _ (List.mem_of_getElem? (i := 54) rfl))) Via.refl e9 P8 P9 (Or.inl (hw _ (List.mem_of_getElem? (i := 55) rfl))) (hw _ (List.mem_of_getElem? (i := 1) rfl)) (ty := .long) (by decide) rfl rfl (g := (mkF m 112 #[rv a0, jv v_current, .second, iv z7] [(.long 2), (.ref a0)])) rfl rfl (hb hby d8_112)
    refine own_via (fun k => st10 _ k) ?_
    show own_Go p e below s _ _ (T10.setTop (mkF m 115 #[rv a0, jv v_current, .second, iv z7] []))
    have B11 := P0.other W10 (Or.inr (slot_ne (Or.inl (hw _ (List.mem_of_getElem? (i := 18) rfl))) (Or.inl (hw _ (List.mem_of_getElem? (i := 55) rfl))) (by decide) (t := .int) (t' := .long) (by decide) (by decide)))
    have B12 := P1.other W10 (Or.inr (slot_ne (Or.inl (hw _ (List.mem_of_getElem? (i := 20) rfl))) (Or.inl (hw _ (List.mem_of_getElem? (i := 55) rfl))) (by decide) (t := .int) (t' := .long) (by decide) (by decide)))
    have B13 := P2.other W10 (Or.inr (slot_ne (Or.inl (hw _ (List.mem_of_getElem? (i := 22) rfl))) (Or.inl (hw _ (List.mem_of_getElem? (i := 55) rfl))) (by decide) (t := .int) (t' := .long) (by decide) (by decide)))
    have B14 := P3.other W10 (Or.inr (slot_ne (Or.inl (hw _ (List.mem_of_getElem? (i := 28) rfl))) (Or.inl (hw _ (List.mem_of_getElem? (i := 55) rfl))) (by decide) (t := .long) (t' := .long) (by decide) (by decide)))
    have B15 := P4.other W10 (Or.inr (slot_ne (Or.inl (hw _ (List.mem_of_getElem? (i := 42) rfl))) (Or.inl (hw _ (List.mem_of_getElem? (i := 55) rfl))) (by decide) (t := .long) (t' := .long) (by decide) (by decide)))
    have B16 := P5.other W10 (Or.inr (slot_ne (Or.inl (hw _ (List.mem_of_getElem? (i := 49) rfl))) (Or.inl (hw _ (List.mem_of_getElem? (i := 55) rfl))) (by decide) (t := .int) (t' := .long) (by decide) (by decide)))
    have B17 := P6.other W10 (Or.inr (slot_ne (Or.inl (hw _ (List.mem_of_getElem? (i := 51) rfl))) (Or.inl (hw _ (List.mem_of_getElem? (i := 55) rfl))) (by decide) (t := .long) (t' := .long) (by decide) (by decide)))
    have B18 := P7.other W10 (Or.inr (slot_ne (Or.inl (hw _ (List.mem_of_getElem? (i := 53) rfl))) (Or.inl (hw _ (List.mem_of_getElem? (i := 55) rfl))) (by decide) (t := .int) (t' := .long) (by decide) (by decide)))
    have B19 := P9.wr W10
    have B20 : Fld Z h10 a0 "com/example/tree_to_rows/treetorows/query/Outcomes" "read" "J" (.long 2) := P8.same W10
    have N21 := Fr.snoc X10 N8 ge0
    have K22 : Keep h0 h10 [a0] := K0.wr W10 (Or.inl (List.mem_of_getElem? (i := 0) rfl))
    have Z23 : n0 ≤ h10.size := Nat.le_trans Z0 (Keep.of_wr W10).1
    refine own_via (fun k => XS.aloadN X10.here hx rfl (hb hby d8_115) rfl rfl  (XS.dup X10.here hx rfl (hb hby d8_116) rfl rfl k)) ?_
    show own_Go p e below s _ _ (T10.setTop (mkF m 117 #[rv a0, jv v_current, .second, iv z7] [(.ref a0), (.ref a0)]))
    obtain ⟨T24, X24, e24, st24⟩ := getF X10 hx hZ hown (host := "") (Or.inl (hw _ (List.mem_of_getElem? (i := 52) rfl))) Via.refl e10 B18 (g := (mkF m 117 #[rv a0, jv v_current, .second, iv z7] [(.ref a0), (.ref a0)])) rfl rfl (hb hby d8_117)
    refine own_via (fun k => st24 _ k) ?_
    show own_Go p e below s _ _ (T24.setTop (mkF m 120 #[rv a0, jv v_current, .second, iv z7] [(.int 1), (.ref a0)]))
    refine own_via (fun k => XS.iconst X24.here hx rfl (hb hby d8_120) (XS.iadd X24.here hx rfl (hb hby d8_121) rfl k)) ?_
    show own_Go p e below s _ _ (T24.setTop (mkF m 122 #[rv a0, jv v_current, .second, iv z7] [(.int 2), (.ref a0)]))
    obtain ⟨T25, h25, X25, e25, W25, st25⟩ := putF X24 hx hZ hown (host := "") (Or.inl (hw _ (List.mem_of_getElem? (i := 52) rfl))) Via.refl e24 B18 B19 (Or.inl (hw _ (List.mem_of_getElem? (i := 53) rfl))) (hw _ (List.mem_of_getElem? (i := 1) rfl)) (ty := .int) (by decide) rfl rfl (g := (mkF m 122 #[rv a0, jv v_current, .second, iv z7] [(.int 2), (.ref a0)])) rfl rfl (hb hby d8_122)
    refine own_via (fun k => st25 _ k) ?_
    show own_Go p e below s _ _ (T25.setTop (mkF m 125 #[rv a0, jv v_current, .second, iv z7] []))
    have B26 := B11.other W25 (Or.inr (slot_ne (Or.inl (hw _ (List.mem_of_getElem? (i := 18) rfl))) (Or.inl (hw _ (List.mem_of_getElem? (i := 53) rfl))) (by decide) (t := .int) (t' := .int) (by decide) (by decide)))
    have B27 := B12.other W25 (Or.inr (slot_ne (Or.inl (hw _ (List.mem_of_getElem? (i := 20) rfl))) (Or.inl (hw _ (List.mem_of_getElem? (i := 53) rfl))) (by decide) (t := .int) (t' := .int) (by decide) (by decide)))
    have B28 := B13.other W25 (Or.inr (slot_ne (Or.inl (hw _ (List.mem_of_getElem? (i := 22) rfl))) (Or.inl (hw _ (List.mem_of_getElem? (i := 53) rfl))) (by decide) (t := .int) (t' := .int) (by decide) (by decide)))
    have B29 := B14.other W25 (Or.inr (slot_ne (Or.inl (hw _ (List.mem_of_getElem? (i := 28) rfl))) (Or.inl (hw _ (List.mem_of_getElem? (i := 53) rfl))) (by decide) (t := .long) (t' := .int) (by decide) (by decide)))
    have B30 := B15.other W25 (Or.inr (slot_ne (Or.inl (hw _ (List.mem_of_getElem? (i := 42) rfl))) (Or.inl (hw _ (List.mem_of_getElem? (i := 53) rfl))) (by decide) (t := .long) (t' := .int) (by decide) (by decide)))
    have B31 := B16.other W25 (Or.inr (slot_ne (Or.inl (hw _ (List.mem_of_getElem? (i := 49) rfl))) (Or.inl (hw _ (List.mem_of_getElem? (i := 53) rfl))) (by decide) (t := .int) (t' := .int) (by decide) (by decide)))
    have B32 := B17.other W25 (Or.inr (slot_ne (Or.inl (hw _ (List.mem_of_getElem? (i := 51) rfl))) (Or.inl (hw _ (List.mem_of_getElem? (i := 53) rfl))) (by decide) (t := .long) (t' := .int) (by decide) (by decide)))
    have B33 := B19.wr W25
    have B34 := B20.other W25 (Or.inr (slot_ne (Or.inl (hw _ (List.mem_of_getElem? (i := 55) rfl))) (Or.inl (hw _ (List.mem_of_getElem? (i := 53) rfl))) (by decide) (t := .long) (t' := .int) (by decide) (by decide)))
    have B35 : Fld Z h25 a0 "com/example/tree_to_rows/treetorows/query/Outcomes" "readBit" "I" (.int 2) := B18.same W25
    have N36 := Fr.snoc X25 N21 ge0
    have K37 : Keep h0 h25 [a0] := K22.wr W25 (Or.inl (List.mem_of_getElem? (i := 0) rfl))
    have Z38 : n0 ≤ h25.size := Nat.le_trans Z23 (Keep.of_wr W25).1
    refine own_via (fun k => XS.aloadN X25.here hx rfl (hb hby d8_125) rfl rfl  k) ?_
    show own_Go p e below s _ _ (T25.setTop (mkF m 126 #[rv a0, jv v_current, .second, iv z7] [(.ref a0)]))
    obtain ⟨T39, X39, e39, st39⟩ := getF X25 hx hZ hown (host := "") (Or.inl (hw _ (List.mem_of_getElem? (i := 52) rfl))) Via.refl e25 B35 (g := (mkF m 126 #[rv a0, jv v_current, .second, iv z7] [(.ref a0)])) rfl rfl (hb hby d8_126)
    refine own_via (fun k => st39 _ k) ?_
    show own_Go p e below s _ _ (T39.setTop (mkF m 129 #[rv a0, jv v_current, .second, iv z7] [(.int 2)]))
    refine own_via (fun k => XS.bipush X39.here hx rfl (hb hby d8_129) k) ?_
    show own_Go p e below s _ _ (T39.setTop (mkF m 131 #[rv a0, jv v_current, .second, iv z7] [(.int 63), (.int 2)]))
    refine own_via (fun k => XS.icmpYes X39.here hx rfl (pc0 := 131) (pc' := 187) rfl (hb hby d8_131) rfl (by decide) (by decide) (by decide) k) ?_
    show own_Go p e below s _ _ (T39.setTop (mkF m 187 #[rv a0, jv v_current, .second, iv z7] []))
    refine own_via (fun k => XS.iloadN X39.here hx rfl (hb hby d8_187) rfl  k) ?_
    show own_Go p e below s _ _ (T39.setTop (mkF m 188 #[rv a0, jv v_current, .second, iv z7] [(.int z7)]))
    exact own_retN X39 hx hlk (t := .boolean) Bd.returns (by simp) (hb hby d8_188) (Q := (Q8_1 Z a0 v_used v_waiting v_current v_readGroup h0 n0)) ⟨(congrArg (fun z => some (Value.int z)) (show (nar .boolean z7) = (own_f8_1 v_current) from (by subst hz7; unfold own_f8_1; exact rfl.symm))), N36, (by rw [e39]; exact K37), (by rw [e39]; exact B26), (by rw [e39]; exact B27), (by rw [e39]; exact B28), (by rw [e39]; exact B29), (by rw [e39]; exact B30), (by rw [e39]; exact B31), (by rw [e39]; exact B32), (by rw [e39]; exact B35), (by rw [e39]; exact B34)⟩ (by decide) (by decide)
  by_cases hc40 : (v_current &&& (-9223372036854775808 : Int64)) = (0 : Int64)
  · refine own_via (fun k => XS.ifYes X5.here hx rfl (pc0 := 64) (pc' := 86) rfl (hb hby d8_64) rfl ((if0 _ _).trans (teq ((lw_eq _ _).mpr hc40)).1) (by decide) (by decide) k) ?_
    show own_Go p e below s _ _ (T5.setTop (mkF m 86 #[rv a0, jv v_current, .second, .unset] []))
    refine own_via (fun k => XS.lloadN X5.here hx rfl (hb hby d8_86) rfl  (XS.aloadN X5.here hx rfl (hb hby d8_87) rfl rfl  k)) ?_
    show own_Go p e below s _ _ (T5.setTop (mkF m 88 #[rv a0, jv v_current, .second, .unset] [(.ref a0), (.long v_current)]))
    obtain ⟨T41, X41, e41, st41⟩ := getF X5 hx hZ hown (host := "") (Or.inl (hw _ (List.mem_of_getElem? (i := 52) rfl))) Via.refl e5 P7 (g := (mkF m 88 #[rv a0, jv v_current, .second, .unset] [(.ref a0), (.long v_current)])) rfl rfl (hb hby d8_88)
    refine own_via (fun k => st41 _ k) ?_
    show own_Go p e below s _ _ (T41.setTop (mkF m 91 #[rv a0, jv v_current, .second, .unset] [(.int 1), (.long v_current)]))
    refine own_via (fun k => XS.lushr X41.here hx rfl (hb hby d8_91) rfl (XS.lconst X41.here hx rfl (hb hby d8_92) (XS.land X41.here hx rfl (hb hby d8_93) rfl (XS.lconst X41.here hx rfl (hb hby d8_94) k)))) ?_
    show own_Go p e below s _ _ (T41.setTop (mkF m 95 #[rv a0, jv v_current, .second, .unset] [(.long 0), (.long (((v_current.toUInt64 >>> ((1 : Int32) &&& 0x3f).toInt64.toUInt64).toInt64) &&& (1 : Int64)))]))
    refine own_via (fun k => XS.lcmp X41.here hx rfl (hb hby d8_95) rfl k) ?_
    show own_Go p e below s _ _ (T41.setTop (mkF m 96 #[rv a0, jv v_current, .second, .unset] [(.int (lcmpW (((v_current.toUInt64 >>> ((1 : Int32) &&& 0x3f).toInt64.toUInt64).toInt64) &&& (1 : Int64)) (0 : Int64)))]))
    by_cases hc42 : (((v_current.toUInt64 >>> ((1 : Int32) &&& 0x3f).toInt64.toUInt64).toInt64) &&& (1 : Int64)) = (0 : Int64)
    · refine own_via (fun k => XS.ifYes X41.here hx rfl (pc0 := 96) (pc' := 103) rfl (hb hby d8_96) rfl ((if0 _ _).trans (teq ((lw_eq _ _).mpr hc42)).1) (by decide) (by decide) k) ?_
      show own_Go p e below s _ _ (T41.setTop (mkF m 103 #[rv a0, jv v_current, .second, .unset] []))
      refine own_via (fun k => XS.iconst X41.here hx rfl (hb hby d8_103) (XS.istoreN X41.here hx rfl (hb hby d8_104) rfl (l' := #[rv a0, jv v_current, .second, iv 0]) rfl k)) ?_
      show own_Go p e below s _ _ (T41.setTop (mkF m 105 #[rv a0, jv v_current, .second, iv 0] []))
      exact J8 _ _ X41 N0 e41 (0 : Int32) (((if_pos hc40).trans ((if_pos hc42).trans rfl))).symm
    · refine own_via (fun k => XS.ifNo X41.here hx rfl (hb hby d8_96) rfl ((if0 _ _).trans (feq (mt (lw_eq _ _).mp hc42)).1) k) ?_
      show own_Go p e below s _ _ (T41.setTop (mkF m 99 #[rv a0, jv v_current, .second, .unset] []))
      refine own_via (fun k => XS.iconst X41.here hx rfl (hb hby d8_99) (XS.goto X41.here hx rfl (pc0 := 100) (pc' := 104) rfl (hb hby d8_100) (by decide) (by decide) (XS.istoreN X41.here hx rfl (hb hby d8_104) rfl (l' := #[rv a0, jv v_current, .second, iv 1]) rfl k))) ?_
      show own_Go p e below s _ _ (T41.setTop (mkF m 105 #[rv a0, jv v_current, .second, iv 1] []))
      exact J8 _ _ X41 N0 e41 (1 : Int32) (((if_pos hc40).trans ((if_neg hc42).trans rfl))).symm
  · refine own_via (fun k => XS.ifNo X5.here hx rfl (hb hby d8_64) rfl ((if0 _ _).trans (feq (mt (lw_eq _ _).mp hc40)).1) k) ?_
    show own_Go p e below s _ _ (T5.setTop (mkF m 67 #[rv a0, jv v_current, .second, .unset] []))
    refine own_via (fun k => XS.lloadN X5.here hx rfl (hb hby d8_67) rfl  (X5.ldc2Long hx hown (mvT hZ (hw _ (List.mem_of_getElem? (i := 63) rfl))) (g := (mkF m 68 #[rv a0, jv v_current, .second, .unset] [(.long v_current)])) rfl (hb hby d8_68) _ (XS.land X5.here hx rfl (hb hby d8_71) rfl (XS.lconst X5.here hx rfl (hb hby d8_72) k)))) ?_
    show own_Go p e below s _ _ (T5.setTop (mkF m 73 #[rv a0, jv v_current, .second, .unset] [(.long 0), (.long (v_current &&& (4611686018427387904 : Int64)))]))
    refine own_via (fun k => XS.lcmp X5.here hx rfl (hb hby d8_73) rfl k) ?_
    show own_Go p e below s _ _ (T5.setTop (mkF m 74 #[rv a0, jv v_current, .second, .unset] [(.int (lcmpW (v_current &&& (4611686018427387904 : Int64)) (0 : Int64)))]))
    by_cases hc43 : (v_current &&& (4611686018427387904 : Int64)) = (0 : Int64)
    · refine own_via (fun k => XS.ifYes X5.here hx rfl (pc0 := 74) (pc' := 81) rfl (hb hby d8_74) rfl ((if0 _ _).trans (teq ((lw_eq _ _).mpr hc43)).1) (by decide) (by decide) k) ?_
      show own_Go p e below s _ _ (T5.setTop (mkF m 81 #[rv a0, jv v_current, .second, .unset] []))
      refine own_via (fun k => XS.iconst X5.here hx rfl (hb hby d8_81) (XS.istoreN X5.here hx rfl (hb hby d8_82) rfl (l' := #[rv a0, jv v_current, .second, iv 0]) rfl (XS.goto X5.here hx rfl (pc0 := 83) (pc' := 105) rfl (hb hby d8_83) (by decide) (by decide) k))) ?_
      show own_Go p e below s _ _ (T5.setTop (mkF m 105 #[rv a0, jv v_current, .second, iv 0] []))
      exact J8 _ _ X5 N0 e5 (0 : Int32) (((if_neg hc40).trans ((if_pos hc43).trans rfl))).symm
    · refine own_via (fun k => XS.ifNo X5.here hx rfl (hb hby d8_74) rfl ((if0 _ _).trans (feq (mt (lw_eq _ _).mp hc43)).1) k) ?_
      show own_Go p e below s _ _ (T5.setTop (mkF m 77 #[rv a0, jv v_current, .second, .unset] []))
      refine own_via (fun k => XS.iconst X5.here hx rfl (hb hby d8_77) (XS.goto X5.here hx rfl (pc0 := 78) (pc' := 82) rfl (hb hby d8_78) (by decide) (by decide) (XS.istoreN X5.here hx rfl (hb hby d8_82) rfl (l' := #[rv a0, jv v_current, .second, iv 1]) rfl (XS.goto X5.here hx rfl (pc0 := 83) (pc' := 105) rfl (hb hby d8_83) (by decide) (by decide) k)))) ?_
      show own_Go p e below s _ _ (T5.setTop (mkF m 105 #[rv a0, jv v_current, .second, iv 1] []))
      exact J8 _ _ X5 N0 e5 (1 : Int32) (((if_neg hc40).trans ((if_neg hc43).trans rfl))).symm
theorem ef_8_2 (m : MethodId) (x0 : Addr) : entryFrame m #[(.ref x0)] 4 = mkF m 0 #[rv x0, .unset, .unset, .unset] [] := by first | (simp [entryFrame, mkF, argsToLocals, Value.category]; done) | rfl
def own_f8_2 (v_current : Int64) : Int32 := (let z7 : Int32 := (if (v_current &&& (-9223372036854775808 : Int64)) = (0 : Int64) then (if (((v_current.toUInt64 >>> ((2 : Int32) &&& 0x3f).toInt64.toUInt64).toInt64) &&& (1 : Int64)) = (0 : Int64) then (0 : Int32) else (1 : Int32)) else (if (v_current &&& (4611686018427387904 : Int64)) = (0 : Int64) then (0 : Int32) else (1 : Int32))); (nar .boolean z7))
def Q8_2 (Z : State) (a0 : Addr) (v_used : Int32) (v_waiting : Int32) (v_current : Int64) (v_readGroup : Int64) (h0 : Heap) (n0 : Nat) (v : Option Value) (h : Heap) (L : List Loc) : Prop := v = some (.int (own_f8_2 v_current)) ∧ Fr n0 L ∧ Keep h0 h [a0] ∧ Fld Z h a0 "com/example/tree_to_rows/treetorows/query/Outcomes" "size" "I" (.int 0) ∧ Fld Z h a0 "com/example/tree_to_rows/treetorows/query/Outcomes" "used" "I" (.int v_used) ∧ Fld Z h a0 "com/example/tree_to_rows/treetorows/query/Outcomes" "waiting" "I" (.int v_waiting) ∧ Fld Z h a0 "com/example/tree_to_rows/treetorows/query/Outcomes" "bits" "J" (.long 3) ∧ Fld Z h a0 "com/example/tree_to_rows/treetorows/query/Outcomes" "current" "J" (.long v_current) ∧ Fld Z h a0 "com/example/tree_to_rows/treetorows/query/Outcomes" "readWord" "I" (.int 0) ∧ Fld Z h a0 "com/example/tree_to_rows/treetorows/query/Outcomes" "readGroup" "J" (.long v_readGroup) ∧ Fld Z h a0 "com/example/tree_to_rows/treetorows/query/Outcomes" "readBit" "I" (.int 3) ∧ Fld Z h a0 "com/example/tree_to_rows/treetorows/query/Outcomes" "read" "J" (.long 3)
set_option maxRecDepth 65536 in
set_option maxHeartbeats 40000000 in
theorem rm8_2 (l : Launch) (Z : State) (aw : Array Value) (hw : ∀ d ∈ tables_1, d.before aw Z = true) (ws : List Jvm.Cond) (a0 : Addr) (v_used : Int32) (v_waiting : Int32) (v_current : Int64) (v_readGroup : Int64) (h0 : Heap) (n0 : Nat) (Z0 : n0 ≤ h0.size) (P0 : Fld Z h0 a0 "com/example/tree_to_rows/treetorows/query/Outcomes" "size" "I" (.int 0)) (P1 : Fld Z h0 a0 "com/example/tree_to_rows/treetorows/query/Outcomes" "used" "I" (.int v_used)) (P2 : Fld Z h0 a0 "com/example/tree_to_rows/treetorows/query/Outcomes" "waiting" "I" (.int v_waiting)) (P3 : Fld Z h0 a0 "com/example/tree_to_rows/treetorows/query/Outcomes" "bits" "J" (.long 3)) (P4 : Fld Z h0 a0 "com/example/tree_to_rows/treetorows/query/Outcomes" "current" "J" (.long v_current)) (P5 : Fld Z h0 a0 "com/example/tree_to_rows/treetorows/query/Outcomes" "readWord" "I" (.int 0)) (P6 : Fld Z h0 a0 "com/example/tree_to_rows/treetorows/query/Outcomes" "readGroup" "J" (.long v_readGroup)) (P7 : Fld Z h0 a0 "com/example/tree_to_rows/treetorows/query/Outcomes" "readBit" "I" (.int 2)) (P8 : Fld Z h0 a0 "com/example/tree_to_rows/treetorows/query/Outcomes" "read" "J" (.long 2)) (P9 : Exa Z h0 a0 "com/example/tree_to_rows/treetorows/query/Outcomes") (ge0 : n0 ≤ a0) :
    MetFree l (⟨"com/example/tree_to_rows/treetorows/query/Outcomes", "next", "()Z"⟩ : MethodName) (head1 (Jvm.Cond.code (⟨"com/example/tree_to_rows/treetorows/query/Outcomes", "next", "()Z"⟩ : MethodName) prog_24_method_4_code 4 (some .boolean) :: ws) ({ frames := 0, cells := 0, slots := 0, locals := 0 } : Room)) (fun a U => a = #[(.ref a0)] ∧ Z.Warmed39 U.vm ∧ U.heap = h0) (fun _ _ _ _ _ => True) (fun _ U o U' => ∃ v L, o = .returned v ∧ Q8_2 Z a0 v_used v_waiting v_current v_readGroup h0 n0 v U'.heap L ∧ FrameEnd U o U' L ({ frames := 0, cells := 0, slots := 0, locals := 0 } : Room).cells ({ frames := 0, cells := 0, slots := 0, locals := 0 } : Room).slots) := by
  refine MetFree.of_bodySF (plainFor_of_name pn_8) hisR ?_
  intro p e s m args below meth c s₁ Bd hml0 hP hK
  obtain ⟨rfl, hZ, hh⟩ := hP
  have hx := Bd.exec
  have hby := Bd.bytes
  have hml : c.maxLocals = 4 := hml0
  have hown : s.vm.findClass "com/example/tree_to_rows/treetorows/query/Outcomes" = some m.cls := findClass_of_methodNamed Bd.named
  have hnm := (name_of_methodNamed Bd.named Bd.method).1
  have hlk : meth.locks = false := by first | exact BodyLoose.notSynchronized (by assumption) | exact Body.notSynchronized (by assumption)
  have X0 : Stand p l e ({ frames := 0, cells := 0, slots := 0, locals := 0 } : Room) s m #[(.ref a0)] below meth c s₁ [] 0 0 := Stand.of_body Bd
  have e0 : s₁.heap = h0 := by rw [← hh, Bd.state]; rfl
  have N0 := Fr.nil n0
  have K0 : Keep h0 h0 [a0] := Keep.refl _ _
  refine own_start (CS := (0, 0)) (Q := (Q8_2 Z a0 v_used v_waiting v_current v_readGroup h0 n0)) (ef_8_2 m a0) ?_
  show own_Go p e below s _ _ (s₁.setTop (mkF m 0 #[rv a0, .unset, .unset, .unset] []))
  refine own_via (fun k => XS.aloadN X0.here hx rfl (hb hby d8_0) rfl rfl  k) ?_
  show own_Go p e below s _ _ (s₁.setTop (mkF m 1 #[rv a0, .unset, .unset, .unset] [(.ref a0)]))
  obtain ⟨T1, X1, e1, st1⟩ := getF X0 hx hZ hown (host := "") (Or.inl (hw _ (List.mem_of_getElem? (i := 54) rfl))) Via.refl e0 P8 (g := (mkF m 1 #[rv a0, .unset, .unset, .unset] [(.ref a0)])) rfl rfl (hb hby d8_1)
  refine own_via (fun k => st1 _ k) ?_
  show own_Go p e below s _ _ (T1.setTop (mkF m 4 #[rv a0, .unset, .unset, .unset] [(.long 2)]))
  refine own_via (fun k => XS.aloadN X1.here hx rfl (hb hby d8_4) rfl rfl  k) ?_
  show own_Go p e below s _ _ (T1.setTop (mkF m 5 #[rv a0, .unset, .unset, .unset] [(.ref a0), (.long 2)]))
  obtain ⟨T2, X2, e2, st2⟩ := getF X1 hx hZ hown (host := "") (Or.inl (hw _ (List.mem_of_getElem? (i := 27) rfl))) Via.refl e1 P3 (g := (mkF m 5 #[rv a0, .unset, .unset, .unset] [(.ref a0), (.long 2)])) rfl rfl (hb hby d8_5)
  refine own_via (fun k => st2 _ k) ?_
  show own_Go p e below s _ _ (T2.setTop (mkF m 8 #[rv a0, .unset, .unset, .unset] [(.long 3), (.long 2)]))
  refine own_via (fun k => XS.lcmp X2.here hx rfl (hb hby d8_8) rfl k) ?_
  show own_Go p e below s _ _ (T2.setTop (mkF m 9 #[rv a0, .unset, .unset, .unset] [(.int (lcmpW (2 : Int64) (3 : Int64)))]))
  refine own_via (fun k => XS.ifYes X2.here hx rfl (pc0 := 9) (pc' := 29) rfl (hb hby d8_9) rfl (by decide) (by decide) (by decide) k) ?_
  show own_Go p e below s _ _ (T2.setTop (mkF m 29 #[rv a0, .unset, .unset, .unset] []))
  refine own_via (fun k => XS.aloadN X2.here hx rfl (hb hby d8_29) rfl rfl  k) ?_
  show own_Go p e below s _ _ (T2.setTop (mkF m 30 #[rv a0, .unset, .unset, .unset] [(.ref a0)]))
  obtain ⟨T3, X3, e3, st3⟩ := getF X2 hx hZ hown (host := "") (Or.inl (hw _ (List.mem_of_getElem? (i := 48) rfl))) Via.refl e2 P5 (g := (mkF m 30 #[rv a0, .unset, .unset, .unset] [(.ref a0)])) rfl rfl (hb hby d8_30)
  refine own_via (fun k => st3 _ k) ?_
  show own_Go p e below s _ _ (T3.setTop (mkF m 33 #[rv a0, .unset, .unset, .unset] [(.int 0)]))
  refine own_via (fun k => XS.aloadN X3.here hx rfl (hb hby d8_33) rfl rfl  k) ?_
  show own_Go p e below s _ _ (T3.setTop (mkF m 34 #[rv a0, .unset, .unset, .unset] [(.ref a0), (.int 0)]))
  obtain ⟨T4, X4, e4, st4⟩ := getF X3 hx hZ hown (host := "") (Or.inl (hw _ (List.mem_of_getElem? (i := 17) rfl))) Via.refl e3 P0 (g := (mkF m 34 #[rv a0, .unset, .unset, .unset] [(.ref a0), (.int 0)])) rfl rfl (hb hby d8_34)
  refine own_via (fun k => st4 _ k) ?_
  show own_Go p e below s _ _ (T4.setTop (mkF m 37 #[rv a0, .unset, .unset, .unset] [(.int 0), (.int 0)]))
  refine own_via (fun k => XS.icmpYes X4.here hx rfl (pc0 := 37) (pc' := 52) rfl (hb hby d8_37) rfl (by decide) (by decide) (by decide) k) ?_
  show own_Go p e below s _ _ (T4.setTop (mkF m 52 #[rv a0, .unset, .unset, .unset] []))
  refine own_via (fun k => XS.aloadN X4.here hx rfl (hb hby d8_52) rfl rfl  k) ?_
  show own_Go p e below s _ _ (T4.setTop (mkF m 53 #[rv a0, .unset, .unset, .unset] [(.ref a0)]))
  obtain ⟨T5, X5, e5, st5⟩ := getF X4 hx hZ hown (host := "") (Or.inl (hw _ (List.mem_of_getElem? (i := 41) rfl))) Via.refl e4 P4 (g := (mkF m 53 #[rv a0, .unset, .unset, .unset] [(.ref a0)])) rfl rfl (hb hby d8_53)
  refine own_via (fun k => st5 _ k) ?_
  show own_Go p e below s _ _ (T5.setTop (mkF m 56 #[rv a0, .unset, .unset, .unset] [(.long v_current)]))
  refine own_via (fun k => XS.lstoreN X5.here hx rfl (hb hby d8_56) rfl (l' := #[rv a0, jv v_current, .second, .unset]) rfl (XS.lloadN X5.here hx rfl (hb hby d8_57) rfl  (X5.ldc2Long hx hown (mvT hZ (hw _ (List.mem_of_getElem? (i := 61) rfl))) (g := (mkF m 58 #[rv a0, jv v_current, .second, .unset] [(.long v_current)])) rfl (hb hby d8_58) _ (XS.land X5.here hx rfl (hb hby d8_61) rfl k)))) ?_
  show own_Go p e below s _ _ (T5.setTop (mkF m 62 #[rv a0, jv v_current, .second, .unset] [(.long (v_current &&& (-9223372036854775808 : Int64)))]))
  refine own_via (fun k => XS.lconst X5.here hx rfl (hb hby d8_62) (XS.lcmp X5.here hx rfl (hb hby d8_63) rfl k)) ?_
  show own_Go p e below s _ _ (T5.setTop (mkF m 64 #[rv a0, jv v_current, .second, .unset] [(.int (lcmpW (v_current &&& (-9223372036854775808 : Int64)) (0 : Int64)))]))
  have J8 : ∀ (T8 : State) (lo8 : List Loc), Stand p l e ({ frames := 0, cells := 0, slots := 0, locals := 0 } : Room) s m #[(.ref a0)] below meth c T8 lo8 0 0 → Fr n0 lo8 → T8.heap = h0 → ∀ (z7 : Int32), z7 = (if (v_current &&& (-9223372036854775808 : Int64)) = (0 : Int64) then (if (((v_current.toUInt64 >>> ((2 : Int32) &&& 0x3f).toInt64.toUInt64).toInt64) &&& (1 : Int64)) = (0 : Int64) then (0 : Int32) else (1 : Int32)) else (if (v_current &&& (4611686018427387904 : Int64)) = (0 : Int64) then (0 : Int32) else (1 : Int32))) → own_Go p e below s (Q8_2 Z a0 v_used v_waiting v_current v_readGroup h0 n0) (0, 0) (T8.setTop (mkF m 105 #[rv a0, jv v_current, .second, iv z7] [])) := by
    intro T8 lo8 X8 N8 e8 z7 hz7
    refine own_via (fun k => XS.aloadN X8.here hx rfl (hb hby d8_105) rfl rfl  (XS.dup X8.here hx rfl (hb hby d8_106) rfl rfl k)) ?_
    show own_Go p e below s _ _ (T8.setTop (mkF m 107 #[rv a0, jv v_current, .second, iv z7] [(.ref a0), (.ref a0)]))
    obtain ⟨T9, X9, e9, st9⟩ := getF X8 hx hZ hown (host := "") (Or.inl (hw _ (List.mem_of_getElem? (i := 54) rfl))) Via.refl e8 P8 (g := (mkF m 107 #[rv a0, jv v_current, .second, iv z7] [(.ref a0), (.ref a0)])) rfl rfl (hb hby d8_107)
    refine own_via (fun k => st9 _ k) ?_
    show own_Go p e below s _ _ (T9.setTop (mkF m 110 #[rv a0, jv v_current, .second, iv z7] [(.long 2), (.ref a0)]))
    refine own_via (fun k => XS.lconst X9.here hx rfl (hb hby d8_110) (XS.ladd X9.here hx rfl (hb hby d8_111) rfl k)) ?_
    show own_Go p e below s _ _ (T9.setTop (mkF m 112 #[rv a0, jv v_current, .second, iv z7] [(.long 3), (.ref a0)]))
    obtain ⟨T10, h10, X10, e10, W10, st10⟩ := putF X9 hx hZ hown (host := "") (Or.inl (hw _ (List.mem_of_getElem? (i := 54) rfl))) Via.refl e9 P8 P9 (Or.inl (hw _ (List.mem_of_getElem? (i := 55) rfl))) (hw _ (List.mem_of_getElem? (i := 1) rfl)) (ty := .long) (by decide) rfl rfl (g := (mkF m 112 #[rv a0, jv v_current, .second, iv z7] [(.long 3), (.ref a0)])) rfl rfl (hb hby d8_112)
    refine own_via (fun k => st10 _ k) ?_
    show own_Go p e below s _ _ (T10.setTop (mkF m 115 #[rv a0, jv v_current, .second, iv z7] []))
    have B11 := P0.other W10 (Or.inr (slot_ne (Or.inl (hw _ (List.mem_of_getElem? (i := 18) rfl))) (Or.inl (hw _ (List.mem_of_getElem? (i := 55) rfl))) (by decide) (t := .int) (t' := .long) (by decide) (by decide)))
    have B12 := P1.other W10 (Or.inr (slot_ne (Or.inl (hw _ (List.mem_of_getElem? (i := 20) rfl))) (Or.inl (hw _ (List.mem_of_getElem? (i := 55) rfl))) (by decide) (t := .int) (t' := .long) (by decide) (by decide)))
    have B13 := P2.other W10 (Or.inr (slot_ne (Or.inl (hw _ (List.mem_of_getElem? (i := 22) rfl))) (Or.inl (hw _ (List.mem_of_getElem? (i := 55) rfl))) (by decide) (t := .int) (t' := .long) (by decide) (by decide)))
    have B14 := P3.other W10 (Or.inr (slot_ne (Or.inl (hw _ (List.mem_of_getElem? (i := 28) rfl))) (Or.inl (hw _ (List.mem_of_getElem? (i := 55) rfl))) (by decide) (t := .long) (t' := .long) (by decide) (by decide)))
    have B15 := P4.other W10 (Or.inr (slot_ne (Or.inl (hw _ (List.mem_of_getElem? (i := 42) rfl))) (Or.inl (hw _ (List.mem_of_getElem? (i := 55) rfl))) (by decide) (t := .long) (t' := .long) (by decide) (by decide)))
    have B16 := P5.other W10 (Or.inr (slot_ne (Or.inl (hw _ (List.mem_of_getElem? (i := 49) rfl))) (Or.inl (hw _ (List.mem_of_getElem? (i := 55) rfl))) (by decide) (t := .int) (t' := .long) (by decide) (by decide)))
    have B17 := P6.other W10 (Or.inr (slot_ne (Or.inl (hw _ (List.mem_of_getElem? (i := 51) rfl))) (Or.inl (hw _ (List.mem_of_getElem? (i := 55) rfl))) (by decide) (t := .long) (t' := .long) (by decide) (by decide)))
    have B18 := P7.other W10 (Or.inr (slot_ne (Or.inl (hw _ (List.mem_of_getElem? (i := 53) rfl))) (Or.inl (hw _ (List.mem_of_getElem? (i := 55) rfl))) (by decide) (t := .int) (t' := .long) (by decide) (by decide)))
    have B19 := P9.wr W10
    have B20 : Fld Z h10 a0 "com/example/tree_to_rows/treetorows/query/Outcomes" "read" "J" (.long 3) := P8.same W10
    have N21 := Fr.snoc X10 N8 ge0
    have K22 : Keep h0 h10 [a0] := K0.wr W10 (Or.inl (List.mem_of_getElem? (i := 0) rfl))
    have Z23 : n0 ≤ h10.size := Nat.le_trans Z0 (Keep.of_wr W10).1
    refine own_via (fun k => XS.aloadN X10.here hx rfl (hb hby d8_115) rfl rfl  (XS.dup X10.here hx rfl (hb hby d8_116) rfl rfl k)) ?_
    show own_Go p e below s _ _ (T10.setTop (mkF m 117 #[rv a0, jv v_current, .second, iv z7] [(.ref a0), (.ref a0)]))
    obtain ⟨T24, X24, e24, st24⟩ := getF X10 hx hZ hown (host := "") (Or.inl (hw _ (List.mem_of_getElem? (i := 52) rfl))) Via.refl e10 B18 (g := (mkF m 117 #[rv a0, jv v_current, .second, iv z7] [(.ref a0), (.ref a0)])) rfl rfl (hb hby d8_117)
    refine own_via (fun k => st24 _ k) ?_
    show own_Go p e below s _ _ (T24.setTop (mkF m 120 #[rv a0, jv v_current, .second, iv z7] [(.int 2), (.ref a0)]))
    refine own_via (fun k => XS.iconst X24.here hx rfl (hb hby d8_120) (XS.iadd X24.here hx rfl (hb hby d8_121) rfl k)) ?_
    show own_Go p e below s _ _ (T24.setTop (mkF m 122 #[rv a0, jv v_current, .second, iv z7] [(.int 3), (.ref a0)]))
    obtain ⟨T25, h25, X25, e25, W25, st25⟩ := putF X24 hx hZ hown (host := "") (Or.inl (hw _ (List.mem_of_getElem? (i := 52) rfl))) Via.refl e24 B18 B19 (Or.inl (hw _ (List.mem_of_getElem? (i := 53) rfl))) (hw _ (List.mem_of_getElem? (i := 1) rfl)) (ty := .int) (by decide) rfl rfl (g := (mkF m 122 #[rv a0, jv v_current, .second, iv z7] [(.int 3), (.ref a0)])) rfl rfl (hb hby d8_122)
    refine own_via (fun k => st25 _ k) ?_
    show own_Go p e below s _ _ (T25.setTop (mkF m 125 #[rv a0, jv v_current, .second, iv z7] []))
    have B26 := B11.other W25 (Or.inr (slot_ne (Or.inl (hw _ (List.mem_of_getElem? (i := 18) rfl))) (Or.inl (hw _ (List.mem_of_getElem? (i := 53) rfl))) (by decide) (t := .int) (t' := .int) (by decide) (by decide)))
    have B27 := B12.other W25 (Or.inr (slot_ne (Or.inl (hw _ (List.mem_of_getElem? (i := 20) rfl))) (Or.inl (hw _ (List.mem_of_getElem? (i := 53) rfl))) (by decide) (t := .int) (t' := .int) (by decide) (by decide)))
    have B28 := B13.other W25 (Or.inr (slot_ne (Or.inl (hw _ (List.mem_of_getElem? (i := 22) rfl))) (Or.inl (hw _ (List.mem_of_getElem? (i := 53) rfl))) (by decide) (t := .int) (t' := .int) (by decide) (by decide)))
    have B29 := B14.other W25 (Or.inr (slot_ne (Or.inl (hw _ (List.mem_of_getElem? (i := 28) rfl))) (Or.inl (hw _ (List.mem_of_getElem? (i := 53) rfl))) (by decide) (t := .long) (t' := .int) (by decide) (by decide)))
    have B30 := B15.other W25 (Or.inr (slot_ne (Or.inl (hw _ (List.mem_of_getElem? (i := 42) rfl))) (Or.inl (hw _ (List.mem_of_getElem? (i := 53) rfl))) (by decide) (t := .long) (t' := .int) (by decide) (by decide)))
    have B31 := B16.other W25 (Or.inr (slot_ne (Or.inl (hw _ (List.mem_of_getElem? (i := 49) rfl))) (Or.inl (hw _ (List.mem_of_getElem? (i := 53) rfl))) (by decide) (t := .int) (t' := .int) (by decide) (by decide)))
    have B32 := B17.other W25 (Or.inr (slot_ne (Or.inl (hw _ (List.mem_of_getElem? (i := 51) rfl))) (Or.inl (hw _ (List.mem_of_getElem? (i := 53) rfl))) (by decide) (t := .long) (t' := .int) (by decide) (by decide)))
    have B33 := B19.wr W25
    have B34 := B20.other W25 (Or.inr (slot_ne (Or.inl (hw _ (List.mem_of_getElem? (i := 55) rfl))) (Or.inl (hw _ (List.mem_of_getElem? (i := 53) rfl))) (by decide) (t := .long) (t' := .int) (by decide) (by decide)))
    have B35 : Fld Z h25 a0 "com/example/tree_to_rows/treetorows/query/Outcomes" "readBit" "I" (.int 3) := B18.same W25
    have N36 := Fr.snoc X25 N21 ge0
    have K37 : Keep h0 h25 [a0] := K22.wr W25 (Or.inl (List.mem_of_getElem? (i := 0) rfl))
    have Z38 : n0 ≤ h25.size := Nat.le_trans Z23 (Keep.of_wr W25).1
    refine own_via (fun k => XS.aloadN X25.here hx rfl (hb hby d8_125) rfl rfl  k) ?_
    show own_Go p e below s _ _ (T25.setTop (mkF m 126 #[rv a0, jv v_current, .second, iv z7] [(.ref a0)]))
    obtain ⟨T39, X39, e39, st39⟩ := getF X25 hx hZ hown (host := "") (Or.inl (hw _ (List.mem_of_getElem? (i := 52) rfl))) Via.refl e25 B35 (g := (mkF m 126 #[rv a0, jv v_current, .second, iv z7] [(.ref a0)])) rfl rfl (hb hby d8_126)
    refine own_via (fun k => st39 _ k) ?_
    show own_Go p e below s _ _ (T39.setTop (mkF m 129 #[rv a0, jv v_current, .second, iv z7] [(.int 3)]))
    refine own_via (fun k => XS.bipush X39.here hx rfl (hb hby d8_129) k) ?_
    show own_Go p e below s _ _ (T39.setTop (mkF m 131 #[rv a0, jv v_current, .second, iv z7] [(.int 63), (.int 3)]))
    refine own_via (fun k => XS.icmpYes X39.here hx rfl (pc0 := 131) (pc' := 187) rfl (hb hby d8_131) rfl (by decide) (by decide) (by decide) k) ?_
    show own_Go p e below s _ _ (T39.setTop (mkF m 187 #[rv a0, jv v_current, .second, iv z7] []))
    refine own_via (fun k => XS.iloadN X39.here hx rfl (hb hby d8_187) rfl  k) ?_
    show own_Go p e below s _ _ (T39.setTop (mkF m 188 #[rv a0, jv v_current, .second, iv z7] [(.int z7)]))
    exact own_retN X39 hx hlk (t := .boolean) Bd.returns (by simp) (hb hby d8_188) (Q := (Q8_2 Z a0 v_used v_waiting v_current v_readGroup h0 n0)) ⟨(congrArg (fun z => some (Value.int z)) (show (nar .boolean z7) = (own_f8_2 v_current) from (by subst hz7; unfold own_f8_2; exact rfl.symm))), N36, (by rw [e39]; exact K37), (by rw [e39]; exact B26), (by rw [e39]; exact B27), (by rw [e39]; exact B28), (by rw [e39]; exact B29), (by rw [e39]; exact B30), (by rw [e39]; exact B31), (by rw [e39]; exact B32), (by rw [e39]; exact B35), (by rw [e39]; exact B34)⟩ (by decide) (by decide)
  by_cases hc40 : (v_current &&& (-9223372036854775808 : Int64)) = (0 : Int64)
  · refine own_via (fun k => XS.ifYes X5.here hx rfl (pc0 := 64) (pc' := 86) rfl (hb hby d8_64) rfl ((if0 _ _).trans (teq ((lw_eq _ _).mpr hc40)).1) (by decide) (by decide) k) ?_
    show own_Go p e below s _ _ (T5.setTop (mkF m 86 #[rv a0, jv v_current, .second, .unset] []))
    refine own_via (fun k => XS.lloadN X5.here hx rfl (hb hby d8_86) rfl  (XS.aloadN X5.here hx rfl (hb hby d8_87) rfl rfl  k)) ?_
    show own_Go p e below s _ _ (T5.setTop (mkF m 88 #[rv a0, jv v_current, .second, .unset] [(.ref a0), (.long v_current)]))
    obtain ⟨T41, X41, e41, st41⟩ := getF X5 hx hZ hown (host := "") (Or.inl (hw _ (List.mem_of_getElem? (i := 52) rfl))) Via.refl e5 P7 (g := (mkF m 88 #[rv a0, jv v_current, .second, .unset] [(.ref a0), (.long v_current)])) rfl rfl (hb hby d8_88)
    refine own_via (fun k => st41 _ k) ?_
    show own_Go p e below s _ _ (T41.setTop (mkF m 91 #[rv a0, jv v_current, .second, .unset] [(.int 2), (.long v_current)]))
    refine own_via (fun k => XS.lushr X41.here hx rfl (hb hby d8_91) rfl (XS.lconst X41.here hx rfl (hb hby d8_92) (XS.land X41.here hx rfl (hb hby d8_93) rfl (XS.lconst X41.here hx rfl (hb hby d8_94) k)))) ?_
    show own_Go p e below s _ _ (T41.setTop (mkF m 95 #[rv a0, jv v_current, .second, .unset] [(.long 0), (.long (((v_current.toUInt64 >>> ((2 : Int32) &&& 0x3f).toInt64.toUInt64).toInt64) &&& (1 : Int64)))]))
    refine own_via (fun k => XS.lcmp X41.here hx rfl (hb hby d8_95) rfl k) ?_
    show own_Go p e below s _ _ (T41.setTop (mkF m 96 #[rv a0, jv v_current, .second, .unset] [(.int (lcmpW (((v_current.toUInt64 >>> ((2 : Int32) &&& 0x3f).toInt64.toUInt64).toInt64) &&& (1 : Int64)) (0 : Int64)))]))
    by_cases hc42 : (((v_current.toUInt64 >>> ((2 : Int32) &&& 0x3f).toInt64.toUInt64).toInt64) &&& (1 : Int64)) = (0 : Int64)
    · refine own_via (fun k => XS.ifYes X41.here hx rfl (pc0 := 96) (pc' := 103) rfl (hb hby d8_96) rfl ((if0 _ _).trans (teq ((lw_eq _ _).mpr hc42)).1) (by decide) (by decide) k) ?_
      show own_Go p e below s _ _ (T41.setTop (mkF m 103 #[rv a0, jv v_current, .second, .unset] []))
      refine own_via (fun k => XS.iconst X41.here hx rfl (hb hby d8_103) (XS.istoreN X41.here hx rfl (hb hby d8_104) rfl (l' := #[rv a0, jv v_current, .second, iv 0]) rfl k)) ?_
      show own_Go p e below s _ _ (T41.setTop (mkF m 105 #[rv a0, jv v_current, .second, iv 0] []))
      exact J8 _ _ X41 N0 e41 (0 : Int32) (((if_pos hc40).trans ((if_pos hc42).trans rfl))).symm
    · refine own_via (fun k => XS.ifNo X41.here hx rfl (hb hby d8_96) rfl ((if0 _ _).trans (feq (mt (lw_eq _ _).mp hc42)).1) k) ?_
      show own_Go p e below s _ _ (T41.setTop (mkF m 99 #[rv a0, jv v_current, .second, .unset] []))
      refine own_via (fun k => XS.iconst X41.here hx rfl (hb hby d8_99) (XS.goto X41.here hx rfl (pc0 := 100) (pc' := 104) rfl (hb hby d8_100) (by decide) (by decide) (XS.istoreN X41.here hx rfl (hb hby d8_104) rfl (l' := #[rv a0, jv v_current, .second, iv 1]) rfl k))) ?_
      show own_Go p e below s _ _ (T41.setTop (mkF m 105 #[rv a0, jv v_current, .second, iv 1] []))
      exact J8 _ _ X41 N0 e41 (1 : Int32) (((if_pos hc40).trans ((if_neg hc42).trans rfl))).symm
  · refine own_via (fun k => XS.ifNo X5.here hx rfl (hb hby d8_64) rfl ((if0 _ _).trans (feq (mt (lw_eq _ _).mp hc40)).1) k) ?_
    show own_Go p e below s _ _ (T5.setTop (mkF m 67 #[rv a0, jv v_current, .second, .unset] []))
    refine own_via (fun k => XS.lloadN X5.here hx rfl (hb hby d8_67) rfl  (X5.ldc2Long hx hown (mvT hZ (hw _ (List.mem_of_getElem? (i := 63) rfl))) (g := (mkF m 68 #[rv a0, jv v_current, .second, .unset] [(.long v_current)])) rfl (hb hby d8_68) _ (XS.land X5.here hx rfl (hb hby d8_71) rfl (XS.lconst X5.here hx rfl (hb hby d8_72) k)))) ?_
    show own_Go p e below s _ _ (T5.setTop (mkF m 73 #[rv a0, jv v_current, .second, .unset] [(.long 0), (.long (v_current &&& (4611686018427387904 : Int64)))]))
    refine own_via (fun k => XS.lcmp X5.here hx rfl (hb hby d8_73) rfl k) ?_
    show own_Go p e below s _ _ (T5.setTop (mkF m 74 #[rv a0, jv v_current, .second, .unset] [(.int (lcmpW (v_current &&& (4611686018427387904 : Int64)) (0 : Int64)))]))
    by_cases hc43 : (v_current &&& (4611686018427387904 : Int64)) = (0 : Int64)
    · refine own_via (fun k => XS.ifYes X5.here hx rfl (pc0 := 74) (pc' := 81) rfl (hb hby d8_74) rfl ((if0 _ _).trans (teq ((lw_eq _ _).mpr hc43)).1) (by decide) (by decide) k) ?_
      show own_Go p e below s _ _ (T5.setTop (mkF m 81 #[rv a0, jv v_current, .second, .unset] []))
      refine own_via (fun k => XS.iconst X5.here hx rfl (hb hby d8_81) (XS.istoreN X5.here hx rfl (hb hby d8_82) rfl (l' := #[rv a0, jv v_current, .second, iv 0]) rfl (XS.goto X5.here hx rfl (pc0 := 83) (pc' := 105) rfl (hb hby d8_83) (by decide) (by decide) k))) ?_
      show own_Go p e below s _ _ (T5.setTop (mkF m 105 #[rv a0, jv v_current, .second, iv 0] []))
      exact J8 _ _ X5 N0 e5 (0 : Int32) (((if_neg hc40).trans ((if_pos hc43).trans rfl))).symm
    · refine own_via (fun k => XS.ifNo X5.here hx rfl (hb hby d8_74) rfl ((if0 _ _).trans (feq (mt (lw_eq _ _).mp hc43)).1) k) ?_
      show own_Go p e below s _ _ (T5.setTop (mkF m 77 #[rv a0, jv v_current, .second, .unset] []))
      refine own_via (fun k => XS.iconst X5.here hx rfl (hb hby d8_77) (XS.goto X5.here hx rfl (pc0 := 78) (pc' := 82) rfl (hb hby d8_78) (by decide) (by decide) (XS.istoreN X5.here hx rfl (hb hby d8_82) rfl (l' := #[rv a0, jv v_current, .second, iv 1]) rfl (XS.goto X5.here hx rfl (pc0 := 83) (pc' := 105) rfl (hb hby d8_83) (by decide) (by decide) k)))) ?_
      show own_Go p e below s _ _ (T5.setTop (mkF m 105 #[rv a0, jv v_current, .second, iv 1] []))
      exact J8 _ _ X5 N0 e5 (1 : Int32) (((if_neg hc40).trans ((if_neg hc43).trans rfl))).symm
theorem pn_0 : plainName "com/example/tree_to_rows/treetorows/query/OutcomesSetPinLaw" = true := by first | (simp [plainName, overriddenIn]; done) | decide +kernel
theorem pd_1 : parseMethodDescriptor "()J" = some ⟨[], some .long⟩ := by decide +kernel
theorem pd_2 : parseMethodDescriptor "(Lcom/example/tree_to_rows/treetorows/query/Outcomes;[J[Z[ZI)V" = some ⟨[(.object "com/example/tree_to_rows/treetorows/query/Outcomes"), (.array .long), (.array .boolean), (.array .boolean), .int], none⟩ := by decide +kernel
theorem pd_4 : parseMethodDescriptor "()Z" = some ⟨[], some .boolean⟩ := by decide +kernel
theorem ef_0 (m : MethodId) (x0 : Int32) (x1 : Int32) (x2 : Int32) : entryFrame m #[(.int x0), (.int x1), (.int x2)] maxLocals = mkF m 0 #[iv x0, iv x1, iv x2, .unset, .unset, .unset, .unset, .unset, .unset, .unset, .unset, .unset, .unset, .unset, .unset, .unset, .unset, .unset, .unset, .unset, .unset, .unset] [] := by first | (simp [entryFrame, mkF, argsToLocals, Value.category, maxLocals]; done) | rfl
theorem own_bit {c : Prop} [Decidable c] {z : Int32} (h : z = if c then (0 : Int32) else (1 : Int32)) : z = 0 ∨ z = 1 := by
  rw [h]; split
  · exact Or.inl rfl
  · exact Or.inr rfl
theorem own_len (p0 : Int32) : ((p0 &&& (2147483647 : Int32)) % (6 : Int32)) = (0 : Int32) ∨ ((p0 &&& (2147483647 : Int32)) % (6 : Int32)) = (1 : Int32) ∨ ((p0 &&& (2147483647 : Int32)) % (6 : Int32)) = (2 : Int32) ∨ ((p0 &&& (2147483647 : Int32)) % (6 : Int32)) = (3 : Int32) ∨ ((p0 &&& (2147483647 : Int32)) % (6 : Int32)) = (4 : Int32) ∨ ((p0 &&& (2147483647 : Int32)) % (6 : Int32)) = (5 : Int32) := by
  have e32_0 : (0 : Int32).toInt = 0 := by decide
  have e32_1 : (1 : Int32).toInt = 1 := by decide
  have e32_2 : (2 : Int32).toInt = 2 := by decide
  have e32_3 : (3 : Int32).toInt = 3 := by decide
  have e32_4 : (4 : Int32).toInt = 4 := by decide
  have e32_5 : (5 : Int32).toInt = 5 := by decide
  have e32_6 : (6 : Int32).toInt = 6 := by decide
  have e32_2147483647 : (2147483647 : Int32).toInt = 2147483647 := by decide
  have m := c_mask p0 2147483647 31 (by decide) (by decide)
  have r := (c_irem (p0 &&& (2147483647 : Int32)) 6 6 (by decide)).1 (by omega)
  simp only [own_e32]; omega
theorem own_law0_314 (p0 : Int32) (p1 : Int32) (p2 : Int32) (z140 : Int32) (hz140 : z140 = (if (p1 &&& (1 : Int32)) = (0 : Int32) then (0 : Int32) else (1 : Int32))) (z157 : Int32) (hz157 : z157 = (if (p1 &&& (2 : Int32)) = (0 : Int32) then (0 : Int32) else (1 : Int32))) (z174 : Int32) (hz174 : z174 = (if (p1 &&& (4 : Int32)) = (0 : Int32) then (0 : Int32) else (1 : Int32))) (z210 : Int32) (hz210 : z210 = (if (p2 &&& (1 : Int32)) = (0 : Int32) then (0 : Int32) else (1 : Int32))) (z228 : Int32) (hz228 : z228 = (if (p2 &&& (2 : Int32)) = (0 : Int32) then (0 : Int32) else (1 : Int32))) (z246 : Int32) (hz246 : z246 = (if (p2 &&& (4 : Int32)) = (0 : Int32) then (0 : Int32) else (1 : Int32))) (z282 : Int64) (hz282 : z282 = (own_f5_0c (0 : Int64) (nar .boolean z140) (nar .boolean z210))) (z300 : Int64) (hz300 : z300 = (own_f5_1c z282 (nar .boolean z157) (nar .boolean z228))) (z318 : Int64) (hz318 : z318 = (own_f5_2c z300 (nar .boolean z174) (nar .boolean z246))) (z351 : Int32) (hz351 : z351 = (own_f8_0 z318)) (z388 : Int32) (hz388 : z388 = (if (nar .boolean z140) = (0 : Int32) then (0 : Int32) else (if (nar .boolean z210) = (0 : Int32) then (0 : Int32) else (1 : Int32)))) (hl264 : ((p0 &&& (2147483647 : Int32)) % (6 : Int32)) = (0 : Int32)) : z351 = z388 := by
  have b0 := own_bit hz140
  have b1 := own_bit hz157
  have b2 := own_bit hz174
  have b3 := own_bit hz210
  have b4 := own_bit hz228
  have b5 := own_bit hz246
  clear hz140 hz157 hz174 hz210 hz228 hz246
  subst hz388 hz351 hz318 hz300 hz282
  rcases b0 with rfl | rfl <;> rcases b1 with rfl | rfl <;> rcases b2 with rfl | rfl <;> rcases b3 with rfl | rfl <;> rcases b4 with rfl | rfl <;> rcases b5 with rfl | rfl <;> decide
theorem own_law0_338 (p0 : Int32) (p1 : Int32) (p2 : Int32) (z140 : Int32) (hz140 : z140 = (if (p1 &&& (1 : Int32)) = (0 : Int32) then (0 : Int32) else (1 : Int32))) (z157 : Int32) (hz157 : z157 = (if (p1 &&& (2 : Int32)) = (0 : Int32) then (0 : Int32) else (1 : Int32))) (z174 : Int32) (hz174 : z174 = (if (p1 &&& (4 : Int32)) = (0 : Int32) then (0 : Int32) else (1 : Int32))) (z210 : Int32) (hz210 : z210 = (if (p2 &&& (1 : Int32)) = (0 : Int32) then (0 : Int32) else (1 : Int32))) (z228 : Int32) (hz228 : z228 = (if (p2 &&& (2 : Int32)) = (0 : Int32) then (0 : Int32) else (1 : Int32))) (z246 : Int32) (hz246 : z246 = (if (p2 &&& (4 : Int32)) = (0 : Int32) then (0 : Int32) else (1 : Int32))) (z282 : Int64) (hz282 : z282 = (own_f5_0c (0 : Int64) (nar .boolean z140) (nar .boolean z210))) (z300 : Int64) (hz300 : z300 = (own_f5_1c z282 (nar .boolean z157) (nar .boolean z228))) (z318 : Int64) (hz318 : z318 = (own_f5_2c z300 (nar .boolean z174) (nar .boolean z246))) (z368 : Int32) (hz368 : z368 = (own_f8_1 z318)) (z392 : Int32) (hz392 : z392 = (if (nar .boolean z157) = (0 : Int32) then (0 : Int32) else (if (nar .boolean z228) = (0 : Int32) then (0 : Int32) else (1 : Int32)))) (hl264 : ((p0 &&& (2147483647 : Int32)) % (6 : Int32)) = (0 : Int32)) : z368 = z392 := by
  have b0 := own_bit hz140
  have b1 := own_bit hz157
  have b2 := own_bit hz174
  have b3 := own_bit hz210
  have b4 := own_bit hz228
  have b5 := own_bit hz246
  clear hz140 hz157 hz174 hz210 hz228 hz246
  subst hz392 hz368 hz318 hz300 hz282
  rcases b0 with rfl | rfl <;> rcases b1 with rfl | rfl <;> rcases b2 with rfl | rfl <;> rcases b3 with rfl | rfl <;> rcases b4 with rfl | rfl <;> rcases b5 with rfl | rfl <;> decide
theorem own_law0_362 (p0 : Int32) (p1 : Int32) (p2 : Int32) (z140 : Int32) (hz140 : z140 = (if (p1 &&& (1 : Int32)) = (0 : Int32) then (0 : Int32) else (1 : Int32))) (z157 : Int32) (hz157 : z157 = (if (p1 &&& (2 : Int32)) = (0 : Int32) then (0 : Int32) else (1 : Int32))) (z174 : Int32) (hz174 : z174 = (if (p1 &&& (4 : Int32)) = (0 : Int32) then (0 : Int32) else (1 : Int32))) (z210 : Int32) (hz210 : z210 = (if (p2 &&& (1 : Int32)) = (0 : Int32) then (0 : Int32) else (1 : Int32))) (z228 : Int32) (hz228 : z228 = (if (p2 &&& (2 : Int32)) = (0 : Int32) then (0 : Int32) else (1 : Int32))) (z246 : Int32) (hz246 : z246 = (if (p2 &&& (4 : Int32)) = (0 : Int32) then (0 : Int32) else (1 : Int32))) (z282 : Int64) (hz282 : z282 = (own_f5_0c (0 : Int64) (nar .boolean z140) (nar .boolean z210))) (z300 : Int64) (hz300 : z300 = (own_f5_1c z282 (nar .boolean z157) (nar .boolean z228))) (z318 : Int64) (hz318 : z318 = (own_f5_2c z300 (nar .boolean z174) (nar .boolean z246))) (z385 : Int32) (hz385 : z385 = (own_f8_2 z318)) (z396 : Int32) (hz396 : z396 = (if (nar .boolean z174) = (0 : Int32) then (0 : Int32) else (if (nar .boolean z246) = (0 : Int32) then (0 : Int32) else (1 : Int32)))) (hl264 : ((p0 &&& (2147483647 : Int32)) % (6 : Int32)) = (0 : Int32)) : z385 = z396 := by
  have b0 := own_bit hz140
  have b1 := own_bit hz157
  have b2 := own_bit hz174
  have b3 := own_bit hz210
  have b4 := own_bit hz228
  have b5 := own_bit hz246
  clear hz140 hz157 hz174 hz210 hz228 hz246
  subst hz396 hz385 hz318 hz300 hz282
  rcases b0 with rfl | rfl <;> rcases b1 with rfl | rfl <;> rcases b2 with rfl | rfl <;> rcases b3 with rfl | rfl <;> rcases b4 with rfl | rfl <;> rcases b5 with rfl | rfl <;> decide
theorem own_law1_314 (p0 : Int32) (p1 : Int32) (p2 : Int32) (z140 : Int32) (hz140 : z140 = (if (p1 &&& (1 : Int32)) = (0 : Int32) then (0 : Int32) else (1 : Int32))) (z157 : Int32) (hz157 : z157 = (if (p1 &&& (2 : Int32)) = (0 : Int32) then (0 : Int32) else (1 : Int32))) (z174 : Int32) (hz174 : z174 = (if (p1 &&& (4 : Int32)) = (0 : Int32) then (0 : Int32) else (1 : Int32))) (z210 : Int32) (hz210 : z210 = (if (p2 &&& (1 : Int32)) = (0 : Int32) then (0 : Int32) else (1 : Int32))) (z228 : Int32) (hz228 : z228 = (if (p2 &&& (2 : Int32)) = (0 : Int32) then (0 : Int32) else (1 : Int32))) (z246 : Int32) (hz246 : z246 = (if (p2 &&& (4 : Int32)) = (0 : Int32) then (0 : Int32) else (1 : Int32))) (z424 : Int64) (hz424 : z424 = (own_f5_0c (0 : Int64) (nar .boolean z140) (nar .boolean z210))) (z442 : Int64) (hz442 : z442 = (own_f5_2c z424 (nar .boolean z174) (nar .boolean z246))) (z460 : Int64) (hz460 : z460 = (own_f5_1c z442 (nar .boolean z157) (nar .boolean z228))) (z493 : Int32) (hz493 : z493 = (own_f8_0 z460)) (z530 : Int32) (hz530 : z530 = (if (nar .boolean z140) = (0 : Int32) then (0 : Int32) else (if (nar .boolean z210) = (0 : Int32) then (0 : Int32) else (1 : Int32)))) (hl264 : ((p0 &&& (2147483647 : Int32)) % (6 : Int32)) = (1 : Int32)) : z493 = z530 := by
  have b0 := own_bit hz140
  have b1 := own_bit hz157
  have b2 := own_bit hz174
  have b3 := own_bit hz210
  have b4 := own_bit hz228
  have b5 := own_bit hz246
  clear hz140 hz157 hz174 hz210 hz228 hz246
  subst hz530 hz493 hz460 hz442 hz424
  rcases b0 with rfl | rfl <;> rcases b1 with rfl | rfl <;> rcases b2 with rfl | rfl <;> rcases b3 with rfl | rfl <;> rcases b4 with rfl | rfl <;> rcases b5 with rfl | rfl <;> decide
theorem own_law1_338 (p0 : Int32) (p1 : Int32) (p2 : Int32) (z140 : Int32) (hz140 : z140 = (if (p1 &&& (1 : Int32)) = (0 : Int32) then (0 : Int32) else (1 : Int32))) (z157 : Int32) (hz157 : z157 = (if (p1 &&& (2 : Int32)) = (0 : Int32) then (0 : Int32) else (1 : Int32))) (z174 : Int32) (hz174 : z174 = (if (p1 &&& (4 : Int32)) = (0 : Int32) then (0 : Int32) else (1 : Int32))) (z210 : Int32) (hz210 : z210 = (if (p2 &&& (1 : Int32)) = (0 : Int32) then (0 : Int32) else (1 : Int32))) (z228 : Int32) (hz228 : z228 = (if (p2 &&& (2 : Int32)) = (0 : Int32) then (0 : Int32) else (1 : Int32))) (z246 : Int32) (hz246 : z246 = (if (p2 &&& (4 : Int32)) = (0 : Int32) then (0 : Int32) else (1 : Int32))) (z424 : Int64) (hz424 : z424 = (own_f5_0c (0 : Int64) (nar .boolean z140) (nar .boolean z210))) (z442 : Int64) (hz442 : z442 = (own_f5_2c z424 (nar .boolean z174) (nar .boolean z246))) (z460 : Int64) (hz460 : z460 = (own_f5_1c z442 (nar .boolean z157) (nar .boolean z228))) (z510 : Int32) (hz510 : z510 = (own_f8_1 z460)) (z534 : Int32) (hz534 : z534 = (if (nar .boolean z157) = (0 : Int32) then (0 : Int32) else (if (nar .boolean z228) = (0 : Int32) then (0 : Int32) else (1 : Int32)))) (hl264 : ((p0 &&& (2147483647 : Int32)) % (6 : Int32)) = (1 : Int32)) : z510 = z534 := by
  have b0 := own_bit hz140
  have b1 := own_bit hz157
  have b2 := own_bit hz174
  have b3 := own_bit hz210
  have b4 := own_bit hz228
  have b5 := own_bit hz246
  clear hz140 hz157 hz174 hz210 hz228 hz246
  subst hz534 hz510 hz460 hz442 hz424
  rcases b0 with rfl | rfl <;> rcases b1 with rfl | rfl <;> rcases b2 with rfl | rfl <;> rcases b3 with rfl | rfl <;> rcases b4 with rfl | rfl <;> rcases b5 with rfl | rfl <;> decide
theorem own_law1_362 (p0 : Int32) (p1 : Int32) (p2 : Int32) (z140 : Int32) (hz140 : z140 = (if (p1 &&& (1 : Int32)) = (0 : Int32) then (0 : Int32) else (1 : Int32))) (z157 : Int32) (hz157 : z157 = (if (p1 &&& (2 : Int32)) = (0 : Int32) then (0 : Int32) else (1 : Int32))) (z174 : Int32) (hz174 : z174 = (if (p1 &&& (4 : Int32)) = (0 : Int32) then (0 : Int32) else (1 : Int32))) (z210 : Int32) (hz210 : z210 = (if (p2 &&& (1 : Int32)) = (0 : Int32) then (0 : Int32) else (1 : Int32))) (z228 : Int32) (hz228 : z228 = (if (p2 &&& (2 : Int32)) = (0 : Int32) then (0 : Int32) else (1 : Int32))) (z246 : Int32) (hz246 : z246 = (if (p2 &&& (4 : Int32)) = (0 : Int32) then (0 : Int32) else (1 : Int32))) (z424 : Int64) (hz424 : z424 = (own_f5_0c (0 : Int64) (nar .boolean z140) (nar .boolean z210))) (z442 : Int64) (hz442 : z442 = (own_f5_2c z424 (nar .boolean z174) (nar .boolean z246))) (z460 : Int64) (hz460 : z460 = (own_f5_1c z442 (nar .boolean z157) (nar .boolean z228))) (z527 : Int32) (hz527 : z527 = (own_f8_2 z460)) (z538 : Int32) (hz538 : z538 = (if (nar .boolean z174) = (0 : Int32) then (0 : Int32) else (if (nar .boolean z246) = (0 : Int32) then (0 : Int32) else (1 : Int32)))) (hl264 : ((p0 &&& (2147483647 : Int32)) % (6 : Int32)) = (1 : Int32)) : z527 = z538 := by
  have b0 := own_bit hz140
  have b1 := own_bit hz157
  have b2 := own_bit hz174
  have b3 := own_bit hz210
  have b4 := own_bit hz228
  have b5 := own_bit hz246
  clear hz140 hz157 hz174 hz210 hz228 hz246
  subst hz538 hz527 hz460 hz442 hz424
  rcases b0 with rfl | rfl <;> rcases b1 with rfl | rfl <;> rcases b2 with rfl | rfl <;> rcases b3 with rfl | rfl <;> rcases b4 with rfl | rfl <;> rcases b5 with rfl | rfl <;> decide
theorem own_law2_314 (p0 : Int32) (p1 : Int32) (p2 : Int32) (z140 : Int32) (hz140 : z140 = (if (p1 &&& (1 : Int32)) = (0 : Int32) then (0 : Int32) else (1 : Int32))) (z157 : Int32) (hz157 : z157 = (if (p1 &&& (2 : Int32)) = (0 : Int32) then (0 : Int32) else (1 : Int32))) (z174 : Int32) (hz174 : z174 = (if (p1 &&& (4 : Int32)) = (0 : Int32) then (0 : Int32) else (1 : Int32))) (z210 : Int32) (hz210 : z210 = (if (p2 &&& (1 : Int32)) = (0 : Int32) then (0 : Int32) else (1 : Int32))) (z228 : Int32) (hz228 : z228 = (if (p2 &&& (2 : Int32)) = (0 : Int32) then (0 : Int32) else (1 : Int32))) (z246 : Int32) (hz246 : z246 = (if (p2 &&& (4 : Int32)) = (0 : Int32) then (0 : Int32) else (1 : Int32))) (z566 : Int64) (hz566 : z566 = (own_f5_1c (0 : Int64) (nar .boolean z157) (nar .boolean z228))) (z584 : Int64) (hz584 : z584 = (own_f5_0c z566 (nar .boolean z140) (nar .boolean z210))) (z602 : Int64) (hz602 : z602 = (own_f5_2c z584 (nar .boolean z174) (nar .boolean z246))) (z635 : Int32) (hz635 : z635 = (own_f8_0 z602)) (z672 : Int32) (hz672 : z672 = (if (nar .boolean z140) = (0 : Int32) then (0 : Int32) else (if (nar .boolean z210) = (0 : Int32) then (0 : Int32) else (1 : Int32)))) (hl264 : ((p0 &&& (2147483647 : Int32)) % (6 : Int32)) = (2 : Int32)) : z635 = z672 := by
  have b0 := own_bit hz140
  have b1 := own_bit hz157
  have b2 := own_bit hz174
  have b3 := own_bit hz210
  have b4 := own_bit hz228
  have b5 := own_bit hz246
  clear hz140 hz157 hz174 hz210 hz228 hz246
  subst hz672 hz635 hz602 hz584 hz566
  rcases b0 with rfl | rfl <;> rcases b1 with rfl | rfl <;> rcases b2 with rfl | rfl <;> rcases b3 with rfl | rfl <;> rcases b4 with rfl | rfl <;> rcases b5 with rfl | rfl <;> decide
theorem own_law2_338 (p0 : Int32) (p1 : Int32) (p2 : Int32) (z140 : Int32) (hz140 : z140 = (if (p1 &&& (1 : Int32)) = (0 : Int32) then (0 : Int32) else (1 : Int32))) (z157 : Int32) (hz157 : z157 = (if (p1 &&& (2 : Int32)) = (0 : Int32) then (0 : Int32) else (1 : Int32))) (z174 : Int32) (hz174 : z174 = (if (p1 &&& (4 : Int32)) = (0 : Int32) then (0 : Int32) else (1 : Int32))) (z210 : Int32) (hz210 : z210 = (if (p2 &&& (1 : Int32)) = (0 : Int32) then (0 : Int32) else (1 : Int32))) (z228 : Int32) (hz228 : z228 = (if (p2 &&& (2 : Int32)) = (0 : Int32) then (0 : Int32) else (1 : Int32))) (z246 : Int32) (hz246 : z246 = (if (p2 &&& (4 : Int32)) = (0 : Int32) then (0 : Int32) else (1 : Int32))) (z566 : Int64) (hz566 : z566 = (own_f5_1c (0 : Int64) (nar .boolean z157) (nar .boolean z228))) (z584 : Int64) (hz584 : z584 = (own_f5_0c z566 (nar .boolean z140) (nar .boolean z210))) (z602 : Int64) (hz602 : z602 = (own_f5_2c z584 (nar .boolean z174) (nar .boolean z246))) (z652 : Int32) (hz652 : z652 = (own_f8_1 z602)) (z676 : Int32) (hz676 : z676 = (if (nar .boolean z157) = (0 : Int32) then (0 : Int32) else (if (nar .boolean z228) = (0 : Int32) then (0 : Int32) else (1 : Int32)))) (hl264 : ((p0 &&& (2147483647 : Int32)) % (6 : Int32)) = (2 : Int32)) : z652 = z676 := by
  have b0 := own_bit hz140
  have b1 := own_bit hz157
  have b2 := own_bit hz174
  have b3 := own_bit hz210
  have b4 := own_bit hz228
  have b5 := own_bit hz246
  clear hz140 hz157 hz174 hz210 hz228 hz246
  subst hz676 hz652 hz602 hz584 hz566
  rcases b0 with rfl | rfl <;> rcases b1 with rfl | rfl <;> rcases b2 with rfl | rfl <;> rcases b3 with rfl | rfl <;> rcases b4 with rfl | rfl <;> rcases b5 with rfl | rfl <;> decide
theorem own_law2_362 (p0 : Int32) (p1 : Int32) (p2 : Int32) (z140 : Int32) (hz140 : z140 = (if (p1 &&& (1 : Int32)) = (0 : Int32) then (0 : Int32) else (1 : Int32))) (z157 : Int32) (hz157 : z157 = (if (p1 &&& (2 : Int32)) = (0 : Int32) then (0 : Int32) else (1 : Int32))) (z174 : Int32) (hz174 : z174 = (if (p1 &&& (4 : Int32)) = (0 : Int32) then (0 : Int32) else (1 : Int32))) (z210 : Int32) (hz210 : z210 = (if (p2 &&& (1 : Int32)) = (0 : Int32) then (0 : Int32) else (1 : Int32))) (z228 : Int32) (hz228 : z228 = (if (p2 &&& (2 : Int32)) = (0 : Int32) then (0 : Int32) else (1 : Int32))) (z246 : Int32) (hz246 : z246 = (if (p2 &&& (4 : Int32)) = (0 : Int32) then (0 : Int32) else (1 : Int32))) (z566 : Int64) (hz566 : z566 = (own_f5_1c (0 : Int64) (nar .boolean z157) (nar .boolean z228))) (z584 : Int64) (hz584 : z584 = (own_f5_0c z566 (nar .boolean z140) (nar .boolean z210))) (z602 : Int64) (hz602 : z602 = (own_f5_2c z584 (nar .boolean z174) (nar .boolean z246))) (z669 : Int32) (hz669 : z669 = (own_f8_2 z602)) (z680 : Int32) (hz680 : z680 = (if (nar .boolean z174) = (0 : Int32) then (0 : Int32) else (if (nar .boolean z246) = (0 : Int32) then (0 : Int32) else (1 : Int32)))) (hl264 : ((p0 &&& (2147483647 : Int32)) % (6 : Int32)) = (2 : Int32)) : z669 = z680 := by
  have b0 := own_bit hz140
  have b1 := own_bit hz157
  have b2 := own_bit hz174
  have b3 := own_bit hz210
  have b4 := own_bit hz228
  have b5 := own_bit hz246
  clear hz140 hz157 hz174 hz210 hz228 hz246
  subst hz680 hz669 hz602 hz584 hz566
  rcases b0 with rfl | rfl <;> rcases b1 with rfl | rfl <;> rcases b2 with rfl | rfl <;> rcases b3 with rfl | rfl <;> rcases b4 with rfl | rfl <;> rcases b5 with rfl | rfl <;> decide
theorem own_law3_314 (p0 : Int32) (p1 : Int32) (p2 : Int32) (z140 : Int32) (hz140 : z140 = (if (p1 &&& (1 : Int32)) = (0 : Int32) then (0 : Int32) else (1 : Int32))) (z157 : Int32) (hz157 : z157 = (if (p1 &&& (2 : Int32)) = (0 : Int32) then (0 : Int32) else (1 : Int32))) (z174 : Int32) (hz174 : z174 = (if (p1 &&& (4 : Int32)) = (0 : Int32) then (0 : Int32) else (1 : Int32))) (z210 : Int32) (hz210 : z210 = (if (p2 &&& (1 : Int32)) = (0 : Int32) then (0 : Int32) else (1 : Int32))) (z228 : Int32) (hz228 : z228 = (if (p2 &&& (2 : Int32)) = (0 : Int32) then (0 : Int32) else (1 : Int32))) (z246 : Int32) (hz246 : z246 = (if (p2 &&& (4 : Int32)) = (0 : Int32) then (0 : Int32) else (1 : Int32))) (z708 : Int64) (hz708 : z708 = (own_f5_1c (0 : Int64) (nar .boolean z157) (nar .boolean z228))) (z726 : Int64) (hz726 : z726 = (own_f5_2c z708 (nar .boolean z174) (nar .boolean z246))) (z744 : Int64) (hz744 : z744 = (own_f5_0c z726 (nar .boolean z140) (nar .boolean z210))) (z777 : Int32) (hz777 : z777 = (own_f8_0 z744)) (z814 : Int32) (hz814 : z814 = (if (nar .boolean z140) = (0 : Int32) then (0 : Int32) else (if (nar .boolean z210) = (0 : Int32) then (0 : Int32) else (1 : Int32)))) (hl264 : ((p0 &&& (2147483647 : Int32)) % (6 : Int32)) = (3 : Int32)) : z777 = z814 := by
  have b0 := own_bit hz140
  have b1 := own_bit hz157
  have b2 := own_bit hz174
  have b3 := own_bit hz210
  have b4 := own_bit hz228
  have b5 := own_bit hz246
  clear hz140 hz157 hz174 hz210 hz228 hz246
  subst hz814 hz777 hz744 hz726 hz708
  rcases b0 with rfl | rfl <;> rcases b1 with rfl | rfl <;> rcases b2 with rfl | rfl <;> rcases b3 with rfl | rfl <;> rcases b4 with rfl | rfl <;> rcases b5 with rfl | rfl <;> decide
theorem own_law3_338 (p0 : Int32) (p1 : Int32) (p2 : Int32) (z140 : Int32) (hz140 : z140 = (if (p1 &&& (1 : Int32)) = (0 : Int32) then (0 : Int32) else (1 : Int32))) (z157 : Int32) (hz157 : z157 = (if (p1 &&& (2 : Int32)) = (0 : Int32) then (0 : Int32) else (1 : Int32))) (z174 : Int32) (hz174 : z174 = (if (p1 &&& (4 : Int32)) = (0 : Int32) then (0 : Int32) else (1 : Int32))) (z210 : Int32) (hz210 : z210 = (if (p2 &&& (1 : Int32)) = (0 : Int32) then (0 : Int32) else (1 : Int32))) (z228 : Int32) (hz228 : z228 = (if (p2 &&& (2 : Int32)) = (0 : Int32) then (0 : Int32) else (1 : Int32))) (z246 : Int32) (hz246 : z246 = (if (p2 &&& (4 : Int32)) = (0 : Int32) then (0 : Int32) else (1 : Int32))) (z708 : Int64) (hz708 : z708 = (own_f5_1c (0 : Int64) (nar .boolean z157) (nar .boolean z228))) (z726 : Int64) (hz726 : z726 = (own_f5_2c z708 (nar .boolean z174) (nar .boolean z246))) (z744 : Int64) (hz744 : z744 = (own_f5_0c z726 (nar .boolean z140) (nar .boolean z210))) (z794 : Int32) (hz794 : z794 = (own_f8_1 z744)) (z818 : Int32) (hz818 : z818 = (if (nar .boolean z157) = (0 : Int32) then (0 : Int32) else (if (nar .boolean z228) = (0 : Int32) then (0 : Int32) else (1 : Int32)))) (hl264 : ((p0 &&& (2147483647 : Int32)) % (6 : Int32)) = (3 : Int32)) : z794 = z818 := by
  have b0 := own_bit hz140
  have b1 := own_bit hz157
  have b2 := own_bit hz174
  have b3 := own_bit hz210
  have b4 := own_bit hz228
  have b5 := own_bit hz246
  clear hz140 hz157 hz174 hz210 hz228 hz246
  subst hz818 hz794 hz744 hz726 hz708
  rcases b0 with rfl | rfl <;> rcases b1 with rfl | rfl <;> rcases b2 with rfl | rfl <;> rcases b3 with rfl | rfl <;> rcases b4 with rfl | rfl <;> rcases b5 with rfl | rfl <;> decide
theorem own_law3_362 (p0 : Int32) (p1 : Int32) (p2 : Int32) (z140 : Int32) (hz140 : z140 = (if (p1 &&& (1 : Int32)) = (0 : Int32) then (0 : Int32) else (1 : Int32))) (z157 : Int32) (hz157 : z157 = (if (p1 &&& (2 : Int32)) = (0 : Int32) then (0 : Int32) else (1 : Int32))) (z174 : Int32) (hz174 : z174 = (if (p1 &&& (4 : Int32)) = (0 : Int32) then (0 : Int32) else (1 : Int32))) (z210 : Int32) (hz210 : z210 = (if (p2 &&& (1 : Int32)) = (0 : Int32) then (0 : Int32) else (1 : Int32))) (z228 : Int32) (hz228 : z228 = (if (p2 &&& (2 : Int32)) = (0 : Int32) then (0 : Int32) else (1 : Int32))) (z246 : Int32) (hz246 : z246 = (if (p2 &&& (4 : Int32)) = (0 : Int32) then (0 : Int32) else (1 : Int32))) (z708 : Int64) (hz708 : z708 = (own_f5_1c (0 : Int64) (nar .boolean z157) (nar .boolean z228))) (z726 : Int64) (hz726 : z726 = (own_f5_2c z708 (nar .boolean z174) (nar .boolean z246))) (z744 : Int64) (hz744 : z744 = (own_f5_0c z726 (nar .boolean z140) (nar .boolean z210))) (z811 : Int32) (hz811 : z811 = (own_f8_2 z744)) (z822 : Int32) (hz822 : z822 = (if (nar .boolean z174) = (0 : Int32) then (0 : Int32) else (if (nar .boolean z246) = (0 : Int32) then (0 : Int32) else (1 : Int32)))) (hl264 : ((p0 &&& (2147483647 : Int32)) % (6 : Int32)) = (3 : Int32)) : z811 = z822 := by
  have b0 := own_bit hz140
  have b1 := own_bit hz157
  have b2 := own_bit hz174
  have b3 := own_bit hz210
  have b4 := own_bit hz228
  have b5 := own_bit hz246
  clear hz140 hz157 hz174 hz210 hz228 hz246
  subst hz822 hz811 hz744 hz726 hz708
  rcases b0 with rfl | rfl <;> rcases b1 with rfl | rfl <;> rcases b2 with rfl | rfl <;> rcases b3 with rfl | rfl <;> rcases b4 with rfl | rfl <;> rcases b5 with rfl | rfl <;> decide
theorem own_law4_314 (p0 : Int32) (p1 : Int32) (p2 : Int32) (z140 : Int32) (hz140 : z140 = (if (p1 &&& (1 : Int32)) = (0 : Int32) then (0 : Int32) else (1 : Int32))) (z157 : Int32) (hz157 : z157 = (if (p1 &&& (2 : Int32)) = (0 : Int32) then (0 : Int32) else (1 : Int32))) (z174 : Int32) (hz174 : z174 = (if (p1 &&& (4 : Int32)) = (0 : Int32) then (0 : Int32) else (1 : Int32))) (z210 : Int32) (hz210 : z210 = (if (p2 &&& (1 : Int32)) = (0 : Int32) then (0 : Int32) else (1 : Int32))) (z228 : Int32) (hz228 : z228 = (if (p2 &&& (2 : Int32)) = (0 : Int32) then (0 : Int32) else (1 : Int32))) (z246 : Int32) (hz246 : z246 = (if (p2 &&& (4 : Int32)) = (0 : Int32) then (0 : Int32) else (1 : Int32))) (z850 : Int64) (hz850 : z850 = (own_f5_2c (0 : Int64) (nar .boolean z174) (nar .boolean z246))) (z868 : Int64) (hz868 : z868 = (own_f5_0c z850 (nar .boolean z140) (nar .boolean z210))) (z886 : Int64) (hz886 : z886 = (own_f5_1c z868 (nar .boolean z157) (nar .boolean z228))) (z919 : Int32) (hz919 : z919 = (own_f8_0 z886)) (z956 : Int32) (hz956 : z956 = (if (nar .boolean z140) = (0 : Int32) then (0 : Int32) else (if (nar .boolean z210) = (0 : Int32) then (0 : Int32) else (1 : Int32)))) (hl264 : ((p0 &&& (2147483647 : Int32)) % (6 : Int32)) = (4 : Int32)) : z919 = z956 := by
  have b0 := own_bit hz140
  have b1 := own_bit hz157
  have b2 := own_bit hz174
  have b3 := own_bit hz210
  have b4 := own_bit hz228
  have b5 := own_bit hz246
  clear hz140 hz157 hz174 hz210 hz228 hz246
  subst hz956 hz919 hz886 hz868 hz850
  rcases b0 with rfl | rfl <;> rcases b1 with rfl | rfl <;> rcases b2 with rfl | rfl <;> rcases b3 with rfl | rfl <;> rcases b4 with rfl | rfl <;> rcases b5 with rfl | rfl <;> decide
theorem own_law4_338 (p0 : Int32) (p1 : Int32) (p2 : Int32) (z140 : Int32) (hz140 : z140 = (if (p1 &&& (1 : Int32)) = (0 : Int32) then (0 : Int32) else (1 : Int32))) (z157 : Int32) (hz157 : z157 = (if (p1 &&& (2 : Int32)) = (0 : Int32) then (0 : Int32) else (1 : Int32))) (z174 : Int32) (hz174 : z174 = (if (p1 &&& (4 : Int32)) = (0 : Int32) then (0 : Int32) else (1 : Int32))) (z210 : Int32) (hz210 : z210 = (if (p2 &&& (1 : Int32)) = (0 : Int32) then (0 : Int32) else (1 : Int32))) (z228 : Int32) (hz228 : z228 = (if (p2 &&& (2 : Int32)) = (0 : Int32) then (0 : Int32) else (1 : Int32))) (z246 : Int32) (hz246 : z246 = (if (p2 &&& (4 : Int32)) = (0 : Int32) then (0 : Int32) else (1 : Int32))) (z850 : Int64) (hz850 : z850 = (own_f5_2c (0 : Int64) (nar .boolean z174) (nar .boolean z246))) (z868 : Int64) (hz868 : z868 = (own_f5_0c z850 (nar .boolean z140) (nar .boolean z210))) (z886 : Int64) (hz886 : z886 = (own_f5_1c z868 (nar .boolean z157) (nar .boolean z228))) (z936 : Int32) (hz936 : z936 = (own_f8_1 z886)) (z960 : Int32) (hz960 : z960 = (if (nar .boolean z157) = (0 : Int32) then (0 : Int32) else (if (nar .boolean z228) = (0 : Int32) then (0 : Int32) else (1 : Int32)))) (hl264 : ((p0 &&& (2147483647 : Int32)) % (6 : Int32)) = (4 : Int32)) : z936 = z960 := by
  have b0 := own_bit hz140
  have b1 := own_bit hz157
  have b2 := own_bit hz174
  have b3 := own_bit hz210
  have b4 := own_bit hz228
  have b5 := own_bit hz246
  clear hz140 hz157 hz174 hz210 hz228 hz246
  subst hz960 hz936 hz886 hz868 hz850
  rcases b0 with rfl | rfl <;> rcases b1 with rfl | rfl <;> rcases b2 with rfl | rfl <;> rcases b3 with rfl | rfl <;> rcases b4 with rfl | rfl <;> rcases b5 with rfl | rfl <;> decide
theorem own_law4_362 (p0 : Int32) (p1 : Int32) (p2 : Int32) (z140 : Int32) (hz140 : z140 = (if (p1 &&& (1 : Int32)) = (0 : Int32) then (0 : Int32) else (1 : Int32))) (z157 : Int32) (hz157 : z157 = (if (p1 &&& (2 : Int32)) = (0 : Int32) then (0 : Int32) else (1 : Int32))) (z174 : Int32) (hz174 : z174 = (if (p1 &&& (4 : Int32)) = (0 : Int32) then (0 : Int32) else (1 : Int32))) (z210 : Int32) (hz210 : z210 = (if (p2 &&& (1 : Int32)) = (0 : Int32) then (0 : Int32) else (1 : Int32))) (z228 : Int32) (hz228 : z228 = (if (p2 &&& (2 : Int32)) = (0 : Int32) then (0 : Int32) else (1 : Int32))) (z246 : Int32) (hz246 : z246 = (if (p2 &&& (4 : Int32)) = (0 : Int32) then (0 : Int32) else (1 : Int32))) (z850 : Int64) (hz850 : z850 = (own_f5_2c (0 : Int64) (nar .boolean z174) (nar .boolean z246))) (z868 : Int64) (hz868 : z868 = (own_f5_0c z850 (nar .boolean z140) (nar .boolean z210))) (z886 : Int64) (hz886 : z886 = (own_f5_1c z868 (nar .boolean z157) (nar .boolean z228))) (z953 : Int32) (hz953 : z953 = (own_f8_2 z886)) (z964 : Int32) (hz964 : z964 = (if (nar .boolean z174) = (0 : Int32) then (0 : Int32) else (if (nar .boolean z246) = (0 : Int32) then (0 : Int32) else (1 : Int32)))) (hl264 : ((p0 &&& (2147483647 : Int32)) % (6 : Int32)) = (4 : Int32)) : z953 = z964 := by
  have b0 := own_bit hz140
  have b1 := own_bit hz157
  have b2 := own_bit hz174
  have b3 := own_bit hz210
  have b4 := own_bit hz228
  have b5 := own_bit hz246
  clear hz140 hz157 hz174 hz210 hz228 hz246
  subst hz964 hz953 hz886 hz868 hz850
  rcases b0 with rfl | rfl <;> rcases b1 with rfl | rfl <;> rcases b2 with rfl | rfl <;> rcases b3 with rfl | rfl <;> rcases b4 with rfl | rfl <;> rcases b5 with rfl | rfl <;> decide
theorem own_law5_314 (p0 : Int32) (p1 : Int32) (p2 : Int32) (z140 : Int32) (hz140 : z140 = (if (p1 &&& (1 : Int32)) = (0 : Int32) then (0 : Int32) else (1 : Int32))) (z157 : Int32) (hz157 : z157 = (if (p1 &&& (2 : Int32)) = (0 : Int32) then (0 : Int32) else (1 : Int32))) (z174 : Int32) (hz174 : z174 = (if (p1 &&& (4 : Int32)) = (0 : Int32) then (0 : Int32) else (1 : Int32))) (z210 : Int32) (hz210 : z210 = (if (p2 &&& (1 : Int32)) = (0 : Int32) then (0 : Int32) else (1 : Int32))) (z228 : Int32) (hz228 : z228 = (if (p2 &&& (2 : Int32)) = (0 : Int32) then (0 : Int32) else (1 : Int32))) (z246 : Int32) (hz246 : z246 = (if (p2 &&& (4 : Int32)) = (0 : Int32) then (0 : Int32) else (1 : Int32))) (z992 : Int64) (hz992 : z992 = (own_f5_2c (0 : Int64) (nar .boolean z174) (nar .boolean z246))) (z1010 : Int64) (hz1010 : z1010 = (own_f5_1c z992 (nar .boolean z157) (nar .boolean z228))) (z1028 : Int64) (hz1028 : z1028 = (own_f5_0c z1010 (nar .boolean z140) (nar .boolean z210))) (z1061 : Int32) (hz1061 : z1061 = (own_f8_0 z1028)) (z1098 : Int32) (hz1098 : z1098 = (if (nar .boolean z140) = (0 : Int32) then (0 : Int32) else (if (nar .boolean z210) = (0 : Int32) then (0 : Int32) else (1 : Int32)))) (hl264 : ((p0 &&& (2147483647 : Int32)) % (6 : Int32)) = (5 : Int32)) : z1061 = z1098 := by
  have b0 := own_bit hz140
  have b1 := own_bit hz157
  have b2 := own_bit hz174
  have b3 := own_bit hz210
  have b4 := own_bit hz228
  have b5 := own_bit hz246
  clear hz140 hz157 hz174 hz210 hz228 hz246
  subst hz1098 hz1061 hz1028 hz1010 hz992
  rcases b0 with rfl | rfl <;> rcases b1 with rfl | rfl <;> rcases b2 with rfl | rfl <;> rcases b3 with rfl | rfl <;> rcases b4 with rfl | rfl <;> rcases b5 with rfl | rfl <;> decide
theorem own_law5_338 (p0 : Int32) (p1 : Int32) (p2 : Int32) (z140 : Int32) (hz140 : z140 = (if (p1 &&& (1 : Int32)) = (0 : Int32) then (0 : Int32) else (1 : Int32))) (z157 : Int32) (hz157 : z157 = (if (p1 &&& (2 : Int32)) = (0 : Int32) then (0 : Int32) else (1 : Int32))) (z174 : Int32) (hz174 : z174 = (if (p1 &&& (4 : Int32)) = (0 : Int32) then (0 : Int32) else (1 : Int32))) (z210 : Int32) (hz210 : z210 = (if (p2 &&& (1 : Int32)) = (0 : Int32) then (0 : Int32) else (1 : Int32))) (z228 : Int32) (hz228 : z228 = (if (p2 &&& (2 : Int32)) = (0 : Int32) then (0 : Int32) else (1 : Int32))) (z246 : Int32) (hz246 : z246 = (if (p2 &&& (4 : Int32)) = (0 : Int32) then (0 : Int32) else (1 : Int32))) (z992 : Int64) (hz992 : z992 = (own_f5_2c (0 : Int64) (nar .boolean z174) (nar .boolean z246))) (z1010 : Int64) (hz1010 : z1010 = (own_f5_1c z992 (nar .boolean z157) (nar .boolean z228))) (z1028 : Int64) (hz1028 : z1028 = (own_f5_0c z1010 (nar .boolean z140) (nar .boolean z210))) (z1078 : Int32) (hz1078 : z1078 = (own_f8_1 z1028)) (z1102 : Int32) (hz1102 : z1102 = (if (nar .boolean z157) = (0 : Int32) then (0 : Int32) else (if (nar .boolean z228) = (0 : Int32) then (0 : Int32) else (1 : Int32)))) (hl264 : ((p0 &&& (2147483647 : Int32)) % (6 : Int32)) = (5 : Int32)) : z1078 = z1102 := by
  have b0 := own_bit hz140
  have b1 := own_bit hz157
  have b2 := own_bit hz174
  have b3 := own_bit hz210
  have b4 := own_bit hz228
  have b5 := own_bit hz246
  clear hz140 hz157 hz174 hz210 hz228 hz246
  subst hz1102 hz1078 hz1028 hz1010 hz992
  rcases b0 with rfl | rfl <;> rcases b1 with rfl | rfl <;> rcases b2 with rfl | rfl <;> rcases b3 with rfl | rfl <;> rcases b4 with rfl | rfl <;> rcases b5 with rfl | rfl <;> decide
theorem own_law5_362 (p0 : Int32) (p1 : Int32) (p2 : Int32) (z140 : Int32) (hz140 : z140 = (if (p1 &&& (1 : Int32)) = (0 : Int32) then (0 : Int32) else (1 : Int32))) (z157 : Int32) (hz157 : z157 = (if (p1 &&& (2 : Int32)) = (0 : Int32) then (0 : Int32) else (1 : Int32))) (z174 : Int32) (hz174 : z174 = (if (p1 &&& (4 : Int32)) = (0 : Int32) then (0 : Int32) else (1 : Int32))) (z210 : Int32) (hz210 : z210 = (if (p2 &&& (1 : Int32)) = (0 : Int32) then (0 : Int32) else (1 : Int32))) (z228 : Int32) (hz228 : z228 = (if (p2 &&& (2 : Int32)) = (0 : Int32) then (0 : Int32) else (1 : Int32))) (z246 : Int32) (hz246 : z246 = (if (p2 &&& (4 : Int32)) = (0 : Int32) then (0 : Int32) else (1 : Int32))) (z992 : Int64) (hz992 : z992 = (own_f5_2c (0 : Int64) (nar .boolean z174) (nar .boolean z246))) (z1010 : Int64) (hz1010 : z1010 = (own_f5_1c z992 (nar .boolean z157) (nar .boolean z228))) (z1028 : Int64) (hz1028 : z1028 = (own_f5_0c z1010 (nar .boolean z140) (nar .boolean z210))) (z1095 : Int32) (hz1095 : z1095 = (own_f8_2 z1028)) (z1106 : Int32) (hz1106 : z1106 = (if (nar .boolean z174) = (0 : Int32) then (0 : Int32) else (if (nar .boolean z246) = (0 : Int32) then (0 : Int32) else (1 : Int32)))) (hl264 : ((p0 &&& (2147483647 : Int32)) % (6 : Int32)) = (5 : Int32)) : z1095 = z1106 := by
  have b0 := own_bit hz140
  have b1 := own_bit hz157
  have b2 := own_bit hz174
  have b3 := own_bit hz210
  have b4 := own_bit hz228
  have b5 := own_bit hz246
  clear hz140 hz157 hz174 hz210 hz228 hz246
  subst hz1106 hz1095 hz1028 hz1010 hz992
  rcases b0 with rfl | rfl <;> rcases b1 with rfl | rfl <;> rcases b2 with rfl | rfl <;> rcases b3 with rfl | rfl <;> rcases b4 with rfl | rfl <;> rcases b5 with rfl | rfl <;> decide
def Q0 (Z : State) (p0 : Int32) (p1 : Int32) (p2 : Int32) (h0 : Heap) (n0 : Nat) (v : Option Value) (h : Heap) (L : List Loc) : Prop := v = some (.int 1) ∧ Fr n0 L
set_option maxRecDepth 65536 in
set_option maxHeartbeats 40000000 in
theorem rm0 (l : Launch) (Z : State) (aw : Array Value) (hw : ∀ d ∈ tables_1, d.before aw Z = true) (ws : List Jvm.Cond) (p0 : Int32) (p1 : Int32) (p2 : Int32) (h0 : Heap) (n0 : Nat) (Z0 : n0 ≤ h0.size)  :
    MetFree l x (head1 (Jvm.Cond.code x code maxLocals ret :: ws) room_1) (fun a U => a = #[(.int p0), (.int p1), (.int p2)] ∧ Z.Warmed39 U.vm ∧ U.heap = h0) (fun _ _ _ _ _ => True) (fun _ U o U' => ∃ v L, o = .returned v ∧ Q0 Z p0 p1 p2 h0 n0 v U'.heap L ∧ FrameEnd U o U' L room_1.cells room_1.slots) := by
  refine MetFree.of_bodySF (plainFor_of_name pn_0) hisR ?_
  intro p e s m args below meth c s₁ Bd hml0 hP hK
  obtain ⟨rfl, hZ, hh⟩ := hP
  have hx := Bd.exec
  have hby := Bd.bytes
  have hml : c.maxLocals = 22 := hml0
  have hown : s.vm.findClass "com/example/tree_to_rows/treetorows/query/OutcomesSetPinLaw" = some m.cls := findClass_of_methodNamed Bd.named
  have hnm := (name_of_methodNamed Bd.named Bd.method).1
  have hlk : meth.locks = false := by first | exact BodyLoose.notSynchronized (by assumption) | exact Body.notSynchronized (by assumption)
  have X0 : Stand p l e room_1 s m #[(.int p0), (.int p1), (.int p2)] below meth c s₁ [] 0 0 := Stand.of_body Bd
  have e0 : s₁.heap = h0 := by rw [← hh, Bd.state]; rfl
  have N0 := Fr.nil n0
  refine own_start (CS := (room_1.cells, room_1.slots)) (Q := (Q0 Z p0 p1 p2 h0 n0)) (ef_0 m p0 p1 p2) ?_
  show own_Go p e below s _ _ (s₁.setTop (mkF m 0 #[iv p0, iv p1, iv p2, .unset, .unset, .unset, .unset, .unset, .unset, .unset, .unset, .unset, .unset, .unset, .unset, .unset, .unset, .unset, .unset, .unset, .unset, .unset] []))
  obtain ⟨T1, h1, X1, e1, E1, A1, D1, -, st1⟩ := newO X0 hx hZ hown (hw _ (List.mem_of_getElem? (i := 0) rfl)) (hw _ (List.mem_of_getElem? (i := 1) rfl)) (hw _ (List.mem_of_getElem? (i := 2) rfl)) e0 (g := (mkF m 0 #[iv p0, iv p1, iv p2, .unset, .unset, .unset, .unset, .unset, .unset, .unset, .unset, .unset, .unset, .unset, .unset, .unset, .unset, .unset, .unset, .unset, .unset, .unset] [])) rfl (hb hby at_0) (by decide) (by decide)
  obtain ⟨b1, g1⟩ : ∃ z, z = h0.size := ⟨_, rfl⟩
  rw [← g1] at A1 D1 st1
  refine own_via (fun k => st1 _ k) ?_
  show own_Go p e below s _ _ (T1.setTop (mkF m 3 #[iv p0, iv p1, iv p2, .unset, .unset, .unset, .unset, .unset, .unset, .unset, .unset, .unset, .unset, .unset, .unset, .unset, .unset, .unset, .unset, .unset, .unset, .unset] [(.ref b1)]))
  have g2 : n0 ≤ b1 := Nat.le_trans Z0 (Nat.le_of_eq g1.symm)
  have Z3 : n0 ≤ h1.size := Nat.le_trans Z0 E1.1
  have B4 : Fld Z h1 b1 "com/example/tree_to_rows/treetorows/query/Outcomes" "words" "[J" .null := D1 (Or.inl (hw _ (List.mem_of_getElem? (i := 11) rfl))) (ty := (.array .long)) (by decide)
  have B5 : Fld Z h1 b1 "com/example/tree_to_rows/treetorows/query/Outcomes" "size" "I" (.int 0) := D1 (Or.inl (hw _ (List.mem_of_getElem? (i := 18) rfl))) (ty := .int) (by decide)
  have B6 : Fld Z h1 b1 "com/example/tree_to_rows/treetorows/query/Outcomes" "used" "I" (.int 0) := D1 (Or.inl (hw _ (List.mem_of_getElem? (i := 20) rfl))) (ty := .int) (by decide)
  have B7 : Fld Z h1 b1 "com/example/tree_to_rows/treetorows/query/Outcomes" "waiting" "I" (.int 0) := D1 (Or.inl (hw _ (List.mem_of_getElem? (i := 22) rfl))) (ty := .int) (by decide)
  have B8 : Fld Z h1 b1 "com/example/tree_to_rows/treetorows/query/Outcomes" "bits" "J" (.long 0) := D1 (Or.inl (hw _ (List.mem_of_getElem? (i := 28) rfl))) (ty := .long) (by decide)
  have B9 : Fld Z h1 b1 "com/example/tree_to_rows/treetorows/query/Outcomes" "current" "J" (.long 0) := D1 (Or.inl (hw _ (List.mem_of_getElem? (i := 42) rfl))) (ty := .long) (by decide)
  have B10 : Fld Z h1 b1 "com/example/tree_to_rows/treetorows/query/Outcomes" "readWord" "I" (.int 0) := D1 (Or.inl (hw _ (List.mem_of_getElem? (i := 49) rfl))) (ty := .int) (by decide)
  have B11 : Fld Z h1 b1 "com/example/tree_to_rows/treetorows/query/Outcomes" "readGroup" "J" (.long 0) := D1 (Or.inl (hw _ (List.mem_of_getElem? (i := 51) rfl))) (ty := .long) (by decide)
  have B12 : Fld Z h1 b1 "com/example/tree_to_rows/treetorows/query/Outcomes" "readBit" "I" (.int 0) := D1 (Or.inl (hw _ (List.mem_of_getElem? (i := 53) rfl))) (ty := .int) (by decide)
  have B13 : Fld Z h1 b1 "com/example/tree_to_rows/treetorows/query/Outcomes" "read" "J" (.long 0) := D1 (Or.inl (hw _ (List.mem_of_getElem? (i := 55) rfl))) (ty := .long) (by decide)
  refine own_via (fun k => XS.dup X1.here hx rfl (hb hby at_3) rfl rfl k) ?_
  show own_Go p e below s _ _ (T1.setTop (mkF m 4 #[iv p0, iv p1, iv p2, .unset, .unset, .unset, .unset, .unset, .unset, .unset, .unset, .unset, .unset, .unset, .unset, .unset, .unset, .unset, .unset, .unset, .unset, .unset] [(.ref b1), (.ref b1)]))
  obtain ⟨_, _, ⟨T14, L14, k14, n14⟩, -, X14, ⟨Lc14, hQ14, l14, y14, z14⟩, st14⟩ := X1.specialBack hx (y := (⟨"com/example/tree_to_rows/treetorows/query/Outcomes", "<init>", "()V"⟩ : MethodName)) rfl hown (mvT hZ (hw _ (List.mem_of_getElem? (i := 3) rfl))) (mvT hZ (hw _ (List.mem_of_getElem? (i := 4) rfl))) (mvT hZ (hw _ (List.mem_of_getElem? (i := 5) rfl))) (by decide) (backOf (W := 1) (rm1 l Z aw hw [] b1 h1 n0 Z3 B4 A1 B5 B6 B7 B8 B9 B10 B11 B12 B13 g2) hZ (hw _ (List.mem_of_getElem? (i := 5) rfl)) (hw _ (List.mem_of_getElem? (i := 2) rfl)) (by decide) (by decide)) (g := (mkF m 4 #[iv p0, iv p1, iv p2, .unset, .unset, .unset, .unset, .unset, .unset, .unset, .unset, .unset, .unset, .unset, .unset, .unset, .unset, .unset, .unset, .unset, .unset, .unset] [(.ref b1), (.ref b1)])) rfl (by rw [hml]; rfl) (Steps.refl _) (a := b1) (argsL := []) (rest := [(.ref b1)]) (lenOf pd_0 rfl) rfl (by show 2 * 0 + _ ≤ _; exact Nat.le_of_eq rfl) (hb hby at_4) (fun _ _ => ⟨rfl, e1, (by decide : 1 + 1 ≤ _), (by decide : 10 + 8 ≤ _)⟩)
  dsimp only [Pt.U, Pt.locs, Pt.cells, Pt.slots] at X14 l14 y14 z14 st14 hQ14
  subst l14 y14 z14
  obtain ⟨rfl, N14q, K14, B15, B16, B17, B18, B19, B20, B21, B22, B23⟩ := hQ14
  have N24 := Fr.app N0 N14q
  have B25 := A1.keep K14
  have Z26 : n0 ≤ T14.heap.size := Nat.le_trans Z3 K14.1
  refine own_via (fun k => st14.trans k) ?_
  show own_Go p e below s _ _ (T14.setTop (mkF m 7 #[iv p0, iv p1, iv p2, .unset, .unset, .unset, .unset, .unset, .unset, .unset, .unset, .unset, .unset, .unset, .unset, .unset, .unset, .unset, .unset, .unset, .unset, .unset] [(.ref b1)]))
  refine own_via (fun k => XS.astoreN X14.here hx rfl (hb hby at_7) rfl rfl (l' := #[iv p0, iv p1, iv p2, rv b1, .unset, .unset, .unset, .unset, .unset, .unset, .unset, .unset, .unset, .unset, .unset, .unset, .unset, .unset, .unset, .unset, .unset, .unset]) rfl (XS.aloadN X14.here hx rfl (hb hby at_8) rfl rfl  k)) ?_
  show own_Go p e below s _ _ (T14.setTop (mkF m 9 #[iv p0, iv p1, iv p2, rv b1, .unset, .unset, .unset, .unset, .unset, .unset, .unset, .unset, .unset, .unset, .unset, .unset, .unset, .unset, .unset, .unset, .unset, .unset] [(.ref b1)]))
  obtain ⟨cq27, kq27, q27a, q27b, q27c⟩ := isOf hZ rfl B25
  obtain ⟨_, _, ⟨T27, L27, k27, n27⟩, -, X27, ⟨Lc27, hQ27, l27, y27, z27⟩, st27⟩ := X14.virtualBack hx (y := (⟨"com/example/tree_to_rows/treetorows/query/Outcomes", "place", "()J"⟩ : MethodName)) (z := (⟨"com/example/tree_to_rows/treetorows/query/Outcomes", "place", "()J"⟩ : MethodName)) hown (mvT hZ (hw _ (List.mem_of_getElem? (i := 12) rfl))) (mvT hZ (hw _ (List.mem_of_getElem? (i := 13) rfl))) (notFace_of_selects (args := #[]) (mvT hZ (hw _ (List.mem_of_getElem? (i := 15) rfl)))) (mvT hZ (hw _ (List.mem_of_getElem? (i := 15) rfl))) (mvT hZ (hw _ (List.mem_of_getElem? (i := 14) rfl))) (by decide) (backOf (W := 0) (rm3_0 l Z aw hw [] b1 (0 : Int64) (0 : Int32) (0 : Int64) (0 : Int32) (0 : Int64) T14.heap n0 Z26 B15 B16 B17 B18 B19 B20 B21 B22 B23 B25 g2) hZ (hw _ (List.mem_of_getElem? (i := 16) rfl)) (hw _ (List.mem_of_getElem? (i := 2) rfl)) (by decide) (by decide)) q27a q27c (g := (mkF m 9 #[iv p0, iv p1, iv p2, rv b1, .unset, .unset, .unset, .unset, .unset, .unset, .unset, .unset, .unset, .unset, .unset, .unset, .unset, .unset, .unset, .unset, .unset, .unset] [(.ref b1)])) rfl (by rw [hml]; rfl) (Steps.refl _) (argsL := []) (rest := []) (lenOf pd_1 rfl) rfl (by show 2 * 0 + _ ≤ _; exact Nat.le_of_eq rfl) (hb hby at_9) (fun _ _ => ⟨rfl, rfl, (by decide : 2 + 0 ≤ _), (by decide : 18 + 0 ≤ _)⟩)
  dsimp only [Pt.U, Pt.locs, Pt.cells, Pt.slots] at X27 l27 y27 z27 st27 hQ27
  subst l27 y27 z27
  obtain ⟨rfl, N27q, K27, B28, B29, B30, B31, B32, B33, B34, B35, B36⟩ := hQ27
  have N37 := Fr.app N24 N27q
  have B38 := B25.keep K27
  have Z39 : n0 ≤ T27.heap.size := Nat.le_trans Z26 K27.1
  refine own_via (fun k => st27.trans k) ?_
  show own_Go p e below s _ _ (T27.setTop (mkF m 12 #[iv p0, iv p1, iv p2, rv b1, .unset, .unset, .unset, .unset, .unset, .unset, .unset, .unset, .unset, .unset, .unset, .unset, .unset, .unset, .unset, .unset, .unset, .unset] [(.long 0)]))
  refine own_via (fun k => XS.lstore X27.here hx rfl (hb hby at_12) rfl (l' := #[iv p0, iv p1, iv p2, rv b1, jv 0, .second, .unset, .unset, .unset, .unset, .unset, .unset, .unset, .unset, .unset, .unset, .unset, .unset, .unset, .unset, .unset, .unset]) rfl (XS.aloadN X27.here hx rfl (hb hby at_14) rfl rfl  k)) ?_
  show own_Go p e below s _ _ (T27.setTop (mkF m 15 #[iv p0, iv p1, iv p2, rv b1, jv 0, .second, .unset, .unset, .unset, .unset, .unset, .unset, .unset, .unset, .unset, .unset, .unset, .unset, .unset, .unset, .unset, .unset] [(.ref b1)]))
  obtain ⟨cq40, kq40, q40a, q40b, q40c⟩ := isOf hZ rfl B38
  obtain ⟨_, _, ⟨T40, L40, k40, n40⟩, -, X40, ⟨Lc40, hQ40, l40, y40, z40⟩, st40⟩ := X27.virtualBack hx (y := (⟨"com/example/tree_to_rows/treetorows/query/Outcomes", "place", "()J"⟩ : MethodName)) (z := (⟨"com/example/tree_to_rows/treetorows/query/Outcomes", "place", "()J"⟩ : MethodName)) hown (mvT hZ (hw _ (List.mem_of_getElem? (i := 12) rfl))) (mvT hZ (hw _ (List.mem_of_getElem? (i := 13) rfl))) (notFace_of_selects (args := #[]) (mvT hZ (hw _ (List.mem_of_getElem? (i := 15) rfl)))) (mvT hZ (hw _ (List.mem_of_getElem? (i := 15) rfl))) (mvT hZ (hw _ (List.mem_of_getElem? (i := 14) rfl))) (by decide) (backOf (W := 0) (rm3_1 l Z aw hw [] b1 (0 : Int64) (0 : Int32) (0 : Int64) (0 : Int32) (0 : Int64) T27.heap n0 Z39 B28 B29 B30 B31 B32 B33 B34 B35 B36 B38 g2) hZ (hw _ (List.mem_of_getElem? (i := 16) rfl)) (hw _ (List.mem_of_getElem? (i := 2) rfl)) (by decide) (by decide)) q40a q40c (g := (mkF m 15 #[iv p0, iv p1, iv p2, rv b1, jv 0, .second, .unset, .unset, .unset, .unset, .unset, .unset, .unset, .unset, .unset, .unset, .unset, .unset, .unset, .unset, .unset, .unset] [(.ref b1)])) rfl (by rw [hml]; rfl) (Steps.refl _) (argsL := []) (rest := []) (lenOf pd_1 rfl) rfl (by show 2 * 0 + _ ≤ _; exact Nat.le_of_eq rfl) (hb hby at_15) (fun _ _ => ⟨rfl, rfl, (by decide : 2 + 0 ≤ _), (by decide : 18 + 0 ≤ _)⟩)
  dsimp only [Pt.U, Pt.locs, Pt.cells, Pt.slots] at X40 l40 y40 z40 st40 hQ40
  subst l40 y40 z40
  obtain ⟨rfl, N40q, K40, B41, B42, B43, B44, B45, B46, B47, B48, B49⟩ := hQ40
  have N50 := Fr.app N37 N40q
  have B51 := B38.keep K40
  have Z52 : n0 ≤ T40.heap.size := Nat.le_trans Z39 K40.1
  refine own_via (fun k => st40.trans k) ?_
  show own_Go p e below s _ _ (T40.setTop (mkF m 18 #[iv p0, iv p1, iv p2, rv b1, jv 0, .second, .unset, .unset, .unset, .unset, .unset, .unset, .unset, .unset, .unset, .unset, .unset, .unset, .unset, .unset, .unset, .unset] [(.long 1)]))
  refine own_via (fun k => XS.lstore X40.here hx rfl (hb hby at_18) rfl (l' := #[iv p0, iv p1, iv p2, rv b1, jv 0, .second, jv 1, .second, .unset, .unset, .unset, .unset, .unset, .unset, .unset, .unset, .unset, .unset, .unset, .unset, .unset, .unset]) rfl (XS.aloadN X40.here hx rfl (hb hby at_20) rfl rfl  k)) ?_
  show own_Go p e below s _ _ (T40.setTop (mkF m 21 #[iv p0, iv p1, iv p2, rv b1, jv 0, .second, jv 1, .second, .unset, .unset, .unset, .unset, .unset, .unset, .unset, .unset, .unset, .unset, .unset, .unset, .unset, .unset] [(.ref b1)]))
  obtain ⟨cq53, kq53, q53a, q53b, q53c⟩ := isOf hZ rfl B51
  obtain ⟨_, _, ⟨T53, L53, k53, n53⟩, -, X53, ⟨Lc53, hQ53, l53, y53, z53⟩, st53⟩ := X40.virtualBack hx (y := (⟨"com/example/tree_to_rows/treetorows/query/Outcomes", "place", "()J"⟩ : MethodName)) (z := (⟨"com/example/tree_to_rows/treetorows/query/Outcomes", "place", "()J"⟩ : MethodName)) hown (mvT hZ (hw _ (List.mem_of_getElem? (i := 12) rfl))) (mvT hZ (hw _ (List.mem_of_getElem? (i := 13) rfl))) (notFace_of_selects (args := #[]) (mvT hZ (hw _ (List.mem_of_getElem? (i := 15) rfl)))) (mvT hZ (hw _ (List.mem_of_getElem? (i := 15) rfl))) (mvT hZ (hw _ (List.mem_of_getElem? (i := 14) rfl))) (by decide) (backOf (W := 0) (rm3_2 l Z aw hw [] b1 (0 : Int64) (0 : Int32) (0 : Int64) (0 : Int32) (0 : Int64) T40.heap n0 Z52 B41 B42 B43 B44 B45 B46 B47 B48 B49 B51 g2) hZ (hw _ (List.mem_of_getElem? (i := 16) rfl)) (hw _ (List.mem_of_getElem? (i := 2) rfl)) (by decide) (by decide)) q53a q53c (g := (mkF m 21 #[iv p0, iv p1, iv p2, rv b1, jv 0, .second, jv 1, .second, .unset, .unset, .unset, .unset, .unset, .unset, .unset, .unset, .unset, .unset, .unset, .unset, .unset, .unset] [(.ref b1)])) rfl (by rw [hml]; rfl) (Steps.refl _) (argsL := []) (rest := []) (lenOf pd_1 rfl) rfl (by show 2 * 0 + _ ≤ _; exact Nat.le_of_eq rfl) (hb hby at_21) (fun _ _ => ⟨rfl, rfl, (by decide : 2 + 0 ≤ _), (by decide : 18 + 0 ≤ _)⟩)
  dsimp only [Pt.U, Pt.locs, Pt.cells, Pt.slots] at X53 l53 y53 z53 st53 hQ53
  subst l53 y53 z53
  obtain ⟨rfl, N53q, K53, B54, B55, B56, B57, B58, B59, B60, B61, B62⟩ := hQ53
  have N63 := Fr.app N50 N53q
  have B64 := B51.keep K53
  have Z65 : n0 ≤ T53.heap.size := Nat.le_trans Z52 K53.1
  refine own_via (fun k => st53.trans k) ?_
  show own_Go p e below s _ _ (T53.setTop (mkF m 24 #[iv p0, iv p1, iv p2, rv b1, jv 0, .second, jv 1, .second, .unset, .unset, .unset, .unset, .unset, .unset, .unset, .unset, .unset, .unset, .unset, .unset, .unset, .unset] [(.long 2)]))
  refine own_via (fun k => XS.lstore X53.here hx rfl (hb hby at_24) rfl (l' := #[iv p0, iv p1, iv p2, rv b1, jv 0, .second, jv 1, .second, jv 2, .second, .unset, .unset, .unset, .unset, .unset, .unset, .unset, .unset, .unset, .unset, .unset, .unset]) rfl (XS.iconst X53.here hx rfl (hb hby at_26) k)) ?_
  show own_Go p e below s _ _ (T53.setTop (mkF m 27 #[iv p0, iv p1, iv p2, rv b1, jv 0, .second, jv 1, .second, jv 2, .second, .unset, .unset, .unset, .unset, .unset, .unset, .unset, .unset, .unset, .unset, .unset, .unset] [(.int 3)]))
  obtain ⟨T66, h66, k66, X66, e66, E66, A66, st66⟩ := newP X53 hx hZ (hw _ (List.mem_of_getElem? (i := 9) rfl)) rfl (g := (mkF m 27 #[iv p0, iv p1, iv p2, rv b1, jv 0, .second, jv 1, .second, jv 2, .second, .unset, .unset, .unset, .unset, .unset, .unset, .unset, .unset, .unset, .unset, .unset, .unset] [(.int 3)])) rfl (hb hby at_27) rfl (by decide) (cap := 3) (by decide) (by decide) (by decide) (by decide)
  obtain ⟨b66, g66⟩ : ∃ z, z = T53.heap.size := ⟨_, rfl⟩
  rw [← g66] at A66 st66
  refine own_via (fun k => st66 _ k) ?_
  show own_Go p e below s _ _ (T66.setTop (mkF m 29 #[iv p0, iv p1, iv p2, rv b1, jv 0, .second, jv 1, .second, jv 2, .second, .unset, .unset, .unset, .unset, .unset, .unset, .unset, .unset, .unset, .unset, .unset, .unset] [(.ref b66)]))
  have g67 : n0 ≤ b66 := Nat.le_trans Z65 (Nat.le_of_eq g66.symm)
  have ne68 : b1 ≠ b66 := Nat.ne_of_lt (Nat.lt_of_lt_of_le B64.lt (Nat.le_of_eq g66.symm))
  have B69 := B64.ext E66
  have B70 := B54.ext E66
  have B71 := B55.ext E66
  have B72 := B56.ext E66
  have B73 := B57.ext E66
  have B74 := B58.ext E66
  have B75 := B59.ext E66
  have B76 := B60.ext E66
  have B77 := B61.ext E66
  have B78 := B62.ext E66
  have Z79 : n0 ≤ h66.size := Nat.le_trans Z65 E66.1
  have B80 : Arv Z h66 b66 k66 .long (3 : Int32) [(.long 0), (.long 0), (.long 0)] (.long 0) := (Arv.new A66 (by decide)).pad (pad_rep [] (.long 0) 3)
  refine own_via (fun k => XS.dup X66.here hx rfl (hb hby at_29) rfl rfl (XS.iconst X66.here hx rfl (hb hby at_30) (XS.lload X66.here hx rfl (hb hby at_31) rfl  k))) ?_
  show own_Go p e below s _ _ (T66.setTop (mkF m 33 #[iv p0, iv p1, iv p2, rv b1, jv 0, .second, jv 1, .second, jv 2, .second, .unset, .unset, .unset, .unset, .unset, .unset, .unset, .unset, .unset, .unset, .unset, .unset] [(.long 0), (.int 0), (.ref b66), (.ref b66)]))
  obtain ⟨cl81, Ar81, q81, S81, NN81, H81, G81⟩ := id B80
  have hin81 : ¬ ((0 : Int32) < 0 ∨ cl81.slots.size ≤ ((0 : Int32)).toNatClampNeg) := inb_of S81 ⟨by decide, by decide⟩
  obtain ⟨T81, h81, X81, e81, W81, st81⟩ := stJ X66 hx hZ e66 Ar81 (j := (0 : Int32)) hin81 (g := (mkF m 33 #[iv p0, iv p1, iv p2, rv b1, jv 0, .second, jv 1, .second, jv 2, .second, .unset, .unset, .unset, .unset, .unset, .unset, .unset, .unset, .unset, .unset, .unset, .unset] [(.long 0), (.int 0), (.ref b66), (.ref b66)])) rfl rfl (hb hby at_33)
  refine own_via (fun k => st81 _ k) ?_
  show own_Go p e below s _ _ (T81.setTop (mkF m 34 #[iv p0, iv p1, iv p2, rv b1, jv 0, .second, jv 1, .second, jv 2, .second, .unset, .unset, .unset, .unset, .unset, .unset, .unset, .unset, .unset, .unset, .unset, .unset] [(.ref b66)]))
  have B82 := B69.wr W81
  have B83 := B70.other W81 (Or.inl ne68)
  have B84 := B71.other W81 (Or.inl ne68)
  have B85 := B72.other W81 (Or.inl ne68)
  have B86 := B73.other W81 (Or.inl ne68)
  have B87 := B74.other W81 (Or.inl ne68)
  have B88 := B75.other W81 (Or.inl ne68)
  have B89 := B76.other W81 (Or.inl ne68)
  have B90 := B77.other W81 (Or.inl ne68)
  have B91 := B78.other W81 (Or.inl ne68)
  have B92 : Arv Z h81 b66 k66 .long (3 : Int32) [(.long 0), (.long 0), (.long 0)] (.long 0) := Arv.set Ar81 q81 S81 NN81 H81 G81 rfl W81 0 rfl (Nat.le_of_ble_eq_true rfl)
  have N93 := Fr.snoc X81 N63 g67
  have Z94 : n0 ≤ h81.size := Nat.le_trans Z79 (Keep.of_wr W81).1
  refine own_via (fun k => XS.dup X81.here hx rfl (hb hby at_34) rfl rfl (XS.iconst X81.here hx rfl (hb hby at_35) (XS.lload X81.here hx rfl (hb hby at_36) rfl  k))) ?_
  show own_Go p e below s _ _ (T81.setTop (mkF m 38 #[iv p0, iv p1, iv p2, rv b1, jv 0, .second, jv 1, .second, jv 2, .second, .unset, .unset, .unset, .unset, .unset, .unset, .unset, .unset, .unset, .unset, .unset, .unset] [(.long 1), (.int 1), (.ref b66), (.ref b66)]))
  obtain ⟨cl95, Ar95, q95, S95, NN95, H95, G95⟩ := id B92
  have hin95 : ¬ ((1 : Int32) < 0 ∨ cl95.slots.size ≤ ((1 : Int32)).toNatClampNeg) := inb_of S95 ⟨by decide, by decide⟩
  obtain ⟨T95, h95, X95, e95, W95, st95⟩ := stJ X81 hx hZ e81 Ar95 (j := (1 : Int32)) hin95 (g := (mkF m 38 #[iv p0, iv p1, iv p2, rv b1, jv 0, .second, jv 1, .second, jv 2, .second, .unset, .unset, .unset, .unset, .unset, .unset, .unset, .unset, .unset, .unset, .unset, .unset] [(.long 1), (.int 1), (.ref b66), (.ref b66)])) rfl rfl (hb hby at_38)
  refine own_via (fun k => st95 _ k) ?_
  show own_Go p e below s _ _ (T95.setTop (mkF m 39 #[iv p0, iv p1, iv p2, rv b1, jv 0, .second, jv 1, .second, jv 2, .second, .unset, .unset, .unset, .unset, .unset, .unset, .unset, .unset, .unset, .unset, .unset, .unset] [(.ref b66)]))
  have B96 := B82.wr W95
  have B97 := B83.other W95 (Or.inl ne68)
  have B98 := B84.other W95 (Or.inl ne68)
  have B99 := B85.other W95 (Or.inl ne68)
  have B100 := B86.other W95 (Or.inl ne68)
  have B101 := B87.other W95 (Or.inl ne68)
  have B102 := B88.other W95 (Or.inl ne68)
  have B103 := B89.other W95 (Or.inl ne68)
  have B104 := B90.other W95 (Or.inl ne68)
  have B105 := B91.other W95 (Or.inl ne68)
  have B106 : Arv Z h95 b66 k66 .long (3 : Int32) [(.long 0), (.long 1), (.long 0)] (.long 0) := Arv.set Ar95 q95 S95 NN95 H95 G95 rfl W95 1 rfl (Nat.le_of_ble_eq_true rfl)
  have N107 := Fr.snoc X95 N93 g67
  have Z108 : n0 ≤ h95.size := Nat.le_trans Z94 (Keep.of_wr W95).1
  refine own_via (fun k => XS.dup X95.here hx rfl (hb hby at_39) rfl rfl (XS.iconst X95.here hx rfl (hb hby at_40) (XS.lload X95.here hx rfl (hb hby at_41) rfl  k))) ?_
  show own_Go p e below s _ _ (T95.setTop (mkF m 43 #[iv p0, iv p1, iv p2, rv b1, jv 0, .second, jv 1, .second, jv 2, .second, .unset, .unset, .unset, .unset, .unset, .unset, .unset, .unset, .unset, .unset, .unset, .unset] [(.long 2), (.int 2), (.ref b66), (.ref b66)]))
  obtain ⟨cl109, Ar109, q109, S109, NN109, H109, G109⟩ := id B106
  have hin109 : ¬ ((2 : Int32) < 0 ∨ cl109.slots.size ≤ ((2 : Int32)).toNatClampNeg) := inb_of S109 ⟨by decide, by decide⟩
  obtain ⟨T109, h109, X109, e109, W109, st109⟩ := stJ X95 hx hZ e95 Ar109 (j := (2 : Int32)) hin109 (g := (mkF m 43 #[iv p0, iv p1, iv p2, rv b1, jv 0, .second, jv 1, .second, jv 2, .second, .unset, .unset, .unset, .unset, .unset, .unset, .unset, .unset, .unset, .unset, .unset, .unset] [(.long 2), (.int 2), (.ref b66), (.ref b66)])) rfl rfl (hb hby at_43)
  refine own_via (fun k => st109 _ k) ?_
  show own_Go p e below s _ _ (T109.setTop (mkF m 44 #[iv p0, iv p1, iv p2, rv b1, jv 0, .second, jv 1, .second, jv 2, .second, .unset, .unset, .unset, .unset, .unset, .unset, .unset, .unset, .unset, .unset, .unset, .unset] [(.ref b66)]))
  have B110 := B96.wr W109
  have B111 := B97.other W109 (Or.inl ne68)
  have B112 := B98.other W109 (Or.inl ne68)
  have B113 := B99.other W109 (Or.inl ne68)
  have B114 := B100.other W109 (Or.inl ne68)
  have B115 := B101.other W109 (Or.inl ne68)
  have B116 := B102.other W109 (Or.inl ne68)
  have B117 := B103.other W109 (Or.inl ne68)
  have B118 := B104.other W109 (Or.inl ne68)
  have B119 := B105.other W109 (Or.inl ne68)
  have B120 : Arv Z h109 b66 k66 .long (3 : Int32) [(.long 0), (.long 1), (.long 2)] (.long 0) := Arv.set Ar109 q109 S109 NN109 H109 G109 rfl W109 2 rfl (Nat.le_of_ble_eq_true rfl)
  have N121 := Fr.snoc X109 N107 g67
  have Z122 : n0 ≤ h109.size := Nat.le_trans Z108 (Keep.of_wr W109).1
  refine own_via (fun k => XS.astore X109.here hx rfl (hb hby at_44) rfl rfl (l' := #[iv p0, iv p1, iv p2, rv b1, jv 0, .second, jv 1, .second, jv 2, .second, rv b66, .unset, .unset, .unset, .unset, .unset, .unset, .unset, .unset, .unset, .unset, .unset]) rfl (XS.iconst X109.here hx rfl (hb hby at_46) k)) ?_
  show own_Go p e below s _ _ (T109.setTop (mkF m 47 #[iv p0, iv p1, iv p2, rv b1, jv 0, .second, jv 1, .second, jv 2, .second, rv b66, .unset, .unset, .unset, .unset, .unset, .unset, .unset, .unset, .unset, .unset, .unset] [(.int 3)]))
  obtain ⟨T123, h123, k123, X123, e123, E123, A123, st123⟩ := newP X109 hx hZ (hw _ (List.mem_of_getElem? (i := 29) rfl)) e109 (g := (mkF m 47 #[iv p0, iv p1, iv p2, rv b1, jv 0, .second, jv 1, .second, jv 2, .second, rv b66, .unset, .unset, .unset, .unset, .unset, .unset, .unset, .unset, .unset, .unset, .unset] [(.int 3)])) rfl (hb hby at_47) rfl (by decide) (cap := 3) (by decide) (by decide) (by decide) (by decide)
  obtain ⟨b123, g123⟩ : ∃ z, z = h109.size := ⟨_, rfl⟩
  rw [← g123] at A123 st123
  refine own_via (fun k => st123 _ k) ?_
  show own_Go p e below s _ _ (T123.setTop (mkF m 49 #[iv p0, iv p1, iv p2, rv b1, jv 0, .second, jv 1, .second, jv 2, .second, rv b66, .unset, .unset, .unset, .unset, .unset, .unset, .unset, .unset, .unset, .unset, .unset] [(.ref b123)]))
  have g124 : n0 ≤ b123 := Nat.le_trans Z122 (Nat.le_of_eq g123.symm)
  have ne125 : b1 ≠ b123 := Nat.ne_of_lt (Nat.lt_of_lt_of_le B110.lt (Nat.le_of_eq g123.symm))
  have ne126 : b66 ≠ b123 := Nat.ne_of_lt (Nat.lt_of_lt_of_le B120.lt (Nat.le_of_eq g123.symm))
  have B127 := B110.ext E123
  have B128 := B111.ext E123
  have B129 := B112.ext E123
  have B130 := B113.ext E123
  have B131 := B114.ext E123
  have B132 := B115.ext E123
  have B133 := B116.ext E123
  have B134 := B117.ext E123
  have B135 := B118.ext E123
  have B136 := B119.ext E123
  have B137 := B120.ext E123
  have Z138 : n0 ≤ h123.size := Nat.le_trans Z122 E123.1
  have B139 : Arv Z h123 b123 k123 .boolean (3 : Int32) [(.int 0), (.int 0), (.int 0)] (.int 0) := (Arv.new A123 (by decide)).pad (pad_rep [] (.int 0) 3)
  refine own_via (fun k => XS.dup X123.here hx rfl (hb hby at_49) rfl rfl (XS.iconst X123.here hx rfl (hb hby at_50) (XS.iloadN X123.here hx rfl (hb hby at_51) rfl  (XS.iconst X123.here hx rfl (hb hby at_52) k)))) ?_
  show own_Go p e below s _ _ (T123.setTop (mkF m 53 #[iv p0, iv p1, iv p2, rv b1, jv 0, .second, jv 1, .second, jv 2, .second, rv b66, .unset, .unset, .unset, .unset, .unset, .unset, .unset, .unset, .unset, .unset, .unset] [(.int 1), (.int p1), (.int 0), (.ref b123), (.ref b123)]))
  refine own_via (fun k => XS.iand X123.here hx rfl (hb hby at_53) rfl k) ?_
  show own_Go p e below s _ _ (T123.setTop (mkF m 54 #[iv p0, iv p1, iv p2, rv b1, jv 0, .second, jv 1, .second, jv 2, .second, rv b66, .unset, .unset, .unset, .unset, .unset, .unset, .unset, .unset, .unset, .unset, .unset] [(.int (p1 &&& (1 : Int32))), (.int 0), (.ref b123), (.ref b123)]))
  have J141 : ∀ (z140 : Int32), z140 = (if (p1 &&& (1 : Int32)) = (0 : Int32) then (0 : Int32) else (1 : Int32)) → own_Go p e below s (Q0 Z p0 p1 p2 h0 n0) (room_1.cells, room_1.slots) (T123.setTop (mkF m 62 #[iv p0, iv p1, iv p2, rv b1, jv 0, .second, jv 1, .second, jv 2, .second, rv b66, .unset, .unset, .unset, .unset, .unset, .unset, .unset, .unset, .unset, .unset, .unset] [(.int z140), (.int 0), (.ref b123), (.ref b123)])) := by
    intro z140 hz140
    obtain ⟨cl142, Ar142, q142, S142, NN142, H142, G142⟩ := id B139
    have hin142 : ¬ ((0 : Int32) < 0 ∨ cl142.slots.size ≤ ((0 : Int32)).toNatClampNeg) := inb_of S142 ⟨by decide, by decide⟩
    obtain ⟨T142, h142, X142, e142, W142, st142⟩ := stZ X123 hx hZ e123 Ar142 (j := (0 : Int32)) hin142 (g := (mkF m 62 #[iv p0, iv p1, iv p2, rv b1, jv 0, .second, jv 1, .second, jv 2, .second, rv b66, .unset, .unset, .unset, .unset, .unset, .unset, .unset, .unset, .unset, .unset, .unset] [(.int z140), (.int 0), (.ref b123), (.ref b123)])) rfl rfl (hb hby at_62)
    refine own_via (fun k => st142 _ k) ?_
    show own_Go p e below s _ _ (T142.setTop (mkF m 63 #[iv p0, iv p1, iv p2, rv b1, jv 0, .second, jv 1, .second, jv 2, .second, rv b66, .unset, .unset, .unset, .unset, .unset, .unset, .unset, .unset, .unset, .unset, .unset] [(.ref b123)]))
    have B143 := B127.wr W142
    have B144 := B128.other W142 (Or.inl ne125)
    have B145 := B129.other W142 (Or.inl ne125)
    have B146 := B130.other W142 (Or.inl ne125)
    have B147 := B131.other W142 (Or.inl ne125)
    have B148 := B132.other W142 (Or.inl ne125)
    have B149 := B133.other W142 (Or.inl ne125)
    have B150 := B134.other W142 (Or.inl ne125)
    have B151 := B135.other W142 (Or.inl ne125)
    have B152 := B136.other W142 (Or.inl ne125)
    have B153 := B137.other W142 ne126
    have B154 : Arv Z h142 b123 k123 .boolean (3 : Int32) [(.int (nar .boolean z140)), (.int 0), (.int 0)] (.int 0) := Arv.set Ar142 q142 S142 NN142 H142 G142 (fits_nar_bool _) W142 0 rfl (Nat.le_of_ble_eq_true rfl)
    have N155 := Fr.snoc X142 N121 g124
    have Z156 : n0 ≤ h142.size := Nat.le_trans Z138 (Keep.of_wr W142).1
    refine own_via (fun k => XS.dup X142.here hx rfl (hb hby at_63) rfl rfl (XS.iconst X142.here hx rfl (hb hby at_64) (XS.iloadN X142.here hx rfl (hb hby at_65) rfl  (XS.iconst X142.here hx rfl (hb hby at_66) k)))) ?_
    show own_Go p e below s _ _ (T142.setTop (mkF m 67 #[iv p0, iv p1, iv p2, rv b1, jv 0, .second, jv 1, .second, jv 2, .second, rv b66, .unset, .unset, .unset, .unset, .unset, .unset, .unset, .unset, .unset, .unset, .unset] [(.int 2), (.int p1), (.int 1), (.ref b123), (.ref b123)]))
    refine own_via (fun k => XS.iand X142.here hx rfl (hb hby at_67) rfl k) ?_
    show own_Go p e below s _ _ (T142.setTop (mkF m 68 #[iv p0, iv p1, iv p2, rv b1, jv 0, .second, jv 1, .second, jv 2, .second, rv b66, .unset, .unset, .unset, .unset, .unset, .unset, .unset, .unset, .unset, .unset, .unset] [(.int (p1 &&& (2 : Int32))), (.int 1), (.ref b123), (.ref b123)]))
    have J158 : ∀ (z157 : Int32), z157 = (if (p1 &&& (2 : Int32)) = (0 : Int32) then (0 : Int32) else (1 : Int32)) → own_Go p e below s (Q0 Z p0 p1 p2 h0 n0) (room_1.cells, room_1.slots) (T142.setTop (mkF m 76 #[iv p0, iv p1, iv p2, rv b1, jv 0, .second, jv 1, .second, jv 2, .second, rv b66, .unset, .unset, .unset, .unset, .unset, .unset, .unset, .unset, .unset, .unset, .unset] [(.int z157), (.int 1), (.ref b123), (.ref b123)])) := by
      intro z157 hz157
      obtain ⟨cl159, Ar159, q159, S159, NN159, H159, G159⟩ := id B154
      have hin159 : ¬ ((1 : Int32) < 0 ∨ cl159.slots.size ≤ ((1 : Int32)).toNatClampNeg) := inb_of S159 ⟨by decide, by decide⟩
      obtain ⟨T159, h159, X159, e159, W159, st159⟩ := stZ X142 hx hZ e142 Ar159 (j := (1 : Int32)) hin159 (g := (mkF m 76 #[iv p0, iv p1, iv p2, rv b1, jv 0, .second, jv 1, .second, jv 2, .second, rv b66, .unset, .unset, .unset, .unset, .unset, .unset, .unset, .unset, .unset, .unset, .unset] [(.int z157), (.int 1), (.ref b123), (.ref b123)])) rfl rfl (hb hby at_76)
      refine own_via (fun k => st159 _ k) ?_
      show own_Go p e below s _ _ (T159.setTop (mkF m 77 #[iv p0, iv p1, iv p2, rv b1, jv 0, .second, jv 1, .second, jv 2, .second, rv b66, .unset, .unset, .unset, .unset, .unset, .unset, .unset, .unset, .unset, .unset, .unset] [(.ref b123)]))
      have B160 := B143.wr W159
      have B161 := B144.other W159 (Or.inl ne125)
      have B162 := B145.other W159 (Or.inl ne125)
      have B163 := B146.other W159 (Or.inl ne125)
      have B164 := B147.other W159 (Or.inl ne125)
      have B165 := B148.other W159 (Or.inl ne125)
      have B166 := B149.other W159 (Or.inl ne125)
      have B167 := B150.other W159 (Or.inl ne125)
      have B168 := B151.other W159 (Or.inl ne125)
      have B169 := B152.other W159 (Or.inl ne125)
      have B170 := B153.other W159 ne126
      have B171 : Arv Z h159 b123 k123 .boolean (3 : Int32) [(.int (nar .boolean z140)), (.int (nar .boolean z157)), (.int 0)] (.int 0) := Arv.set Ar159 q159 S159 NN159 H159 G159 (fits_nar_bool _) W159 1 rfl (Nat.le_of_ble_eq_true rfl)
      have N172 := Fr.snoc X159 N155 g124
      have Z173 : n0 ≤ h159.size := Nat.le_trans Z156 (Keep.of_wr W159).1
      refine own_via (fun k => XS.dup X159.here hx rfl (hb hby at_77) rfl rfl (XS.iconst X159.here hx rfl (hb hby at_78) (XS.iloadN X159.here hx rfl (hb hby at_79) rfl  (XS.iconst X159.here hx rfl (hb hby at_80) k)))) ?_
      show own_Go p e below s _ _ (T159.setTop (mkF m 81 #[iv p0, iv p1, iv p2, rv b1, jv 0, .second, jv 1, .second, jv 2, .second, rv b66, .unset, .unset, .unset, .unset, .unset, .unset, .unset, .unset, .unset, .unset, .unset] [(.int 4), (.int p1), (.int 2), (.ref b123), (.ref b123)]))
      refine own_via (fun k => XS.iand X159.here hx rfl (hb hby at_81) rfl k) ?_
      show own_Go p e below s _ _ (T159.setTop (mkF m 82 #[iv p0, iv p1, iv p2, rv b1, jv 0, .second, jv 1, .second, jv 2, .second, rv b66, .unset, .unset, .unset, .unset, .unset, .unset, .unset, .unset, .unset, .unset, .unset] [(.int (p1 &&& (4 : Int32))), (.int 2), (.ref b123), (.ref b123)]))
      have J175 : ∀ (z174 : Int32), z174 = (if (p1 &&& (4 : Int32)) = (0 : Int32) then (0 : Int32) else (1 : Int32)) → own_Go p e below s (Q0 Z p0 p1 p2 h0 n0) (room_1.cells, room_1.slots) (T159.setTop (mkF m 90 #[iv p0, iv p1, iv p2, rv b1, jv 0, .second, jv 1, .second, jv 2, .second, rv b66, .unset, .unset, .unset, .unset, .unset, .unset, .unset, .unset, .unset, .unset, .unset] [(.int z174), (.int 2), (.ref b123), (.ref b123)])) := by
        intro z174 hz174
        obtain ⟨cl176, Ar176, q176, S176, NN176, H176, G176⟩ := id B171
        have hin176 : ¬ ((2 : Int32) < 0 ∨ cl176.slots.size ≤ ((2 : Int32)).toNatClampNeg) := inb_of S176 ⟨by decide, by decide⟩
        obtain ⟨T176, h176, X176, e176, W176, st176⟩ := stZ X159 hx hZ e159 Ar176 (j := (2 : Int32)) hin176 (g := (mkF m 90 #[iv p0, iv p1, iv p2, rv b1, jv 0, .second, jv 1, .second, jv 2, .second, rv b66, .unset, .unset, .unset, .unset, .unset, .unset, .unset, .unset, .unset, .unset, .unset] [(.int z174), (.int 2), (.ref b123), (.ref b123)])) rfl rfl (hb hby at_90)
        refine own_via (fun k => st176 _ k) ?_
        show own_Go p e below s _ _ (T176.setTop (mkF m 91 #[iv p0, iv p1, iv p2, rv b1, jv 0, .second, jv 1, .second, jv 2, .second, rv b66, .unset, .unset, .unset, .unset, .unset, .unset, .unset, .unset, .unset, .unset, .unset] [(.ref b123)]))
        have B177 := B160.wr W176
        have B178 := B161.other W176 (Or.inl ne125)
        have B179 := B162.other W176 (Or.inl ne125)
        have B180 := B163.other W176 (Or.inl ne125)
        have B181 := B164.other W176 (Or.inl ne125)
        have B182 := B165.other W176 (Or.inl ne125)
        have B183 := B166.other W176 (Or.inl ne125)
        have B184 := B167.other W176 (Or.inl ne125)
        have B185 := B168.other W176 (Or.inl ne125)
        have B186 := B169.other W176 (Or.inl ne125)
        have B187 := B170.other W176 ne126
        have B188 : Arv Z h176 b123 k123 .boolean (3 : Int32) [(.int (nar .boolean z140)), (.int (nar .boolean z157)), (.int (nar .boolean z174))] (.int 0) := Arv.set Ar176 q176 S176 NN176 H176 G176 (fits_nar_bool _) W176 2 rfl (Nat.le_of_ble_eq_true rfl)
        have N189 := Fr.snoc X176 N172 g124
        have Z190 : n0 ≤ h176.size := Nat.le_trans Z173 (Keep.of_wr W176).1
        refine own_via (fun k => XS.astore X176.here hx rfl (hb hby at_91) rfl rfl (l' := #[iv p0, iv p1, iv p2, rv b1, jv 0, .second, jv 1, .second, jv 2, .second, rv b66, rv b123, .unset, .unset, .unset, .unset, .unset, .unset, .unset, .unset, .unset, .unset]) rfl (XS.iconst X176.here hx rfl (hb hby at_93) k)) ?_
        show own_Go p e below s _ _ (T176.setTop (mkF m 94 #[iv p0, iv p1, iv p2, rv b1, jv 0, .second, jv 1, .second, jv 2, .second, rv b66, rv b123, .unset, .unset, .unset, .unset, .unset, .unset, .unset, .unset, .unset, .unset] [(.int 3)]))
        obtain ⟨T191, h191, k191, X191, e191, E191, A191, st191⟩ := newP X176 hx hZ (hw _ (List.mem_of_getElem? (i := 29) rfl)) e176 (g := (mkF m 94 #[iv p0, iv p1, iv p2, rv b1, jv 0, .second, jv 1, .second, jv 2, .second, rv b66, rv b123, .unset, .unset, .unset, .unset, .unset, .unset, .unset, .unset, .unset, .unset] [(.int 3)])) rfl (hb hby at_94) rfl (by decide) (cap := 3) (by decide) (by decide) (by decide) (by decide)
        obtain ⟨b191, g191⟩ : ∃ z, z = h176.size := ⟨_, rfl⟩
        rw [← g191] at A191 st191
        refine own_via (fun k => st191 _ k) ?_
        show own_Go p e below s _ _ (T191.setTop (mkF m 96 #[iv p0, iv p1, iv p2, rv b1, jv 0, .second, jv 1, .second, jv 2, .second, rv b66, rv b123, .unset, .unset, .unset, .unset, .unset, .unset, .unset, .unset, .unset, .unset] [(.ref b191)]))
        have g192 : n0 ≤ b191 := Nat.le_trans Z190 (Nat.le_of_eq g191.symm)
        have ne193 : b1 ≠ b191 := Nat.ne_of_lt (Nat.lt_of_lt_of_le B177.lt (Nat.le_of_eq g191.symm))
        have ne194 : b66 ≠ b191 := Nat.ne_of_lt (Nat.lt_of_lt_of_le B187.lt (Nat.le_of_eq g191.symm))
        have ne195 : b123 ≠ b191 := Nat.ne_of_lt (Nat.lt_of_lt_of_le B188.lt (Nat.le_of_eq g191.symm))
        have B196 := B177.ext E191
        have B197 := B178.ext E191
        have B198 := B179.ext E191
        have B199 := B180.ext E191
        have B200 := B181.ext E191
        have B201 := B182.ext E191
        have B202 := B183.ext E191
        have B203 := B184.ext E191
        have B204 := B185.ext E191
        have B205 := B186.ext E191
        have B206 := B187.ext E191
        have B207 := B188.ext E191
        have Z208 : n0 ≤ h191.size := Nat.le_trans Z190 E191.1
        have B209 : Arv Z h191 b191 k191 .boolean (3 : Int32) [(.int 0), (.int 0), (.int 0)] (.int 0) := (Arv.new A191 (by decide)).pad (pad_rep [] (.int 0) 3)
        refine own_via (fun k => XS.dup X191.here hx rfl (hb hby at_96) rfl rfl (XS.iconst X191.here hx rfl (hb hby at_97) (XS.iloadN X191.here hx rfl (hb hby at_98) rfl  (XS.iconst X191.here hx rfl (hb hby at_99) k)))) ?_
        show own_Go p e below s _ _ (T191.setTop (mkF m 100 #[iv p0, iv p1, iv p2, rv b1, jv 0, .second, jv 1, .second, jv 2, .second, rv b66, rv b123, .unset, .unset, .unset, .unset, .unset, .unset, .unset, .unset, .unset, .unset] [(.int 1), (.int p2), (.int 0), (.ref b191), (.ref b191)]))
        refine own_via (fun k => XS.iand X191.here hx rfl (hb hby at_100) rfl k) ?_
        show own_Go p e below s _ _ (T191.setTop (mkF m 101 #[iv p0, iv p1, iv p2, rv b1, jv 0, .second, jv 1, .second, jv 2, .second, rv b66, rv b123, .unset, .unset, .unset, .unset, .unset, .unset, .unset, .unset, .unset, .unset] [(.int (p2 &&& (1 : Int32))), (.int 0), (.ref b191), (.ref b191)]))
        have J211 : ∀ (z210 : Int32), z210 = (if (p2 &&& (1 : Int32)) = (0 : Int32) then (0 : Int32) else (1 : Int32)) → own_Go p e below s (Q0 Z p0 p1 p2 h0 n0) (room_1.cells, room_1.slots) (T191.setTop (mkF m 109 #[iv p0, iv p1, iv p2, rv b1, jv 0, .second, jv 1, .second, jv 2, .second, rv b66, rv b123, .unset, .unset, .unset, .unset, .unset, .unset, .unset, .unset, .unset, .unset] [(.int z210), (.int 0), (.ref b191), (.ref b191)])) := by
          intro z210 hz210
          obtain ⟨cl212, Ar212, q212, S212, NN212, H212, G212⟩ := id B209
          have hin212 : ¬ ((0 : Int32) < 0 ∨ cl212.slots.size ≤ ((0 : Int32)).toNatClampNeg) := inb_of S212 ⟨by decide, by decide⟩
          obtain ⟨T212, h212, X212, e212, W212, st212⟩ := stZ X191 hx hZ e191 Ar212 (j := (0 : Int32)) hin212 (g := (mkF m 109 #[iv p0, iv p1, iv p2, rv b1, jv 0, .second, jv 1, .second, jv 2, .second, rv b66, rv b123, .unset, .unset, .unset, .unset, .unset, .unset, .unset, .unset, .unset, .unset] [(.int z210), (.int 0), (.ref b191), (.ref b191)])) rfl rfl (hb hby at_109)
          refine own_via (fun k => st212 _ k) ?_
          show own_Go p e below s _ _ (T212.setTop (mkF m 110 #[iv p0, iv p1, iv p2, rv b1, jv 0, .second, jv 1, .second, jv 2, .second, rv b66, rv b123, .unset, .unset, .unset, .unset, .unset, .unset, .unset, .unset, .unset, .unset] [(.ref b191)]))
          have B213 := B196.wr W212
          have B214 := B197.other W212 (Or.inl ne193)
          have B215 := B198.other W212 (Or.inl ne193)
          have B216 := B199.other W212 (Or.inl ne193)
          have B217 := B200.other W212 (Or.inl ne193)
          have B218 := B201.other W212 (Or.inl ne193)
          have B219 := B202.other W212 (Or.inl ne193)
          have B220 := B203.other W212 (Or.inl ne193)
          have B221 := B204.other W212 (Or.inl ne193)
          have B222 := B205.other W212 (Or.inl ne193)
          have B223 := B206.other W212 ne194
          have B224 := B207.other W212 ne195
          have B225 : Arv Z h212 b191 k191 .boolean (3 : Int32) [(.int (nar .boolean z210)), (.int 0), (.int 0)] (.int 0) := Arv.set Ar212 q212 S212 NN212 H212 G212 (fits_nar_bool _) W212 0 rfl (Nat.le_of_ble_eq_true rfl)
          have N226 := Fr.snoc X212 N189 g192
          have Z227 : n0 ≤ h212.size := Nat.le_trans Z208 (Keep.of_wr W212).1
          refine own_via (fun k => XS.dup X212.here hx rfl (hb hby at_110) rfl rfl (XS.iconst X212.here hx rfl (hb hby at_111) (XS.iloadN X212.here hx rfl (hb hby at_112) rfl  (XS.iconst X212.here hx rfl (hb hby at_113) k)))) ?_
          show own_Go p e below s _ _ (T212.setTop (mkF m 114 #[iv p0, iv p1, iv p2, rv b1, jv 0, .second, jv 1, .second, jv 2, .second, rv b66, rv b123, .unset, .unset, .unset, .unset, .unset, .unset, .unset, .unset, .unset, .unset] [(.int 2), (.int p2), (.int 1), (.ref b191), (.ref b191)]))
          refine own_via (fun k => XS.iand X212.here hx rfl (hb hby at_114) rfl k) ?_
          show own_Go p e below s _ _ (T212.setTop (mkF m 115 #[iv p0, iv p1, iv p2, rv b1, jv 0, .second, jv 1, .second, jv 2, .second, rv b66, rv b123, .unset, .unset, .unset, .unset, .unset, .unset, .unset, .unset, .unset, .unset] [(.int (p2 &&& (2 : Int32))), (.int 1), (.ref b191), (.ref b191)]))
          have J229 : ∀ (z228 : Int32), z228 = (if (p2 &&& (2 : Int32)) = (0 : Int32) then (0 : Int32) else (1 : Int32)) → own_Go p e below s (Q0 Z p0 p1 p2 h0 n0) (room_1.cells, room_1.slots) (T212.setTop (mkF m 123 #[iv p0, iv p1, iv p2, rv b1, jv 0, .second, jv 1, .second, jv 2, .second, rv b66, rv b123, .unset, .unset, .unset, .unset, .unset, .unset, .unset, .unset, .unset, .unset] [(.int z228), (.int 1), (.ref b191), (.ref b191)])) := by
            intro z228 hz228
            obtain ⟨cl230, Ar230, q230, S230, NN230, H230, G230⟩ := id B225
            have hin230 : ¬ ((1 : Int32) < 0 ∨ cl230.slots.size ≤ ((1 : Int32)).toNatClampNeg) := inb_of S230 ⟨by decide, by decide⟩
            obtain ⟨T230, h230, X230, e230, W230, st230⟩ := stZ X212 hx hZ e212 Ar230 (j := (1 : Int32)) hin230 (g := (mkF m 123 #[iv p0, iv p1, iv p2, rv b1, jv 0, .second, jv 1, .second, jv 2, .second, rv b66, rv b123, .unset, .unset, .unset, .unset, .unset, .unset, .unset, .unset, .unset, .unset] [(.int z228), (.int 1), (.ref b191), (.ref b191)])) rfl rfl (hb hby at_123)
            refine own_via (fun k => st230 _ k) ?_
            show own_Go p e below s _ _ (T230.setTop (mkF m 124 #[iv p0, iv p1, iv p2, rv b1, jv 0, .second, jv 1, .second, jv 2, .second, rv b66, rv b123, .unset, .unset, .unset, .unset, .unset, .unset, .unset, .unset, .unset, .unset] [(.ref b191)]))
            have B231 := B213.wr W230
            have B232 := B214.other W230 (Or.inl ne193)
            have B233 := B215.other W230 (Or.inl ne193)
            have B234 := B216.other W230 (Or.inl ne193)
            have B235 := B217.other W230 (Or.inl ne193)
            have B236 := B218.other W230 (Or.inl ne193)
            have B237 := B219.other W230 (Or.inl ne193)
            have B238 := B220.other W230 (Or.inl ne193)
            have B239 := B221.other W230 (Or.inl ne193)
            have B240 := B222.other W230 (Or.inl ne193)
            have B241 := B223.other W230 ne194
            have B242 := B224.other W230 ne195
            have B243 : Arv Z h230 b191 k191 .boolean (3 : Int32) [(.int (nar .boolean z210)), (.int (nar .boolean z228)), (.int 0)] (.int 0) := Arv.set Ar230 q230 S230 NN230 H230 G230 (fits_nar_bool _) W230 1 rfl (Nat.le_of_ble_eq_true rfl)
            have N244 := Fr.snoc X230 N226 g192
            have Z245 : n0 ≤ h230.size := Nat.le_trans Z227 (Keep.of_wr W230).1
            refine own_via (fun k => XS.dup X230.here hx rfl (hb hby at_124) rfl rfl (XS.iconst X230.here hx rfl (hb hby at_125) (XS.iloadN X230.here hx rfl (hb hby at_126) rfl  (XS.iconst X230.here hx rfl (hb hby at_127) k)))) ?_
            show own_Go p e below s _ _ (T230.setTop (mkF m 128 #[iv p0, iv p1, iv p2, rv b1, jv 0, .second, jv 1, .second, jv 2, .second, rv b66, rv b123, .unset, .unset, .unset, .unset, .unset, .unset, .unset, .unset, .unset, .unset] [(.int 4), (.int p2), (.int 2), (.ref b191), (.ref b191)]))
            refine own_via (fun k => XS.iand X230.here hx rfl (hb hby at_128) rfl k) ?_
            show own_Go p e below s _ _ (T230.setTop (mkF m 129 #[iv p0, iv p1, iv p2, rv b1, jv 0, .second, jv 1, .second, jv 2, .second, rv b66, rv b123, .unset, .unset, .unset, .unset, .unset, .unset, .unset, .unset, .unset, .unset] [(.int (p2 &&& (4 : Int32))), (.int 2), (.ref b191), (.ref b191)]))
            have J247 : ∀ (z246 : Int32), z246 = (if (p2 &&& (4 : Int32)) = (0 : Int32) then (0 : Int32) else (1 : Int32)) → own_Go p e below s (Q0 Z p0 p1 p2 h0 n0) (room_1.cells, room_1.slots) (T230.setTop (mkF m 137 #[iv p0, iv p1, iv p2, rv b1, jv 0, .second, jv 1, .second, jv 2, .second, rv b66, rv b123, .unset, .unset, .unset, .unset, .unset, .unset, .unset, .unset, .unset, .unset] [(.int z246), (.int 2), (.ref b191), (.ref b191)])) := by
              intro z246 hz246
              obtain ⟨cl248, Ar248, q248, S248, NN248, H248, G248⟩ := id B243
              have hin248 : ¬ ((2 : Int32) < 0 ∨ cl248.slots.size ≤ ((2 : Int32)).toNatClampNeg) := inb_of S248 ⟨by decide, by decide⟩
              obtain ⟨T248, h248, X248, e248, W248, st248⟩ := stZ X230 hx hZ e230 Ar248 (j := (2 : Int32)) hin248 (g := (mkF m 137 #[iv p0, iv p1, iv p2, rv b1, jv 0, .second, jv 1, .second, jv 2, .second, rv b66, rv b123, .unset, .unset, .unset, .unset, .unset, .unset, .unset, .unset, .unset, .unset] [(.int z246), (.int 2), (.ref b191), (.ref b191)])) rfl rfl (hb hby at_137)
              refine own_via (fun k => st248 _ k) ?_
              show own_Go p e below s _ _ (T248.setTop (mkF m 138 #[iv p0, iv p1, iv p2, rv b1, jv 0, .second, jv 1, .second, jv 2, .second, rv b66, rv b123, .unset, .unset, .unset, .unset, .unset, .unset, .unset, .unset, .unset, .unset] [(.ref b191)]))
              have B249 := B231.wr W248
              have B250 := B232.other W248 (Or.inl ne193)
              have B251 := B233.other W248 (Or.inl ne193)
              have B252 := B234.other W248 (Or.inl ne193)
              have B253 := B235.other W248 (Or.inl ne193)
              have B254 := B236.other W248 (Or.inl ne193)
              have B255 := B237.other W248 (Or.inl ne193)
              have B256 := B238.other W248 (Or.inl ne193)
              have B257 := B239.other W248 (Or.inl ne193)
              have B258 := B240.other W248 (Or.inl ne193)
              have B259 := B241.other W248 ne194
              have B260 := B242.other W248 ne195
              have B261 : Arv Z h248 b191 k191 .boolean (3 : Int32) [(.int (nar .boolean z210)), (.int (nar .boolean z228)), (.int (nar .boolean z246))] (.int 0) := Arv.set Ar248 q248 S248 NN248 H248 G248 (fits_nar_bool _) W248 2 rfl (Nat.le_of_ble_eq_true rfl)
              have N262 := Fr.snoc X248 N244 g192
              have Z263 : n0 ≤ h248.size := Nat.le_trans Z245 (Keep.of_wr W248).1
              refine own_via (fun k => XS.astore X248.here hx rfl (hb hby at_138) rfl rfl (l' := #[iv p0, iv p1, iv p2, rv b1, jv 0, .second, jv 1, .second, jv 2, .second, rv b66, rv b123, rv b191, .unset, .unset, .unset, .unset, .unset, .unset, .unset, .unset, .unset]) rfl (XS.iloadN X248.here hx rfl (hb hby at_140) rfl  (X248.ldcInt hx hown (mvT hZ (hw _ (List.mem_of_getElem? (i := 30) rfl))) (g := (mkF m 141 #[iv p0, iv p1, iv p2, rv b1, jv 0, .second, jv 1, .second, jv 2, .second, rv b66, rv b123, rv b191, .unset, .unset, .unset, .unset, .unset, .unset, .unset, .unset, .unset] [(.int p0)])) rfl (hb hby at_141) _ (XS.iand X248.here hx rfl (hb hby at_143) rfl k)))) ?_
              show own_Go p e below s _ _ (T248.setTop (mkF m 144 #[iv p0, iv p1, iv p2, rv b1, jv 0, .second, jv 1, .second, jv 2, .second, rv b66, rv b123, rv b191, .unset, .unset, .unset, .unset, .unset, .unset, .unset, .unset, .unset] [(.int (p0 &&& (2147483647 : Int32)))]))
              refine own_via (fun k => XS.bipush X248.here hx rfl (hb hby at_144) (Jvm.RoadKit.iremM X248 hx rfl (hb hby at_146) rfl (by decide) (XS.istore X248.here hx rfl (hb hby at_147) rfl (l' := #[iv p0, iv p1, iv p2, rv b1, jv 0, .second, jv 1, .second, jv 2, .second, rv b66, rv b123, rv b191, iv ((p0 &&& (2147483647 : Int32)) % (6 : Int32)), .unset, .unset, .unset, .unset, .unset, .unset, .unset, .unset]) rfl k))) ?_
              show own_Go p e below s _ _ (T248.setTop (mkF m 149 #[iv p0, iv p1, iv p2, rv b1, jv 0, .second, jv 1, .second, jv 2, .second, rv b66, rv b123, rv b191, iv ((p0 &&& (2147483647 : Int32)) % (6 : Int32)), .unset, .unset, .unset, .unset, .unset, .unset, .unset, .unset] []))
              rcases ((own_len p0) : ((p0 &&& (2147483647 : Int32)) % (6 : Int32)) = (0 : Int32) ∨ ((p0 &&& (2147483647 : Int32)) % (6 : Int32)) = (1 : Int32) ∨ ((p0 &&& (2147483647 : Int32)) % (6 : Int32)) = (2 : Int32) ∨ ((p0 &&& (2147483647 : Int32)) % (6 : Int32)) = (3 : Int32) ∨ ((p0 &&& (2147483647 : Int32)) % (6 : Int32)) = (4 : Int32) ∨ ((p0 &&& (2147483647 : Int32)) % (6 : Int32)) = (5 : Int32)) with hl264 | hl264 | hl264 | hl264 | hl264 | hl264
              · rw [hl264]
                show own_Go p e below s _ _ (T248.setTop (mkF m 149 #[iv p0, iv p1, iv p2, rv b1, jv 0, .second, jv 1, .second, jv 2, .second, rv b66, rv b123, rv b191, iv 0, .unset, .unset, .unset, .unset, .unset, .unset, .unset, .unset] []))
                refine own_via (fun k => XS.iload X248.here hx rfl (hb hby at_149) rfl  (XS.iconst X248.here hx rfl (hb hby at_151) (XS.idiv X248.here hx rfl (hb hby at_152) rfl (by decide) k))) ?_
                show own_Go p e below s _ _ (T248.setTop (mkF m 153 #[iv p0, iv p1, iv p2, rv b1, jv 0, .second, jv 1, .second, jv 2, .second, rv b66, rv b123, rv b191, iv 0, .unset, .unset, .unset, .unset, .unset, .unset, .unset, .unset] [(.int ((0 : Int32) / (2 : Int32)))]))
                rw [show ((0 : Int32) / (2 : Int32)) = (0 : Int32) from by decide]
                show own_Go p e below s _ _ (T248.setTop (mkF m 153 #[iv p0, iv p1, iv p2, rv b1, jv 0, .second, jv 1, .second, jv 2, .second, rv b66, rv b123, rv b191, iv 0, .unset, .unset, .unset, .unset, .unset, .unset, .unset, .unset] [(.int 0)]))
                refine own_via (fun k => XS.istore X248.here hx rfl (hb hby at_153) rfl (l' := #[iv p0, iv p1, iv p2, rv b1, jv 0, .second, jv 1, .second, jv 2, .second, rv b66, rv b123, rv b191, iv 0, iv 0, .unset, .unset, .unset, .unset, .unset, .unset, .unset]) rfl (XS.iload X248.here hx rfl (hb hby at_155) rfl  k)) ?_
                show own_Go p e below s _ _ (T248.setTop (mkF m 157 #[iv p0, iv p1, iv p2, rv b1, jv 0, .second, jv 1, .second, jv 2, .second, rv b66, rv b123, rv b191, iv 0, iv 0, .unset, .unset, .unset, .unset, .unset, .unset, .unset] [(.int 0)]))
                refine own_via (fun k => XS.ifNo X248.here hx rfl (hb hby at_157) rfl (by decide) k) ?_
                show own_Go p e below s _ _ (T248.setTop (mkF m 160 #[iv p0, iv p1, iv p2, rv b1, jv 0, .second, jv 1, .second, jv 2, .second, rv b66, rv b123, rv b191, iv 0, iv 0, .unset, .unset, .unset, .unset, .unset, .unset, .unset] []))
                refine own_via (fun k => XS.iconst X248.here hx rfl (hb hby at_160) (XS.goto X248.here hx rfl (pc0 := 161) (pc' := 165) rfl (hb hby at_161) (by decide) (by decide) (XS.istore X248.here hx rfl (hb hby at_165) rfl (l' := #[iv p0, iv p1, iv p2, rv b1, jv 0, .second, jv 1, .second, jv 2, .second, rv b66, rv b123, rv b191, iv 0, iv 0, iv 1, .unset, .unset, .unset, .unset, .unset, .unset]) rfl (XS.iload X248.here hx rfl (hb hby at_167) rfl  k)))) ?_
                show own_Go p e below s _ _ (T248.setTop (mkF m 169 #[iv p0, iv p1, iv p2, rv b1, jv 0, .second, jv 1, .second, jv 2, .second, rv b66, rv b123, rv b191, iv 0, iv 0, iv 1, .unset, .unset, .unset, .unset, .unset, .unset] [(.int 0)]))
                refine own_via (fun k => XS.iconst X248.here hx rfl (hb hby at_169) k) ?_
                show own_Go p e below s _ _ (T248.setTop (mkF m 170 #[iv p0, iv p1, iv p2, rv b1, jv 0, .second, jv 1, .second, jv 2, .second, rv b66, rv b123, rv b191, iv 0, iv 0, iv 1, .unset, .unset, .unset, .unset, .unset, .unset] [(.int 2), (.int 0)]))
                refine own_via (fun k => XS.icmpYes X248.here hx rfl (pc0 := 170) (pc' := 177) rfl (hb hby at_170) rfl (by decide) (by decide) (by decide) k) ?_
                show own_Go p e below s _ _ (T248.setTop (mkF m 177 #[iv p0, iv p1, iv p2, rv b1, jv 0, .second, jv 1, .second, jv 2, .second, rv b66, rv b123, rv b191, iv 0, iv 0, iv 1, .unset, .unset, .unset, .unset, .unset, .unset] []))
                refine own_via (fun k => XS.iconst X248.here hx rfl (hb hby at_177) (XS.istore X248.here hx rfl (hb hby at_178) rfl (l' := #[iv p0, iv p1, iv p2, rv b1, jv 0, .second, jv 1, .second, jv 2, .second, rv b66, rv b123, rv b191, iv 0, iv 0, iv 1, iv 2, .unset, .unset, .unset, .unset, .unset]) rfl (XS.iload X248.here hx rfl (hb hby at_180) rfl  (XS.iconst X248.here hx rfl (hb hby at_182) k)))) ?_
                show own_Go p e below s _ _ (T248.setTop (mkF m 183 #[iv p0, iv p1, iv p2, rv b1, jv 0, .second, jv 1, .second, jv 2, .second, rv b66, rv b123, rv b191, iv 0, iv 0, iv 1, iv 2, .unset, .unset, .unset, .unset, .unset] [(.int 2), (.int 0)]))
                refine own_via (fun k => Jvm.RoadKit.iremM X248 hx rfl (hb hby at_183) rfl (by decide) k) ?_
                show own_Go p e below s _ _ (T248.setTop (mkF m 184 #[iv p0, iv p1, iv p2, rv b1, jv 0, .second, jv 1, .second, jv 2, .second, rv b66, rv b123, rv b191, iv 0, iv 0, iv 1, iv 2, .unset, .unset, .unset, .unset, .unset] [(.int ((0 : Int32) % (2 : Int32)))]))
                rw [show ((0 : Int32) % (2 : Int32)) = (0 : Int32) from by decide]
                show own_Go p e below s _ _ (T248.setTop (mkF m 184 #[iv p0, iv p1, iv p2, rv b1, jv 0, .second, jv 1, .second, jv 2, .second, rv b66, rv b123, rv b191, iv 0, iv 0, iv 1, iv 2, .unset, .unset, .unset, .unset, .unset] [(.int 0)]))
                refine own_via (fun k => XS.ifNo X248.here hx rfl (hb hby at_184) rfl (by decide) k) ?_
                show own_Go p e below s _ _ (T248.setTop (mkF m 187 #[iv p0, iv p1, iv p2, rv b1, jv 0, .second, jv 1, .second, jv 2, .second, rv b66, rv b123, rv b191, iv 0, iv 0, iv 1, iv 2, .unset, .unset, .unset, .unset, .unset] []))
                refine own_via (fun k => XS.iload X248.here hx rfl (hb hby at_187) rfl  (XS.goto X248.here hx rfl (pc0 := 189) (pc' := 194) rfl (hb hby at_189) (by decide) (by decide) (XS.istore X248.here hx rfl (hb hby at_194) rfl (l' := #[iv p0, iv p1, iv p2, rv b1, jv 0, .second, jv 1, .second, jv 2, .second, rv b66, rv b123, rv b191, iv 0, iv 0, iv 1, iv 2, iv 1, .unset, .unset, .unset, .unset]) rfl (XS.iload X248.here hx rfl (hb hby at_196) rfl  k)))) ?_
                show own_Go p e below s _ _ (T248.setTop (mkF m 198 #[iv p0, iv p1, iv p2, rv b1, jv 0, .second, jv 1, .second, jv 2, .second, rv b66, rv b123, rv b191, iv 0, iv 0, iv 1, iv 2, iv 1, .unset, .unset, .unset, .unset] [(.int 0)]))
                refine own_via (fun k => XS.iconst X248.here hx rfl (hb hby at_198) (Jvm.RoadKit.iremM X248 hx rfl (hb hby at_199) rfl (by decide) k)) ?_
                show own_Go p e below s _ _ (T248.setTop (mkF m 200 #[iv p0, iv p1, iv p2, rv b1, jv 0, .second, jv 1, .second, jv 2, .second, rv b66, rv b123, rv b191, iv 0, iv 0, iv 1, iv 2, iv 1, .unset, .unset, .unset, .unset] [(.int ((0 : Int32) % (2 : Int32)))]))
                rw [show ((0 : Int32) % (2 : Int32)) = (0 : Int32) from by decide]
                show own_Go p e below s _ _ (T248.setTop (mkF m 200 #[iv p0, iv p1, iv p2, rv b1, jv 0, .second, jv 1, .second, jv 2, .second, rv b66, rv b123, rv b191, iv 0, iv 0, iv 1, iv 2, iv 1, .unset, .unset, .unset, .unset] [(.int 0)]))
                refine own_via (fun k => XS.ifNo X248.here hx rfl (hb hby at_200) rfl (by decide) k) ?_
                show own_Go p e below s _ _ (T248.setTop (mkF m 203 #[iv p0, iv p1, iv p2, rv b1, jv 0, .second, jv 1, .second, jv 2, .second, rv b66, rv b123, rv b191, iv 0, iv 0, iv 1, iv 2, iv 1, .unset, .unset, .unset, .unset] []))
                refine own_via (fun k => XS.iload X248.here hx rfl (hb hby at_203) rfl  (XS.goto X248.here hx rfl (pc0 := 205) (pc' := 210) rfl (hb hby at_205) (by decide) (by decide) (XS.istore X248.here hx rfl (hb hby at_210) rfl (l' := #[iv p0, iv p1, iv p2, rv b1, jv 0, .second, jv 1, .second, jv 2, .second, rv b66, rv b123, rv b191, iv 0, iv 0, iv 1, iv 2, iv 1, iv 2, .unset, .unset, .unset]) rfl (XS.aloadN X248.here hx rfl (hb hby at_212) rfl rfl  k)))) ?_
                show own_Go p e below s _ _ (T248.setTop (mkF m 213 #[iv p0, iv p1, iv p2, rv b1, jv 0, .second, jv 1, .second, jv 2, .second, rv b66, rv b123, rv b191, iv 0, iv 0, iv 1, iv 2, iv 1, iv 2, .unset, .unset, .unset] [(.ref b1)]))
                refine own_via (fun k => XS.aload X248.here hx rfl (hb hby at_213) rfl rfl  (XS.aload X248.here hx rfl (hb hby at_215) rfl rfl  (XS.aload X248.here hx rfl (hb hby at_217) rfl rfl  (XS.iload X248.here hx rfl (hb hby at_219) rfl  k)))) ?_
                show own_Go p e below s _ _ (T248.setTop (mkF m 221 #[iv p0, iv p1, iv p2, rv b1, jv 0, .second, jv 1, .second, jv 2, .second, rv b66, rv b123, rv b191, iv 0, iv 0, iv 1, iv 2, iv 1, iv 2, .unset, .unset, .unset] [(.int 0), (.ref b191), (.ref b123), (.ref b66), (.ref b1)]))
                obtain ⟨_, _, ⟨T265, L265, k265, n265⟩, -, X265, ⟨Lc265, hQ265, l265, y265, z265⟩, st265⟩ := Jvm.LawKit.callS X248 hx (y := (⟨"com/example/tree_to_rows/treetorows/query/OutcomesSetPinLaw", "step", "(Lcom/example/tree_to_rows/treetorows/query/Outcomes;[J[Z[ZI)V"⟩ : MethodName)) hown (mvT hZ (hw _ (List.mem_of_getElem? (i := 31) rfl))) (mvT hZ (hw _ (List.mem_of_getElem? (i := 32) rfl))) (mvT hZ (hw _ (List.mem_of_getElem? (i := 33) rfl))) (mvT hZ (hw _ (List.mem_of_getElem? (i := 34) rfl))) (by decide) (backOf (W := 0) (rm5_0 l Z aw hw [] b1 b66 b123 b191 (3 : Int32) (3 : Int32) (3 : Int64) (0 : Int64) (0 : Int32) (0 : Int64) (0 : Int32) (0 : Int64) k66 k123 k191 (nar .boolean z140) (nar .boolean z157) (nar .boolean z174) (nar .boolean z210) (nar .boolean z228) (nar .boolean z246) h248 n0 Z263 B250 B251 B252 B253 B254 B255 B256 B257 B258 B249 B259 B260 B261 g2 (Ne.symm ne68) (Ne.symm ne125) (Ne.symm ne193)) hZ (hw _ (List.mem_of_getElem? (i := 34) rfl)) (hw _ (List.mem_of_getElem? (i := 33) rfl)) (by decide) (by decide)) (g := (mkF m 221 #[iv p0, iv p1, iv p2, rv b1, jv 0, .second, jv 1, .second, jv 2, .second, rv b66, rv b123, rv b191, iv 0, iv 0, iv 1, iv 2, iv 1, iv 2, .unset, .unset, .unset] [(.int 0), (.ref b191), (.ref b123), (.ref b66), (.ref b1)])) rfl (by rw [hml]; rfl) (argsL := [(.ref b1), (.ref b66), (.ref b123), (.ref b191), (.int 0)]) (rest := []) (lenOf pd_2 rfl) rfl (by show 2 * 0 + _ ≤ _; exact Nat.le_of_eq rfl) (hb hby at_221) (fun _ _ => ⟨rfl, e248, (by decide : 5 + 0 ≤ _), (by decide : 27 + 0 ≤ _)⟩)
                dsimp only [Pt.U, Pt.locs, Pt.cells, Pt.slots] at X265 l265 y265 z265 st265 hQ265
                subst l265 y265 z265
                obtain ⟨rfl, N265q, K265, B266, B267, B268, B269, B270, B271, B272, B273, B274⟩ := hQ265
                have N275 := Fr.app N262 N265q
                have B276 := B249.keep K265
                have B277 := B259.keep K265 (ninS (Ne.symm ne68) nin0)
                have B278 := B260.keep K265 (ninS (Ne.symm ne125) nin0)
                have B279 := B261.keep K265 (ninS (Ne.symm ne193) nin0)
                have Z280 : n0 ≤ T265.heap.size := Nat.le_trans Z263 K265.1
                obtain ⟨z281, hz281⟩ : ∃ z : Int32, z = (own_f5_0w (3 : Int32) (nar .boolean z140)) := ⟨_, rfl⟩
                rw [← hz281] at B268
                obtain ⟨z282, hz282⟩ : ∃ z : Int64, z = (own_f5_0c (0 : Int64) (nar .boolean z140) (nar .boolean z210)) := ⟨_, rfl⟩
                rw [← hz282] at B270
                refine own_via (fun k => st265 _ k) ?_
                show own_Go p e below s _ _ (T265.setTop (mkF m 224 #[iv p0, iv p1, iv p2, rv b1, jv 0, .second, jv 1, .second, jv 2, .second, rv b66, rv b123, rv b191, iv 0, iv 0, iv 1, iv 2, iv 1, iv 2, .unset, .unset, .unset] []))
                refine own_via (fun k => XS.aloadN X265.here hx rfl (hb hby at_224) rfl rfl  (XS.aload X265.here hx rfl (hb hby at_225) rfl rfl  (XS.aload X265.here hx rfl (hb hby at_227) rfl rfl  (XS.aload X265.here hx rfl (hb hby at_229) rfl rfl  k)))) ?_
                show own_Go p e below s _ _ (T265.setTop (mkF m 231 #[iv p0, iv p1, iv p2, rv b1, jv 0, .second, jv 1, .second, jv 2, .second, rv b66, rv b123, rv b191, iv 0, iv 0, iv 1, iv 2, iv 1, iv 2, .unset, .unset, .unset] [(.ref b191), (.ref b123), (.ref b66), (.ref b1)]))
                refine own_via (fun k => XS.iload X265.here hx rfl (hb hby at_231) rfl  k) ?_
                show own_Go p e below s _ _ (T265.setTop (mkF m 233 #[iv p0, iv p1, iv p2, rv b1, jv 0, .second, jv 1, .second, jv 2, .second, rv b66, rv b123, rv b191, iv 0, iv 0, iv 1, iv 2, iv 1, iv 2, .unset, .unset, .unset] [(.int 1), (.ref b191), (.ref b123), (.ref b66), (.ref b1)]))
                obtain ⟨_, _, ⟨T283, L283, k283, n283⟩, -, X283, ⟨Lc283, hQ283, l283, y283, z283⟩, st283⟩ := Jvm.LawKit.callS X265 hx (y := (⟨"com/example/tree_to_rows/treetorows/query/OutcomesSetPinLaw", "step", "(Lcom/example/tree_to_rows/treetorows/query/Outcomes;[J[Z[ZI)V"⟩ : MethodName)) hown (mvT hZ (hw _ (List.mem_of_getElem? (i := 31) rfl))) (mvT hZ (hw _ (List.mem_of_getElem? (i := 32) rfl))) (mvT hZ (hw _ (List.mem_of_getElem? (i := 33) rfl))) (mvT hZ (hw _ (List.mem_of_getElem? (i := 34) rfl))) (by decide) (backOf (W := 0) (rm5_1 l Z aw hw [] b1 b66 b123 b191 (3 : Int32) z281 (3 : Int64) z282 (0 : Int32) (0 : Int64) (0 : Int32) (0 : Int64) k66 k123 k191 (nar .boolean z140) (nar .boolean z157) (nar .boolean z174) (nar .boolean z210) (nar .boolean z228) (nar .boolean z246) T265.heap n0 Z280 B266 B267 B268 B269 B270 B271 B272 B273 B274 B276 B277 B278 B279 g2 (Ne.symm ne68) (Ne.symm ne125) (Ne.symm ne193)) hZ (hw _ (List.mem_of_getElem? (i := 34) rfl)) (hw _ (List.mem_of_getElem? (i := 33) rfl)) (by decide) (by decide)) (g := (mkF m 233 #[iv p0, iv p1, iv p2, rv b1, jv 0, .second, jv 1, .second, jv 2, .second, rv b66, rv b123, rv b191, iv 0, iv 0, iv 1, iv 2, iv 1, iv 2, .unset, .unset, .unset] [(.int 1), (.ref b191), (.ref b123), (.ref b66), (.ref b1)])) rfl (by rw [hml]; rfl) (argsL := [(.ref b1), (.ref b66), (.ref b123), (.ref b191), (.int 1)]) (rest := []) (lenOf pd_2 rfl) rfl (by show 2 * 0 + _ ≤ _; exact Nat.le_of_eq rfl) (hb hby at_233) (fun _ _ => ⟨rfl, rfl, (by decide : 5 + 0 ≤ _), (by decide : 27 + 0 ≤ _)⟩)
                dsimp only [Pt.U, Pt.locs, Pt.cells, Pt.slots] at X283 l283 y283 z283 st283 hQ283
                subst l283 y283 z283
                obtain ⟨rfl, N283q, K283, B284, B285, B286, B287, B288, B289, B290, B291, B292⟩ := hQ283
                have N293 := Fr.app N275 N283q
                have B294 := B276.keep K283
                have B295 := B277.keep K283 (ninS (Ne.symm ne68) nin0)
                have B296 := B278.keep K283 (ninS (Ne.symm ne125) nin0)
                have B297 := B279.keep K283 (ninS (Ne.symm ne193) nin0)
                have Z298 : n0 ≤ T283.heap.size := Nat.le_trans Z280 K283.1
                obtain ⟨z299, hz299⟩ : ∃ z : Int32, z = (own_f5_1w z281 (nar .boolean z157)) := ⟨_, rfl⟩
                rw [← hz299] at B286
                obtain ⟨z300, hz300⟩ : ∃ z : Int64, z = (own_f5_1c z282 (nar .boolean z157) (nar .boolean z228)) := ⟨_, rfl⟩
                rw [← hz300] at B288
                refine own_via (fun k => st283 _ k) ?_
                show own_Go p e below s _ _ (T283.setTop (mkF m 236 #[iv p0, iv p1, iv p2, rv b1, jv 0, .second, jv 1, .second, jv 2, .second, rv b66, rv b123, rv b191, iv 0, iv 0, iv 1, iv 2, iv 1, iv 2, .unset, .unset, .unset] []))
                refine own_via (fun k => XS.aloadN X283.here hx rfl (hb hby at_236) rfl rfl  (XS.aload X283.here hx rfl (hb hby at_237) rfl rfl  (XS.aload X283.here hx rfl (hb hby at_239) rfl rfl  (XS.aload X283.here hx rfl (hb hby at_241) rfl rfl  k)))) ?_
                show own_Go p e below s _ _ (T283.setTop (mkF m 243 #[iv p0, iv p1, iv p2, rv b1, jv 0, .second, jv 1, .second, jv 2, .second, rv b66, rv b123, rv b191, iv 0, iv 0, iv 1, iv 2, iv 1, iv 2, .unset, .unset, .unset] [(.ref b191), (.ref b123), (.ref b66), (.ref b1)]))
                refine own_via (fun k => XS.iload X283.here hx rfl (hb hby at_243) rfl  k) ?_
                show own_Go p e below s _ _ (T283.setTop (mkF m 245 #[iv p0, iv p1, iv p2, rv b1, jv 0, .second, jv 1, .second, jv 2, .second, rv b66, rv b123, rv b191, iv 0, iv 0, iv 1, iv 2, iv 1, iv 2, .unset, .unset, .unset] [(.int 2), (.ref b191), (.ref b123), (.ref b66), (.ref b1)]))
                obtain ⟨_, _, ⟨T301, L301, k301, n301⟩, -, X301, ⟨Lc301, hQ301, l301, y301, z301⟩, st301⟩ := Jvm.LawKit.callS X283 hx (y := (⟨"com/example/tree_to_rows/treetorows/query/OutcomesSetPinLaw", "step", "(Lcom/example/tree_to_rows/treetorows/query/Outcomes;[J[Z[ZI)V"⟩ : MethodName)) hown (mvT hZ (hw _ (List.mem_of_getElem? (i := 31) rfl))) (mvT hZ (hw _ (List.mem_of_getElem? (i := 32) rfl))) (mvT hZ (hw _ (List.mem_of_getElem? (i := 33) rfl))) (mvT hZ (hw _ (List.mem_of_getElem? (i := 34) rfl))) (by decide) (backOf (W := 0) (rm5_2 l Z aw hw [] b1 b66 b123 b191 (3 : Int32) z299 (3 : Int64) z300 (0 : Int32) (0 : Int64) (0 : Int32) (0 : Int64) k66 k123 k191 (nar .boolean z140) (nar .boolean z157) (nar .boolean z174) (nar .boolean z210) (nar .boolean z228) (nar .boolean z246) T283.heap n0 Z298 B284 B285 B286 B287 B288 B289 B290 B291 B292 B294 B295 B296 B297 g2 (Ne.symm ne68) (Ne.symm ne125) (Ne.symm ne193)) hZ (hw _ (List.mem_of_getElem? (i := 34) rfl)) (hw _ (List.mem_of_getElem? (i := 33) rfl)) (by decide) (by decide)) (g := (mkF m 245 #[iv p0, iv p1, iv p2, rv b1, jv 0, .second, jv 1, .second, jv 2, .second, rv b66, rv b123, rv b191, iv 0, iv 0, iv 1, iv 2, iv 1, iv 2, .unset, .unset, .unset] [(.int 2), (.ref b191), (.ref b123), (.ref b66), (.ref b1)])) rfl (by rw [hml]; rfl) (argsL := [(.ref b1), (.ref b66), (.ref b123), (.ref b191), (.int 2)]) (rest := []) (lenOf pd_2 rfl) rfl (by show 2 * 0 + _ ≤ _; exact Nat.le_of_eq rfl) (hb hby at_245) (fun _ _ => ⟨rfl, rfl, (by decide : 5 + 0 ≤ _), (by decide : 27 + 0 ≤ _)⟩)
                dsimp only [Pt.U, Pt.locs, Pt.cells, Pt.slots] at X301 l301 y301 z301 st301 hQ301
                subst l301 y301 z301
                obtain ⟨rfl, N301q, K301, B302, B303, B304, B305, B306, B307, B308, B309, B310⟩ := hQ301
                have N311 := Fr.app N293 N301q
                have B312 := B294.keep K301
                have B313 := B295.keep K301 (ninS (Ne.symm ne68) nin0)
                have B314 := B296.keep K301 (ninS (Ne.symm ne125) nin0)
                have B315 := B297.keep K301 (ninS (Ne.symm ne193) nin0)
                have Z316 : n0 ≤ T301.heap.size := Nat.le_trans Z298 K301.1
                obtain ⟨z317, hz317⟩ : ∃ z : Int32, z = (own_f5_2w z299 (nar .boolean z174)) := ⟨_, rfl⟩
                rw [← hz317] at B304
                obtain ⟨z318, hz318⟩ : ∃ z : Int64, z = (own_f5_2c z300 (nar .boolean z174) (nar .boolean z246)) := ⟨_, rfl⟩
                rw [← hz318] at B306
                refine own_via (fun k => st301 _ k) ?_
                show own_Go p e below s _ _ (T301.setTop (mkF m 248 #[iv p0, iv p1, iv p2, rv b1, jv 0, .second, jv 1, .second, jv 2, .second, rv b66, rv b123, rv b191, iv 0, iv 0, iv 1, iv 2, iv 1, iv 2, .unset, .unset, .unset] []))
                refine own_via (fun k => XS.aloadN X301.here hx rfl (hb hby at_248) rfl rfl  k) ?_
                show own_Go p e below s _ _ (T301.setTop (mkF m 249 #[iv p0, iv p1, iv p2, rv b1, jv 0, .second, jv 1, .second, jv 2, .second, rv b66, rv b123, rv b191, iv 0, iv 0, iv 1, iv 2, iv 1, iv 2, .unset, .unset, .unset] [(.ref b1)]))
                obtain ⟨cq319, kq319, q319a, q319b, q319c⟩ := isOf hZ rfl B312
                obtain ⟨_, _, ⟨T319, L319, k319, n319⟩, -, X319, ⟨Lc319, hQ319, l319, y319, z319⟩, st319⟩ := X301.virtualBack hx (y := (⟨"com/example/tree_to_rows/treetorows/query/Outcomes", "rewind", "()V"⟩ : MethodName)) (z := (⟨"com/example/tree_to_rows/treetorows/query/Outcomes", "rewind", "()V"⟩ : MethodName)) hown (mvT hZ (hw _ (List.mem_of_getElem? (i := 43) rfl))) (mvT hZ (hw _ (List.mem_of_getElem? (i := 44) rfl))) (notFace_of_selects (args := #[]) (mvT hZ (hw _ (List.mem_of_getElem? (i := 46) rfl)))) (mvT hZ (hw _ (List.mem_of_getElem? (i := 46) rfl))) (mvT hZ (hw _ (List.mem_of_getElem? (i := 45) rfl))) (by decide) (backOf (W := 0) (rm7 l Z aw hw [] b1 (0 : Int32) (3 : Int32) z317 (3 : Int64) z318 T301.heap n0 Z316 B302 B303 B304 B305 B306 B307 B308 B309 B310 B312 g2) hZ (hw _ (List.mem_of_getElem? (i := 47) rfl)) (hw _ (List.mem_of_getElem? (i := 2) rfl)) (by decide) (by decide)) q319a q319c (g := (mkF m 249 #[iv p0, iv p1, iv p2, rv b1, jv 0, .second, jv 1, .second, jv 2, .second, rv b66, rv b123, rv b191, iv 0, iv 0, iv 1, iv 2, iv 1, iv 2, .unset, .unset, .unset] [(.ref b1)])) rfl (by rw [hml]; rfl) (Steps.refl _) (argsL := []) (rest := []) (lenOf pd_0 rfl) rfl (by show 2 * 0 + _ ≤ _; exact Nat.le_of_eq rfl) (hb hby at_249) (fun _ _ => ⟨rfl, rfl, (by decide : 5 + 0 ≤ _), (by decide : 27 + 0 ≤ _)⟩)
                dsimp only [Pt.U, Pt.locs, Pt.cells, Pt.slots] at X319 l319 y319 z319 st319 hQ319
                subst l319 y319 z319
                obtain ⟨rfl, N319q, K319, B320, B321, B322, B323, B324, B325, B326, B327, B328⟩ := hQ319
                have N329 := Fr.app N311 N319q
                have B330 := B312.keep K319
                have B331 := B313.keep K319 (ninS (Ne.symm ne68) nin0)
                have B332 := B314.keep K319 (ninS (Ne.symm ne125) nin0)
                have B333 := B315.keep K319 (ninS (Ne.symm ne193) nin0)
                have Z334 : n0 ≤ T319.heap.size := Nat.le_trans Z316 K319.1
                refine own_via (fun k => st319.trans k) ?_
                show own_Go p e below s _ _ (T319.setTop (mkF m 252 #[iv p0, iv p1, iv p2, rv b1, jv 0, .second, jv 1, .second, jv 2, .second, rv b66, rv b123, rv b191, iv 0, iv 0, iv 1, iv 2, iv 1, iv 2, .unset, .unset, .unset] []))
                refine own_via (fun k => XS.aloadN X319.here hx rfl (hb hby at_252) rfl rfl  k) ?_
                show own_Go p e below s _ _ (T319.setTop (mkF m 253 #[iv p0, iv p1, iv p2, rv b1, jv 0, .second, jv 1, .second, jv 2, .second, rv b66, rv b123, rv b191, iv 0, iv 0, iv 1, iv 2, iv 1, iv 2, .unset, .unset, .unset] [(.ref b1)]))
                obtain ⟨cq335, kq335, q335a, q335b, q335c⟩ := isOf hZ rfl B330
                obtain ⟨_, _, ⟨T335, L335, k335, n335⟩, -, X335, ⟨Lc335, hQ335, l335, y335, z335⟩, st335⟩ := X319.virtualBack hx (y := (⟨"com/example/tree_to_rows/treetorows/query/Outcomes", "next", "()Z"⟩ : MethodName)) (z := (⟨"com/example/tree_to_rows/treetorows/query/Outcomes", "next", "()Z"⟩ : MethodName)) hown (mvT hZ (hw _ (List.mem_of_getElem? (i := 56) rfl))) (mvT hZ (hw _ (List.mem_of_getElem? (i := 57) rfl))) (notFace_of_selects (args := #[]) (mvT hZ (hw _ (List.mem_of_getElem? (i := 59) rfl)))) (mvT hZ (hw _ (List.mem_of_getElem? (i := 59) rfl))) (mvT hZ (hw _ (List.mem_of_getElem? (i := 58) rfl))) (by decide) (backOf (W := 0) (rm8_0 l Z aw hw [] b1 (3 : Int32) z317 z318 (0 : Int64) T319.heap n0 Z334 B320 B321 B322 B323 B324 B325 B326 B327 B328 B330 g2) hZ (hw _ (List.mem_of_getElem? (i := 60) rfl)) (hw _ (List.mem_of_getElem? (i := 2) rfl)) (by decide) (by decide)) q335a q335c (g := (mkF m 253 #[iv p0, iv p1, iv p2, rv b1, jv 0, .second, jv 1, .second, jv 2, .second, rv b66, rv b123, rv b191, iv 0, iv 0, iv 1, iv 2, iv 1, iv 2, .unset, .unset, .unset] [(.ref b1)])) rfl (by rw [hml]; rfl) (Steps.refl _) (argsL := []) (rest := []) (lenOf pd_4 rfl) rfl (by show 2 * 0 + _ ≤ _; exact Nat.le_of_eq rfl) (hb hby at_253) (fun _ _ => ⟨rfl, rfl, (by decide : 5 + 0 ≤ _), (by decide : 27 + 0 ≤ _)⟩)
                dsimp only [Pt.U, Pt.locs, Pt.cells, Pt.slots] at X335 l335 y335 z335 st335 hQ335
                subst l335 y335 z335
                obtain ⟨rfl, N335q, K335, B336, B337, B338, B339, B340, B341, B342, B343, B344⟩ := hQ335
                have N345 := Fr.app N329 N335q
                have B346 := B330.keep K335
                have B347 := B331.keep K335 (ninS (Ne.symm ne68) nin0)
                have B348 := B332.keep K335 (ninS (Ne.symm ne125) nin0)
                have B349 := B333.keep K335 (ninS (Ne.symm ne193) nin0)
                have Z350 : n0 ≤ T335.heap.size := Nat.le_trans Z334 K335.1
                refine own_via (fun k => st335.trans k) ?_
                show own_Go p e below s _ _ (T335.setTop (mkF m 256 #[iv p0, iv p1, iv p2, rv b1, jv 0, .second, jv 1, .second, jv 2, .second, rv b66, rv b123, rv b191, iv 0, iv 0, iv 1, iv 2, iv 1, iv 2, .unset, .unset, .unset] [(.int (own_f8_0 z318))]))
                obtain ⟨z351, hz351⟩ : ∃ z : Int32, z = (own_f8_0 z318) := ⟨_, rfl⟩
                rw [← hz351]
                show own_Go p e below s _ _ (T335.setTop (mkF m 256 #[iv p0, iv p1, iv p2, rv b1, jv 0, .second, jv 1, .second, jv 2, .second, rv b66, rv b123, rv b191, iv 0, iv 0, iv 1, iv 2, iv 1, iv 2, .unset, .unset, .unset] [(.int z351)]))
                refine own_via (fun k => XS.istore X335.here hx rfl (hb hby at_256) rfl (l' := #[iv p0, iv p1, iv p2, rv b1, jv 0, .second, jv 1, .second, jv 2, .second, rv b66, rv b123, rv b191, iv 0, iv 0, iv 1, iv 2, iv 1, iv 2, iv z351, .unset, .unset]) rfl (XS.aloadN X335.here hx rfl (hb hby at_258) rfl rfl  k)) ?_
                show own_Go p e below s _ _ (T335.setTop (mkF m 259 #[iv p0, iv p1, iv p2, rv b1, jv 0, .second, jv 1, .second, jv 2, .second, rv b66, rv b123, rv b191, iv 0, iv 0, iv 1, iv 2, iv 1, iv 2, iv z351, .unset, .unset] [(.ref b1)]))
                obtain ⟨cq352, kq352, q352a, q352b, q352c⟩ := isOf hZ rfl B346
                obtain ⟨_, _, ⟨T352, L352, k352, n352⟩, -, X352, ⟨Lc352, hQ352, l352, y352, z352⟩, st352⟩ := X335.virtualBack hx (y := (⟨"com/example/tree_to_rows/treetorows/query/Outcomes", "next", "()Z"⟩ : MethodName)) (z := (⟨"com/example/tree_to_rows/treetorows/query/Outcomes", "next", "()Z"⟩ : MethodName)) hown (mvT hZ (hw _ (List.mem_of_getElem? (i := 56) rfl))) (mvT hZ (hw _ (List.mem_of_getElem? (i := 57) rfl))) (notFace_of_selects (args := #[]) (mvT hZ (hw _ (List.mem_of_getElem? (i := 59) rfl)))) (mvT hZ (hw _ (List.mem_of_getElem? (i := 59) rfl))) (mvT hZ (hw _ (List.mem_of_getElem? (i := 58) rfl))) (by decide) (backOf (W := 0) (rm8_1 l Z aw hw [] b1 (3 : Int32) z317 z318 (0 : Int64) T335.heap n0 Z350 B336 B337 B338 B339 B340 B341 B342 B343 B344 B346 g2) hZ (hw _ (List.mem_of_getElem? (i := 60) rfl)) (hw _ (List.mem_of_getElem? (i := 2) rfl)) (by decide) (by decide)) q352a q352c (g := (mkF m 259 #[iv p0, iv p1, iv p2, rv b1, jv 0, .second, jv 1, .second, jv 2, .second, rv b66, rv b123, rv b191, iv 0, iv 0, iv 1, iv 2, iv 1, iv 2, iv z351, .unset, .unset] [(.ref b1)])) rfl (by rw [hml]; rfl) (Steps.refl _) (argsL := []) (rest := []) (lenOf pd_4 rfl) rfl (by show 2 * 0 + _ ≤ _; exact Nat.le_of_eq rfl) (hb hby at_259) (fun _ _ => ⟨rfl, rfl, (by decide : 5 + 0 ≤ _), (by decide : 27 + 0 ≤ _)⟩)
                dsimp only [Pt.U, Pt.locs, Pt.cells, Pt.slots] at X352 l352 y352 z352 st352 hQ352
                subst l352 y352 z352
                obtain ⟨rfl, N352q, K352, B353, B354, B355, B356, B357, B358, B359, B360, B361⟩ := hQ352
                have N362 := Fr.app N345 N352q
                have B363 := B346.keep K352
                have B364 := B347.keep K352 (ninS (Ne.symm ne68) nin0)
                have B365 := B348.keep K352 (ninS (Ne.symm ne125) nin0)
                have B366 := B349.keep K352 (ninS (Ne.symm ne193) nin0)
                have Z367 : n0 ≤ T352.heap.size := Nat.le_trans Z350 K352.1
                refine own_via (fun k => st352.trans k) ?_
                show own_Go p e below s _ _ (T352.setTop (mkF m 262 #[iv p0, iv p1, iv p2, rv b1, jv 0, .second, jv 1, .second, jv 2, .second, rv b66, rv b123, rv b191, iv 0, iv 0, iv 1, iv 2, iv 1, iv 2, iv z351, .unset, .unset] [(.int (own_f8_1 z318))]))
                obtain ⟨z368, hz368⟩ : ∃ z : Int32, z = (own_f8_1 z318) := ⟨_, rfl⟩
                rw [← hz368]
                show own_Go p e below s _ _ (T352.setTop (mkF m 262 #[iv p0, iv p1, iv p2, rv b1, jv 0, .second, jv 1, .second, jv 2, .second, rv b66, rv b123, rv b191, iv 0, iv 0, iv 1, iv 2, iv 1, iv 2, iv z351, .unset, .unset] [(.int z368)]))
                refine own_via (fun k => XS.istore X352.here hx rfl (hb hby at_262) rfl (l' := #[iv p0, iv p1, iv p2, rv b1, jv 0, .second, jv 1, .second, jv 2, .second, rv b66, rv b123, rv b191, iv 0, iv 0, iv 1, iv 2, iv 1, iv 2, iv z351, iv z368, .unset]) rfl (XS.aloadN X352.here hx rfl (hb hby at_264) rfl rfl  k)) ?_
                show own_Go p e below s _ _ (T352.setTop (mkF m 265 #[iv p0, iv p1, iv p2, rv b1, jv 0, .second, jv 1, .second, jv 2, .second, rv b66, rv b123, rv b191, iv 0, iv 0, iv 1, iv 2, iv 1, iv 2, iv z351, iv z368, .unset] [(.ref b1)]))
                obtain ⟨cq369, kq369, q369a, q369b, q369c⟩ := isOf hZ rfl B363
                obtain ⟨_, _, ⟨T369, L369, k369, n369⟩, -, X369, ⟨Lc369, hQ369, l369, y369, z369⟩, st369⟩ := X352.virtualBack hx (y := (⟨"com/example/tree_to_rows/treetorows/query/Outcomes", "next", "()Z"⟩ : MethodName)) (z := (⟨"com/example/tree_to_rows/treetorows/query/Outcomes", "next", "()Z"⟩ : MethodName)) hown (mvT hZ (hw _ (List.mem_of_getElem? (i := 56) rfl))) (mvT hZ (hw _ (List.mem_of_getElem? (i := 57) rfl))) (notFace_of_selects (args := #[]) (mvT hZ (hw _ (List.mem_of_getElem? (i := 59) rfl)))) (mvT hZ (hw _ (List.mem_of_getElem? (i := 59) rfl))) (mvT hZ (hw _ (List.mem_of_getElem? (i := 58) rfl))) (by decide) (backOf (W := 0) (rm8_2 l Z aw hw [] b1 (3 : Int32) z317 z318 (0 : Int64) T352.heap n0 Z367 B353 B354 B355 B356 B357 B358 B359 B360 B361 B363 g2) hZ (hw _ (List.mem_of_getElem? (i := 60) rfl)) (hw _ (List.mem_of_getElem? (i := 2) rfl)) (by decide) (by decide)) q369a q369c (g := (mkF m 265 #[iv p0, iv p1, iv p2, rv b1, jv 0, .second, jv 1, .second, jv 2, .second, rv b66, rv b123, rv b191, iv 0, iv 0, iv 1, iv 2, iv 1, iv 2, iv z351, iv z368, .unset] [(.ref b1)])) rfl (by rw [hml]; rfl) (Steps.refl _) (argsL := []) (rest := []) (lenOf pd_4 rfl) rfl (by show 2 * 0 + _ ≤ _; exact Nat.le_of_eq rfl) (hb hby at_265) (fun _ _ => ⟨rfl, rfl, (by decide : 5 + 0 ≤ _), (by decide : 27 + 0 ≤ _)⟩)
                dsimp only [Pt.U, Pt.locs, Pt.cells, Pt.slots] at X369 l369 y369 z369 st369 hQ369
                subst l369 y369 z369
                obtain ⟨rfl, N369q, K369, B370, B371, B372, B373, B374, B375, B376, B377, B378⟩ := hQ369
                have N379 := Fr.app N362 N369q
                have B380 := B363.keep K369
                have B381 := B364.keep K369 (ninS (Ne.symm ne68) nin0)
                have B382 := B365.keep K369 (ninS (Ne.symm ne125) nin0)
                have B383 := B366.keep K369 (ninS (Ne.symm ne193) nin0)
                have Z384 : n0 ≤ T369.heap.size := Nat.le_trans Z367 K369.1
                refine own_via (fun k => st369.trans k) ?_
                show own_Go p e below s _ _ (T369.setTop (mkF m 268 #[iv p0, iv p1, iv p2, rv b1, jv 0, .second, jv 1, .second, jv 2, .second, rv b66, rv b123, rv b191, iv 0, iv 0, iv 1, iv 2, iv 1, iv 2, iv z351, iv z368, .unset] [(.int (own_f8_2 z318))]))
                obtain ⟨z385, hz385⟩ : ∃ z : Int32, z = (own_f8_2 z318) := ⟨_, rfl⟩
                rw [← hz385]
                show own_Go p e below s _ _ (T369.setTop (mkF m 268 #[iv p0, iv p1, iv p2, rv b1, jv 0, .second, jv 1, .second, jv 2, .second, rv b66, rv b123, rv b191, iv 0, iv 0, iv 1, iv 2, iv 1, iv 2, iv z351, iv z368, .unset] [(.int z385)]))
                refine own_via (fun k => XS.istore X369.here hx rfl (hb hby at_268) rfl (l' := #[iv p0, iv p1, iv p2, rv b1, jv 0, .second, jv 1, .second, jv 2, .second, rv b66, rv b123, rv b191, iv 0, iv 0, iv 1, iv 2, iv 1, iv 2, iv z351, iv z368, iv z385]) rfl (XS.lload X369.here hx rfl (hb hby at_270) rfl  (XS.lconst X369.here hx rfl (hb hby at_272) (XS.lcmp X369.here hx rfl (hb hby at_273) rfl k)))) ?_
                show own_Go p e below s _ _ (T369.setTop (mkF m 274 #[iv p0, iv p1, iv p2, rv b1, jv 0, .second, jv 1, .second, jv 2, .second, rv b66, rv b123, rv b191, iv 0, iv 0, iv 1, iv 2, iv 1, iv 2, iv z351, iv z368, iv z385] [(.int (lcmpW (0 : Int64) (0 : Int64)))]))
                refine own_via (fun k => XS.ifNo X369.here hx rfl (hb hby at_274) rfl (by decide) k) ?_
                show own_Go p e below s _ _ (T369.setTop (mkF m 277 #[iv p0, iv p1, iv p2, rv b1, jv 0, .second, jv 1, .second, jv 2, .second, rv b66, rv b123, rv b191, iv 0, iv 0, iv 1, iv 2, iv 1, iv 2, iv z351, iv z368, iv z385] []))
                refine own_via (fun k => XS.lload X369.here hx rfl (hb hby at_277) rfl  (XS.lconst X369.here hx rfl (hb hby at_279) (XS.lcmp X369.here hx rfl (hb hby at_280) rfl k))) ?_
                show own_Go p e below s _ _ (T369.setTop (mkF m 281 #[iv p0, iv p1, iv p2, rv b1, jv 0, .second, jv 1, .second, jv 2, .second, rv b66, rv b123, rv b191, iv 0, iv 0, iv 1, iv 2, iv 1, iv 2, iv z351, iv z368, iv z385] [(.int (lcmpW (1 : Int64) (1 : Int64)))]))
                refine own_via (fun k => XS.ifNo X369.here hx rfl (hb hby at_281) rfl (by decide) k) ?_
                show own_Go p e below s _ _ (T369.setTop (mkF m 284 #[iv p0, iv p1, iv p2, rv b1, jv 0, .second, jv 1, .second, jv 2, .second, rv b66, rv b123, rv b191, iv 0, iv 0, iv 1, iv 2, iv 1, iv 2, iv z351, iv z368, iv z385] []))
                refine own_via (fun k => XS.lload X369.here hx rfl (hb hby at_284) rfl  (X369.ldc2Long hx hown (mvT hZ (hw _ (List.mem_of_getElem? (i := 62) rfl))) (g := (mkF m 286 #[iv p0, iv p1, iv p2, rv b1, jv 0, .second, jv 1, .second, jv 2, .second, rv b66, rv b123, rv b191, iv 0, iv 0, iv 1, iv 2, iv 1, iv 2, iv z351, iv z368, iv z385] [(.long 2)])) rfl (hb hby at_286) _ (XS.lcmp X369.here hx rfl (hb hby at_289) rfl k))) ?_
                show own_Go p e below s _ _ (T369.setTop (mkF m 290 #[iv p0, iv p1, iv p2, rv b1, jv 0, .second, jv 1, .second, jv 2, .second, rv b66, rv b123, rv b191, iv 0, iv 0, iv 1, iv 2, iv 1, iv 2, iv z351, iv z368, iv z385] [(.int (lcmpW (2 : Int64) (2 : Int64)))]))
                refine own_via (fun k => XS.ifNo X369.here hx rfl (hb hby at_290) rfl (by decide) k) ?_
                show own_Go p e below s _ _ (T369.setTop (mkF m 293 #[iv p0, iv p1, iv p2, rv b1, jv 0, .second, jv 1, .second, jv 2, .second, rv b66, rv b123, rv b191, iv 0, iv 0, iv 1, iv 2, iv 1, iv 2, iv z351, iv z368, iv z385] []))
                refine own_via (fun k => XS.iload X369.here hx rfl (hb hby at_293) rfl  (XS.aload X369.here hx rfl (hb hby at_295) rfl rfl  (XS.iconst X369.here hx rfl (hb hby at_297) k))) ?_
                show own_Go p e below s _ _ (T369.setTop (mkF m 298 #[iv p0, iv p1, iv p2, rv b1, jv 0, .second, jv 1, .second, jv 2, .second, rv b66, rv b123, rv b191, iv 0, iv 0, iv 1, iv 2, iv 1, iv 2, iv z351, iv z368, iv z385] [(.int 0), (.ref b123), (.int z351)]))
                obtain ⟨cl386, Ar386, q386, S386, NN386, H386, G386⟩ := id B382
                have hin386 : ¬ ((0 : Int32) < 0 ∨ cl386.slots.size ≤ ((0 : Int32)).toNatClampNeg) := inb_of S386 ⟨by decide, by decide⟩
                have hat386 : cl386.slots[((0 : Int32)).toNatClampNeg]? = some (.int (nar .boolean z140)) := H386.at hin386 rfl
                refine own_via (fun k => X369.baloadBooleans hx (j := (0 : Int32)) (v := (.int (nar .boolean z140))) Ar386.1 (State.isArrayOf_alike hZ.alike Ar386.2.1) Ar386.2.2 hin386 hat386 (g := (mkF m 298 #[iv p0, iv p1, iv p2, rv b1, jv 0, .second, jv 1, .second, jv 2, .second, rv b66, rv b123, rv b191, iv 0, iv 0, iv 1, iv 2, iv 1, iv 2, iv z351, iv z368, iv z385] [(.int 0), (.ref b123), (.int z351)])) rfl rfl (hb hby at_298) _ k) ?_
                show own_Go p e below s _ _ (T369.setTop (mkF m 299 #[iv p0, iv p1, iv p2, rv b1, jv 0, .second, jv 1, .second, jv 2, .second, rv b66, rv b123, rv b191, iv 0, iv 0, iv 1, iv 2, iv 1, iv 2, iv z351, iv z368, iv z385] [(.int (nar .boolean z140)), (.int z351)]))
                have J389 : ∀ (T389 : State) (lo389 : List Loc), Stand p l e room_1 s m #[(.int p0), (.int p1), (.int p2)] below meth c T389 lo389 5 27 → Fr n0 lo389 → T389.heap = T369.heap → ∀ (z388 : Int32), z388 = (if (nar .boolean z140) = (0 : Int32) then (0 : Int32) else (if (nar .boolean z210) = (0 : Int32) then (0 : Int32) else (1 : Int32))) → own_Go p e below s (Q0 Z p0 p1 p2 h0 n0) (room_1.cells, room_1.slots) (T389.setTop (mkF m 314 #[iv p0, iv p1, iv p2, rv b1, jv 0, .second, jv 1, .second, jv 2, .second, rv b66, rv b123, rv b191, iv 0, iv 0, iv 1, iv 2, iv 1, iv 2, iv z351, iv z368, iv z385] [(.int z388), (.int z351)])) := by
                  intro T389 lo389 X389 N389 e389 z388 hz388
                  refine own_via (fun k => XS.icmpNo X389.here hx rfl (hb hby at_314) rfl (teq (own_law0_314 p0 p1 p2 z140 hz140 z157 hz157 z174 hz174 z210 hz210 z228 hz228 z246 hz246 z282 hz282 z300 hz300 z318 hz318 z351 hz351 z388 hz388 hl264)).2 k) ?_
                  show own_Go p e below s _ _ (T389.setTop (mkF m 317 #[iv p0, iv p1, iv p2, rv b1, jv 0, .second, jv 1, .second, jv 2, .second, rv b66, rv b123, rv b191, iv 0, iv 0, iv 1, iv 2, iv 1, iv 2, iv z351, iv z368, iv z385] []))
                  refine own_via (fun k => XS.iload X389.here hx rfl (hb hby at_317) rfl  (XS.aload X389.here hx rfl (hb hby at_319) rfl rfl  (XS.iconst X389.here hx rfl (hb hby at_321) k))) ?_
                  show own_Go p e below s _ _ (T389.setTop (mkF m 322 #[iv p0, iv p1, iv p2, rv b1, jv 0, .second, jv 1, .second, jv 2, .second, rv b66, rv b123, rv b191, iv 0, iv 0, iv 1, iv 2, iv 1, iv 2, iv z351, iv z368, iv z385] [(.int 1), (.ref b123), (.int z368)]))
                  obtain ⟨cl390, Ar390, q390, S390, NN390, H390, G390⟩ := id B382
                  have hin390 : ¬ ((1 : Int32) < 0 ∨ cl390.slots.size ≤ ((1 : Int32)).toNatClampNeg) := inb_of S390 ⟨by decide, by decide⟩
                  have hat390 : cl390.slots[((1 : Int32)).toNatClampNeg]? = some (.int (nar .boolean z157)) := H390.at hin390 rfl
                  refine own_via (fun k => X389.baloadBooleans hx (j := (1 : Int32)) (v := (.int (nar .boolean z157))) (by rw [e389]; exact Ar390.1) (State.isArrayOf_alike hZ.alike Ar390.2.1) Ar390.2.2 hin390 hat390 (g := (mkF m 322 #[iv p0, iv p1, iv p2, rv b1, jv 0, .second, jv 1, .second, jv 2, .second, rv b66, rv b123, rv b191, iv 0, iv 0, iv 1, iv 2, iv 1, iv 2, iv z351, iv z368, iv z385] [(.int 1), (.ref b123), (.int z368)])) rfl rfl (hb hby at_322) _ k) ?_
                  show own_Go p e below s _ _ (T389.setTop (mkF m 323 #[iv p0, iv p1, iv p2, rv b1, jv 0, .second, jv 1, .second, jv 2, .second, rv b66, rv b123, rv b191, iv 0, iv 0, iv 1, iv 2, iv 1, iv 2, iv z351, iv z368, iv z385] [(.int (nar .boolean z157)), (.int z368)]))
                  have J393 : ∀ (T393 : State) (lo393 : List Loc), Stand p l e room_1 s m #[(.int p0), (.int p1), (.int p2)] below meth c T393 lo393 5 27 → Fr n0 lo393 → T393.heap = T369.heap → ∀ (z392 : Int32), z392 = (if (nar .boolean z157) = (0 : Int32) then (0 : Int32) else (if (nar .boolean z228) = (0 : Int32) then (0 : Int32) else (1 : Int32))) → own_Go p e below s (Q0 Z p0 p1 p2 h0 n0) (room_1.cells, room_1.slots) (T393.setTop (mkF m 338 #[iv p0, iv p1, iv p2, rv b1, jv 0, .second, jv 1, .second, jv 2, .second, rv b66, rv b123, rv b191, iv 0, iv 0, iv 1, iv 2, iv 1, iv 2, iv z351, iv z368, iv z385] [(.int z392), (.int z368)])) := by
                    intro T393 lo393 X393 N393 e393 z392 hz392
                    refine own_via (fun k => XS.icmpNo X393.here hx rfl (hb hby at_338) rfl (teq (own_law0_338 p0 p1 p2 z140 hz140 z157 hz157 z174 hz174 z210 hz210 z228 hz228 z246 hz246 z282 hz282 z300 hz300 z318 hz318 z368 hz368 z392 hz392 hl264)).2 k) ?_
                    show own_Go p e below s _ _ (T393.setTop (mkF m 341 #[iv p0, iv p1, iv p2, rv b1, jv 0, .second, jv 1, .second, jv 2, .second, rv b66, rv b123, rv b191, iv 0, iv 0, iv 1, iv 2, iv 1, iv 2, iv z351, iv z368, iv z385] []))
                    refine own_via (fun k => XS.iload X393.here hx rfl (hb hby at_341) rfl  (XS.aload X393.here hx rfl (hb hby at_343) rfl rfl  (XS.iconst X393.here hx rfl (hb hby at_345) k))) ?_
                    show own_Go p e below s _ _ (T393.setTop (mkF m 346 #[iv p0, iv p1, iv p2, rv b1, jv 0, .second, jv 1, .second, jv 2, .second, rv b66, rv b123, rv b191, iv 0, iv 0, iv 1, iv 2, iv 1, iv 2, iv z351, iv z368, iv z385] [(.int 2), (.ref b123), (.int z385)]))
                    obtain ⟨cl394, Ar394, q394, S394, NN394, H394, G394⟩ := id B382
                    have hin394 : ¬ ((2 : Int32) < 0 ∨ cl394.slots.size ≤ ((2 : Int32)).toNatClampNeg) := inb_of S394 ⟨by decide, by decide⟩
                    have hat394 : cl394.slots[((2 : Int32)).toNatClampNeg]? = some (.int (nar .boolean z174)) := H394.at hin394 rfl
                    refine own_via (fun k => X393.baloadBooleans hx (j := (2 : Int32)) (v := (.int (nar .boolean z174))) (by rw [e393]; exact Ar394.1) (State.isArrayOf_alike hZ.alike Ar394.2.1) Ar394.2.2 hin394 hat394 (g := (mkF m 346 #[iv p0, iv p1, iv p2, rv b1, jv 0, .second, jv 1, .second, jv 2, .second, rv b66, rv b123, rv b191, iv 0, iv 0, iv 1, iv 2, iv 1, iv 2, iv z351, iv z368, iv z385] [(.int 2), (.ref b123), (.int z385)])) rfl rfl (hb hby at_346) _ k) ?_
                    show own_Go p e below s _ _ (T393.setTop (mkF m 347 #[iv p0, iv p1, iv p2, rv b1, jv 0, .second, jv 1, .second, jv 2, .second, rv b66, rv b123, rv b191, iv 0, iv 0, iv 1, iv 2, iv 1, iv 2, iv z351, iv z368, iv z385] [(.int (nar .boolean z174)), (.int z385)]))
                    have J397 : ∀ (T397 : State) (lo397 : List Loc), Stand p l e room_1 s m #[(.int p0), (.int p1), (.int p2)] below meth c T397 lo397 5 27 → Fr n0 lo397 → T397.heap = T369.heap → ∀ (z396 : Int32), z396 = (if (nar .boolean z174) = (0 : Int32) then (0 : Int32) else (if (nar .boolean z246) = (0 : Int32) then (0 : Int32) else (1 : Int32))) → own_Go p e below s (Q0 Z p0 p1 p2 h0 n0) (room_1.cells, room_1.slots) (T397.setTop (mkF m 362 #[iv p0, iv p1, iv p2, rv b1, jv 0, .second, jv 1, .second, jv 2, .second, rv b66, rv b123, rv b191, iv 0, iv 0, iv 1, iv 2, iv 1, iv 2, iv z351, iv z368, iv z385] [(.int z396), (.int z385)])) := by
                      intro T397 lo397 X397 N397 e397 z396 hz396
                      refine own_via (fun k => XS.icmpNo X397.here hx rfl (hb hby at_362) rfl (teq (own_law0_362 p0 p1 p2 z140 hz140 z157 hz157 z174 hz174 z210 hz210 z228 hz228 z246 hz246 z282 hz282 z300 hz300 z318 hz318 z385 hz385 z396 hz396 hl264)).2 k) ?_
                      show own_Go p e below s _ _ (T397.setTop (mkF m 365 #[iv p0, iv p1, iv p2, rv b1, jv 0, .second, jv 1, .second, jv 2, .second, rv b66, rv b123, rv b191, iv 0, iv 0, iv 1, iv 2, iv 1, iv 2, iv z351, iv z368, iv z385] []))
                      refine own_via (fun k => XS.iconst X397.here hx rfl (hb hby at_365) (XS.goto X397.here hx rfl (pc0 := 366) (pc' := 370) rfl (hb hby at_366) (by decide) (by decide) k)) ?_
                      show own_Go p e below s _ _ (T397.setTop (mkF m 370 #[iv p0, iv p1, iv p2, rv b1, jv 0, .second, jv 1, .second, jv 2, .second, rv b66, rv b123, rv b191, iv 0, iv 0, iv 1, iv 2, iv 1, iv 2, iv z351, iv z368, iv z385] [(.int 1)]))
                      exact own_retN X397 hx hlk (t := .boolean) Bd.returns (by simp) (hb hby at_370) (Q := (Q0 Z p0 p1 p2 h0 n0)) ⟨rfl, N397⟩ (by decide) (by decide)
                    by_cases hc398 : (nar .boolean z174) = (0 : Int32)
                    · refine own_via (fun k => XS.ifYes X393.here hx rfl (pc0 := 347) (pc' := 361) rfl (hb hby at_347) rfl ((if0 _ _).trans (teq hc398).1) (by decide) (by decide) k) ?_
                      show own_Go p e below s _ _ (T393.setTop (mkF m 361 #[iv p0, iv p1, iv p2, rv b1, jv 0, .second, jv 1, .second, jv 2, .second, rv b66, rv b123, rv b191, iv 0, iv 0, iv 1, iv 2, iv 1, iv 2, iv z351, iv z368, iv z385] [(.int z385)]))
                      refine own_via (fun k => XS.iconst X393.here hx rfl (hb hby at_361) k) ?_
                      show own_Go p e below s _ _ (T393.setTop (mkF m 362 #[iv p0, iv p1, iv p2, rv b1, jv 0, .second, jv 1, .second, jv 2, .second, rv b66, rv b123, rv b191, iv 0, iv 0, iv 1, iv 2, iv 1, iv 2, iv z351, iv z368, iv z385] [(.int 0), (.int z385)]))
                      exact J397 _ _ X393 N393 e393 (0 : Int32) (((if_pos hc398).trans rfl)).symm
                    · refine own_via (fun k => XS.ifNo X393.here hx rfl (hb hby at_347) rfl ((if0 _ _).trans (feq hc398).1) k) ?_
                      show own_Go p e below s _ _ (T393.setTop (mkF m 350 #[iv p0, iv p1, iv p2, rv b1, jv 0, .second, jv 1, .second, jv 2, .second, rv b66, rv b123, rv b191, iv 0, iv 0, iv 1, iv 2, iv 1, iv 2, iv z351, iv z368, iv z385] [(.int z385)]))
                      refine own_via (fun k => XS.aload X393.here hx rfl (hb hby at_350) rfl rfl  (XS.iconst X393.here hx rfl (hb hby at_352) k)) ?_
                      show own_Go p e below s _ _ (T393.setTop (mkF m 353 #[iv p0, iv p1, iv p2, rv b1, jv 0, .second, jv 1, .second, jv 2, .second, rv b66, rv b123, rv b191, iv 0, iv 0, iv 1, iv 2, iv 1, iv 2, iv z351, iv z368, iv z385] [(.int 2), (.ref b191), (.int z385)]))
                      obtain ⟨cl399, Ar399, q399, S399, NN399, H399, G399⟩ := id B383
                      have hin399 : ¬ ((2 : Int32) < 0 ∨ cl399.slots.size ≤ ((2 : Int32)).toNatClampNeg) := inb_of S399 ⟨by decide, by decide⟩
                      have hat399 : cl399.slots[((2 : Int32)).toNatClampNeg]? = some (.int (nar .boolean z246)) := H399.at hin399 rfl
                      refine own_via (fun k => X393.baloadBooleans hx (j := (2 : Int32)) (v := (.int (nar .boolean z246))) (by rw [e393]; exact Ar399.1) (State.isArrayOf_alike hZ.alike Ar399.2.1) Ar399.2.2 hin399 hat399 (g := (mkF m 353 #[iv p0, iv p1, iv p2, rv b1, jv 0, .second, jv 1, .second, jv 2, .second, rv b66, rv b123, rv b191, iv 0, iv 0, iv 1, iv 2, iv 1, iv 2, iv z351, iv z368, iv z385] [(.int 2), (.ref b191), (.int z385)])) rfl rfl (hb hby at_353) _ k) ?_
                      show own_Go p e below s _ _ (T393.setTop (mkF m 354 #[iv p0, iv p1, iv p2, rv b1, jv 0, .second, jv 1, .second, jv 2, .second, rv b66, rv b123, rv b191, iv 0, iv 0, iv 1, iv 2, iv 1, iv 2, iv z351, iv z368, iv z385] [(.int (nar .boolean z246)), (.int z385)]))
                      by_cases hc400 : (nar .boolean z246) = (0 : Int32)
                      · refine own_via (fun k => XS.ifYes X393.here hx rfl (pc0 := 354) (pc' := 361) rfl (hb hby at_354) rfl ((if0 _ _).trans (teq hc400).1) (by decide) (by decide) k) ?_
                        show own_Go p e below s _ _ (T393.setTop (mkF m 361 #[iv p0, iv p1, iv p2, rv b1, jv 0, .second, jv 1, .second, jv 2, .second, rv b66, rv b123, rv b191, iv 0, iv 0, iv 1, iv 2, iv 1, iv 2, iv z351, iv z368, iv z385] [(.int z385)]))
                        refine own_via (fun k => XS.iconst X393.here hx rfl (hb hby at_361) k) ?_
                        show own_Go p e below s _ _ (T393.setTop (mkF m 362 #[iv p0, iv p1, iv p2, rv b1, jv 0, .second, jv 1, .second, jv 2, .second, rv b66, rv b123, rv b191, iv 0, iv 0, iv 1, iv 2, iv 1, iv 2, iv z351, iv z368, iv z385] [(.int 0), (.int z385)]))
                        exact J397 _ _ X393 N393 e393 (0 : Int32) (((if_neg hc398).trans ((if_pos hc400).trans rfl))).symm
                      · refine own_via (fun k => XS.ifNo X393.here hx rfl (hb hby at_354) rfl ((if0 _ _).trans (feq hc400).1) k) ?_
                        show own_Go p e below s _ _ (T393.setTop (mkF m 357 #[iv p0, iv p1, iv p2, rv b1, jv 0, .second, jv 1, .second, jv 2, .second, rv b66, rv b123, rv b191, iv 0, iv 0, iv 1, iv 2, iv 1, iv 2, iv z351, iv z368, iv z385] [(.int z385)]))
                        refine own_via (fun k => XS.iconst X393.here hx rfl (hb hby at_357) (XS.goto X393.here hx rfl (pc0 := 358) (pc' := 362) rfl (hb hby at_358) (by decide) (by decide) k)) ?_
                        show own_Go p e below s _ _ (T393.setTop (mkF m 362 #[iv p0, iv p1, iv p2, rv b1, jv 0, .second, jv 1, .second, jv 2, .second, rv b66, rv b123, rv b191, iv 0, iv 0, iv 1, iv 2, iv 1, iv 2, iv z351, iv z368, iv z385] [(.int 1), (.int z385)]))
                        exact J397 _ _ X393 N393 e393 (1 : Int32) (((if_neg hc398).trans ((if_neg hc400).trans rfl))).symm
                  by_cases hc401 : (nar .boolean z157) = (0 : Int32)
                  · refine own_via (fun k => XS.ifYes X389.here hx rfl (pc0 := 323) (pc' := 337) rfl (hb hby at_323) rfl ((if0 _ _).trans (teq hc401).1) (by decide) (by decide) k) ?_
                    show own_Go p e below s _ _ (T389.setTop (mkF m 337 #[iv p0, iv p1, iv p2, rv b1, jv 0, .second, jv 1, .second, jv 2, .second, rv b66, rv b123, rv b191, iv 0, iv 0, iv 1, iv 2, iv 1, iv 2, iv z351, iv z368, iv z385] [(.int z368)]))
                    refine own_via (fun k => XS.iconst X389.here hx rfl (hb hby at_337) k) ?_
                    show own_Go p e below s _ _ (T389.setTop (mkF m 338 #[iv p0, iv p1, iv p2, rv b1, jv 0, .second, jv 1, .second, jv 2, .second, rv b66, rv b123, rv b191, iv 0, iv 0, iv 1, iv 2, iv 1, iv 2, iv z351, iv z368, iv z385] [(.int 0), (.int z368)]))
                    exact J393 _ _ X389 N389 e389 (0 : Int32) (((if_pos hc401).trans rfl)).symm
                  · refine own_via (fun k => XS.ifNo X389.here hx rfl (hb hby at_323) rfl ((if0 _ _).trans (feq hc401).1) k) ?_
                    show own_Go p e below s _ _ (T389.setTop (mkF m 326 #[iv p0, iv p1, iv p2, rv b1, jv 0, .second, jv 1, .second, jv 2, .second, rv b66, rv b123, rv b191, iv 0, iv 0, iv 1, iv 2, iv 1, iv 2, iv z351, iv z368, iv z385] [(.int z368)]))
                    refine own_via (fun k => XS.aload X389.here hx rfl (hb hby at_326) rfl rfl  (XS.iconst X389.here hx rfl (hb hby at_328) k)) ?_
                    show own_Go p e below s _ _ (T389.setTop (mkF m 329 #[iv p0, iv p1, iv p2, rv b1, jv 0, .second, jv 1, .second, jv 2, .second, rv b66, rv b123, rv b191, iv 0, iv 0, iv 1, iv 2, iv 1, iv 2, iv z351, iv z368, iv z385] [(.int 1), (.ref b191), (.int z368)]))
                    obtain ⟨cl402, Ar402, q402, S402, NN402, H402, G402⟩ := id B383
                    have hin402 : ¬ ((1 : Int32) < 0 ∨ cl402.slots.size ≤ ((1 : Int32)).toNatClampNeg) := inb_of S402 ⟨by decide, by decide⟩
                    have hat402 : cl402.slots[((1 : Int32)).toNatClampNeg]? = some (.int (nar .boolean z228)) := H402.at hin402 rfl
                    refine own_via (fun k => X389.baloadBooleans hx (j := (1 : Int32)) (v := (.int (nar .boolean z228))) (by rw [e389]; exact Ar402.1) (State.isArrayOf_alike hZ.alike Ar402.2.1) Ar402.2.2 hin402 hat402 (g := (mkF m 329 #[iv p0, iv p1, iv p2, rv b1, jv 0, .second, jv 1, .second, jv 2, .second, rv b66, rv b123, rv b191, iv 0, iv 0, iv 1, iv 2, iv 1, iv 2, iv z351, iv z368, iv z385] [(.int 1), (.ref b191), (.int z368)])) rfl rfl (hb hby at_329) _ k) ?_
                    show own_Go p e below s _ _ (T389.setTop (mkF m 330 #[iv p0, iv p1, iv p2, rv b1, jv 0, .second, jv 1, .second, jv 2, .second, rv b66, rv b123, rv b191, iv 0, iv 0, iv 1, iv 2, iv 1, iv 2, iv z351, iv z368, iv z385] [(.int (nar .boolean z228)), (.int z368)]))
                    by_cases hc403 : (nar .boolean z228) = (0 : Int32)
                    · refine own_via (fun k => XS.ifYes X389.here hx rfl (pc0 := 330) (pc' := 337) rfl (hb hby at_330) rfl ((if0 _ _).trans (teq hc403).1) (by decide) (by decide) k) ?_
                      show own_Go p e below s _ _ (T389.setTop (mkF m 337 #[iv p0, iv p1, iv p2, rv b1, jv 0, .second, jv 1, .second, jv 2, .second, rv b66, rv b123, rv b191, iv 0, iv 0, iv 1, iv 2, iv 1, iv 2, iv z351, iv z368, iv z385] [(.int z368)]))
                      refine own_via (fun k => XS.iconst X389.here hx rfl (hb hby at_337) k) ?_
                      show own_Go p e below s _ _ (T389.setTop (mkF m 338 #[iv p0, iv p1, iv p2, rv b1, jv 0, .second, jv 1, .second, jv 2, .second, rv b66, rv b123, rv b191, iv 0, iv 0, iv 1, iv 2, iv 1, iv 2, iv z351, iv z368, iv z385] [(.int 0), (.int z368)]))
                      exact J393 _ _ X389 N389 e389 (0 : Int32) (((if_neg hc401).trans ((if_pos hc403).trans rfl))).symm
                    · refine own_via (fun k => XS.ifNo X389.here hx rfl (hb hby at_330) rfl ((if0 _ _).trans (feq hc403).1) k) ?_
                      show own_Go p e below s _ _ (T389.setTop (mkF m 333 #[iv p0, iv p1, iv p2, rv b1, jv 0, .second, jv 1, .second, jv 2, .second, rv b66, rv b123, rv b191, iv 0, iv 0, iv 1, iv 2, iv 1, iv 2, iv z351, iv z368, iv z385] [(.int z368)]))
                      refine own_via (fun k => XS.iconst X389.here hx rfl (hb hby at_333) (XS.goto X389.here hx rfl (pc0 := 334) (pc' := 338) rfl (hb hby at_334) (by decide) (by decide) k)) ?_
                      show own_Go p e below s _ _ (T389.setTop (mkF m 338 #[iv p0, iv p1, iv p2, rv b1, jv 0, .second, jv 1, .second, jv 2, .second, rv b66, rv b123, rv b191, iv 0, iv 0, iv 1, iv 2, iv 1, iv 2, iv z351, iv z368, iv z385] [(.int 1), (.int z368)]))
                      exact J393 _ _ X389 N389 e389 (1 : Int32) (((if_neg hc401).trans ((if_neg hc403).trans rfl))).symm
                by_cases hc404 : (nar .boolean z140) = (0 : Int32)
                · refine own_via (fun k => XS.ifYes X369.here hx rfl (pc0 := 299) (pc' := 313) rfl (hb hby at_299) rfl ((if0 _ _).trans (teq hc404).1) (by decide) (by decide) k) ?_
                  show own_Go p e below s _ _ (T369.setTop (mkF m 313 #[iv p0, iv p1, iv p2, rv b1, jv 0, .second, jv 1, .second, jv 2, .second, rv b66, rv b123, rv b191, iv 0, iv 0, iv 1, iv 2, iv 1, iv 2, iv z351, iv z368, iv z385] [(.int z351)]))
                  refine own_via (fun k => XS.iconst X369.here hx rfl (hb hby at_313) k) ?_
                  show own_Go p e below s _ _ (T369.setTop (mkF m 314 #[iv p0, iv p1, iv p2, rv b1, jv 0, .second, jv 1, .second, jv 2, .second, rv b66, rv b123, rv b191, iv 0, iv 0, iv 1, iv 2, iv 1, iv 2, iv z351, iv z368, iv z385] [(.int 0), (.int z351)]))
                  exact J389 _ _ X369 N379 rfl (0 : Int32) (((if_pos hc404).trans rfl)).symm
                · refine own_via (fun k => XS.ifNo X369.here hx rfl (hb hby at_299) rfl ((if0 _ _).trans (feq hc404).1) k) ?_
                  show own_Go p e below s _ _ (T369.setTop (mkF m 302 #[iv p0, iv p1, iv p2, rv b1, jv 0, .second, jv 1, .second, jv 2, .second, rv b66, rv b123, rv b191, iv 0, iv 0, iv 1, iv 2, iv 1, iv 2, iv z351, iv z368, iv z385] [(.int z351)]))
                  refine own_via (fun k => XS.aload X369.here hx rfl (hb hby at_302) rfl rfl  (XS.iconst X369.here hx rfl (hb hby at_304) k)) ?_
                  show own_Go p e below s _ _ (T369.setTop (mkF m 305 #[iv p0, iv p1, iv p2, rv b1, jv 0, .second, jv 1, .second, jv 2, .second, rv b66, rv b123, rv b191, iv 0, iv 0, iv 1, iv 2, iv 1, iv 2, iv z351, iv z368, iv z385] [(.int 0), (.ref b191), (.int z351)]))
                  obtain ⟨cl405, Ar405, q405, S405, NN405, H405, G405⟩ := id B383
                  have hin405 : ¬ ((0 : Int32) < 0 ∨ cl405.slots.size ≤ ((0 : Int32)).toNatClampNeg) := inb_of S405 ⟨by decide, by decide⟩
                  have hat405 : cl405.slots[((0 : Int32)).toNatClampNeg]? = some (.int (nar .boolean z210)) := H405.at hin405 rfl
                  refine own_via (fun k => X369.baloadBooleans hx (j := (0 : Int32)) (v := (.int (nar .boolean z210))) Ar405.1 (State.isArrayOf_alike hZ.alike Ar405.2.1) Ar405.2.2 hin405 hat405 (g := (mkF m 305 #[iv p0, iv p1, iv p2, rv b1, jv 0, .second, jv 1, .second, jv 2, .second, rv b66, rv b123, rv b191, iv 0, iv 0, iv 1, iv 2, iv 1, iv 2, iv z351, iv z368, iv z385] [(.int 0), (.ref b191), (.int z351)])) rfl rfl (hb hby at_305) _ k) ?_
                  show own_Go p e below s _ _ (T369.setTop (mkF m 306 #[iv p0, iv p1, iv p2, rv b1, jv 0, .second, jv 1, .second, jv 2, .second, rv b66, rv b123, rv b191, iv 0, iv 0, iv 1, iv 2, iv 1, iv 2, iv z351, iv z368, iv z385] [(.int (nar .boolean z210)), (.int z351)]))
                  by_cases hc406 : (nar .boolean z210) = (0 : Int32)
                  · refine own_via (fun k => XS.ifYes X369.here hx rfl (pc0 := 306) (pc' := 313) rfl (hb hby at_306) rfl ((if0 _ _).trans (teq hc406).1) (by decide) (by decide) k) ?_
                    show own_Go p e below s _ _ (T369.setTop (mkF m 313 #[iv p0, iv p1, iv p2, rv b1, jv 0, .second, jv 1, .second, jv 2, .second, rv b66, rv b123, rv b191, iv 0, iv 0, iv 1, iv 2, iv 1, iv 2, iv z351, iv z368, iv z385] [(.int z351)]))
                    refine own_via (fun k => XS.iconst X369.here hx rfl (hb hby at_313) k) ?_
                    show own_Go p e below s _ _ (T369.setTop (mkF m 314 #[iv p0, iv p1, iv p2, rv b1, jv 0, .second, jv 1, .second, jv 2, .second, rv b66, rv b123, rv b191, iv 0, iv 0, iv 1, iv 2, iv 1, iv 2, iv z351, iv z368, iv z385] [(.int 0), (.int z351)]))
                    exact J389 _ _ X369 N379 rfl (0 : Int32) (((if_neg hc404).trans ((if_pos hc406).trans rfl))).symm
                  · refine own_via (fun k => XS.ifNo X369.here hx rfl (hb hby at_306) rfl ((if0 _ _).trans (feq hc406).1) k) ?_
                    show own_Go p e below s _ _ (T369.setTop (mkF m 309 #[iv p0, iv p1, iv p2, rv b1, jv 0, .second, jv 1, .second, jv 2, .second, rv b66, rv b123, rv b191, iv 0, iv 0, iv 1, iv 2, iv 1, iv 2, iv z351, iv z368, iv z385] [(.int z351)]))
                    refine own_via (fun k => XS.iconst X369.here hx rfl (hb hby at_309) (XS.goto X369.here hx rfl (pc0 := 310) (pc' := 314) rfl (hb hby at_310) (by decide) (by decide) k)) ?_
                    show own_Go p e below s _ _ (T369.setTop (mkF m 314 #[iv p0, iv p1, iv p2, rv b1, jv 0, .second, jv 1, .second, jv 2, .second, rv b66, rv b123, rv b191, iv 0, iv 0, iv 1, iv 2, iv 1, iv 2, iv z351, iv z368, iv z385] [(.int 1), (.int z351)]))
                    exact J389 _ _ X369 N379 rfl (1 : Int32) (((if_neg hc404).trans ((if_neg hc406).trans rfl))).symm
              · rw [hl264]
                show own_Go p e below s _ _ (T248.setTop (mkF m 149 #[iv p0, iv p1, iv p2, rv b1, jv 0, .second, jv 1, .second, jv 2, .second, rv b66, rv b123, rv b191, iv 1, .unset, .unset, .unset, .unset, .unset, .unset, .unset, .unset] []))
                refine own_via (fun k => XS.iload X248.here hx rfl (hb hby at_149) rfl  (XS.iconst X248.here hx rfl (hb hby at_151) (XS.idiv X248.here hx rfl (hb hby at_152) rfl (by decide) k))) ?_
                show own_Go p e below s _ _ (T248.setTop (mkF m 153 #[iv p0, iv p1, iv p2, rv b1, jv 0, .second, jv 1, .second, jv 2, .second, rv b66, rv b123, rv b191, iv 1, .unset, .unset, .unset, .unset, .unset, .unset, .unset, .unset] [(.int ((1 : Int32) / (2 : Int32)))]))
                rw [show ((1 : Int32) / (2 : Int32)) = (0 : Int32) from by decide]
                show own_Go p e below s _ _ (T248.setTop (mkF m 153 #[iv p0, iv p1, iv p2, rv b1, jv 0, .second, jv 1, .second, jv 2, .second, rv b66, rv b123, rv b191, iv 1, .unset, .unset, .unset, .unset, .unset, .unset, .unset, .unset] [(.int 0)]))
                refine own_via (fun k => XS.istore X248.here hx rfl (hb hby at_153) rfl (l' := #[iv p0, iv p1, iv p2, rv b1, jv 0, .second, jv 1, .second, jv 2, .second, rv b66, rv b123, rv b191, iv 1, iv 0, .unset, .unset, .unset, .unset, .unset, .unset, .unset]) rfl (XS.iload X248.here hx rfl (hb hby at_155) rfl  k)) ?_
                show own_Go p e below s _ _ (T248.setTop (mkF m 157 #[iv p0, iv p1, iv p2, rv b1, jv 0, .second, jv 1, .second, jv 2, .second, rv b66, rv b123, rv b191, iv 1, iv 0, .unset, .unset, .unset, .unset, .unset, .unset, .unset] [(.int 0)]))
                refine own_via (fun k => XS.ifNo X248.here hx rfl (hb hby at_157) rfl (by decide) k) ?_
                show own_Go p e below s _ _ (T248.setTop (mkF m 160 #[iv p0, iv p1, iv p2, rv b1, jv 0, .second, jv 1, .second, jv 2, .second, rv b66, rv b123, rv b191, iv 1, iv 0, .unset, .unset, .unset, .unset, .unset, .unset, .unset] []))
                refine own_via (fun k => XS.iconst X248.here hx rfl (hb hby at_160) (XS.goto X248.here hx rfl (pc0 := 161) (pc' := 165) rfl (hb hby at_161) (by decide) (by decide) (XS.istore X248.here hx rfl (hb hby at_165) rfl (l' := #[iv p0, iv p1, iv p2, rv b1, jv 0, .second, jv 1, .second, jv 2, .second, rv b66, rv b123, rv b191, iv 1, iv 0, iv 1, .unset, .unset, .unset, .unset, .unset, .unset]) rfl (XS.iload X248.here hx rfl (hb hby at_167) rfl  k)))) ?_
                show own_Go p e below s _ _ (T248.setTop (mkF m 169 #[iv p0, iv p1, iv p2, rv b1, jv 0, .second, jv 1, .second, jv 2, .second, rv b66, rv b123, rv b191, iv 1, iv 0, iv 1, .unset, .unset, .unset, .unset, .unset, .unset] [(.int 0)]))
                refine own_via (fun k => XS.iconst X248.here hx rfl (hb hby at_169) k) ?_
                show own_Go p e below s _ _ (T248.setTop (mkF m 170 #[iv p0, iv p1, iv p2, rv b1, jv 0, .second, jv 1, .second, jv 2, .second, rv b66, rv b123, rv b191, iv 1, iv 0, iv 1, .unset, .unset, .unset, .unset, .unset, .unset] [(.int 2), (.int 0)]))
                refine own_via (fun k => XS.icmpYes X248.here hx rfl (pc0 := 170) (pc' := 177) rfl (hb hby at_170) rfl (by decide) (by decide) (by decide) k) ?_
                show own_Go p e below s _ _ (T248.setTop (mkF m 177 #[iv p0, iv p1, iv p2, rv b1, jv 0, .second, jv 1, .second, jv 2, .second, rv b66, rv b123, rv b191, iv 1, iv 0, iv 1, .unset, .unset, .unset, .unset, .unset, .unset] []))
                refine own_via (fun k => XS.iconst X248.here hx rfl (hb hby at_177) (XS.istore X248.here hx rfl (hb hby at_178) rfl (l' := #[iv p0, iv p1, iv p2, rv b1, jv 0, .second, jv 1, .second, jv 2, .second, rv b66, rv b123, rv b191, iv 1, iv 0, iv 1, iv 2, .unset, .unset, .unset, .unset, .unset]) rfl (XS.iload X248.here hx rfl (hb hby at_180) rfl  (XS.iconst X248.here hx rfl (hb hby at_182) k)))) ?_
                show own_Go p e below s _ _ (T248.setTop (mkF m 183 #[iv p0, iv p1, iv p2, rv b1, jv 0, .second, jv 1, .second, jv 2, .second, rv b66, rv b123, rv b191, iv 1, iv 0, iv 1, iv 2, .unset, .unset, .unset, .unset, .unset] [(.int 2), (.int 1)]))
                refine own_via (fun k => Jvm.RoadKit.iremM X248 hx rfl (hb hby at_183) rfl (by decide) k) ?_
                show own_Go p e below s _ _ (T248.setTop (mkF m 184 #[iv p0, iv p1, iv p2, rv b1, jv 0, .second, jv 1, .second, jv 2, .second, rv b66, rv b123, rv b191, iv 1, iv 0, iv 1, iv 2, .unset, .unset, .unset, .unset, .unset] [(.int ((1 : Int32) % (2 : Int32)))]))
                rw [show ((1 : Int32) % (2 : Int32)) = (1 : Int32) from by decide]
                show own_Go p e below s _ _ (T248.setTop (mkF m 184 #[iv p0, iv p1, iv p2, rv b1, jv 0, .second, jv 1, .second, jv 2, .second, rv b66, rv b123, rv b191, iv 1, iv 0, iv 1, iv 2, .unset, .unset, .unset, .unset, .unset] [(.int 1)]))
                refine own_via (fun k => XS.ifYes X248.here hx rfl (pc0 := 184) (pc' := 192) rfl (hb hby at_184) rfl (by decide) (by decide) (by decide) k) ?_
                show own_Go p e below s _ _ (T248.setTop (mkF m 192 #[iv p0, iv p1, iv p2, rv b1, jv 0, .second, jv 1, .second, jv 2, .second, rv b66, rv b123, rv b191, iv 1, iv 0, iv 1, iv 2, .unset, .unset, .unset, .unset, .unset] []))
                refine own_via (fun k => XS.iload X248.here hx rfl (hb hby at_192) rfl  (XS.istore X248.here hx rfl (hb hby at_194) rfl (l' := #[iv p0, iv p1, iv p2, rv b1, jv 0, .second, jv 1, .second, jv 2, .second, rv b66, rv b123, rv b191, iv 1, iv 0, iv 1, iv 2, iv 2, .unset, .unset, .unset, .unset]) rfl (XS.iload X248.here hx rfl (hb hby at_196) rfl  (XS.iconst X248.here hx rfl (hb hby at_198) k)))) ?_
                show own_Go p e below s _ _ (T248.setTop (mkF m 199 #[iv p0, iv p1, iv p2, rv b1, jv 0, .second, jv 1, .second, jv 2, .second, rv b66, rv b123, rv b191, iv 1, iv 0, iv 1, iv 2, iv 2, .unset, .unset, .unset, .unset] [(.int 2), (.int 1)]))
                refine own_via (fun k => Jvm.RoadKit.iremM X248 hx rfl (hb hby at_199) rfl (by decide) k) ?_
                show own_Go p e below s _ _ (T248.setTop (mkF m 200 #[iv p0, iv p1, iv p2, rv b1, jv 0, .second, jv 1, .second, jv 2, .second, rv b66, rv b123, rv b191, iv 1, iv 0, iv 1, iv 2, iv 2, .unset, .unset, .unset, .unset] [(.int ((1 : Int32) % (2 : Int32)))]))
                rw [show ((1 : Int32) % (2 : Int32)) = (1 : Int32) from by decide]
                show own_Go p e below s _ _ (T248.setTop (mkF m 200 #[iv p0, iv p1, iv p2, rv b1, jv 0, .second, jv 1, .second, jv 2, .second, rv b66, rv b123, rv b191, iv 1, iv 0, iv 1, iv 2, iv 2, .unset, .unset, .unset, .unset] [(.int 1)]))
                refine own_via (fun k => XS.ifYes X248.here hx rfl (pc0 := 200) (pc' := 208) rfl (hb hby at_200) rfl (by decide) (by decide) (by decide) k) ?_
                show own_Go p e below s _ _ (T248.setTop (mkF m 208 #[iv p0, iv p1, iv p2, rv b1, jv 0, .second, jv 1, .second, jv 2, .second, rv b66, rv b123, rv b191, iv 1, iv 0, iv 1, iv 2, iv 2, .unset, .unset, .unset, .unset] []))
                refine own_via (fun k => XS.iload X248.here hx rfl (hb hby at_208) rfl  (XS.istore X248.here hx rfl (hb hby at_210) rfl (l' := #[iv p0, iv p1, iv p2, rv b1, jv 0, .second, jv 1, .second, jv 2, .second, rv b66, rv b123, rv b191, iv 1, iv 0, iv 1, iv 2, iv 2, iv 1, .unset, .unset, .unset]) rfl (XS.aloadN X248.here hx rfl (hb hby at_212) rfl rfl  (XS.aload X248.here hx rfl (hb hby at_213) rfl rfl  k)))) ?_
                show own_Go p e below s _ _ (T248.setTop (mkF m 215 #[iv p0, iv p1, iv p2, rv b1, jv 0, .second, jv 1, .second, jv 2, .second, rv b66, rv b123, rv b191, iv 1, iv 0, iv 1, iv 2, iv 2, iv 1, .unset, .unset, .unset] [(.ref b66), (.ref b1)]))
                refine own_via (fun k => XS.aload X248.here hx rfl (hb hby at_215) rfl rfl  (XS.aload X248.here hx rfl (hb hby at_217) rfl rfl  (XS.iload X248.here hx rfl (hb hby at_219) rfl  k))) ?_
                show own_Go p e below s _ _ (T248.setTop (mkF m 221 #[iv p0, iv p1, iv p2, rv b1, jv 0, .second, jv 1, .second, jv 2, .second, rv b66, rv b123, rv b191, iv 1, iv 0, iv 1, iv 2, iv 2, iv 1, .unset, .unset, .unset] [(.int 0), (.ref b191), (.ref b123), (.ref b66), (.ref b1)]))
                obtain ⟨_, _, ⟨T407, L407, k407, n407⟩, -, X407, ⟨Lc407, hQ407, l407, y407, z407⟩, st407⟩ := Jvm.LawKit.callS X248 hx (y := (⟨"com/example/tree_to_rows/treetorows/query/OutcomesSetPinLaw", "step", "(Lcom/example/tree_to_rows/treetorows/query/Outcomes;[J[Z[ZI)V"⟩ : MethodName)) hown (mvT hZ (hw _ (List.mem_of_getElem? (i := 31) rfl))) (mvT hZ (hw _ (List.mem_of_getElem? (i := 32) rfl))) (mvT hZ (hw _ (List.mem_of_getElem? (i := 33) rfl))) (mvT hZ (hw _ (List.mem_of_getElem? (i := 34) rfl))) (by decide) (backOf (W := 0) (rm5_0 l Z aw hw [] b1 b66 b123 b191 (3 : Int32) (3 : Int32) (3 : Int64) (0 : Int64) (0 : Int32) (0 : Int64) (0 : Int32) (0 : Int64) k66 k123 k191 (nar .boolean z140) (nar .boolean z157) (nar .boolean z174) (nar .boolean z210) (nar .boolean z228) (nar .boolean z246) h248 n0 Z263 B250 B251 B252 B253 B254 B255 B256 B257 B258 B249 B259 B260 B261 g2 (Ne.symm ne68) (Ne.symm ne125) (Ne.symm ne193)) hZ (hw _ (List.mem_of_getElem? (i := 34) rfl)) (hw _ (List.mem_of_getElem? (i := 33) rfl)) (by decide) (by decide)) (g := (mkF m 221 #[iv p0, iv p1, iv p2, rv b1, jv 0, .second, jv 1, .second, jv 2, .second, rv b66, rv b123, rv b191, iv 1, iv 0, iv 1, iv 2, iv 2, iv 1, .unset, .unset, .unset] [(.int 0), (.ref b191), (.ref b123), (.ref b66), (.ref b1)])) rfl (by rw [hml]; rfl) (argsL := [(.ref b1), (.ref b66), (.ref b123), (.ref b191), (.int 0)]) (rest := []) (lenOf pd_2 rfl) rfl (by show 2 * 0 + _ ≤ _; exact Nat.le_of_eq rfl) (hb hby at_221) (fun _ _ => ⟨rfl, e248, (by decide : 5 + 0 ≤ _), (by decide : 27 + 0 ≤ _)⟩)
                dsimp only [Pt.U, Pt.locs, Pt.cells, Pt.slots] at X407 l407 y407 z407 st407 hQ407
                subst l407 y407 z407
                obtain ⟨rfl, N407q, K407, B408, B409, B410, B411, B412, B413, B414, B415, B416⟩ := hQ407
                have N417 := Fr.app N262 N407q
                have B418 := B249.keep K407
                have B419 := B259.keep K407 (ninS (Ne.symm ne68) nin0)
                have B420 := B260.keep K407 (ninS (Ne.symm ne125) nin0)
                have B421 := B261.keep K407 (ninS (Ne.symm ne193) nin0)
                have Z422 : n0 ≤ T407.heap.size := Nat.le_trans Z263 K407.1
                obtain ⟨z423, hz423⟩ : ∃ z : Int32, z = (own_f5_0w (3 : Int32) (nar .boolean z140)) := ⟨_, rfl⟩
                rw [← hz423] at B410
                obtain ⟨z424, hz424⟩ : ∃ z : Int64, z = (own_f5_0c (0 : Int64) (nar .boolean z140) (nar .boolean z210)) := ⟨_, rfl⟩
                rw [← hz424] at B412
                refine own_via (fun k => st407 _ k) ?_
                show own_Go p e below s _ _ (T407.setTop (mkF m 224 #[iv p0, iv p1, iv p2, rv b1, jv 0, .second, jv 1, .second, jv 2, .second, rv b66, rv b123, rv b191, iv 1, iv 0, iv 1, iv 2, iv 2, iv 1, .unset, .unset, .unset] []))
                refine own_via (fun k => XS.aloadN X407.here hx rfl (hb hby at_224) rfl rfl  (XS.aload X407.here hx rfl (hb hby at_225) rfl rfl  (XS.aload X407.here hx rfl (hb hby at_227) rfl rfl  (XS.aload X407.here hx rfl (hb hby at_229) rfl rfl  k)))) ?_
                show own_Go p e below s _ _ (T407.setTop (mkF m 231 #[iv p0, iv p1, iv p2, rv b1, jv 0, .second, jv 1, .second, jv 2, .second, rv b66, rv b123, rv b191, iv 1, iv 0, iv 1, iv 2, iv 2, iv 1, .unset, .unset, .unset] [(.ref b191), (.ref b123), (.ref b66), (.ref b1)]))
                refine own_via (fun k => XS.iload X407.here hx rfl (hb hby at_231) rfl  k) ?_
                show own_Go p e below s _ _ (T407.setTop (mkF m 233 #[iv p0, iv p1, iv p2, rv b1, jv 0, .second, jv 1, .second, jv 2, .second, rv b66, rv b123, rv b191, iv 1, iv 0, iv 1, iv 2, iv 2, iv 1, .unset, .unset, .unset] [(.int 2), (.ref b191), (.ref b123), (.ref b66), (.ref b1)]))
                obtain ⟨_, _, ⟨T425, L425, k425, n425⟩, -, X425, ⟨Lc425, hQ425, l425, y425, z425⟩, st425⟩ := Jvm.LawKit.callS X407 hx (y := (⟨"com/example/tree_to_rows/treetorows/query/OutcomesSetPinLaw", "step", "(Lcom/example/tree_to_rows/treetorows/query/Outcomes;[J[Z[ZI)V"⟩ : MethodName)) hown (mvT hZ (hw _ (List.mem_of_getElem? (i := 31) rfl))) (mvT hZ (hw _ (List.mem_of_getElem? (i := 32) rfl))) (mvT hZ (hw _ (List.mem_of_getElem? (i := 33) rfl))) (mvT hZ (hw _ (List.mem_of_getElem? (i := 34) rfl))) (by decide) (backOf (W := 0) (rm5_2 l Z aw hw [] b1 b66 b123 b191 (3 : Int32) z423 (3 : Int64) z424 (0 : Int32) (0 : Int64) (0 : Int32) (0 : Int64) k66 k123 k191 (nar .boolean z140) (nar .boolean z157) (nar .boolean z174) (nar .boolean z210) (nar .boolean z228) (nar .boolean z246) T407.heap n0 Z422 B408 B409 B410 B411 B412 B413 B414 B415 B416 B418 B419 B420 B421 g2 (Ne.symm ne68) (Ne.symm ne125) (Ne.symm ne193)) hZ (hw _ (List.mem_of_getElem? (i := 34) rfl)) (hw _ (List.mem_of_getElem? (i := 33) rfl)) (by decide) (by decide)) (g := (mkF m 233 #[iv p0, iv p1, iv p2, rv b1, jv 0, .second, jv 1, .second, jv 2, .second, rv b66, rv b123, rv b191, iv 1, iv 0, iv 1, iv 2, iv 2, iv 1, .unset, .unset, .unset] [(.int 2), (.ref b191), (.ref b123), (.ref b66), (.ref b1)])) rfl (by rw [hml]; rfl) (argsL := [(.ref b1), (.ref b66), (.ref b123), (.ref b191), (.int 2)]) (rest := []) (lenOf pd_2 rfl) rfl (by show 2 * 0 + _ ≤ _; exact Nat.le_of_eq rfl) (hb hby at_233) (fun _ _ => ⟨rfl, rfl, (by decide : 5 + 0 ≤ _), (by decide : 27 + 0 ≤ _)⟩)
                dsimp only [Pt.U, Pt.locs, Pt.cells, Pt.slots] at X425 l425 y425 z425 st425 hQ425
                subst l425 y425 z425
                obtain ⟨rfl, N425q, K425, B426, B427, B428, B429, B430, B431, B432, B433, B434⟩ := hQ425
                have N435 := Fr.app N417 N425q
                have B436 := B418.keep K425
                have B437 := B419.keep K425 (ninS (Ne.symm ne68) nin0)
                have B438 := B420.keep K425 (ninS (Ne.symm ne125) nin0)
                have B439 := B421.keep K425 (ninS (Ne.symm ne193) nin0)
                have Z440 : n0 ≤ T425.heap.size := Nat.le_trans Z422 K425.1
                obtain ⟨z441, hz441⟩ : ∃ z : Int32, z = (own_f5_2w z423 (nar .boolean z174)) := ⟨_, rfl⟩
                rw [← hz441] at B428
                obtain ⟨z442, hz442⟩ : ∃ z : Int64, z = (own_f5_2c z424 (nar .boolean z174) (nar .boolean z246)) := ⟨_, rfl⟩
                rw [← hz442] at B430
                refine own_via (fun k => st425 _ k) ?_
                show own_Go p e below s _ _ (T425.setTop (mkF m 236 #[iv p0, iv p1, iv p2, rv b1, jv 0, .second, jv 1, .second, jv 2, .second, rv b66, rv b123, rv b191, iv 1, iv 0, iv 1, iv 2, iv 2, iv 1, .unset, .unset, .unset] []))
                refine own_via (fun k => XS.aloadN X425.here hx rfl (hb hby at_236) rfl rfl  (XS.aload X425.here hx rfl (hb hby at_237) rfl rfl  (XS.aload X425.here hx rfl (hb hby at_239) rfl rfl  (XS.aload X425.here hx rfl (hb hby at_241) rfl rfl  k)))) ?_
                show own_Go p e below s _ _ (T425.setTop (mkF m 243 #[iv p0, iv p1, iv p2, rv b1, jv 0, .second, jv 1, .second, jv 2, .second, rv b66, rv b123, rv b191, iv 1, iv 0, iv 1, iv 2, iv 2, iv 1, .unset, .unset, .unset] [(.ref b191), (.ref b123), (.ref b66), (.ref b1)]))
                refine own_via (fun k => XS.iload X425.here hx rfl (hb hby at_243) rfl  k) ?_
                show own_Go p e below s _ _ (T425.setTop (mkF m 245 #[iv p0, iv p1, iv p2, rv b1, jv 0, .second, jv 1, .second, jv 2, .second, rv b66, rv b123, rv b191, iv 1, iv 0, iv 1, iv 2, iv 2, iv 1, .unset, .unset, .unset] [(.int 1), (.ref b191), (.ref b123), (.ref b66), (.ref b1)]))
                obtain ⟨_, _, ⟨T443, L443, k443, n443⟩, -, X443, ⟨Lc443, hQ443, l443, y443, z443⟩, st443⟩ := Jvm.LawKit.callS X425 hx (y := (⟨"com/example/tree_to_rows/treetorows/query/OutcomesSetPinLaw", "step", "(Lcom/example/tree_to_rows/treetorows/query/Outcomes;[J[Z[ZI)V"⟩ : MethodName)) hown (mvT hZ (hw _ (List.mem_of_getElem? (i := 31) rfl))) (mvT hZ (hw _ (List.mem_of_getElem? (i := 32) rfl))) (mvT hZ (hw _ (List.mem_of_getElem? (i := 33) rfl))) (mvT hZ (hw _ (List.mem_of_getElem? (i := 34) rfl))) (by decide) (backOf (W := 0) (rm5_1 l Z aw hw [] b1 b66 b123 b191 (3 : Int32) z441 (3 : Int64) z442 (0 : Int32) (0 : Int64) (0 : Int32) (0 : Int64) k66 k123 k191 (nar .boolean z140) (nar .boolean z157) (nar .boolean z174) (nar .boolean z210) (nar .boolean z228) (nar .boolean z246) T425.heap n0 Z440 B426 B427 B428 B429 B430 B431 B432 B433 B434 B436 B437 B438 B439 g2 (Ne.symm ne68) (Ne.symm ne125) (Ne.symm ne193)) hZ (hw _ (List.mem_of_getElem? (i := 34) rfl)) (hw _ (List.mem_of_getElem? (i := 33) rfl)) (by decide) (by decide)) (g := (mkF m 245 #[iv p0, iv p1, iv p2, rv b1, jv 0, .second, jv 1, .second, jv 2, .second, rv b66, rv b123, rv b191, iv 1, iv 0, iv 1, iv 2, iv 2, iv 1, .unset, .unset, .unset] [(.int 1), (.ref b191), (.ref b123), (.ref b66), (.ref b1)])) rfl (by rw [hml]; rfl) (argsL := [(.ref b1), (.ref b66), (.ref b123), (.ref b191), (.int 1)]) (rest := []) (lenOf pd_2 rfl) rfl (by show 2 * 0 + _ ≤ _; exact Nat.le_of_eq rfl) (hb hby at_245) (fun _ _ => ⟨rfl, rfl, (by decide : 5 + 0 ≤ _), (by decide : 27 + 0 ≤ _)⟩)
                dsimp only [Pt.U, Pt.locs, Pt.cells, Pt.slots] at X443 l443 y443 z443 st443 hQ443
                subst l443 y443 z443
                obtain ⟨rfl, N443q, K443, B444, B445, B446, B447, B448, B449, B450, B451, B452⟩ := hQ443
                have N453 := Fr.app N435 N443q
                have B454 := B436.keep K443
                have B455 := B437.keep K443 (ninS (Ne.symm ne68) nin0)
                have B456 := B438.keep K443 (ninS (Ne.symm ne125) nin0)
                have B457 := B439.keep K443 (ninS (Ne.symm ne193) nin0)
                have Z458 : n0 ≤ T443.heap.size := Nat.le_trans Z440 K443.1
                obtain ⟨z459, hz459⟩ : ∃ z : Int32, z = (own_f5_1w z441 (nar .boolean z157)) := ⟨_, rfl⟩
                rw [← hz459] at B446
                obtain ⟨z460, hz460⟩ : ∃ z : Int64, z = (own_f5_1c z442 (nar .boolean z157) (nar .boolean z228)) := ⟨_, rfl⟩
                rw [← hz460] at B448
                refine own_via (fun k => st443 _ k) ?_
                show own_Go p e below s _ _ (T443.setTop (mkF m 248 #[iv p0, iv p1, iv p2, rv b1, jv 0, .second, jv 1, .second, jv 2, .second, rv b66, rv b123, rv b191, iv 1, iv 0, iv 1, iv 2, iv 2, iv 1, .unset, .unset, .unset] []))
                refine own_via (fun k => XS.aloadN X443.here hx rfl (hb hby at_248) rfl rfl  k) ?_
                show own_Go p e below s _ _ (T443.setTop (mkF m 249 #[iv p0, iv p1, iv p2, rv b1, jv 0, .second, jv 1, .second, jv 2, .second, rv b66, rv b123, rv b191, iv 1, iv 0, iv 1, iv 2, iv 2, iv 1, .unset, .unset, .unset] [(.ref b1)]))
                obtain ⟨cq461, kq461, q461a, q461b, q461c⟩ := isOf hZ rfl B454
                obtain ⟨_, _, ⟨T461, L461, k461, n461⟩, -, X461, ⟨Lc461, hQ461, l461, y461, z461⟩, st461⟩ := X443.virtualBack hx (y := (⟨"com/example/tree_to_rows/treetorows/query/Outcomes", "rewind", "()V"⟩ : MethodName)) (z := (⟨"com/example/tree_to_rows/treetorows/query/Outcomes", "rewind", "()V"⟩ : MethodName)) hown (mvT hZ (hw _ (List.mem_of_getElem? (i := 43) rfl))) (mvT hZ (hw _ (List.mem_of_getElem? (i := 44) rfl))) (notFace_of_selects (args := #[]) (mvT hZ (hw _ (List.mem_of_getElem? (i := 46) rfl)))) (mvT hZ (hw _ (List.mem_of_getElem? (i := 46) rfl))) (mvT hZ (hw _ (List.mem_of_getElem? (i := 45) rfl))) (by decide) (backOf (W := 0) (rm7 l Z aw hw [] b1 (0 : Int32) (3 : Int32) z459 (3 : Int64) z460 T443.heap n0 Z458 B444 B445 B446 B447 B448 B449 B450 B451 B452 B454 g2) hZ (hw _ (List.mem_of_getElem? (i := 47) rfl)) (hw _ (List.mem_of_getElem? (i := 2) rfl)) (by decide) (by decide)) q461a q461c (g := (mkF m 249 #[iv p0, iv p1, iv p2, rv b1, jv 0, .second, jv 1, .second, jv 2, .second, rv b66, rv b123, rv b191, iv 1, iv 0, iv 1, iv 2, iv 2, iv 1, .unset, .unset, .unset] [(.ref b1)])) rfl (by rw [hml]; rfl) (Steps.refl _) (argsL := []) (rest := []) (lenOf pd_0 rfl) rfl (by show 2 * 0 + _ ≤ _; exact Nat.le_of_eq rfl) (hb hby at_249) (fun _ _ => ⟨rfl, rfl, (by decide : 5 + 0 ≤ _), (by decide : 27 + 0 ≤ _)⟩)
                dsimp only [Pt.U, Pt.locs, Pt.cells, Pt.slots] at X461 l461 y461 z461 st461 hQ461
                subst l461 y461 z461
                obtain ⟨rfl, N461q, K461, B462, B463, B464, B465, B466, B467, B468, B469, B470⟩ := hQ461
                have N471 := Fr.app N453 N461q
                have B472 := B454.keep K461
                have B473 := B455.keep K461 (ninS (Ne.symm ne68) nin0)
                have B474 := B456.keep K461 (ninS (Ne.symm ne125) nin0)
                have B475 := B457.keep K461 (ninS (Ne.symm ne193) nin0)
                have Z476 : n0 ≤ T461.heap.size := Nat.le_trans Z458 K461.1
                refine own_via (fun k => st461.trans k) ?_
                show own_Go p e below s _ _ (T461.setTop (mkF m 252 #[iv p0, iv p1, iv p2, rv b1, jv 0, .second, jv 1, .second, jv 2, .second, rv b66, rv b123, rv b191, iv 1, iv 0, iv 1, iv 2, iv 2, iv 1, .unset, .unset, .unset] []))
                refine own_via (fun k => XS.aloadN X461.here hx rfl (hb hby at_252) rfl rfl  k) ?_
                show own_Go p e below s _ _ (T461.setTop (mkF m 253 #[iv p0, iv p1, iv p2, rv b1, jv 0, .second, jv 1, .second, jv 2, .second, rv b66, rv b123, rv b191, iv 1, iv 0, iv 1, iv 2, iv 2, iv 1, .unset, .unset, .unset] [(.ref b1)]))
                obtain ⟨cq477, kq477, q477a, q477b, q477c⟩ := isOf hZ rfl B472
                obtain ⟨_, _, ⟨T477, L477, k477, n477⟩, -, X477, ⟨Lc477, hQ477, l477, y477, z477⟩, st477⟩ := X461.virtualBack hx (y := (⟨"com/example/tree_to_rows/treetorows/query/Outcomes", "next", "()Z"⟩ : MethodName)) (z := (⟨"com/example/tree_to_rows/treetorows/query/Outcomes", "next", "()Z"⟩ : MethodName)) hown (mvT hZ (hw _ (List.mem_of_getElem? (i := 56) rfl))) (mvT hZ (hw _ (List.mem_of_getElem? (i := 57) rfl))) (notFace_of_selects (args := #[]) (mvT hZ (hw _ (List.mem_of_getElem? (i := 59) rfl)))) (mvT hZ (hw _ (List.mem_of_getElem? (i := 59) rfl))) (mvT hZ (hw _ (List.mem_of_getElem? (i := 58) rfl))) (by decide) (backOf (W := 0) (rm8_0 l Z aw hw [] b1 (3 : Int32) z459 z460 (0 : Int64) T461.heap n0 Z476 B462 B463 B464 B465 B466 B467 B468 B469 B470 B472 g2) hZ (hw _ (List.mem_of_getElem? (i := 60) rfl)) (hw _ (List.mem_of_getElem? (i := 2) rfl)) (by decide) (by decide)) q477a q477c (g := (mkF m 253 #[iv p0, iv p1, iv p2, rv b1, jv 0, .second, jv 1, .second, jv 2, .second, rv b66, rv b123, rv b191, iv 1, iv 0, iv 1, iv 2, iv 2, iv 1, .unset, .unset, .unset] [(.ref b1)])) rfl (by rw [hml]; rfl) (Steps.refl _) (argsL := []) (rest := []) (lenOf pd_4 rfl) rfl (by show 2 * 0 + _ ≤ _; exact Nat.le_of_eq rfl) (hb hby at_253) (fun _ _ => ⟨rfl, rfl, (by decide : 5 + 0 ≤ _), (by decide : 27 + 0 ≤ _)⟩)
                dsimp only [Pt.U, Pt.locs, Pt.cells, Pt.slots] at X477 l477 y477 z477 st477 hQ477
                subst l477 y477 z477
                obtain ⟨rfl, N477q, K477, B478, B479, B480, B481, B482, B483, B484, B485, B486⟩ := hQ477
                have N487 := Fr.app N471 N477q
                have B488 := B472.keep K477
                have B489 := B473.keep K477 (ninS (Ne.symm ne68) nin0)
                have B490 := B474.keep K477 (ninS (Ne.symm ne125) nin0)
                have B491 := B475.keep K477 (ninS (Ne.symm ne193) nin0)
                have Z492 : n0 ≤ T477.heap.size := Nat.le_trans Z476 K477.1
                refine own_via (fun k => st477.trans k) ?_
                show own_Go p e below s _ _ (T477.setTop (mkF m 256 #[iv p0, iv p1, iv p2, rv b1, jv 0, .second, jv 1, .second, jv 2, .second, rv b66, rv b123, rv b191, iv 1, iv 0, iv 1, iv 2, iv 2, iv 1, .unset, .unset, .unset] [(.int (own_f8_0 z460))]))
                obtain ⟨z493, hz493⟩ : ∃ z : Int32, z = (own_f8_0 z460) := ⟨_, rfl⟩
                rw [← hz493]
                show own_Go p e below s _ _ (T477.setTop (mkF m 256 #[iv p0, iv p1, iv p2, rv b1, jv 0, .second, jv 1, .second, jv 2, .second, rv b66, rv b123, rv b191, iv 1, iv 0, iv 1, iv 2, iv 2, iv 1, .unset, .unset, .unset] [(.int z493)]))
                refine own_via (fun k => XS.istore X477.here hx rfl (hb hby at_256) rfl (l' := #[iv p0, iv p1, iv p2, rv b1, jv 0, .second, jv 1, .second, jv 2, .second, rv b66, rv b123, rv b191, iv 1, iv 0, iv 1, iv 2, iv 2, iv 1, iv z493, .unset, .unset]) rfl (XS.aloadN X477.here hx rfl (hb hby at_258) rfl rfl  k)) ?_
                show own_Go p e below s _ _ (T477.setTop (mkF m 259 #[iv p0, iv p1, iv p2, rv b1, jv 0, .second, jv 1, .second, jv 2, .second, rv b66, rv b123, rv b191, iv 1, iv 0, iv 1, iv 2, iv 2, iv 1, iv z493, .unset, .unset] [(.ref b1)]))
                obtain ⟨cq494, kq494, q494a, q494b, q494c⟩ := isOf hZ rfl B488
                obtain ⟨_, _, ⟨T494, L494, k494, n494⟩, -, X494, ⟨Lc494, hQ494, l494, y494, z494⟩, st494⟩ := X477.virtualBack hx (y := (⟨"com/example/tree_to_rows/treetorows/query/Outcomes", "next", "()Z"⟩ : MethodName)) (z := (⟨"com/example/tree_to_rows/treetorows/query/Outcomes", "next", "()Z"⟩ : MethodName)) hown (mvT hZ (hw _ (List.mem_of_getElem? (i := 56) rfl))) (mvT hZ (hw _ (List.mem_of_getElem? (i := 57) rfl))) (notFace_of_selects (args := #[]) (mvT hZ (hw _ (List.mem_of_getElem? (i := 59) rfl)))) (mvT hZ (hw _ (List.mem_of_getElem? (i := 59) rfl))) (mvT hZ (hw _ (List.mem_of_getElem? (i := 58) rfl))) (by decide) (backOf (W := 0) (rm8_1 l Z aw hw [] b1 (3 : Int32) z459 z460 (0 : Int64) T477.heap n0 Z492 B478 B479 B480 B481 B482 B483 B484 B485 B486 B488 g2) hZ (hw _ (List.mem_of_getElem? (i := 60) rfl)) (hw _ (List.mem_of_getElem? (i := 2) rfl)) (by decide) (by decide)) q494a q494c (g := (mkF m 259 #[iv p0, iv p1, iv p2, rv b1, jv 0, .second, jv 1, .second, jv 2, .second, rv b66, rv b123, rv b191, iv 1, iv 0, iv 1, iv 2, iv 2, iv 1, iv z493, .unset, .unset] [(.ref b1)])) rfl (by rw [hml]; rfl) (Steps.refl _) (argsL := []) (rest := []) (lenOf pd_4 rfl) rfl (by show 2 * 0 + _ ≤ _; exact Nat.le_of_eq rfl) (hb hby at_259) (fun _ _ => ⟨rfl, rfl, (by decide : 5 + 0 ≤ _), (by decide : 27 + 0 ≤ _)⟩)
                dsimp only [Pt.U, Pt.locs, Pt.cells, Pt.slots] at X494 l494 y494 z494 st494 hQ494
                subst l494 y494 z494
                obtain ⟨rfl, N494q, K494, B495, B496, B497, B498, B499, B500, B501, B502, B503⟩ := hQ494
                have N504 := Fr.app N487 N494q
                have B505 := B488.keep K494
                have B506 := B489.keep K494 (ninS (Ne.symm ne68) nin0)
                have B507 := B490.keep K494 (ninS (Ne.symm ne125) nin0)
                have B508 := B491.keep K494 (ninS (Ne.symm ne193) nin0)
                have Z509 : n0 ≤ T494.heap.size := Nat.le_trans Z492 K494.1
                refine own_via (fun k => st494.trans k) ?_
                show own_Go p e below s _ _ (T494.setTop (mkF m 262 #[iv p0, iv p1, iv p2, rv b1, jv 0, .second, jv 1, .second, jv 2, .second, rv b66, rv b123, rv b191, iv 1, iv 0, iv 1, iv 2, iv 2, iv 1, iv z493, .unset, .unset] [(.int (own_f8_1 z460))]))
                obtain ⟨z510, hz510⟩ : ∃ z : Int32, z = (own_f8_1 z460) := ⟨_, rfl⟩
                rw [← hz510]
                show own_Go p e below s _ _ (T494.setTop (mkF m 262 #[iv p0, iv p1, iv p2, rv b1, jv 0, .second, jv 1, .second, jv 2, .second, rv b66, rv b123, rv b191, iv 1, iv 0, iv 1, iv 2, iv 2, iv 1, iv z493, .unset, .unset] [(.int z510)]))
                refine own_via (fun k => XS.istore X494.here hx rfl (hb hby at_262) rfl (l' := #[iv p0, iv p1, iv p2, rv b1, jv 0, .second, jv 1, .second, jv 2, .second, rv b66, rv b123, rv b191, iv 1, iv 0, iv 1, iv 2, iv 2, iv 1, iv z493, iv z510, .unset]) rfl (XS.aloadN X494.here hx rfl (hb hby at_264) rfl rfl  k)) ?_
                show own_Go p e below s _ _ (T494.setTop (mkF m 265 #[iv p0, iv p1, iv p2, rv b1, jv 0, .second, jv 1, .second, jv 2, .second, rv b66, rv b123, rv b191, iv 1, iv 0, iv 1, iv 2, iv 2, iv 1, iv z493, iv z510, .unset] [(.ref b1)]))
                obtain ⟨cq511, kq511, q511a, q511b, q511c⟩ := isOf hZ rfl B505
                obtain ⟨_, _, ⟨T511, L511, k511, n511⟩, -, X511, ⟨Lc511, hQ511, l511, y511, z511⟩, st511⟩ := X494.virtualBack hx (y := (⟨"com/example/tree_to_rows/treetorows/query/Outcomes", "next", "()Z"⟩ : MethodName)) (z := (⟨"com/example/tree_to_rows/treetorows/query/Outcomes", "next", "()Z"⟩ : MethodName)) hown (mvT hZ (hw _ (List.mem_of_getElem? (i := 56) rfl))) (mvT hZ (hw _ (List.mem_of_getElem? (i := 57) rfl))) (notFace_of_selects (args := #[]) (mvT hZ (hw _ (List.mem_of_getElem? (i := 59) rfl)))) (mvT hZ (hw _ (List.mem_of_getElem? (i := 59) rfl))) (mvT hZ (hw _ (List.mem_of_getElem? (i := 58) rfl))) (by decide) (backOf (W := 0) (rm8_2 l Z aw hw [] b1 (3 : Int32) z459 z460 (0 : Int64) T494.heap n0 Z509 B495 B496 B497 B498 B499 B500 B501 B502 B503 B505 g2) hZ (hw _ (List.mem_of_getElem? (i := 60) rfl)) (hw _ (List.mem_of_getElem? (i := 2) rfl)) (by decide) (by decide)) q511a q511c (g := (mkF m 265 #[iv p0, iv p1, iv p2, rv b1, jv 0, .second, jv 1, .second, jv 2, .second, rv b66, rv b123, rv b191, iv 1, iv 0, iv 1, iv 2, iv 2, iv 1, iv z493, iv z510, .unset] [(.ref b1)])) rfl (by rw [hml]; rfl) (Steps.refl _) (argsL := []) (rest := []) (lenOf pd_4 rfl) rfl (by show 2 * 0 + _ ≤ _; exact Nat.le_of_eq rfl) (hb hby at_265) (fun _ _ => ⟨rfl, rfl, (by decide : 5 + 0 ≤ _), (by decide : 27 + 0 ≤ _)⟩)
                dsimp only [Pt.U, Pt.locs, Pt.cells, Pt.slots] at X511 l511 y511 z511 st511 hQ511
                subst l511 y511 z511
                obtain ⟨rfl, N511q, K511, B512, B513, B514, B515, B516, B517, B518, B519, B520⟩ := hQ511
                have N521 := Fr.app N504 N511q
                have B522 := B505.keep K511
                have B523 := B506.keep K511 (ninS (Ne.symm ne68) nin0)
                have B524 := B507.keep K511 (ninS (Ne.symm ne125) nin0)
                have B525 := B508.keep K511 (ninS (Ne.symm ne193) nin0)
                have Z526 : n0 ≤ T511.heap.size := Nat.le_trans Z509 K511.1
                refine own_via (fun k => st511.trans k) ?_
                show own_Go p e below s _ _ (T511.setTop (mkF m 268 #[iv p0, iv p1, iv p2, rv b1, jv 0, .second, jv 1, .second, jv 2, .second, rv b66, rv b123, rv b191, iv 1, iv 0, iv 1, iv 2, iv 2, iv 1, iv z493, iv z510, .unset] [(.int (own_f8_2 z460))]))
                obtain ⟨z527, hz527⟩ : ∃ z : Int32, z = (own_f8_2 z460) := ⟨_, rfl⟩
                rw [← hz527]
                show own_Go p e below s _ _ (T511.setTop (mkF m 268 #[iv p0, iv p1, iv p2, rv b1, jv 0, .second, jv 1, .second, jv 2, .second, rv b66, rv b123, rv b191, iv 1, iv 0, iv 1, iv 2, iv 2, iv 1, iv z493, iv z510, .unset] [(.int z527)]))
                refine own_via (fun k => XS.istore X511.here hx rfl (hb hby at_268) rfl (l' := #[iv p0, iv p1, iv p2, rv b1, jv 0, .second, jv 1, .second, jv 2, .second, rv b66, rv b123, rv b191, iv 1, iv 0, iv 1, iv 2, iv 2, iv 1, iv z493, iv z510, iv z527]) rfl (XS.lload X511.here hx rfl (hb hby at_270) rfl  (XS.lconst X511.here hx rfl (hb hby at_272) (XS.lcmp X511.here hx rfl (hb hby at_273) rfl k)))) ?_
                show own_Go p e below s _ _ (T511.setTop (mkF m 274 #[iv p0, iv p1, iv p2, rv b1, jv 0, .second, jv 1, .second, jv 2, .second, rv b66, rv b123, rv b191, iv 1, iv 0, iv 1, iv 2, iv 2, iv 1, iv z493, iv z510, iv z527] [(.int (lcmpW (0 : Int64) (0 : Int64)))]))
                refine own_via (fun k => XS.ifNo X511.here hx rfl (hb hby at_274) rfl (by decide) k) ?_
                show own_Go p e below s _ _ (T511.setTop (mkF m 277 #[iv p0, iv p1, iv p2, rv b1, jv 0, .second, jv 1, .second, jv 2, .second, rv b66, rv b123, rv b191, iv 1, iv 0, iv 1, iv 2, iv 2, iv 1, iv z493, iv z510, iv z527] []))
                refine own_via (fun k => XS.lload X511.here hx rfl (hb hby at_277) rfl  (XS.lconst X511.here hx rfl (hb hby at_279) (XS.lcmp X511.here hx rfl (hb hby at_280) rfl k))) ?_
                show own_Go p e below s _ _ (T511.setTop (mkF m 281 #[iv p0, iv p1, iv p2, rv b1, jv 0, .second, jv 1, .second, jv 2, .second, rv b66, rv b123, rv b191, iv 1, iv 0, iv 1, iv 2, iv 2, iv 1, iv z493, iv z510, iv z527] [(.int (lcmpW (1 : Int64) (1 : Int64)))]))
                refine own_via (fun k => XS.ifNo X511.here hx rfl (hb hby at_281) rfl (by decide) k) ?_
                show own_Go p e below s _ _ (T511.setTop (mkF m 284 #[iv p0, iv p1, iv p2, rv b1, jv 0, .second, jv 1, .second, jv 2, .second, rv b66, rv b123, rv b191, iv 1, iv 0, iv 1, iv 2, iv 2, iv 1, iv z493, iv z510, iv z527] []))
                refine own_via (fun k => XS.lload X511.here hx rfl (hb hby at_284) rfl  (X511.ldc2Long hx hown (mvT hZ (hw _ (List.mem_of_getElem? (i := 62) rfl))) (g := (mkF m 286 #[iv p0, iv p1, iv p2, rv b1, jv 0, .second, jv 1, .second, jv 2, .second, rv b66, rv b123, rv b191, iv 1, iv 0, iv 1, iv 2, iv 2, iv 1, iv z493, iv z510, iv z527] [(.long 2)])) rfl (hb hby at_286) _ (XS.lcmp X511.here hx rfl (hb hby at_289) rfl k))) ?_
                show own_Go p e below s _ _ (T511.setTop (mkF m 290 #[iv p0, iv p1, iv p2, rv b1, jv 0, .second, jv 1, .second, jv 2, .second, rv b66, rv b123, rv b191, iv 1, iv 0, iv 1, iv 2, iv 2, iv 1, iv z493, iv z510, iv z527] [(.int (lcmpW (2 : Int64) (2 : Int64)))]))
                refine own_via (fun k => XS.ifNo X511.here hx rfl (hb hby at_290) rfl (by decide) k) ?_
                show own_Go p e below s _ _ (T511.setTop (mkF m 293 #[iv p0, iv p1, iv p2, rv b1, jv 0, .second, jv 1, .second, jv 2, .second, rv b66, rv b123, rv b191, iv 1, iv 0, iv 1, iv 2, iv 2, iv 1, iv z493, iv z510, iv z527] []))
                refine own_via (fun k => XS.iload X511.here hx rfl (hb hby at_293) rfl  (XS.aload X511.here hx rfl (hb hby at_295) rfl rfl  (XS.iconst X511.here hx rfl (hb hby at_297) k))) ?_
                show own_Go p e below s _ _ (T511.setTop (mkF m 298 #[iv p0, iv p1, iv p2, rv b1, jv 0, .second, jv 1, .second, jv 2, .second, rv b66, rv b123, rv b191, iv 1, iv 0, iv 1, iv 2, iv 2, iv 1, iv z493, iv z510, iv z527] [(.int 0), (.ref b123), (.int z493)]))
                obtain ⟨cl528, Ar528, q528, S528, NN528, H528, G528⟩ := id B524
                have hin528 : ¬ ((0 : Int32) < 0 ∨ cl528.slots.size ≤ ((0 : Int32)).toNatClampNeg) := inb_of S528 ⟨by decide, by decide⟩
                have hat528 : cl528.slots[((0 : Int32)).toNatClampNeg]? = some (.int (nar .boolean z140)) := H528.at hin528 rfl
                refine own_via (fun k => X511.baloadBooleans hx (j := (0 : Int32)) (v := (.int (nar .boolean z140))) Ar528.1 (State.isArrayOf_alike hZ.alike Ar528.2.1) Ar528.2.2 hin528 hat528 (g := (mkF m 298 #[iv p0, iv p1, iv p2, rv b1, jv 0, .second, jv 1, .second, jv 2, .second, rv b66, rv b123, rv b191, iv 1, iv 0, iv 1, iv 2, iv 2, iv 1, iv z493, iv z510, iv z527] [(.int 0), (.ref b123), (.int z493)])) rfl rfl (hb hby at_298) _ k) ?_
                show own_Go p e below s _ _ (T511.setTop (mkF m 299 #[iv p0, iv p1, iv p2, rv b1, jv 0, .second, jv 1, .second, jv 2, .second, rv b66, rv b123, rv b191, iv 1, iv 0, iv 1, iv 2, iv 2, iv 1, iv z493, iv z510, iv z527] [(.int (nar .boolean z140)), (.int z493)]))
                have J531 : ∀ (T531 : State) (lo531 : List Loc), Stand p l e room_1 s m #[(.int p0), (.int p1), (.int p2)] below meth c T531 lo531 5 27 → Fr n0 lo531 → T531.heap = T511.heap → ∀ (z530 : Int32), z530 = (if (nar .boolean z140) = (0 : Int32) then (0 : Int32) else (if (nar .boolean z210) = (0 : Int32) then (0 : Int32) else (1 : Int32))) → own_Go p e below s (Q0 Z p0 p1 p2 h0 n0) (room_1.cells, room_1.slots) (T531.setTop (mkF m 314 #[iv p0, iv p1, iv p2, rv b1, jv 0, .second, jv 1, .second, jv 2, .second, rv b66, rv b123, rv b191, iv 1, iv 0, iv 1, iv 2, iv 2, iv 1, iv z493, iv z510, iv z527] [(.int z530), (.int z493)])) := by
                  intro T531 lo531 X531 N531 e531 z530 hz530
                  refine own_via (fun k => XS.icmpNo X531.here hx rfl (hb hby at_314) rfl (teq (own_law1_314 p0 p1 p2 z140 hz140 z157 hz157 z174 hz174 z210 hz210 z228 hz228 z246 hz246 z424 hz424 z442 hz442 z460 hz460 z493 hz493 z530 hz530 hl264)).2 k) ?_
                  show own_Go p e below s _ _ (T531.setTop (mkF m 317 #[iv p0, iv p1, iv p2, rv b1, jv 0, .second, jv 1, .second, jv 2, .second, rv b66, rv b123, rv b191, iv 1, iv 0, iv 1, iv 2, iv 2, iv 1, iv z493, iv z510, iv z527] []))
                  refine own_via (fun k => XS.iload X531.here hx rfl (hb hby at_317) rfl  (XS.aload X531.here hx rfl (hb hby at_319) rfl rfl  (XS.iconst X531.here hx rfl (hb hby at_321) k))) ?_
                  show own_Go p e below s _ _ (T531.setTop (mkF m 322 #[iv p0, iv p1, iv p2, rv b1, jv 0, .second, jv 1, .second, jv 2, .second, rv b66, rv b123, rv b191, iv 1, iv 0, iv 1, iv 2, iv 2, iv 1, iv z493, iv z510, iv z527] [(.int 1), (.ref b123), (.int z510)]))
                  obtain ⟨cl532, Ar532, q532, S532, NN532, H532, G532⟩ := id B524
                  have hin532 : ¬ ((1 : Int32) < 0 ∨ cl532.slots.size ≤ ((1 : Int32)).toNatClampNeg) := inb_of S532 ⟨by decide, by decide⟩
                  have hat532 : cl532.slots[((1 : Int32)).toNatClampNeg]? = some (.int (nar .boolean z157)) := H532.at hin532 rfl
                  refine own_via (fun k => X531.baloadBooleans hx (j := (1 : Int32)) (v := (.int (nar .boolean z157))) (by rw [e531]; exact Ar532.1) (State.isArrayOf_alike hZ.alike Ar532.2.1) Ar532.2.2 hin532 hat532 (g := (mkF m 322 #[iv p0, iv p1, iv p2, rv b1, jv 0, .second, jv 1, .second, jv 2, .second, rv b66, rv b123, rv b191, iv 1, iv 0, iv 1, iv 2, iv 2, iv 1, iv z493, iv z510, iv z527] [(.int 1), (.ref b123), (.int z510)])) rfl rfl (hb hby at_322) _ k) ?_
                  show own_Go p e below s _ _ (T531.setTop (mkF m 323 #[iv p0, iv p1, iv p2, rv b1, jv 0, .second, jv 1, .second, jv 2, .second, rv b66, rv b123, rv b191, iv 1, iv 0, iv 1, iv 2, iv 2, iv 1, iv z493, iv z510, iv z527] [(.int (nar .boolean z157)), (.int z510)]))
                  have J535 : ∀ (T535 : State) (lo535 : List Loc), Stand p l e room_1 s m #[(.int p0), (.int p1), (.int p2)] below meth c T535 lo535 5 27 → Fr n0 lo535 → T535.heap = T511.heap → ∀ (z534 : Int32), z534 = (if (nar .boolean z157) = (0 : Int32) then (0 : Int32) else (if (nar .boolean z228) = (0 : Int32) then (0 : Int32) else (1 : Int32))) → own_Go p e below s (Q0 Z p0 p1 p2 h0 n0) (room_1.cells, room_1.slots) (T535.setTop (mkF m 338 #[iv p0, iv p1, iv p2, rv b1, jv 0, .second, jv 1, .second, jv 2, .second, rv b66, rv b123, rv b191, iv 1, iv 0, iv 1, iv 2, iv 2, iv 1, iv z493, iv z510, iv z527] [(.int z534), (.int z510)])) := by
                    intro T535 lo535 X535 N535 e535 z534 hz534
                    refine own_via (fun k => XS.icmpNo X535.here hx rfl (hb hby at_338) rfl (teq (own_law1_338 p0 p1 p2 z140 hz140 z157 hz157 z174 hz174 z210 hz210 z228 hz228 z246 hz246 z424 hz424 z442 hz442 z460 hz460 z510 hz510 z534 hz534 hl264)).2 k) ?_
                    show own_Go p e below s _ _ (T535.setTop (mkF m 341 #[iv p0, iv p1, iv p2, rv b1, jv 0, .second, jv 1, .second, jv 2, .second, rv b66, rv b123, rv b191, iv 1, iv 0, iv 1, iv 2, iv 2, iv 1, iv z493, iv z510, iv z527] []))
                    refine own_via (fun k => XS.iload X535.here hx rfl (hb hby at_341) rfl  (XS.aload X535.here hx rfl (hb hby at_343) rfl rfl  (XS.iconst X535.here hx rfl (hb hby at_345) k))) ?_
                    show own_Go p e below s _ _ (T535.setTop (mkF m 346 #[iv p0, iv p1, iv p2, rv b1, jv 0, .second, jv 1, .second, jv 2, .second, rv b66, rv b123, rv b191, iv 1, iv 0, iv 1, iv 2, iv 2, iv 1, iv z493, iv z510, iv z527] [(.int 2), (.ref b123), (.int z527)]))
                    obtain ⟨cl536, Ar536, q536, S536, NN536, H536, G536⟩ := id B524
                    have hin536 : ¬ ((2 : Int32) < 0 ∨ cl536.slots.size ≤ ((2 : Int32)).toNatClampNeg) := inb_of S536 ⟨by decide, by decide⟩
                    have hat536 : cl536.slots[((2 : Int32)).toNatClampNeg]? = some (.int (nar .boolean z174)) := H536.at hin536 rfl
                    refine own_via (fun k => X535.baloadBooleans hx (j := (2 : Int32)) (v := (.int (nar .boolean z174))) (by rw [e535]; exact Ar536.1) (State.isArrayOf_alike hZ.alike Ar536.2.1) Ar536.2.2 hin536 hat536 (g := (mkF m 346 #[iv p0, iv p1, iv p2, rv b1, jv 0, .second, jv 1, .second, jv 2, .second, rv b66, rv b123, rv b191, iv 1, iv 0, iv 1, iv 2, iv 2, iv 1, iv z493, iv z510, iv z527] [(.int 2), (.ref b123), (.int z527)])) rfl rfl (hb hby at_346) _ k) ?_
                    show own_Go p e below s _ _ (T535.setTop (mkF m 347 #[iv p0, iv p1, iv p2, rv b1, jv 0, .second, jv 1, .second, jv 2, .second, rv b66, rv b123, rv b191, iv 1, iv 0, iv 1, iv 2, iv 2, iv 1, iv z493, iv z510, iv z527] [(.int (nar .boolean z174)), (.int z527)]))
                    have J539 : ∀ (T539 : State) (lo539 : List Loc), Stand p l e room_1 s m #[(.int p0), (.int p1), (.int p2)] below meth c T539 lo539 5 27 → Fr n0 lo539 → T539.heap = T511.heap → ∀ (z538 : Int32), z538 = (if (nar .boolean z174) = (0 : Int32) then (0 : Int32) else (if (nar .boolean z246) = (0 : Int32) then (0 : Int32) else (1 : Int32))) → own_Go p e below s (Q0 Z p0 p1 p2 h0 n0) (room_1.cells, room_1.slots) (T539.setTop (mkF m 362 #[iv p0, iv p1, iv p2, rv b1, jv 0, .second, jv 1, .second, jv 2, .second, rv b66, rv b123, rv b191, iv 1, iv 0, iv 1, iv 2, iv 2, iv 1, iv z493, iv z510, iv z527] [(.int z538), (.int z527)])) := by
                      intro T539 lo539 X539 N539 e539 z538 hz538
                      refine own_via (fun k => XS.icmpNo X539.here hx rfl (hb hby at_362) rfl (teq (own_law1_362 p0 p1 p2 z140 hz140 z157 hz157 z174 hz174 z210 hz210 z228 hz228 z246 hz246 z424 hz424 z442 hz442 z460 hz460 z527 hz527 z538 hz538 hl264)).2 k) ?_
                      show own_Go p e below s _ _ (T539.setTop (mkF m 365 #[iv p0, iv p1, iv p2, rv b1, jv 0, .second, jv 1, .second, jv 2, .second, rv b66, rv b123, rv b191, iv 1, iv 0, iv 1, iv 2, iv 2, iv 1, iv z493, iv z510, iv z527] []))
                      refine own_via (fun k => XS.iconst X539.here hx rfl (hb hby at_365) (XS.goto X539.here hx rfl (pc0 := 366) (pc' := 370) rfl (hb hby at_366) (by decide) (by decide) k)) ?_
                      show own_Go p e below s _ _ (T539.setTop (mkF m 370 #[iv p0, iv p1, iv p2, rv b1, jv 0, .second, jv 1, .second, jv 2, .second, rv b66, rv b123, rv b191, iv 1, iv 0, iv 1, iv 2, iv 2, iv 1, iv z493, iv z510, iv z527] [(.int 1)]))
                      exact own_retN X539 hx hlk (t := .boolean) Bd.returns (by simp) (hb hby at_370) (Q := (Q0 Z p0 p1 p2 h0 n0)) ⟨rfl, N539⟩ (by decide) (by decide)
                    by_cases hc540 : (nar .boolean z174) = (0 : Int32)
                    · refine own_via (fun k => XS.ifYes X535.here hx rfl (pc0 := 347) (pc' := 361) rfl (hb hby at_347) rfl ((if0 _ _).trans (teq hc540).1) (by decide) (by decide) k) ?_
                      show own_Go p e below s _ _ (T535.setTop (mkF m 361 #[iv p0, iv p1, iv p2, rv b1, jv 0, .second, jv 1, .second, jv 2, .second, rv b66, rv b123, rv b191, iv 1, iv 0, iv 1, iv 2, iv 2, iv 1, iv z493, iv z510, iv z527] [(.int z527)]))
                      refine own_via (fun k => XS.iconst X535.here hx rfl (hb hby at_361) k) ?_
                      show own_Go p e below s _ _ (T535.setTop (mkF m 362 #[iv p0, iv p1, iv p2, rv b1, jv 0, .second, jv 1, .second, jv 2, .second, rv b66, rv b123, rv b191, iv 1, iv 0, iv 1, iv 2, iv 2, iv 1, iv z493, iv z510, iv z527] [(.int 0), (.int z527)]))
                      exact J539 _ _ X535 N535 e535 (0 : Int32) (((if_pos hc540).trans rfl)).symm
                    · refine own_via (fun k => XS.ifNo X535.here hx rfl (hb hby at_347) rfl ((if0 _ _).trans (feq hc540).1) k) ?_
                      show own_Go p e below s _ _ (T535.setTop (mkF m 350 #[iv p0, iv p1, iv p2, rv b1, jv 0, .second, jv 1, .second, jv 2, .second, rv b66, rv b123, rv b191, iv 1, iv 0, iv 1, iv 2, iv 2, iv 1, iv z493, iv z510, iv z527] [(.int z527)]))
                      refine own_via (fun k => XS.aload X535.here hx rfl (hb hby at_350) rfl rfl  (XS.iconst X535.here hx rfl (hb hby at_352) k)) ?_
                      show own_Go p e below s _ _ (T535.setTop (mkF m 353 #[iv p0, iv p1, iv p2, rv b1, jv 0, .second, jv 1, .second, jv 2, .second, rv b66, rv b123, rv b191, iv 1, iv 0, iv 1, iv 2, iv 2, iv 1, iv z493, iv z510, iv z527] [(.int 2), (.ref b191), (.int z527)]))
                      obtain ⟨cl541, Ar541, q541, S541, NN541, H541, G541⟩ := id B525
                      have hin541 : ¬ ((2 : Int32) < 0 ∨ cl541.slots.size ≤ ((2 : Int32)).toNatClampNeg) := inb_of S541 ⟨by decide, by decide⟩
                      have hat541 : cl541.slots[((2 : Int32)).toNatClampNeg]? = some (.int (nar .boolean z246)) := H541.at hin541 rfl
                      refine own_via (fun k => X535.baloadBooleans hx (j := (2 : Int32)) (v := (.int (nar .boolean z246))) (by rw [e535]; exact Ar541.1) (State.isArrayOf_alike hZ.alike Ar541.2.1) Ar541.2.2 hin541 hat541 (g := (mkF m 353 #[iv p0, iv p1, iv p2, rv b1, jv 0, .second, jv 1, .second, jv 2, .second, rv b66, rv b123, rv b191, iv 1, iv 0, iv 1, iv 2, iv 2, iv 1, iv z493, iv z510, iv z527] [(.int 2), (.ref b191), (.int z527)])) rfl rfl (hb hby at_353) _ k) ?_
                      show own_Go p e below s _ _ (T535.setTop (mkF m 354 #[iv p0, iv p1, iv p2, rv b1, jv 0, .second, jv 1, .second, jv 2, .second, rv b66, rv b123, rv b191, iv 1, iv 0, iv 1, iv 2, iv 2, iv 1, iv z493, iv z510, iv z527] [(.int (nar .boolean z246)), (.int z527)]))
                      by_cases hc542 : (nar .boolean z246) = (0 : Int32)
                      · refine own_via (fun k => XS.ifYes X535.here hx rfl (pc0 := 354) (pc' := 361) rfl (hb hby at_354) rfl ((if0 _ _).trans (teq hc542).1) (by decide) (by decide) k) ?_
                        show own_Go p e below s _ _ (T535.setTop (mkF m 361 #[iv p0, iv p1, iv p2, rv b1, jv 0, .second, jv 1, .second, jv 2, .second, rv b66, rv b123, rv b191, iv 1, iv 0, iv 1, iv 2, iv 2, iv 1, iv z493, iv z510, iv z527] [(.int z527)]))
                        refine own_via (fun k => XS.iconst X535.here hx rfl (hb hby at_361) k) ?_
                        show own_Go p e below s _ _ (T535.setTop (mkF m 362 #[iv p0, iv p1, iv p2, rv b1, jv 0, .second, jv 1, .second, jv 2, .second, rv b66, rv b123, rv b191, iv 1, iv 0, iv 1, iv 2, iv 2, iv 1, iv z493, iv z510, iv z527] [(.int 0), (.int z527)]))
                        exact J539 _ _ X535 N535 e535 (0 : Int32) (((if_neg hc540).trans ((if_pos hc542).trans rfl))).symm
                      · refine own_via (fun k => XS.ifNo X535.here hx rfl (hb hby at_354) rfl ((if0 _ _).trans (feq hc542).1) k) ?_
                        show own_Go p e below s _ _ (T535.setTop (mkF m 357 #[iv p0, iv p1, iv p2, rv b1, jv 0, .second, jv 1, .second, jv 2, .second, rv b66, rv b123, rv b191, iv 1, iv 0, iv 1, iv 2, iv 2, iv 1, iv z493, iv z510, iv z527] [(.int z527)]))
                        refine own_via (fun k => XS.iconst X535.here hx rfl (hb hby at_357) (XS.goto X535.here hx rfl (pc0 := 358) (pc' := 362) rfl (hb hby at_358) (by decide) (by decide) k)) ?_
                        show own_Go p e below s _ _ (T535.setTop (mkF m 362 #[iv p0, iv p1, iv p2, rv b1, jv 0, .second, jv 1, .second, jv 2, .second, rv b66, rv b123, rv b191, iv 1, iv 0, iv 1, iv 2, iv 2, iv 1, iv z493, iv z510, iv z527] [(.int 1), (.int z527)]))
                        exact J539 _ _ X535 N535 e535 (1 : Int32) (((if_neg hc540).trans ((if_neg hc542).trans rfl))).symm
                  by_cases hc543 : (nar .boolean z157) = (0 : Int32)
                  · refine own_via (fun k => XS.ifYes X531.here hx rfl (pc0 := 323) (pc' := 337) rfl (hb hby at_323) rfl ((if0 _ _).trans (teq hc543).1) (by decide) (by decide) k) ?_
                    show own_Go p e below s _ _ (T531.setTop (mkF m 337 #[iv p0, iv p1, iv p2, rv b1, jv 0, .second, jv 1, .second, jv 2, .second, rv b66, rv b123, rv b191, iv 1, iv 0, iv 1, iv 2, iv 2, iv 1, iv z493, iv z510, iv z527] [(.int z510)]))
                    refine own_via (fun k => XS.iconst X531.here hx rfl (hb hby at_337) k) ?_
                    show own_Go p e below s _ _ (T531.setTop (mkF m 338 #[iv p0, iv p1, iv p2, rv b1, jv 0, .second, jv 1, .second, jv 2, .second, rv b66, rv b123, rv b191, iv 1, iv 0, iv 1, iv 2, iv 2, iv 1, iv z493, iv z510, iv z527] [(.int 0), (.int z510)]))
                    exact J535 _ _ X531 N531 e531 (0 : Int32) (((if_pos hc543).trans rfl)).symm
                  · refine own_via (fun k => XS.ifNo X531.here hx rfl (hb hby at_323) rfl ((if0 _ _).trans (feq hc543).1) k) ?_
                    show own_Go p e below s _ _ (T531.setTop (mkF m 326 #[iv p0, iv p1, iv p2, rv b1, jv 0, .second, jv 1, .second, jv 2, .second, rv b66, rv b123, rv b191, iv 1, iv 0, iv 1, iv 2, iv 2, iv 1, iv z493, iv z510, iv z527] [(.int z510)]))
                    refine own_via (fun k => XS.aload X531.here hx rfl (hb hby at_326) rfl rfl  (XS.iconst X531.here hx rfl (hb hby at_328) k)) ?_
                    show own_Go p e below s _ _ (T531.setTop (mkF m 329 #[iv p0, iv p1, iv p2, rv b1, jv 0, .second, jv 1, .second, jv 2, .second, rv b66, rv b123, rv b191, iv 1, iv 0, iv 1, iv 2, iv 2, iv 1, iv z493, iv z510, iv z527] [(.int 1), (.ref b191), (.int z510)]))
                    obtain ⟨cl544, Ar544, q544, S544, NN544, H544, G544⟩ := id B525
                    have hin544 : ¬ ((1 : Int32) < 0 ∨ cl544.slots.size ≤ ((1 : Int32)).toNatClampNeg) := inb_of S544 ⟨by decide, by decide⟩
                    have hat544 : cl544.slots[((1 : Int32)).toNatClampNeg]? = some (.int (nar .boolean z228)) := H544.at hin544 rfl
                    refine own_via (fun k => X531.baloadBooleans hx (j := (1 : Int32)) (v := (.int (nar .boolean z228))) (by rw [e531]; exact Ar544.1) (State.isArrayOf_alike hZ.alike Ar544.2.1) Ar544.2.2 hin544 hat544 (g := (mkF m 329 #[iv p0, iv p1, iv p2, rv b1, jv 0, .second, jv 1, .second, jv 2, .second, rv b66, rv b123, rv b191, iv 1, iv 0, iv 1, iv 2, iv 2, iv 1, iv z493, iv z510, iv z527] [(.int 1), (.ref b191), (.int z510)])) rfl rfl (hb hby at_329) _ k) ?_
                    show own_Go p e below s _ _ (T531.setTop (mkF m 330 #[iv p0, iv p1, iv p2, rv b1, jv 0, .second, jv 1, .second, jv 2, .second, rv b66, rv b123, rv b191, iv 1, iv 0, iv 1, iv 2, iv 2, iv 1, iv z493, iv z510, iv z527] [(.int (nar .boolean z228)), (.int z510)]))
                    by_cases hc545 : (nar .boolean z228) = (0 : Int32)
                    · refine own_via (fun k => XS.ifYes X531.here hx rfl (pc0 := 330) (pc' := 337) rfl (hb hby at_330) rfl ((if0 _ _).trans (teq hc545).1) (by decide) (by decide) k) ?_
                      show own_Go p e below s _ _ (T531.setTop (mkF m 337 #[iv p0, iv p1, iv p2, rv b1, jv 0, .second, jv 1, .second, jv 2, .second, rv b66, rv b123, rv b191, iv 1, iv 0, iv 1, iv 2, iv 2, iv 1, iv z493, iv z510, iv z527] [(.int z510)]))
                      refine own_via (fun k => XS.iconst X531.here hx rfl (hb hby at_337) k) ?_
                      show own_Go p e below s _ _ (T531.setTop (mkF m 338 #[iv p0, iv p1, iv p2, rv b1, jv 0, .second, jv 1, .second, jv 2, .second, rv b66, rv b123, rv b191, iv 1, iv 0, iv 1, iv 2, iv 2, iv 1, iv z493, iv z510, iv z527] [(.int 0), (.int z510)]))
                      exact J535 _ _ X531 N531 e531 (0 : Int32) (((if_neg hc543).trans ((if_pos hc545).trans rfl))).symm
                    · refine own_via (fun k => XS.ifNo X531.here hx rfl (hb hby at_330) rfl ((if0 _ _).trans (feq hc545).1) k) ?_
                      show own_Go p e below s _ _ (T531.setTop (mkF m 333 #[iv p0, iv p1, iv p2, rv b1, jv 0, .second, jv 1, .second, jv 2, .second, rv b66, rv b123, rv b191, iv 1, iv 0, iv 1, iv 2, iv 2, iv 1, iv z493, iv z510, iv z527] [(.int z510)]))
                      refine own_via (fun k => XS.iconst X531.here hx rfl (hb hby at_333) (XS.goto X531.here hx rfl (pc0 := 334) (pc' := 338) rfl (hb hby at_334) (by decide) (by decide) k)) ?_
                      show own_Go p e below s _ _ (T531.setTop (mkF m 338 #[iv p0, iv p1, iv p2, rv b1, jv 0, .second, jv 1, .second, jv 2, .second, rv b66, rv b123, rv b191, iv 1, iv 0, iv 1, iv 2, iv 2, iv 1, iv z493, iv z510, iv z527] [(.int 1), (.int z510)]))
                      exact J535 _ _ X531 N531 e531 (1 : Int32) (((if_neg hc543).trans ((if_neg hc545).trans rfl))).symm
                by_cases hc546 : (nar .boolean z140) = (0 : Int32)
                · refine own_via (fun k => XS.ifYes X511.here hx rfl (pc0 := 299) (pc' := 313) rfl (hb hby at_299) rfl ((if0 _ _).trans (teq hc546).1) (by decide) (by decide) k) ?_
                  show own_Go p e below s _ _ (T511.setTop (mkF m 313 #[iv p0, iv p1, iv p2, rv b1, jv 0, .second, jv 1, .second, jv 2, .second, rv b66, rv b123, rv b191, iv 1, iv 0, iv 1, iv 2, iv 2, iv 1, iv z493, iv z510, iv z527] [(.int z493)]))
                  refine own_via (fun k => XS.iconst X511.here hx rfl (hb hby at_313) k) ?_
                  show own_Go p e below s _ _ (T511.setTop (mkF m 314 #[iv p0, iv p1, iv p2, rv b1, jv 0, .second, jv 1, .second, jv 2, .second, rv b66, rv b123, rv b191, iv 1, iv 0, iv 1, iv 2, iv 2, iv 1, iv z493, iv z510, iv z527] [(.int 0), (.int z493)]))
                  exact J531 _ _ X511 N521 rfl (0 : Int32) (((if_pos hc546).trans rfl)).symm
                · refine own_via (fun k => XS.ifNo X511.here hx rfl (hb hby at_299) rfl ((if0 _ _).trans (feq hc546).1) k) ?_
                  show own_Go p e below s _ _ (T511.setTop (mkF m 302 #[iv p0, iv p1, iv p2, rv b1, jv 0, .second, jv 1, .second, jv 2, .second, rv b66, rv b123, rv b191, iv 1, iv 0, iv 1, iv 2, iv 2, iv 1, iv z493, iv z510, iv z527] [(.int z493)]))
                  refine own_via (fun k => XS.aload X511.here hx rfl (hb hby at_302) rfl rfl  (XS.iconst X511.here hx rfl (hb hby at_304) k)) ?_
                  show own_Go p e below s _ _ (T511.setTop (mkF m 305 #[iv p0, iv p1, iv p2, rv b1, jv 0, .second, jv 1, .second, jv 2, .second, rv b66, rv b123, rv b191, iv 1, iv 0, iv 1, iv 2, iv 2, iv 1, iv z493, iv z510, iv z527] [(.int 0), (.ref b191), (.int z493)]))
                  obtain ⟨cl547, Ar547, q547, S547, NN547, H547, G547⟩ := id B525
                  have hin547 : ¬ ((0 : Int32) < 0 ∨ cl547.slots.size ≤ ((0 : Int32)).toNatClampNeg) := inb_of S547 ⟨by decide, by decide⟩
                  have hat547 : cl547.slots[((0 : Int32)).toNatClampNeg]? = some (.int (nar .boolean z210)) := H547.at hin547 rfl
                  refine own_via (fun k => X511.baloadBooleans hx (j := (0 : Int32)) (v := (.int (nar .boolean z210))) Ar547.1 (State.isArrayOf_alike hZ.alike Ar547.2.1) Ar547.2.2 hin547 hat547 (g := (mkF m 305 #[iv p0, iv p1, iv p2, rv b1, jv 0, .second, jv 1, .second, jv 2, .second, rv b66, rv b123, rv b191, iv 1, iv 0, iv 1, iv 2, iv 2, iv 1, iv z493, iv z510, iv z527] [(.int 0), (.ref b191), (.int z493)])) rfl rfl (hb hby at_305) _ k) ?_
                  show own_Go p e below s _ _ (T511.setTop (mkF m 306 #[iv p0, iv p1, iv p2, rv b1, jv 0, .second, jv 1, .second, jv 2, .second, rv b66, rv b123, rv b191, iv 1, iv 0, iv 1, iv 2, iv 2, iv 1, iv z493, iv z510, iv z527] [(.int (nar .boolean z210)), (.int z493)]))
                  by_cases hc548 : (nar .boolean z210) = (0 : Int32)
                  · refine own_via (fun k => XS.ifYes X511.here hx rfl (pc0 := 306) (pc' := 313) rfl (hb hby at_306) rfl ((if0 _ _).trans (teq hc548).1) (by decide) (by decide) k) ?_
                    show own_Go p e below s _ _ (T511.setTop (mkF m 313 #[iv p0, iv p1, iv p2, rv b1, jv 0, .second, jv 1, .second, jv 2, .second, rv b66, rv b123, rv b191, iv 1, iv 0, iv 1, iv 2, iv 2, iv 1, iv z493, iv z510, iv z527] [(.int z493)]))
                    refine own_via (fun k => XS.iconst X511.here hx rfl (hb hby at_313) k) ?_
                    show own_Go p e below s _ _ (T511.setTop (mkF m 314 #[iv p0, iv p1, iv p2, rv b1, jv 0, .second, jv 1, .second, jv 2, .second, rv b66, rv b123, rv b191, iv 1, iv 0, iv 1, iv 2, iv 2, iv 1, iv z493, iv z510, iv z527] [(.int 0), (.int z493)]))
                    exact J531 _ _ X511 N521 rfl (0 : Int32) (((if_neg hc546).trans ((if_pos hc548).trans rfl))).symm
                  · refine own_via (fun k => XS.ifNo X511.here hx rfl (hb hby at_306) rfl ((if0 _ _).trans (feq hc548).1) k) ?_
                    show own_Go p e below s _ _ (T511.setTop (mkF m 309 #[iv p0, iv p1, iv p2, rv b1, jv 0, .second, jv 1, .second, jv 2, .second, rv b66, rv b123, rv b191, iv 1, iv 0, iv 1, iv 2, iv 2, iv 1, iv z493, iv z510, iv z527] [(.int z493)]))
                    refine own_via (fun k => XS.iconst X511.here hx rfl (hb hby at_309) (XS.goto X511.here hx rfl (pc0 := 310) (pc' := 314) rfl (hb hby at_310) (by decide) (by decide) k)) ?_
                    show own_Go p e below s _ _ (T511.setTop (mkF m 314 #[iv p0, iv p1, iv p2, rv b1, jv 0, .second, jv 1, .second, jv 2, .second, rv b66, rv b123, rv b191, iv 1, iv 0, iv 1, iv 2, iv 2, iv 1, iv z493, iv z510, iv z527] [(.int 1), (.int z493)]))
                    exact J531 _ _ X511 N521 rfl (1 : Int32) (((if_neg hc546).trans ((if_neg hc548).trans rfl))).symm
              · rw [hl264]
                show own_Go p e below s _ _ (T248.setTop (mkF m 149 #[iv p0, iv p1, iv p2, rv b1, jv 0, .second, jv 1, .second, jv 2, .second, rv b66, rv b123, rv b191, iv 2, .unset, .unset, .unset, .unset, .unset, .unset, .unset, .unset] []))
                refine own_via (fun k => XS.iload X248.here hx rfl (hb hby at_149) rfl  (XS.iconst X248.here hx rfl (hb hby at_151) (XS.idiv X248.here hx rfl (hb hby at_152) rfl (by decide) k))) ?_
                show own_Go p e below s _ _ (T248.setTop (mkF m 153 #[iv p0, iv p1, iv p2, rv b1, jv 0, .second, jv 1, .second, jv 2, .second, rv b66, rv b123, rv b191, iv 2, .unset, .unset, .unset, .unset, .unset, .unset, .unset, .unset] [(.int ((2 : Int32) / (2 : Int32)))]))
                rw [show ((2 : Int32) / (2 : Int32)) = (1 : Int32) from by decide]
                show own_Go p e below s _ _ (T248.setTop (mkF m 153 #[iv p0, iv p1, iv p2, rv b1, jv 0, .second, jv 1, .second, jv 2, .second, rv b66, rv b123, rv b191, iv 2, .unset, .unset, .unset, .unset, .unset, .unset, .unset, .unset] [(.int 1)]))
                refine own_via (fun k => XS.istore X248.here hx rfl (hb hby at_153) rfl (l' := #[iv p0, iv p1, iv p2, rv b1, jv 0, .second, jv 1, .second, jv 2, .second, rv b66, rv b123, rv b191, iv 2, iv 1, .unset, .unset, .unset, .unset, .unset, .unset, .unset]) rfl (XS.iload X248.here hx rfl (hb hby at_155) rfl  k)) ?_
                show own_Go p e below s _ _ (T248.setTop (mkF m 157 #[iv p0, iv p1, iv p2, rv b1, jv 0, .second, jv 1, .second, jv 2, .second, rv b66, rv b123, rv b191, iv 2, iv 1, .unset, .unset, .unset, .unset, .unset, .unset, .unset] [(.int 1)]))
                refine own_via (fun k => XS.ifYes X248.here hx rfl (pc0 := 157) (pc' := 164) rfl (hb hby at_157) rfl (by decide) (by decide) (by decide) k) ?_
                show own_Go p e below s _ _ (T248.setTop (mkF m 164 #[iv p0, iv p1, iv p2, rv b1, jv 0, .second, jv 1, .second, jv 2, .second, rv b66, rv b123, rv b191, iv 2, iv 1, .unset, .unset, .unset, .unset, .unset, .unset, .unset] []))
                refine own_via (fun k => XS.iconst X248.here hx rfl (hb hby at_164) (XS.istore X248.here hx rfl (hb hby at_165) rfl (l' := #[iv p0, iv p1, iv p2, rv b1, jv 0, .second, jv 1, .second, jv 2, .second, rv b66, rv b123, rv b191, iv 2, iv 1, iv 0, .unset, .unset, .unset, .unset, .unset, .unset]) rfl (XS.iload X248.here hx rfl (hb hby at_167) rfl  (XS.iconst X248.here hx rfl (hb hby at_169) k)))) ?_
                show own_Go p e below s _ _ (T248.setTop (mkF m 170 #[iv p0, iv p1, iv p2, rv b1, jv 0, .second, jv 1, .second, jv 2, .second, rv b66, rv b123, rv b191, iv 2, iv 1, iv 0, .unset, .unset, .unset, .unset, .unset, .unset] [(.int 2), (.int 1)]))
                refine own_via (fun k => XS.icmpYes X248.here hx rfl (pc0 := 170) (pc' := 177) rfl (hb hby at_170) rfl (by decide) (by decide) (by decide) k) ?_
                show own_Go p e below s _ _ (T248.setTop (mkF m 177 #[iv p0, iv p1, iv p2, rv b1, jv 0, .second, jv 1, .second, jv 2, .second, rv b66, rv b123, rv b191, iv 2, iv 1, iv 0, .unset, .unset, .unset, .unset, .unset, .unset] []))
                refine own_via (fun k => XS.iconst X248.here hx rfl (hb hby at_177) (XS.istore X248.here hx rfl (hb hby at_178) rfl (l' := #[iv p0, iv p1, iv p2, rv b1, jv 0, .second, jv 1, .second, jv 2, .second, rv b66, rv b123, rv b191, iv 2, iv 1, iv 0, iv 2, .unset, .unset, .unset, .unset, .unset]) rfl (XS.iload X248.here hx rfl (hb hby at_180) rfl  (XS.iconst X248.here hx rfl (hb hby at_182) k)))) ?_
                show own_Go p e below s _ _ (T248.setTop (mkF m 183 #[iv p0, iv p1, iv p2, rv b1, jv 0, .second, jv 1, .second, jv 2, .second, rv b66, rv b123, rv b191, iv 2, iv 1, iv 0, iv 2, .unset, .unset, .unset, .unset, .unset] [(.int 2), (.int 2)]))
                refine own_via (fun k => Jvm.RoadKit.iremM X248 hx rfl (hb hby at_183) rfl (by decide) k) ?_
                show own_Go p e below s _ _ (T248.setTop (mkF m 184 #[iv p0, iv p1, iv p2, rv b1, jv 0, .second, jv 1, .second, jv 2, .second, rv b66, rv b123, rv b191, iv 2, iv 1, iv 0, iv 2, .unset, .unset, .unset, .unset, .unset] [(.int ((2 : Int32) % (2 : Int32)))]))
                rw [show ((2 : Int32) % (2 : Int32)) = (0 : Int32) from by decide]
                show own_Go p e below s _ _ (T248.setTop (mkF m 184 #[iv p0, iv p1, iv p2, rv b1, jv 0, .second, jv 1, .second, jv 2, .second, rv b66, rv b123, rv b191, iv 2, iv 1, iv 0, iv 2, .unset, .unset, .unset, .unset, .unset] [(.int 0)]))
                refine own_via (fun k => XS.ifNo X248.here hx rfl (hb hby at_184) rfl (by decide) k) ?_
                show own_Go p e below s _ _ (T248.setTop (mkF m 187 #[iv p0, iv p1, iv p2, rv b1, jv 0, .second, jv 1, .second, jv 2, .second, rv b66, rv b123, rv b191, iv 2, iv 1, iv 0, iv 2, .unset, .unset, .unset, .unset, .unset] []))
                refine own_via (fun k => XS.iload X248.here hx rfl (hb hby at_187) rfl  (XS.goto X248.here hx rfl (pc0 := 189) (pc' := 194) rfl (hb hby at_189) (by decide) (by decide) (XS.istore X248.here hx rfl (hb hby at_194) rfl (l' := #[iv p0, iv p1, iv p2, rv b1, jv 0, .second, jv 1, .second, jv 2, .second, rv b66, rv b123, rv b191, iv 2, iv 1, iv 0, iv 2, iv 0, .unset, .unset, .unset, .unset]) rfl (XS.iload X248.here hx rfl (hb hby at_196) rfl  k)))) ?_
                show own_Go p e below s _ _ (T248.setTop (mkF m 198 #[iv p0, iv p1, iv p2, rv b1, jv 0, .second, jv 1, .second, jv 2, .second, rv b66, rv b123, rv b191, iv 2, iv 1, iv 0, iv 2, iv 0, .unset, .unset, .unset, .unset] [(.int 2)]))
                refine own_via (fun k => XS.iconst X248.here hx rfl (hb hby at_198) (Jvm.RoadKit.iremM X248 hx rfl (hb hby at_199) rfl (by decide) k)) ?_
                show own_Go p e below s _ _ (T248.setTop (mkF m 200 #[iv p0, iv p1, iv p2, rv b1, jv 0, .second, jv 1, .second, jv 2, .second, rv b66, rv b123, rv b191, iv 2, iv 1, iv 0, iv 2, iv 0, .unset, .unset, .unset, .unset] [(.int ((2 : Int32) % (2 : Int32)))]))
                rw [show ((2 : Int32) % (2 : Int32)) = (0 : Int32) from by decide]
                show own_Go p e below s _ _ (T248.setTop (mkF m 200 #[iv p0, iv p1, iv p2, rv b1, jv 0, .second, jv 1, .second, jv 2, .second, rv b66, rv b123, rv b191, iv 2, iv 1, iv 0, iv 2, iv 0, .unset, .unset, .unset, .unset] [(.int 0)]))
                refine own_via (fun k => XS.ifNo X248.here hx rfl (hb hby at_200) rfl (by decide) k) ?_
                show own_Go p e below s _ _ (T248.setTop (mkF m 203 #[iv p0, iv p1, iv p2, rv b1, jv 0, .second, jv 1, .second, jv 2, .second, rv b66, rv b123, rv b191, iv 2, iv 1, iv 0, iv 2, iv 0, .unset, .unset, .unset, .unset] []))
                refine own_via (fun k => XS.iload X248.here hx rfl (hb hby at_203) rfl  (XS.goto X248.here hx rfl (pc0 := 205) (pc' := 210) rfl (hb hby at_205) (by decide) (by decide) (XS.istore X248.here hx rfl (hb hby at_210) rfl (l' := #[iv p0, iv p1, iv p2, rv b1, jv 0, .second, jv 1, .second, jv 2, .second, rv b66, rv b123, rv b191, iv 2, iv 1, iv 0, iv 2, iv 0, iv 2, .unset, .unset, .unset]) rfl (XS.aloadN X248.here hx rfl (hb hby at_212) rfl rfl  k)))) ?_
                show own_Go p e below s _ _ (T248.setTop (mkF m 213 #[iv p0, iv p1, iv p2, rv b1, jv 0, .second, jv 1, .second, jv 2, .second, rv b66, rv b123, rv b191, iv 2, iv 1, iv 0, iv 2, iv 0, iv 2, .unset, .unset, .unset] [(.ref b1)]))
                refine own_via (fun k => XS.aload X248.here hx rfl (hb hby at_213) rfl rfl  (XS.aload X248.here hx rfl (hb hby at_215) rfl rfl  (XS.aload X248.here hx rfl (hb hby at_217) rfl rfl  (XS.iload X248.here hx rfl (hb hby at_219) rfl  k)))) ?_
                show own_Go p e below s _ _ (T248.setTop (mkF m 221 #[iv p0, iv p1, iv p2, rv b1, jv 0, .second, jv 1, .second, jv 2, .second, rv b66, rv b123, rv b191, iv 2, iv 1, iv 0, iv 2, iv 0, iv 2, .unset, .unset, .unset] [(.int 1), (.ref b191), (.ref b123), (.ref b66), (.ref b1)]))
                obtain ⟨_, _, ⟨T549, L549, k549, n549⟩, -, X549, ⟨Lc549, hQ549, l549, y549, z549⟩, st549⟩ := Jvm.LawKit.callS X248 hx (y := (⟨"com/example/tree_to_rows/treetorows/query/OutcomesSetPinLaw", "step", "(Lcom/example/tree_to_rows/treetorows/query/Outcomes;[J[Z[ZI)V"⟩ : MethodName)) hown (mvT hZ (hw _ (List.mem_of_getElem? (i := 31) rfl))) (mvT hZ (hw _ (List.mem_of_getElem? (i := 32) rfl))) (mvT hZ (hw _ (List.mem_of_getElem? (i := 33) rfl))) (mvT hZ (hw _ (List.mem_of_getElem? (i := 34) rfl))) (by decide) (backOf (W := 0) (rm5_1 l Z aw hw [] b1 b66 b123 b191 (3 : Int32) (3 : Int32) (3 : Int64) (0 : Int64) (0 : Int32) (0 : Int64) (0 : Int32) (0 : Int64) k66 k123 k191 (nar .boolean z140) (nar .boolean z157) (nar .boolean z174) (nar .boolean z210) (nar .boolean z228) (nar .boolean z246) h248 n0 Z263 B250 B251 B252 B253 B254 B255 B256 B257 B258 B249 B259 B260 B261 g2 (Ne.symm ne68) (Ne.symm ne125) (Ne.symm ne193)) hZ (hw _ (List.mem_of_getElem? (i := 34) rfl)) (hw _ (List.mem_of_getElem? (i := 33) rfl)) (by decide) (by decide)) (g := (mkF m 221 #[iv p0, iv p1, iv p2, rv b1, jv 0, .second, jv 1, .second, jv 2, .second, rv b66, rv b123, rv b191, iv 2, iv 1, iv 0, iv 2, iv 0, iv 2, .unset, .unset, .unset] [(.int 1), (.ref b191), (.ref b123), (.ref b66), (.ref b1)])) rfl (by rw [hml]; rfl) (argsL := [(.ref b1), (.ref b66), (.ref b123), (.ref b191), (.int 1)]) (rest := []) (lenOf pd_2 rfl) rfl (by show 2 * 0 + _ ≤ _; exact Nat.le_of_eq rfl) (hb hby at_221) (fun _ _ => ⟨rfl, e248, (by decide : 5 + 0 ≤ _), (by decide : 27 + 0 ≤ _)⟩)
                dsimp only [Pt.U, Pt.locs, Pt.cells, Pt.slots] at X549 l549 y549 z549 st549 hQ549
                subst l549 y549 z549
                obtain ⟨rfl, N549q, K549, B550, B551, B552, B553, B554, B555, B556, B557, B558⟩ := hQ549
                have N559 := Fr.app N262 N549q
                have B560 := B249.keep K549
                have B561 := B259.keep K549 (ninS (Ne.symm ne68) nin0)
                have B562 := B260.keep K549 (ninS (Ne.symm ne125) nin0)
                have B563 := B261.keep K549 (ninS (Ne.symm ne193) nin0)
                have Z564 : n0 ≤ T549.heap.size := Nat.le_trans Z263 K549.1
                obtain ⟨z565, hz565⟩ : ∃ z : Int32, z = (own_f5_1w (3 : Int32) (nar .boolean z157)) := ⟨_, rfl⟩
                rw [← hz565] at B552
                obtain ⟨z566, hz566⟩ : ∃ z : Int64, z = (own_f5_1c (0 : Int64) (nar .boolean z157) (nar .boolean z228)) := ⟨_, rfl⟩
                rw [← hz566] at B554
                refine own_via (fun k => st549 _ k) ?_
                show own_Go p e below s _ _ (T549.setTop (mkF m 224 #[iv p0, iv p1, iv p2, rv b1, jv 0, .second, jv 1, .second, jv 2, .second, rv b66, rv b123, rv b191, iv 2, iv 1, iv 0, iv 2, iv 0, iv 2, .unset, .unset, .unset] []))
                refine own_via (fun k => XS.aloadN X549.here hx rfl (hb hby at_224) rfl rfl  (XS.aload X549.here hx rfl (hb hby at_225) rfl rfl  (XS.aload X549.here hx rfl (hb hby at_227) rfl rfl  (XS.aload X549.here hx rfl (hb hby at_229) rfl rfl  k)))) ?_
                show own_Go p e below s _ _ (T549.setTop (mkF m 231 #[iv p0, iv p1, iv p2, rv b1, jv 0, .second, jv 1, .second, jv 2, .second, rv b66, rv b123, rv b191, iv 2, iv 1, iv 0, iv 2, iv 0, iv 2, .unset, .unset, .unset] [(.ref b191), (.ref b123), (.ref b66), (.ref b1)]))
                refine own_via (fun k => XS.iload X549.here hx rfl (hb hby at_231) rfl  k) ?_
                show own_Go p e below s _ _ (T549.setTop (mkF m 233 #[iv p0, iv p1, iv p2, rv b1, jv 0, .second, jv 1, .second, jv 2, .second, rv b66, rv b123, rv b191, iv 2, iv 1, iv 0, iv 2, iv 0, iv 2, .unset, .unset, .unset] [(.int 0), (.ref b191), (.ref b123), (.ref b66), (.ref b1)]))
                obtain ⟨_, _, ⟨T567, L567, k567, n567⟩, -, X567, ⟨Lc567, hQ567, l567, y567, z567⟩, st567⟩ := Jvm.LawKit.callS X549 hx (y := (⟨"com/example/tree_to_rows/treetorows/query/OutcomesSetPinLaw", "step", "(Lcom/example/tree_to_rows/treetorows/query/Outcomes;[J[Z[ZI)V"⟩ : MethodName)) hown (mvT hZ (hw _ (List.mem_of_getElem? (i := 31) rfl))) (mvT hZ (hw _ (List.mem_of_getElem? (i := 32) rfl))) (mvT hZ (hw _ (List.mem_of_getElem? (i := 33) rfl))) (mvT hZ (hw _ (List.mem_of_getElem? (i := 34) rfl))) (by decide) (backOf (W := 0) (rm5_0 l Z aw hw [] b1 b66 b123 b191 (3 : Int32) z565 (3 : Int64) z566 (0 : Int32) (0 : Int64) (0 : Int32) (0 : Int64) k66 k123 k191 (nar .boolean z140) (nar .boolean z157) (nar .boolean z174) (nar .boolean z210) (nar .boolean z228) (nar .boolean z246) T549.heap n0 Z564 B550 B551 B552 B553 B554 B555 B556 B557 B558 B560 B561 B562 B563 g2 (Ne.symm ne68) (Ne.symm ne125) (Ne.symm ne193)) hZ (hw _ (List.mem_of_getElem? (i := 34) rfl)) (hw _ (List.mem_of_getElem? (i := 33) rfl)) (by decide) (by decide)) (g := (mkF m 233 #[iv p0, iv p1, iv p2, rv b1, jv 0, .second, jv 1, .second, jv 2, .second, rv b66, rv b123, rv b191, iv 2, iv 1, iv 0, iv 2, iv 0, iv 2, .unset, .unset, .unset] [(.int 0), (.ref b191), (.ref b123), (.ref b66), (.ref b1)])) rfl (by rw [hml]; rfl) (argsL := [(.ref b1), (.ref b66), (.ref b123), (.ref b191), (.int 0)]) (rest := []) (lenOf pd_2 rfl) rfl (by show 2 * 0 + _ ≤ _; exact Nat.le_of_eq rfl) (hb hby at_233) (fun _ _ => ⟨rfl, rfl, (by decide : 5 + 0 ≤ _), (by decide : 27 + 0 ≤ _)⟩)
                dsimp only [Pt.U, Pt.locs, Pt.cells, Pt.slots] at X567 l567 y567 z567 st567 hQ567
                subst l567 y567 z567
                obtain ⟨rfl, N567q, K567, B568, B569, B570, B571, B572, B573, B574, B575, B576⟩ := hQ567
                have N577 := Fr.app N559 N567q
                have B578 := B560.keep K567
                have B579 := B561.keep K567 (ninS (Ne.symm ne68) nin0)
                have B580 := B562.keep K567 (ninS (Ne.symm ne125) nin0)
                have B581 := B563.keep K567 (ninS (Ne.symm ne193) nin0)
                have Z582 : n0 ≤ T567.heap.size := Nat.le_trans Z564 K567.1
                obtain ⟨z583, hz583⟩ : ∃ z : Int32, z = (own_f5_0w z565 (nar .boolean z140)) := ⟨_, rfl⟩
                rw [← hz583] at B570
                obtain ⟨z584, hz584⟩ : ∃ z : Int64, z = (own_f5_0c z566 (nar .boolean z140) (nar .boolean z210)) := ⟨_, rfl⟩
                rw [← hz584] at B572
                refine own_via (fun k => st567 _ k) ?_
                show own_Go p e below s _ _ (T567.setTop (mkF m 236 #[iv p0, iv p1, iv p2, rv b1, jv 0, .second, jv 1, .second, jv 2, .second, rv b66, rv b123, rv b191, iv 2, iv 1, iv 0, iv 2, iv 0, iv 2, .unset, .unset, .unset] []))
                refine own_via (fun k => XS.aloadN X567.here hx rfl (hb hby at_236) rfl rfl  (XS.aload X567.here hx rfl (hb hby at_237) rfl rfl  (XS.aload X567.here hx rfl (hb hby at_239) rfl rfl  (XS.aload X567.here hx rfl (hb hby at_241) rfl rfl  k)))) ?_
                show own_Go p e below s _ _ (T567.setTop (mkF m 243 #[iv p0, iv p1, iv p2, rv b1, jv 0, .second, jv 1, .second, jv 2, .second, rv b66, rv b123, rv b191, iv 2, iv 1, iv 0, iv 2, iv 0, iv 2, .unset, .unset, .unset] [(.ref b191), (.ref b123), (.ref b66), (.ref b1)]))
                refine own_via (fun k => XS.iload X567.here hx rfl (hb hby at_243) rfl  k) ?_
                show own_Go p e below s _ _ (T567.setTop (mkF m 245 #[iv p0, iv p1, iv p2, rv b1, jv 0, .second, jv 1, .second, jv 2, .second, rv b66, rv b123, rv b191, iv 2, iv 1, iv 0, iv 2, iv 0, iv 2, .unset, .unset, .unset] [(.int 2), (.ref b191), (.ref b123), (.ref b66), (.ref b1)]))
                obtain ⟨_, _, ⟨T585, L585, k585, n585⟩, -, X585, ⟨Lc585, hQ585, l585, y585, z585⟩, st585⟩ := Jvm.LawKit.callS X567 hx (y := (⟨"com/example/tree_to_rows/treetorows/query/OutcomesSetPinLaw", "step", "(Lcom/example/tree_to_rows/treetorows/query/Outcomes;[J[Z[ZI)V"⟩ : MethodName)) hown (mvT hZ (hw _ (List.mem_of_getElem? (i := 31) rfl))) (mvT hZ (hw _ (List.mem_of_getElem? (i := 32) rfl))) (mvT hZ (hw _ (List.mem_of_getElem? (i := 33) rfl))) (mvT hZ (hw _ (List.mem_of_getElem? (i := 34) rfl))) (by decide) (backOf (W := 0) (rm5_2 l Z aw hw [] b1 b66 b123 b191 (3 : Int32) z583 (3 : Int64) z584 (0 : Int32) (0 : Int64) (0 : Int32) (0 : Int64) k66 k123 k191 (nar .boolean z140) (nar .boolean z157) (nar .boolean z174) (nar .boolean z210) (nar .boolean z228) (nar .boolean z246) T567.heap n0 Z582 B568 B569 B570 B571 B572 B573 B574 B575 B576 B578 B579 B580 B581 g2 (Ne.symm ne68) (Ne.symm ne125) (Ne.symm ne193)) hZ (hw _ (List.mem_of_getElem? (i := 34) rfl)) (hw _ (List.mem_of_getElem? (i := 33) rfl)) (by decide) (by decide)) (g := (mkF m 245 #[iv p0, iv p1, iv p2, rv b1, jv 0, .second, jv 1, .second, jv 2, .second, rv b66, rv b123, rv b191, iv 2, iv 1, iv 0, iv 2, iv 0, iv 2, .unset, .unset, .unset] [(.int 2), (.ref b191), (.ref b123), (.ref b66), (.ref b1)])) rfl (by rw [hml]; rfl) (argsL := [(.ref b1), (.ref b66), (.ref b123), (.ref b191), (.int 2)]) (rest := []) (lenOf pd_2 rfl) rfl (by show 2 * 0 + _ ≤ _; exact Nat.le_of_eq rfl) (hb hby at_245) (fun _ _ => ⟨rfl, rfl, (by decide : 5 + 0 ≤ _), (by decide : 27 + 0 ≤ _)⟩)
                dsimp only [Pt.U, Pt.locs, Pt.cells, Pt.slots] at X585 l585 y585 z585 st585 hQ585
                subst l585 y585 z585
                obtain ⟨rfl, N585q, K585, B586, B587, B588, B589, B590, B591, B592, B593, B594⟩ := hQ585
                have N595 := Fr.app N577 N585q
                have B596 := B578.keep K585
                have B597 := B579.keep K585 (ninS (Ne.symm ne68) nin0)
                have B598 := B580.keep K585 (ninS (Ne.symm ne125) nin0)
                have B599 := B581.keep K585 (ninS (Ne.symm ne193) nin0)
                have Z600 : n0 ≤ T585.heap.size := Nat.le_trans Z582 K585.1
                obtain ⟨z601, hz601⟩ : ∃ z : Int32, z = (own_f5_2w z583 (nar .boolean z174)) := ⟨_, rfl⟩
                rw [← hz601] at B588
                obtain ⟨z602, hz602⟩ : ∃ z : Int64, z = (own_f5_2c z584 (nar .boolean z174) (nar .boolean z246)) := ⟨_, rfl⟩
                rw [← hz602] at B590
                refine own_via (fun k => st585 _ k) ?_
                show own_Go p e below s _ _ (T585.setTop (mkF m 248 #[iv p0, iv p1, iv p2, rv b1, jv 0, .second, jv 1, .second, jv 2, .second, rv b66, rv b123, rv b191, iv 2, iv 1, iv 0, iv 2, iv 0, iv 2, .unset, .unset, .unset] []))
                refine own_via (fun k => XS.aloadN X585.here hx rfl (hb hby at_248) rfl rfl  k) ?_
                show own_Go p e below s _ _ (T585.setTop (mkF m 249 #[iv p0, iv p1, iv p2, rv b1, jv 0, .second, jv 1, .second, jv 2, .second, rv b66, rv b123, rv b191, iv 2, iv 1, iv 0, iv 2, iv 0, iv 2, .unset, .unset, .unset] [(.ref b1)]))
                obtain ⟨cq603, kq603, q603a, q603b, q603c⟩ := isOf hZ rfl B596
                obtain ⟨_, _, ⟨T603, L603, k603, n603⟩, -, X603, ⟨Lc603, hQ603, l603, y603, z603⟩, st603⟩ := X585.virtualBack hx (y := (⟨"com/example/tree_to_rows/treetorows/query/Outcomes", "rewind", "()V"⟩ : MethodName)) (z := (⟨"com/example/tree_to_rows/treetorows/query/Outcomes", "rewind", "()V"⟩ : MethodName)) hown (mvT hZ (hw _ (List.mem_of_getElem? (i := 43) rfl))) (mvT hZ (hw _ (List.mem_of_getElem? (i := 44) rfl))) (notFace_of_selects (args := #[]) (mvT hZ (hw _ (List.mem_of_getElem? (i := 46) rfl)))) (mvT hZ (hw _ (List.mem_of_getElem? (i := 46) rfl))) (mvT hZ (hw _ (List.mem_of_getElem? (i := 45) rfl))) (by decide) (backOf (W := 0) (rm7 l Z aw hw [] b1 (0 : Int32) (3 : Int32) z601 (3 : Int64) z602 T585.heap n0 Z600 B586 B587 B588 B589 B590 B591 B592 B593 B594 B596 g2) hZ (hw _ (List.mem_of_getElem? (i := 47) rfl)) (hw _ (List.mem_of_getElem? (i := 2) rfl)) (by decide) (by decide)) q603a q603c (g := (mkF m 249 #[iv p0, iv p1, iv p2, rv b1, jv 0, .second, jv 1, .second, jv 2, .second, rv b66, rv b123, rv b191, iv 2, iv 1, iv 0, iv 2, iv 0, iv 2, .unset, .unset, .unset] [(.ref b1)])) rfl (by rw [hml]; rfl) (Steps.refl _) (argsL := []) (rest := []) (lenOf pd_0 rfl) rfl (by show 2 * 0 + _ ≤ _; exact Nat.le_of_eq rfl) (hb hby at_249) (fun _ _ => ⟨rfl, rfl, (by decide : 5 + 0 ≤ _), (by decide : 27 + 0 ≤ _)⟩)
                dsimp only [Pt.U, Pt.locs, Pt.cells, Pt.slots] at X603 l603 y603 z603 st603 hQ603
                subst l603 y603 z603
                obtain ⟨rfl, N603q, K603, B604, B605, B606, B607, B608, B609, B610, B611, B612⟩ := hQ603
                have N613 := Fr.app N595 N603q
                have B614 := B596.keep K603
                have B615 := B597.keep K603 (ninS (Ne.symm ne68) nin0)
                have B616 := B598.keep K603 (ninS (Ne.symm ne125) nin0)
                have B617 := B599.keep K603 (ninS (Ne.symm ne193) nin0)
                have Z618 : n0 ≤ T603.heap.size := Nat.le_trans Z600 K603.1
                refine own_via (fun k => st603.trans k) ?_
                show own_Go p e below s _ _ (T603.setTop (mkF m 252 #[iv p0, iv p1, iv p2, rv b1, jv 0, .second, jv 1, .second, jv 2, .second, rv b66, rv b123, rv b191, iv 2, iv 1, iv 0, iv 2, iv 0, iv 2, .unset, .unset, .unset] []))
                refine own_via (fun k => XS.aloadN X603.here hx rfl (hb hby at_252) rfl rfl  k) ?_
                show own_Go p e below s _ _ (T603.setTop (mkF m 253 #[iv p0, iv p1, iv p2, rv b1, jv 0, .second, jv 1, .second, jv 2, .second, rv b66, rv b123, rv b191, iv 2, iv 1, iv 0, iv 2, iv 0, iv 2, .unset, .unset, .unset] [(.ref b1)]))
                obtain ⟨cq619, kq619, q619a, q619b, q619c⟩ := isOf hZ rfl B614
                obtain ⟨_, _, ⟨T619, L619, k619, n619⟩, -, X619, ⟨Lc619, hQ619, l619, y619, z619⟩, st619⟩ := X603.virtualBack hx (y := (⟨"com/example/tree_to_rows/treetorows/query/Outcomes", "next", "()Z"⟩ : MethodName)) (z := (⟨"com/example/tree_to_rows/treetorows/query/Outcomes", "next", "()Z"⟩ : MethodName)) hown (mvT hZ (hw _ (List.mem_of_getElem? (i := 56) rfl))) (mvT hZ (hw _ (List.mem_of_getElem? (i := 57) rfl))) (notFace_of_selects (args := #[]) (mvT hZ (hw _ (List.mem_of_getElem? (i := 59) rfl)))) (mvT hZ (hw _ (List.mem_of_getElem? (i := 59) rfl))) (mvT hZ (hw _ (List.mem_of_getElem? (i := 58) rfl))) (by decide) (backOf (W := 0) (rm8_0 l Z aw hw [] b1 (3 : Int32) z601 z602 (0 : Int64) T603.heap n0 Z618 B604 B605 B606 B607 B608 B609 B610 B611 B612 B614 g2) hZ (hw _ (List.mem_of_getElem? (i := 60) rfl)) (hw _ (List.mem_of_getElem? (i := 2) rfl)) (by decide) (by decide)) q619a q619c (g := (mkF m 253 #[iv p0, iv p1, iv p2, rv b1, jv 0, .second, jv 1, .second, jv 2, .second, rv b66, rv b123, rv b191, iv 2, iv 1, iv 0, iv 2, iv 0, iv 2, .unset, .unset, .unset] [(.ref b1)])) rfl (by rw [hml]; rfl) (Steps.refl _) (argsL := []) (rest := []) (lenOf pd_4 rfl) rfl (by show 2 * 0 + _ ≤ _; exact Nat.le_of_eq rfl) (hb hby at_253) (fun _ _ => ⟨rfl, rfl, (by decide : 5 + 0 ≤ _), (by decide : 27 + 0 ≤ _)⟩)
                dsimp only [Pt.U, Pt.locs, Pt.cells, Pt.slots] at X619 l619 y619 z619 st619 hQ619
                subst l619 y619 z619
                obtain ⟨rfl, N619q, K619, B620, B621, B622, B623, B624, B625, B626, B627, B628⟩ := hQ619
                have N629 := Fr.app N613 N619q
                have B630 := B614.keep K619
                have B631 := B615.keep K619 (ninS (Ne.symm ne68) nin0)
                have B632 := B616.keep K619 (ninS (Ne.symm ne125) nin0)
                have B633 := B617.keep K619 (ninS (Ne.symm ne193) nin0)
                have Z634 : n0 ≤ T619.heap.size := Nat.le_trans Z618 K619.1
                refine own_via (fun k => st619.trans k) ?_
                show own_Go p e below s _ _ (T619.setTop (mkF m 256 #[iv p0, iv p1, iv p2, rv b1, jv 0, .second, jv 1, .second, jv 2, .second, rv b66, rv b123, rv b191, iv 2, iv 1, iv 0, iv 2, iv 0, iv 2, .unset, .unset, .unset] [(.int (own_f8_0 z602))]))
                obtain ⟨z635, hz635⟩ : ∃ z : Int32, z = (own_f8_0 z602) := ⟨_, rfl⟩
                rw [← hz635]
                show own_Go p e below s _ _ (T619.setTop (mkF m 256 #[iv p0, iv p1, iv p2, rv b1, jv 0, .second, jv 1, .second, jv 2, .second, rv b66, rv b123, rv b191, iv 2, iv 1, iv 0, iv 2, iv 0, iv 2, .unset, .unset, .unset] [(.int z635)]))
                refine own_via (fun k => XS.istore X619.here hx rfl (hb hby at_256) rfl (l' := #[iv p0, iv p1, iv p2, rv b1, jv 0, .second, jv 1, .second, jv 2, .second, rv b66, rv b123, rv b191, iv 2, iv 1, iv 0, iv 2, iv 0, iv 2, iv z635, .unset, .unset]) rfl (XS.aloadN X619.here hx rfl (hb hby at_258) rfl rfl  k)) ?_
                show own_Go p e below s _ _ (T619.setTop (mkF m 259 #[iv p0, iv p1, iv p2, rv b1, jv 0, .second, jv 1, .second, jv 2, .second, rv b66, rv b123, rv b191, iv 2, iv 1, iv 0, iv 2, iv 0, iv 2, iv z635, .unset, .unset] [(.ref b1)]))
                obtain ⟨cq636, kq636, q636a, q636b, q636c⟩ := isOf hZ rfl B630
                obtain ⟨_, _, ⟨T636, L636, k636, n636⟩, -, X636, ⟨Lc636, hQ636, l636, y636, z636⟩, st636⟩ := X619.virtualBack hx (y := (⟨"com/example/tree_to_rows/treetorows/query/Outcomes", "next", "()Z"⟩ : MethodName)) (z := (⟨"com/example/tree_to_rows/treetorows/query/Outcomes", "next", "()Z"⟩ : MethodName)) hown (mvT hZ (hw _ (List.mem_of_getElem? (i := 56) rfl))) (mvT hZ (hw _ (List.mem_of_getElem? (i := 57) rfl))) (notFace_of_selects (args := #[]) (mvT hZ (hw _ (List.mem_of_getElem? (i := 59) rfl)))) (mvT hZ (hw _ (List.mem_of_getElem? (i := 59) rfl))) (mvT hZ (hw _ (List.mem_of_getElem? (i := 58) rfl))) (by decide) (backOf (W := 0) (rm8_1 l Z aw hw [] b1 (3 : Int32) z601 z602 (0 : Int64) T619.heap n0 Z634 B620 B621 B622 B623 B624 B625 B626 B627 B628 B630 g2) hZ (hw _ (List.mem_of_getElem? (i := 60) rfl)) (hw _ (List.mem_of_getElem? (i := 2) rfl)) (by decide) (by decide)) q636a q636c (g := (mkF m 259 #[iv p0, iv p1, iv p2, rv b1, jv 0, .second, jv 1, .second, jv 2, .second, rv b66, rv b123, rv b191, iv 2, iv 1, iv 0, iv 2, iv 0, iv 2, iv z635, .unset, .unset] [(.ref b1)])) rfl (by rw [hml]; rfl) (Steps.refl _) (argsL := []) (rest := []) (lenOf pd_4 rfl) rfl (by show 2 * 0 + _ ≤ _; exact Nat.le_of_eq rfl) (hb hby at_259) (fun _ _ => ⟨rfl, rfl, (by decide : 5 + 0 ≤ _), (by decide : 27 + 0 ≤ _)⟩)
                dsimp only [Pt.U, Pt.locs, Pt.cells, Pt.slots] at X636 l636 y636 z636 st636 hQ636
                subst l636 y636 z636
                obtain ⟨rfl, N636q, K636, B637, B638, B639, B640, B641, B642, B643, B644, B645⟩ := hQ636
                have N646 := Fr.app N629 N636q
                have B647 := B630.keep K636
                have B648 := B631.keep K636 (ninS (Ne.symm ne68) nin0)
                have B649 := B632.keep K636 (ninS (Ne.symm ne125) nin0)
                have B650 := B633.keep K636 (ninS (Ne.symm ne193) nin0)
                have Z651 : n0 ≤ T636.heap.size := Nat.le_trans Z634 K636.1
                refine own_via (fun k => st636.trans k) ?_
                show own_Go p e below s _ _ (T636.setTop (mkF m 262 #[iv p0, iv p1, iv p2, rv b1, jv 0, .second, jv 1, .second, jv 2, .second, rv b66, rv b123, rv b191, iv 2, iv 1, iv 0, iv 2, iv 0, iv 2, iv z635, .unset, .unset] [(.int (own_f8_1 z602))]))
                obtain ⟨z652, hz652⟩ : ∃ z : Int32, z = (own_f8_1 z602) := ⟨_, rfl⟩
                rw [← hz652]
                show own_Go p e below s _ _ (T636.setTop (mkF m 262 #[iv p0, iv p1, iv p2, rv b1, jv 0, .second, jv 1, .second, jv 2, .second, rv b66, rv b123, rv b191, iv 2, iv 1, iv 0, iv 2, iv 0, iv 2, iv z635, .unset, .unset] [(.int z652)]))
                refine own_via (fun k => XS.istore X636.here hx rfl (hb hby at_262) rfl (l' := #[iv p0, iv p1, iv p2, rv b1, jv 0, .second, jv 1, .second, jv 2, .second, rv b66, rv b123, rv b191, iv 2, iv 1, iv 0, iv 2, iv 0, iv 2, iv z635, iv z652, .unset]) rfl (XS.aloadN X636.here hx rfl (hb hby at_264) rfl rfl  k)) ?_
                show own_Go p e below s _ _ (T636.setTop (mkF m 265 #[iv p0, iv p1, iv p2, rv b1, jv 0, .second, jv 1, .second, jv 2, .second, rv b66, rv b123, rv b191, iv 2, iv 1, iv 0, iv 2, iv 0, iv 2, iv z635, iv z652, .unset] [(.ref b1)]))
                obtain ⟨cq653, kq653, q653a, q653b, q653c⟩ := isOf hZ rfl B647
                obtain ⟨_, _, ⟨T653, L653, k653, n653⟩, -, X653, ⟨Lc653, hQ653, l653, y653, z653⟩, st653⟩ := X636.virtualBack hx (y := (⟨"com/example/tree_to_rows/treetorows/query/Outcomes", "next", "()Z"⟩ : MethodName)) (z := (⟨"com/example/tree_to_rows/treetorows/query/Outcomes", "next", "()Z"⟩ : MethodName)) hown (mvT hZ (hw _ (List.mem_of_getElem? (i := 56) rfl))) (mvT hZ (hw _ (List.mem_of_getElem? (i := 57) rfl))) (notFace_of_selects (args := #[]) (mvT hZ (hw _ (List.mem_of_getElem? (i := 59) rfl)))) (mvT hZ (hw _ (List.mem_of_getElem? (i := 59) rfl))) (mvT hZ (hw _ (List.mem_of_getElem? (i := 58) rfl))) (by decide) (backOf (W := 0) (rm8_2 l Z aw hw [] b1 (3 : Int32) z601 z602 (0 : Int64) T636.heap n0 Z651 B637 B638 B639 B640 B641 B642 B643 B644 B645 B647 g2) hZ (hw _ (List.mem_of_getElem? (i := 60) rfl)) (hw _ (List.mem_of_getElem? (i := 2) rfl)) (by decide) (by decide)) q653a q653c (g := (mkF m 265 #[iv p0, iv p1, iv p2, rv b1, jv 0, .second, jv 1, .second, jv 2, .second, rv b66, rv b123, rv b191, iv 2, iv 1, iv 0, iv 2, iv 0, iv 2, iv z635, iv z652, .unset] [(.ref b1)])) rfl (by rw [hml]; rfl) (Steps.refl _) (argsL := []) (rest := []) (lenOf pd_4 rfl) rfl (by show 2 * 0 + _ ≤ _; exact Nat.le_of_eq rfl) (hb hby at_265) (fun _ _ => ⟨rfl, rfl, (by decide : 5 + 0 ≤ _), (by decide : 27 + 0 ≤ _)⟩)
                dsimp only [Pt.U, Pt.locs, Pt.cells, Pt.slots] at X653 l653 y653 z653 st653 hQ653
                subst l653 y653 z653
                obtain ⟨rfl, N653q, K653, B654, B655, B656, B657, B658, B659, B660, B661, B662⟩ := hQ653
                have N663 := Fr.app N646 N653q
                have B664 := B647.keep K653
                have B665 := B648.keep K653 (ninS (Ne.symm ne68) nin0)
                have B666 := B649.keep K653 (ninS (Ne.symm ne125) nin0)
                have B667 := B650.keep K653 (ninS (Ne.symm ne193) nin0)
                have Z668 : n0 ≤ T653.heap.size := Nat.le_trans Z651 K653.1
                refine own_via (fun k => st653.trans k) ?_
                show own_Go p e below s _ _ (T653.setTop (mkF m 268 #[iv p0, iv p1, iv p2, rv b1, jv 0, .second, jv 1, .second, jv 2, .second, rv b66, rv b123, rv b191, iv 2, iv 1, iv 0, iv 2, iv 0, iv 2, iv z635, iv z652, .unset] [(.int (own_f8_2 z602))]))
                obtain ⟨z669, hz669⟩ : ∃ z : Int32, z = (own_f8_2 z602) := ⟨_, rfl⟩
                rw [← hz669]
                show own_Go p e below s _ _ (T653.setTop (mkF m 268 #[iv p0, iv p1, iv p2, rv b1, jv 0, .second, jv 1, .second, jv 2, .second, rv b66, rv b123, rv b191, iv 2, iv 1, iv 0, iv 2, iv 0, iv 2, iv z635, iv z652, .unset] [(.int z669)]))
                refine own_via (fun k => XS.istore X653.here hx rfl (hb hby at_268) rfl (l' := #[iv p0, iv p1, iv p2, rv b1, jv 0, .second, jv 1, .second, jv 2, .second, rv b66, rv b123, rv b191, iv 2, iv 1, iv 0, iv 2, iv 0, iv 2, iv z635, iv z652, iv z669]) rfl (XS.lload X653.here hx rfl (hb hby at_270) rfl  (XS.lconst X653.here hx rfl (hb hby at_272) (XS.lcmp X653.here hx rfl (hb hby at_273) rfl k)))) ?_
                show own_Go p e below s _ _ (T653.setTop (mkF m 274 #[iv p0, iv p1, iv p2, rv b1, jv 0, .second, jv 1, .second, jv 2, .second, rv b66, rv b123, rv b191, iv 2, iv 1, iv 0, iv 2, iv 0, iv 2, iv z635, iv z652, iv z669] [(.int (lcmpW (0 : Int64) (0 : Int64)))]))
                refine own_via (fun k => XS.ifNo X653.here hx rfl (hb hby at_274) rfl (by decide) k) ?_
                show own_Go p e below s _ _ (T653.setTop (mkF m 277 #[iv p0, iv p1, iv p2, rv b1, jv 0, .second, jv 1, .second, jv 2, .second, rv b66, rv b123, rv b191, iv 2, iv 1, iv 0, iv 2, iv 0, iv 2, iv z635, iv z652, iv z669] []))
                refine own_via (fun k => XS.lload X653.here hx rfl (hb hby at_277) rfl  (XS.lconst X653.here hx rfl (hb hby at_279) (XS.lcmp X653.here hx rfl (hb hby at_280) rfl k))) ?_
                show own_Go p e below s _ _ (T653.setTop (mkF m 281 #[iv p0, iv p1, iv p2, rv b1, jv 0, .second, jv 1, .second, jv 2, .second, rv b66, rv b123, rv b191, iv 2, iv 1, iv 0, iv 2, iv 0, iv 2, iv z635, iv z652, iv z669] [(.int (lcmpW (1 : Int64) (1 : Int64)))]))
                refine own_via (fun k => XS.ifNo X653.here hx rfl (hb hby at_281) rfl (by decide) k) ?_
                show own_Go p e below s _ _ (T653.setTop (mkF m 284 #[iv p0, iv p1, iv p2, rv b1, jv 0, .second, jv 1, .second, jv 2, .second, rv b66, rv b123, rv b191, iv 2, iv 1, iv 0, iv 2, iv 0, iv 2, iv z635, iv z652, iv z669] []))
                refine own_via (fun k => XS.lload X653.here hx rfl (hb hby at_284) rfl  (X653.ldc2Long hx hown (mvT hZ (hw _ (List.mem_of_getElem? (i := 62) rfl))) (g := (mkF m 286 #[iv p0, iv p1, iv p2, rv b1, jv 0, .second, jv 1, .second, jv 2, .second, rv b66, rv b123, rv b191, iv 2, iv 1, iv 0, iv 2, iv 0, iv 2, iv z635, iv z652, iv z669] [(.long 2)])) rfl (hb hby at_286) _ (XS.lcmp X653.here hx rfl (hb hby at_289) rfl k))) ?_
                show own_Go p e below s _ _ (T653.setTop (mkF m 290 #[iv p0, iv p1, iv p2, rv b1, jv 0, .second, jv 1, .second, jv 2, .second, rv b66, rv b123, rv b191, iv 2, iv 1, iv 0, iv 2, iv 0, iv 2, iv z635, iv z652, iv z669] [(.int (lcmpW (2 : Int64) (2 : Int64)))]))
                refine own_via (fun k => XS.ifNo X653.here hx rfl (hb hby at_290) rfl (by decide) k) ?_
                show own_Go p e below s _ _ (T653.setTop (mkF m 293 #[iv p0, iv p1, iv p2, rv b1, jv 0, .second, jv 1, .second, jv 2, .second, rv b66, rv b123, rv b191, iv 2, iv 1, iv 0, iv 2, iv 0, iv 2, iv z635, iv z652, iv z669] []))
                refine own_via (fun k => XS.iload X653.here hx rfl (hb hby at_293) rfl  (XS.aload X653.here hx rfl (hb hby at_295) rfl rfl  (XS.iconst X653.here hx rfl (hb hby at_297) k))) ?_
                show own_Go p e below s _ _ (T653.setTop (mkF m 298 #[iv p0, iv p1, iv p2, rv b1, jv 0, .second, jv 1, .second, jv 2, .second, rv b66, rv b123, rv b191, iv 2, iv 1, iv 0, iv 2, iv 0, iv 2, iv z635, iv z652, iv z669] [(.int 0), (.ref b123), (.int z635)]))
                obtain ⟨cl670, Ar670, q670, S670, NN670, H670, G670⟩ := id B666
                have hin670 : ¬ ((0 : Int32) < 0 ∨ cl670.slots.size ≤ ((0 : Int32)).toNatClampNeg) := inb_of S670 ⟨by decide, by decide⟩
                have hat670 : cl670.slots[((0 : Int32)).toNatClampNeg]? = some (.int (nar .boolean z140)) := H670.at hin670 rfl
                refine own_via (fun k => X653.baloadBooleans hx (j := (0 : Int32)) (v := (.int (nar .boolean z140))) Ar670.1 (State.isArrayOf_alike hZ.alike Ar670.2.1) Ar670.2.2 hin670 hat670 (g := (mkF m 298 #[iv p0, iv p1, iv p2, rv b1, jv 0, .second, jv 1, .second, jv 2, .second, rv b66, rv b123, rv b191, iv 2, iv 1, iv 0, iv 2, iv 0, iv 2, iv z635, iv z652, iv z669] [(.int 0), (.ref b123), (.int z635)])) rfl rfl (hb hby at_298) _ k) ?_
                show own_Go p e below s _ _ (T653.setTop (mkF m 299 #[iv p0, iv p1, iv p2, rv b1, jv 0, .second, jv 1, .second, jv 2, .second, rv b66, rv b123, rv b191, iv 2, iv 1, iv 0, iv 2, iv 0, iv 2, iv z635, iv z652, iv z669] [(.int (nar .boolean z140)), (.int z635)]))
                have J673 : ∀ (T673 : State) (lo673 : List Loc), Stand p l e room_1 s m #[(.int p0), (.int p1), (.int p2)] below meth c T673 lo673 5 27 → Fr n0 lo673 → T673.heap = T653.heap → ∀ (z672 : Int32), z672 = (if (nar .boolean z140) = (0 : Int32) then (0 : Int32) else (if (nar .boolean z210) = (0 : Int32) then (0 : Int32) else (1 : Int32))) → own_Go p e below s (Q0 Z p0 p1 p2 h0 n0) (room_1.cells, room_1.slots) (T673.setTop (mkF m 314 #[iv p0, iv p1, iv p2, rv b1, jv 0, .second, jv 1, .second, jv 2, .second, rv b66, rv b123, rv b191, iv 2, iv 1, iv 0, iv 2, iv 0, iv 2, iv z635, iv z652, iv z669] [(.int z672), (.int z635)])) := by
                  intro T673 lo673 X673 N673 e673 z672 hz672
                  refine own_via (fun k => XS.icmpNo X673.here hx rfl (hb hby at_314) rfl (teq (own_law2_314 p0 p1 p2 z140 hz140 z157 hz157 z174 hz174 z210 hz210 z228 hz228 z246 hz246 z566 hz566 z584 hz584 z602 hz602 z635 hz635 z672 hz672 hl264)).2 k) ?_
                  show own_Go p e below s _ _ (T673.setTop (mkF m 317 #[iv p0, iv p1, iv p2, rv b1, jv 0, .second, jv 1, .second, jv 2, .second, rv b66, rv b123, rv b191, iv 2, iv 1, iv 0, iv 2, iv 0, iv 2, iv z635, iv z652, iv z669] []))
                  refine own_via (fun k => XS.iload X673.here hx rfl (hb hby at_317) rfl  (XS.aload X673.here hx rfl (hb hby at_319) rfl rfl  (XS.iconst X673.here hx rfl (hb hby at_321) k))) ?_
                  show own_Go p e below s _ _ (T673.setTop (mkF m 322 #[iv p0, iv p1, iv p2, rv b1, jv 0, .second, jv 1, .second, jv 2, .second, rv b66, rv b123, rv b191, iv 2, iv 1, iv 0, iv 2, iv 0, iv 2, iv z635, iv z652, iv z669] [(.int 1), (.ref b123), (.int z652)]))
                  obtain ⟨cl674, Ar674, q674, S674, NN674, H674, G674⟩ := id B666
                  have hin674 : ¬ ((1 : Int32) < 0 ∨ cl674.slots.size ≤ ((1 : Int32)).toNatClampNeg) := inb_of S674 ⟨by decide, by decide⟩
                  have hat674 : cl674.slots[((1 : Int32)).toNatClampNeg]? = some (.int (nar .boolean z157)) := H674.at hin674 rfl
                  refine own_via (fun k => X673.baloadBooleans hx (j := (1 : Int32)) (v := (.int (nar .boolean z157))) (by rw [e673]; exact Ar674.1) (State.isArrayOf_alike hZ.alike Ar674.2.1) Ar674.2.2 hin674 hat674 (g := (mkF m 322 #[iv p0, iv p1, iv p2, rv b1, jv 0, .second, jv 1, .second, jv 2, .second, rv b66, rv b123, rv b191, iv 2, iv 1, iv 0, iv 2, iv 0, iv 2, iv z635, iv z652, iv z669] [(.int 1), (.ref b123), (.int z652)])) rfl rfl (hb hby at_322) _ k) ?_
                  show own_Go p e below s _ _ (T673.setTop (mkF m 323 #[iv p0, iv p1, iv p2, rv b1, jv 0, .second, jv 1, .second, jv 2, .second, rv b66, rv b123, rv b191, iv 2, iv 1, iv 0, iv 2, iv 0, iv 2, iv z635, iv z652, iv z669] [(.int (nar .boolean z157)), (.int z652)]))
                  have J677 : ∀ (T677 : State) (lo677 : List Loc), Stand p l e room_1 s m #[(.int p0), (.int p1), (.int p2)] below meth c T677 lo677 5 27 → Fr n0 lo677 → T677.heap = T653.heap → ∀ (z676 : Int32), z676 = (if (nar .boolean z157) = (0 : Int32) then (0 : Int32) else (if (nar .boolean z228) = (0 : Int32) then (0 : Int32) else (1 : Int32))) → own_Go p e below s (Q0 Z p0 p1 p2 h0 n0) (room_1.cells, room_1.slots) (T677.setTop (mkF m 338 #[iv p0, iv p1, iv p2, rv b1, jv 0, .second, jv 1, .second, jv 2, .second, rv b66, rv b123, rv b191, iv 2, iv 1, iv 0, iv 2, iv 0, iv 2, iv z635, iv z652, iv z669] [(.int z676), (.int z652)])) := by
                    intro T677 lo677 X677 N677 e677 z676 hz676
                    refine own_via (fun k => XS.icmpNo X677.here hx rfl (hb hby at_338) rfl (teq (own_law2_338 p0 p1 p2 z140 hz140 z157 hz157 z174 hz174 z210 hz210 z228 hz228 z246 hz246 z566 hz566 z584 hz584 z602 hz602 z652 hz652 z676 hz676 hl264)).2 k) ?_
                    show own_Go p e below s _ _ (T677.setTop (mkF m 341 #[iv p0, iv p1, iv p2, rv b1, jv 0, .second, jv 1, .second, jv 2, .second, rv b66, rv b123, rv b191, iv 2, iv 1, iv 0, iv 2, iv 0, iv 2, iv z635, iv z652, iv z669] []))
                    refine own_via (fun k => XS.iload X677.here hx rfl (hb hby at_341) rfl  (XS.aload X677.here hx rfl (hb hby at_343) rfl rfl  (XS.iconst X677.here hx rfl (hb hby at_345) k))) ?_
                    show own_Go p e below s _ _ (T677.setTop (mkF m 346 #[iv p0, iv p1, iv p2, rv b1, jv 0, .second, jv 1, .second, jv 2, .second, rv b66, rv b123, rv b191, iv 2, iv 1, iv 0, iv 2, iv 0, iv 2, iv z635, iv z652, iv z669] [(.int 2), (.ref b123), (.int z669)]))
                    obtain ⟨cl678, Ar678, q678, S678, NN678, H678, G678⟩ := id B666
                    have hin678 : ¬ ((2 : Int32) < 0 ∨ cl678.slots.size ≤ ((2 : Int32)).toNatClampNeg) := inb_of S678 ⟨by decide, by decide⟩
                    have hat678 : cl678.slots[((2 : Int32)).toNatClampNeg]? = some (.int (nar .boolean z174)) := H678.at hin678 rfl
                    refine own_via (fun k => X677.baloadBooleans hx (j := (2 : Int32)) (v := (.int (nar .boolean z174))) (by rw [e677]; exact Ar678.1) (State.isArrayOf_alike hZ.alike Ar678.2.1) Ar678.2.2 hin678 hat678 (g := (mkF m 346 #[iv p0, iv p1, iv p2, rv b1, jv 0, .second, jv 1, .second, jv 2, .second, rv b66, rv b123, rv b191, iv 2, iv 1, iv 0, iv 2, iv 0, iv 2, iv z635, iv z652, iv z669] [(.int 2), (.ref b123), (.int z669)])) rfl rfl (hb hby at_346) _ k) ?_
                    show own_Go p e below s _ _ (T677.setTop (mkF m 347 #[iv p0, iv p1, iv p2, rv b1, jv 0, .second, jv 1, .second, jv 2, .second, rv b66, rv b123, rv b191, iv 2, iv 1, iv 0, iv 2, iv 0, iv 2, iv z635, iv z652, iv z669] [(.int (nar .boolean z174)), (.int z669)]))
                    have J681 : ∀ (T681 : State) (lo681 : List Loc), Stand p l e room_1 s m #[(.int p0), (.int p1), (.int p2)] below meth c T681 lo681 5 27 → Fr n0 lo681 → T681.heap = T653.heap → ∀ (z680 : Int32), z680 = (if (nar .boolean z174) = (0 : Int32) then (0 : Int32) else (if (nar .boolean z246) = (0 : Int32) then (0 : Int32) else (1 : Int32))) → own_Go p e below s (Q0 Z p0 p1 p2 h0 n0) (room_1.cells, room_1.slots) (T681.setTop (mkF m 362 #[iv p0, iv p1, iv p2, rv b1, jv 0, .second, jv 1, .second, jv 2, .second, rv b66, rv b123, rv b191, iv 2, iv 1, iv 0, iv 2, iv 0, iv 2, iv z635, iv z652, iv z669] [(.int z680), (.int z669)])) := by
                      intro T681 lo681 X681 N681 e681 z680 hz680
                      refine own_via (fun k => XS.icmpNo X681.here hx rfl (hb hby at_362) rfl (teq (own_law2_362 p0 p1 p2 z140 hz140 z157 hz157 z174 hz174 z210 hz210 z228 hz228 z246 hz246 z566 hz566 z584 hz584 z602 hz602 z669 hz669 z680 hz680 hl264)).2 k) ?_
                      show own_Go p e below s _ _ (T681.setTop (mkF m 365 #[iv p0, iv p1, iv p2, rv b1, jv 0, .second, jv 1, .second, jv 2, .second, rv b66, rv b123, rv b191, iv 2, iv 1, iv 0, iv 2, iv 0, iv 2, iv z635, iv z652, iv z669] []))
                      refine own_via (fun k => XS.iconst X681.here hx rfl (hb hby at_365) (XS.goto X681.here hx rfl (pc0 := 366) (pc' := 370) rfl (hb hby at_366) (by decide) (by decide) k)) ?_
                      show own_Go p e below s _ _ (T681.setTop (mkF m 370 #[iv p0, iv p1, iv p2, rv b1, jv 0, .second, jv 1, .second, jv 2, .second, rv b66, rv b123, rv b191, iv 2, iv 1, iv 0, iv 2, iv 0, iv 2, iv z635, iv z652, iv z669] [(.int 1)]))
                      exact own_retN X681 hx hlk (t := .boolean) Bd.returns (by simp) (hb hby at_370) (Q := (Q0 Z p0 p1 p2 h0 n0)) ⟨rfl, N681⟩ (by decide) (by decide)
                    by_cases hc682 : (nar .boolean z174) = (0 : Int32)
                    · refine own_via (fun k => XS.ifYes X677.here hx rfl (pc0 := 347) (pc' := 361) rfl (hb hby at_347) rfl ((if0 _ _).trans (teq hc682).1) (by decide) (by decide) k) ?_
                      show own_Go p e below s _ _ (T677.setTop (mkF m 361 #[iv p0, iv p1, iv p2, rv b1, jv 0, .second, jv 1, .second, jv 2, .second, rv b66, rv b123, rv b191, iv 2, iv 1, iv 0, iv 2, iv 0, iv 2, iv z635, iv z652, iv z669] [(.int z669)]))
                      refine own_via (fun k => XS.iconst X677.here hx rfl (hb hby at_361) k) ?_
                      show own_Go p e below s _ _ (T677.setTop (mkF m 362 #[iv p0, iv p1, iv p2, rv b1, jv 0, .second, jv 1, .second, jv 2, .second, rv b66, rv b123, rv b191, iv 2, iv 1, iv 0, iv 2, iv 0, iv 2, iv z635, iv z652, iv z669] [(.int 0), (.int z669)]))
                      exact J681 _ _ X677 N677 e677 (0 : Int32) (((if_pos hc682).trans rfl)).symm
                    · refine own_via (fun k => XS.ifNo X677.here hx rfl (hb hby at_347) rfl ((if0 _ _).trans (feq hc682).1) k) ?_
                      show own_Go p e below s _ _ (T677.setTop (mkF m 350 #[iv p0, iv p1, iv p2, rv b1, jv 0, .second, jv 1, .second, jv 2, .second, rv b66, rv b123, rv b191, iv 2, iv 1, iv 0, iv 2, iv 0, iv 2, iv z635, iv z652, iv z669] [(.int z669)]))
                      refine own_via (fun k => XS.aload X677.here hx rfl (hb hby at_350) rfl rfl  (XS.iconst X677.here hx rfl (hb hby at_352) k)) ?_
                      show own_Go p e below s _ _ (T677.setTop (mkF m 353 #[iv p0, iv p1, iv p2, rv b1, jv 0, .second, jv 1, .second, jv 2, .second, rv b66, rv b123, rv b191, iv 2, iv 1, iv 0, iv 2, iv 0, iv 2, iv z635, iv z652, iv z669] [(.int 2), (.ref b191), (.int z669)]))
                      obtain ⟨cl683, Ar683, q683, S683, NN683, H683, G683⟩ := id B667
                      have hin683 : ¬ ((2 : Int32) < 0 ∨ cl683.slots.size ≤ ((2 : Int32)).toNatClampNeg) := inb_of S683 ⟨by decide, by decide⟩
                      have hat683 : cl683.slots[((2 : Int32)).toNatClampNeg]? = some (.int (nar .boolean z246)) := H683.at hin683 rfl
                      refine own_via (fun k => X677.baloadBooleans hx (j := (2 : Int32)) (v := (.int (nar .boolean z246))) (by rw [e677]; exact Ar683.1) (State.isArrayOf_alike hZ.alike Ar683.2.1) Ar683.2.2 hin683 hat683 (g := (mkF m 353 #[iv p0, iv p1, iv p2, rv b1, jv 0, .second, jv 1, .second, jv 2, .second, rv b66, rv b123, rv b191, iv 2, iv 1, iv 0, iv 2, iv 0, iv 2, iv z635, iv z652, iv z669] [(.int 2), (.ref b191), (.int z669)])) rfl rfl (hb hby at_353) _ k) ?_
                      show own_Go p e below s _ _ (T677.setTop (mkF m 354 #[iv p0, iv p1, iv p2, rv b1, jv 0, .second, jv 1, .second, jv 2, .second, rv b66, rv b123, rv b191, iv 2, iv 1, iv 0, iv 2, iv 0, iv 2, iv z635, iv z652, iv z669] [(.int (nar .boolean z246)), (.int z669)]))
                      by_cases hc684 : (nar .boolean z246) = (0 : Int32)
                      · refine own_via (fun k => XS.ifYes X677.here hx rfl (pc0 := 354) (pc' := 361) rfl (hb hby at_354) rfl ((if0 _ _).trans (teq hc684).1) (by decide) (by decide) k) ?_
                        show own_Go p e below s _ _ (T677.setTop (mkF m 361 #[iv p0, iv p1, iv p2, rv b1, jv 0, .second, jv 1, .second, jv 2, .second, rv b66, rv b123, rv b191, iv 2, iv 1, iv 0, iv 2, iv 0, iv 2, iv z635, iv z652, iv z669] [(.int z669)]))
                        refine own_via (fun k => XS.iconst X677.here hx rfl (hb hby at_361) k) ?_
                        show own_Go p e below s _ _ (T677.setTop (mkF m 362 #[iv p0, iv p1, iv p2, rv b1, jv 0, .second, jv 1, .second, jv 2, .second, rv b66, rv b123, rv b191, iv 2, iv 1, iv 0, iv 2, iv 0, iv 2, iv z635, iv z652, iv z669] [(.int 0), (.int z669)]))
                        exact J681 _ _ X677 N677 e677 (0 : Int32) (((if_neg hc682).trans ((if_pos hc684).trans rfl))).symm
                      · refine own_via (fun k => XS.ifNo X677.here hx rfl (hb hby at_354) rfl ((if0 _ _).trans (feq hc684).1) k) ?_
                        show own_Go p e below s _ _ (T677.setTop (mkF m 357 #[iv p0, iv p1, iv p2, rv b1, jv 0, .second, jv 1, .second, jv 2, .second, rv b66, rv b123, rv b191, iv 2, iv 1, iv 0, iv 2, iv 0, iv 2, iv z635, iv z652, iv z669] [(.int z669)]))
                        refine own_via (fun k => XS.iconst X677.here hx rfl (hb hby at_357) (XS.goto X677.here hx rfl (pc0 := 358) (pc' := 362) rfl (hb hby at_358) (by decide) (by decide) k)) ?_
                        show own_Go p e below s _ _ (T677.setTop (mkF m 362 #[iv p0, iv p1, iv p2, rv b1, jv 0, .second, jv 1, .second, jv 2, .second, rv b66, rv b123, rv b191, iv 2, iv 1, iv 0, iv 2, iv 0, iv 2, iv z635, iv z652, iv z669] [(.int 1), (.int z669)]))
                        exact J681 _ _ X677 N677 e677 (1 : Int32) (((if_neg hc682).trans ((if_neg hc684).trans rfl))).symm
                  by_cases hc685 : (nar .boolean z157) = (0 : Int32)
                  · refine own_via (fun k => XS.ifYes X673.here hx rfl (pc0 := 323) (pc' := 337) rfl (hb hby at_323) rfl ((if0 _ _).trans (teq hc685).1) (by decide) (by decide) k) ?_
                    show own_Go p e below s _ _ (T673.setTop (mkF m 337 #[iv p0, iv p1, iv p2, rv b1, jv 0, .second, jv 1, .second, jv 2, .second, rv b66, rv b123, rv b191, iv 2, iv 1, iv 0, iv 2, iv 0, iv 2, iv z635, iv z652, iv z669] [(.int z652)]))
                    refine own_via (fun k => XS.iconst X673.here hx rfl (hb hby at_337) k) ?_
                    show own_Go p e below s _ _ (T673.setTop (mkF m 338 #[iv p0, iv p1, iv p2, rv b1, jv 0, .second, jv 1, .second, jv 2, .second, rv b66, rv b123, rv b191, iv 2, iv 1, iv 0, iv 2, iv 0, iv 2, iv z635, iv z652, iv z669] [(.int 0), (.int z652)]))
                    exact J677 _ _ X673 N673 e673 (0 : Int32) (((if_pos hc685).trans rfl)).symm
                  · refine own_via (fun k => XS.ifNo X673.here hx rfl (hb hby at_323) rfl ((if0 _ _).trans (feq hc685).1) k) ?_
                    show own_Go p e below s _ _ (T673.setTop (mkF m 326 #[iv p0, iv p1, iv p2, rv b1, jv 0, .second, jv 1, .second, jv 2, .second, rv b66, rv b123, rv b191, iv 2, iv 1, iv 0, iv 2, iv 0, iv 2, iv z635, iv z652, iv z669] [(.int z652)]))
                    refine own_via (fun k => XS.aload X673.here hx rfl (hb hby at_326) rfl rfl  (XS.iconst X673.here hx rfl (hb hby at_328) k)) ?_
                    show own_Go p e below s _ _ (T673.setTop (mkF m 329 #[iv p0, iv p1, iv p2, rv b1, jv 0, .second, jv 1, .second, jv 2, .second, rv b66, rv b123, rv b191, iv 2, iv 1, iv 0, iv 2, iv 0, iv 2, iv z635, iv z652, iv z669] [(.int 1), (.ref b191), (.int z652)]))
                    obtain ⟨cl686, Ar686, q686, S686, NN686, H686, G686⟩ := id B667
                    have hin686 : ¬ ((1 : Int32) < 0 ∨ cl686.slots.size ≤ ((1 : Int32)).toNatClampNeg) := inb_of S686 ⟨by decide, by decide⟩
                    have hat686 : cl686.slots[((1 : Int32)).toNatClampNeg]? = some (.int (nar .boolean z228)) := H686.at hin686 rfl
                    refine own_via (fun k => X673.baloadBooleans hx (j := (1 : Int32)) (v := (.int (nar .boolean z228))) (by rw [e673]; exact Ar686.1) (State.isArrayOf_alike hZ.alike Ar686.2.1) Ar686.2.2 hin686 hat686 (g := (mkF m 329 #[iv p0, iv p1, iv p2, rv b1, jv 0, .second, jv 1, .second, jv 2, .second, rv b66, rv b123, rv b191, iv 2, iv 1, iv 0, iv 2, iv 0, iv 2, iv z635, iv z652, iv z669] [(.int 1), (.ref b191), (.int z652)])) rfl rfl (hb hby at_329) _ k) ?_
                    show own_Go p e below s _ _ (T673.setTop (mkF m 330 #[iv p0, iv p1, iv p2, rv b1, jv 0, .second, jv 1, .second, jv 2, .second, rv b66, rv b123, rv b191, iv 2, iv 1, iv 0, iv 2, iv 0, iv 2, iv z635, iv z652, iv z669] [(.int (nar .boolean z228)), (.int z652)]))
                    by_cases hc687 : (nar .boolean z228) = (0 : Int32)
                    · refine own_via (fun k => XS.ifYes X673.here hx rfl (pc0 := 330) (pc' := 337) rfl (hb hby at_330) rfl ((if0 _ _).trans (teq hc687).1) (by decide) (by decide) k) ?_
                      show own_Go p e below s _ _ (T673.setTop (mkF m 337 #[iv p0, iv p1, iv p2, rv b1, jv 0, .second, jv 1, .second, jv 2, .second, rv b66, rv b123, rv b191, iv 2, iv 1, iv 0, iv 2, iv 0, iv 2, iv z635, iv z652, iv z669] [(.int z652)]))
                      refine own_via (fun k => XS.iconst X673.here hx rfl (hb hby at_337) k) ?_
                      show own_Go p e below s _ _ (T673.setTop (mkF m 338 #[iv p0, iv p1, iv p2, rv b1, jv 0, .second, jv 1, .second, jv 2, .second, rv b66, rv b123, rv b191, iv 2, iv 1, iv 0, iv 2, iv 0, iv 2, iv z635, iv z652, iv z669] [(.int 0), (.int z652)]))
                      exact J677 _ _ X673 N673 e673 (0 : Int32) (((if_neg hc685).trans ((if_pos hc687).trans rfl))).symm
                    · refine own_via (fun k => XS.ifNo X673.here hx rfl (hb hby at_330) rfl ((if0 _ _).trans (feq hc687).1) k) ?_
                      show own_Go p e below s _ _ (T673.setTop (mkF m 333 #[iv p0, iv p1, iv p2, rv b1, jv 0, .second, jv 1, .second, jv 2, .second, rv b66, rv b123, rv b191, iv 2, iv 1, iv 0, iv 2, iv 0, iv 2, iv z635, iv z652, iv z669] [(.int z652)]))
                      refine own_via (fun k => XS.iconst X673.here hx rfl (hb hby at_333) (XS.goto X673.here hx rfl (pc0 := 334) (pc' := 338) rfl (hb hby at_334) (by decide) (by decide) k)) ?_
                      show own_Go p e below s _ _ (T673.setTop (mkF m 338 #[iv p0, iv p1, iv p2, rv b1, jv 0, .second, jv 1, .second, jv 2, .second, rv b66, rv b123, rv b191, iv 2, iv 1, iv 0, iv 2, iv 0, iv 2, iv z635, iv z652, iv z669] [(.int 1), (.int z652)]))
                      exact J677 _ _ X673 N673 e673 (1 : Int32) (((if_neg hc685).trans ((if_neg hc687).trans rfl))).symm
                by_cases hc688 : (nar .boolean z140) = (0 : Int32)
                · refine own_via (fun k => XS.ifYes X653.here hx rfl (pc0 := 299) (pc' := 313) rfl (hb hby at_299) rfl ((if0 _ _).trans (teq hc688).1) (by decide) (by decide) k) ?_
                  show own_Go p e below s _ _ (T653.setTop (mkF m 313 #[iv p0, iv p1, iv p2, rv b1, jv 0, .second, jv 1, .second, jv 2, .second, rv b66, rv b123, rv b191, iv 2, iv 1, iv 0, iv 2, iv 0, iv 2, iv z635, iv z652, iv z669] [(.int z635)]))
                  refine own_via (fun k => XS.iconst X653.here hx rfl (hb hby at_313) k) ?_
                  show own_Go p e below s _ _ (T653.setTop (mkF m 314 #[iv p0, iv p1, iv p2, rv b1, jv 0, .second, jv 1, .second, jv 2, .second, rv b66, rv b123, rv b191, iv 2, iv 1, iv 0, iv 2, iv 0, iv 2, iv z635, iv z652, iv z669] [(.int 0), (.int z635)]))
                  exact J673 _ _ X653 N663 rfl (0 : Int32) (((if_pos hc688).trans rfl)).symm
                · refine own_via (fun k => XS.ifNo X653.here hx rfl (hb hby at_299) rfl ((if0 _ _).trans (feq hc688).1) k) ?_
                  show own_Go p e below s _ _ (T653.setTop (mkF m 302 #[iv p0, iv p1, iv p2, rv b1, jv 0, .second, jv 1, .second, jv 2, .second, rv b66, rv b123, rv b191, iv 2, iv 1, iv 0, iv 2, iv 0, iv 2, iv z635, iv z652, iv z669] [(.int z635)]))
                  refine own_via (fun k => XS.aload X653.here hx rfl (hb hby at_302) rfl rfl  (XS.iconst X653.here hx rfl (hb hby at_304) k)) ?_
                  show own_Go p e below s _ _ (T653.setTop (mkF m 305 #[iv p0, iv p1, iv p2, rv b1, jv 0, .second, jv 1, .second, jv 2, .second, rv b66, rv b123, rv b191, iv 2, iv 1, iv 0, iv 2, iv 0, iv 2, iv z635, iv z652, iv z669] [(.int 0), (.ref b191), (.int z635)]))
                  obtain ⟨cl689, Ar689, q689, S689, NN689, H689, G689⟩ := id B667
                  have hin689 : ¬ ((0 : Int32) < 0 ∨ cl689.slots.size ≤ ((0 : Int32)).toNatClampNeg) := inb_of S689 ⟨by decide, by decide⟩
                  have hat689 : cl689.slots[((0 : Int32)).toNatClampNeg]? = some (.int (nar .boolean z210)) := H689.at hin689 rfl
                  refine own_via (fun k => X653.baloadBooleans hx (j := (0 : Int32)) (v := (.int (nar .boolean z210))) Ar689.1 (State.isArrayOf_alike hZ.alike Ar689.2.1) Ar689.2.2 hin689 hat689 (g := (mkF m 305 #[iv p0, iv p1, iv p2, rv b1, jv 0, .second, jv 1, .second, jv 2, .second, rv b66, rv b123, rv b191, iv 2, iv 1, iv 0, iv 2, iv 0, iv 2, iv z635, iv z652, iv z669] [(.int 0), (.ref b191), (.int z635)])) rfl rfl (hb hby at_305) _ k) ?_
                  show own_Go p e below s _ _ (T653.setTop (mkF m 306 #[iv p0, iv p1, iv p2, rv b1, jv 0, .second, jv 1, .second, jv 2, .second, rv b66, rv b123, rv b191, iv 2, iv 1, iv 0, iv 2, iv 0, iv 2, iv z635, iv z652, iv z669] [(.int (nar .boolean z210)), (.int z635)]))
                  by_cases hc690 : (nar .boolean z210) = (0 : Int32)
                  · refine own_via (fun k => XS.ifYes X653.here hx rfl (pc0 := 306) (pc' := 313) rfl (hb hby at_306) rfl ((if0 _ _).trans (teq hc690).1) (by decide) (by decide) k) ?_
                    show own_Go p e below s _ _ (T653.setTop (mkF m 313 #[iv p0, iv p1, iv p2, rv b1, jv 0, .second, jv 1, .second, jv 2, .second, rv b66, rv b123, rv b191, iv 2, iv 1, iv 0, iv 2, iv 0, iv 2, iv z635, iv z652, iv z669] [(.int z635)]))
                    refine own_via (fun k => XS.iconst X653.here hx rfl (hb hby at_313) k) ?_
                    show own_Go p e below s _ _ (T653.setTop (mkF m 314 #[iv p0, iv p1, iv p2, rv b1, jv 0, .second, jv 1, .second, jv 2, .second, rv b66, rv b123, rv b191, iv 2, iv 1, iv 0, iv 2, iv 0, iv 2, iv z635, iv z652, iv z669] [(.int 0), (.int z635)]))
                    exact J673 _ _ X653 N663 rfl (0 : Int32) (((if_neg hc688).trans ((if_pos hc690).trans rfl))).symm
                  · refine own_via (fun k => XS.ifNo X653.here hx rfl (hb hby at_306) rfl ((if0 _ _).trans (feq hc690).1) k) ?_
                    show own_Go p e below s _ _ (T653.setTop (mkF m 309 #[iv p0, iv p1, iv p2, rv b1, jv 0, .second, jv 1, .second, jv 2, .second, rv b66, rv b123, rv b191, iv 2, iv 1, iv 0, iv 2, iv 0, iv 2, iv z635, iv z652, iv z669] [(.int z635)]))
                    refine own_via (fun k => XS.iconst X653.here hx rfl (hb hby at_309) (XS.goto X653.here hx rfl (pc0 := 310) (pc' := 314) rfl (hb hby at_310) (by decide) (by decide) k)) ?_
                    show own_Go p e below s _ _ (T653.setTop (mkF m 314 #[iv p0, iv p1, iv p2, rv b1, jv 0, .second, jv 1, .second, jv 2, .second, rv b66, rv b123, rv b191, iv 2, iv 1, iv 0, iv 2, iv 0, iv 2, iv z635, iv z652, iv z669] [(.int 1), (.int z635)]))
                    exact J673 _ _ X653 N663 rfl (1 : Int32) (((if_neg hc688).trans ((if_neg hc690).trans rfl))).symm
              · rw [hl264]
                show own_Go p e below s _ _ (T248.setTop (mkF m 149 #[iv p0, iv p1, iv p2, rv b1, jv 0, .second, jv 1, .second, jv 2, .second, rv b66, rv b123, rv b191, iv 3, .unset, .unset, .unset, .unset, .unset, .unset, .unset, .unset] []))
                refine own_via (fun k => XS.iload X248.here hx rfl (hb hby at_149) rfl  (XS.iconst X248.here hx rfl (hb hby at_151) (XS.idiv X248.here hx rfl (hb hby at_152) rfl (by decide) k))) ?_
                show own_Go p e below s _ _ (T248.setTop (mkF m 153 #[iv p0, iv p1, iv p2, rv b1, jv 0, .second, jv 1, .second, jv 2, .second, rv b66, rv b123, rv b191, iv 3, .unset, .unset, .unset, .unset, .unset, .unset, .unset, .unset] [(.int ((3 : Int32) / (2 : Int32)))]))
                rw [show ((3 : Int32) / (2 : Int32)) = (1 : Int32) from by decide]
                show own_Go p e below s _ _ (T248.setTop (mkF m 153 #[iv p0, iv p1, iv p2, rv b1, jv 0, .second, jv 1, .second, jv 2, .second, rv b66, rv b123, rv b191, iv 3, .unset, .unset, .unset, .unset, .unset, .unset, .unset, .unset] [(.int 1)]))
                refine own_via (fun k => XS.istore X248.here hx rfl (hb hby at_153) rfl (l' := #[iv p0, iv p1, iv p2, rv b1, jv 0, .second, jv 1, .second, jv 2, .second, rv b66, rv b123, rv b191, iv 3, iv 1, .unset, .unset, .unset, .unset, .unset, .unset, .unset]) rfl (XS.iload X248.here hx rfl (hb hby at_155) rfl  k)) ?_
                show own_Go p e below s _ _ (T248.setTop (mkF m 157 #[iv p0, iv p1, iv p2, rv b1, jv 0, .second, jv 1, .second, jv 2, .second, rv b66, rv b123, rv b191, iv 3, iv 1, .unset, .unset, .unset, .unset, .unset, .unset, .unset] [(.int 1)]))
                refine own_via (fun k => XS.ifYes X248.here hx rfl (pc0 := 157) (pc' := 164) rfl (hb hby at_157) rfl (by decide) (by decide) (by decide) k) ?_
                show own_Go p e below s _ _ (T248.setTop (mkF m 164 #[iv p0, iv p1, iv p2, rv b1, jv 0, .second, jv 1, .second, jv 2, .second, rv b66, rv b123, rv b191, iv 3, iv 1, .unset, .unset, .unset, .unset, .unset, .unset, .unset] []))
                refine own_via (fun k => XS.iconst X248.here hx rfl (hb hby at_164) (XS.istore X248.here hx rfl (hb hby at_165) rfl (l' := #[iv p0, iv p1, iv p2, rv b1, jv 0, .second, jv 1, .second, jv 2, .second, rv b66, rv b123, rv b191, iv 3, iv 1, iv 0, .unset, .unset, .unset, .unset, .unset, .unset]) rfl (XS.iload X248.here hx rfl (hb hby at_167) rfl  (XS.iconst X248.here hx rfl (hb hby at_169) k)))) ?_
                show own_Go p e below s _ _ (T248.setTop (mkF m 170 #[iv p0, iv p1, iv p2, rv b1, jv 0, .second, jv 1, .second, jv 2, .second, rv b66, rv b123, rv b191, iv 3, iv 1, iv 0, .unset, .unset, .unset, .unset, .unset, .unset] [(.int 2), (.int 1)]))
                refine own_via (fun k => XS.icmpYes X248.here hx rfl (pc0 := 170) (pc' := 177) rfl (hb hby at_170) rfl (by decide) (by decide) (by decide) k) ?_
                show own_Go p e below s _ _ (T248.setTop (mkF m 177 #[iv p0, iv p1, iv p2, rv b1, jv 0, .second, jv 1, .second, jv 2, .second, rv b66, rv b123, rv b191, iv 3, iv 1, iv 0, .unset, .unset, .unset, .unset, .unset, .unset] []))
                refine own_via (fun k => XS.iconst X248.here hx rfl (hb hby at_177) (XS.istore X248.here hx rfl (hb hby at_178) rfl (l' := #[iv p0, iv p1, iv p2, rv b1, jv 0, .second, jv 1, .second, jv 2, .second, rv b66, rv b123, rv b191, iv 3, iv 1, iv 0, iv 2, .unset, .unset, .unset, .unset, .unset]) rfl (XS.iload X248.here hx rfl (hb hby at_180) rfl  (XS.iconst X248.here hx rfl (hb hby at_182) k)))) ?_
                show own_Go p e below s _ _ (T248.setTop (mkF m 183 #[iv p0, iv p1, iv p2, rv b1, jv 0, .second, jv 1, .second, jv 2, .second, rv b66, rv b123, rv b191, iv 3, iv 1, iv 0, iv 2, .unset, .unset, .unset, .unset, .unset] [(.int 2), (.int 3)]))
                refine own_via (fun k => Jvm.RoadKit.iremM X248 hx rfl (hb hby at_183) rfl (by decide) k) ?_
                show own_Go p e below s _ _ (T248.setTop (mkF m 184 #[iv p0, iv p1, iv p2, rv b1, jv 0, .second, jv 1, .second, jv 2, .second, rv b66, rv b123, rv b191, iv 3, iv 1, iv 0, iv 2, .unset, .unset, .unset, .unset, .unset] [(.int ((3 : Int32) % (2 : Int32)))]))
                rw [show ((3 : Int32) % (2 : Int32)) = (1 : Int32) from by decide]
                show own_Go p e below s _ _ (T248.setTop (mkF m 184 #[iv p0, iv p1, iv p2, rv b1, jv 0, .second, jv 1, .second, jv 2, .second, rv b66, rv b123, rv b191, iv 3, iv 1, iv 0, iv 2, .unset, .unset, .unset, .unset, .unset] [(.int 1)]))
                refine own_via (fun k => XS.ifYes X248.here hx rfl (pc0 := 184) (pc' := 192) rfl (hb hby at_184) rfl (by decide) (by decide) (by decide) k) ?_
                show own_Go p e below s _ _ (T248.setTop (mkF m 192 #[iv p0, iv p1, iv p2, rv b1, jv 0, .second, jv 1, .second, jv 2, .second, rv b66, rv b123, rv b191, iv 3, iv 1, iv 0, iv 2, .unset, .unset, .unset, .unset, .unset] []))
                refine own_via (fun k => XS.iload X248.here hx rfl (hb hby at_192) rfl  (XS.istore X248.here hx rfl (hb hby at_194) rfl (l' := #[iv p0, iv p1, iv p2, rv b1, jv 0, .second, jv 1, .second, jv 2, .second, rv b66, rv b123, rv b191, iv 3, iv 1, iv 0, iv 2, iv 2, .unset, .unset, .unset, .unset]) rfl (XS.iload X248.here hx rfl (hb hby at_196) rfl  (XS.iconst X248.here hx rfl (hb hby at_198) k)))) ?_
                show own_Go p e below s _ _ (T248.setTop (mkF m 199 #[iv p0, iv p1, iv p2, rv b1, jv 0, .second, jv 1, .second, jv 2, .second, rv b66, rv b123, rv b191, iv 3, iv 1, iv 0, iv 2, iv 2, .unset, .unset, .unset, .unset] [(.int 2), (.int 3)]))
                refine own_via (fun k => Jvm.RoadKit.iremM X248 hx rfl (hb hby at_199) rfl (by decide) k) ?_
                show own_Go p e below s _ _ (T248.setTop (mkF m 200 #[iv p0, iv p1, iv p2, rv b1, jv 0, .second, jv 1, .second, jv 2, .second, rv b66, rv b123, rv b191, iv 3, iv 1, iv 0, iv 2, iv 2, .unset, .unset, .unset, .unset] [(.int ((3 : Int32) % (2 : Int32)))]))
                rw [show ((3 : Int32) % (2 : Int32)) = (1 : Int32) from by decide]
                show own_Go p e below s _ _ (T248.setTop (mkF m 200 #[iv p0, iv p1, iv p2, rv b1, jv 0, .second, jv 1, .second, jv 2, .second, rv b66, rv b123, rv b191, iv 3, iv 1, iv 0, iv 2, iv 2, .unset, .unset, .unset, .unset] [(.int 1)]))
                refine own_via (fun k => XS.ifYes X248.here hx rfl (pc0 := 200) (pc' := 208) rfl (hb hby at_200) rfl (by decide) (by decide) (by decide) k) ?_
                show own_Go p e below s _ _ (T248.setTop (mkF m 208 #[iv p0, iv p1, iv p2, rv b1, jv 0, .second, jv 1, .second, jv 2, .second, rv b66, rv b123, rv b191, iv 3, iv 1, iv 0, iv 2, iv 2, .unset, .unset, .unset, .unset] []))
                refine own_via (fun k => XS.iload X248.here hx rfl (hb hby at_208) rfl  (XS.istore X248.here hx rfl (hb hby at_210) rfl (l' := #[iv p0, iv p1, iv p2, rv b1, jv 0, .second, jv 1, .second, jv 2, .second, rv b66, rv b123, rv b191, iv 3, iv 1, iv 0, iv 2, iv 2, iv 0, .unset, .unset, .unset]) rfl (XS.aloadN X248.here hx rfl (hb hby at_212) rfl rfl  (XS.aload X248.here hx rfl (hb hby at_213) rfl rfl  k)))) ?_
                show own_Go p e below s _ _ (T248.setTop (mkF m 215 #[iv p0, iv p1, iv p2, rv b1, jv 0, .second, jv 1, .second, jv 2, .second, rv b66, rv b123, rv b191, iv 3, iv 1, iv 0, iv 2, iv 2, iv 0, .unset, .unset, .unset] [(.ref b66), (.ref b1)]))
                refine own_via (fun k => XS.aload X248.here hx rfl (hb hby at_215) rfl rfl  (XS.aload X248.here hx rfl (hb hby at_217) rfl rfl  (XS.iload X248.here hx rfl (hb hby at_219) rfl  k))) ?_
                show own_Go p e below s _ _ (T248.setTop (mkF m 221 #[iv p0, iv p1, iv p2, rv b1, jv 0, .second, jv 1, .second, jv 2, .second, rv b66, rv b123, rv b191, iv 3, iv 1, iv 0, iv 2, iv 2, iv 0, .unset, .unset, .unset] [(.int 1), (.ref b191), (.ref b123), (.ref b66), (.ref b1)]))
                obtain ⟨_, _, ⟨T691, L691, k691, n691⟩, -, X691, ⟨Lc691, hQ691, l691, y691, z691⟩, st691⟩ := Jvm.LawKit.callS X248 hx (y := (⟨"com/example/tree_to_rows/treetorows/query/OutcomesSetPinLaw", "step", "(Lcom/example/tree_to_rows/treetorows/query/Outcomes;[J[Z[ZI)V"⟩ : MethodName)) hown (mvT hZ (hw _ (List.mem_of_getElem? (i := 31) rfl))) (mvT hZ (hw _ (List.mem_of_getElem? (i := 32) rfl))) (mvT hZ (hw _ (List.mem_of_getElem? (i := 33) rfl))) (mvT hZ (hw _ (List.mem_of_getElem? (i := 34) rfl))) (by decide) (backOf (W := 0) (rm5_1 l Z aw hw [] b1 b66 b123 b191 (3 : Int32) (3 : Int32) (3 : Int64) (0 : Int64) (0 : Int32) (0 : Int64) (0 : Int32) (0 : Int64) k66 k123 k191 (nar .boolean z140) (nar .boolean z157) (nar .boolean z174) (nar .boolean z210) (nar .boolean z228) (nar .boolean z246) h248 n0 Z263 B250 B251 B252 B253 B254 B255 B256 B257 B258 B249 B259 B260 B261 g2 (Ne.symm ne68) (Ne.symm ne125) (Ne.symm ne193)) hZ (hw _ (List.mem_of_getElem? (i := 34) rfl)) (hw _ (List.mem_of_getElem? (i := 33) rfl)) (by decide) (by decide)) (g := (mkF m 221 #[iv p0, iv p1, iv p2, rv b1, jv 0, .second, jv 1, .second, jv 2, .second, rv b66, rv b123, rv b191, iv 3, iv 1, iv 0, iv 2, iv 2, iv 0, .unset, .unset, .unset] [(.int 1), (.ref b191), (.ref b123), (.ref b66), (.ref b1)])) rfl (by rw [hml]; rfl) (argsL := [(.ref b1), (.ref b66), (.ref b123), (.ref b191), (.int 1)]) (rest := []) (lenOf pd_2 rfl) rfl (by show 2 * 0 + _ ≤ _; exact Nat.le_of_eq rfl) (hb hby at_221) (fun _ _ => ⟨rfl, e248, (by decide : 5 + 0 ≤ _), (by decide : 27 + 0 ≤ _)⟩)
                dsimp only [Pt.U, Pt.locs, Pt.cells, Pt.slots] at X691 l691 y691 z691 st691 hQ691
                subst l691 y691 z691
                obtain ⟨rfl, N691q, K691, B692, B693, B694, B695, B696, B697, B698, B699, B700⟩ := hQ691
                have N701 := Fr.app N262 N691q
                have B702 := B249.keep K691
                have B703 := B259.keep K691 (ninS (Ne.symm ne68) nin0)
                have B704 := B260.keep K691 (ninS (Ne.symm ne125) nin0)
                have B705 := B261.keep K691 (ninS (Ne.symm ne193) nin0)
                have Z706 : n0 ≤ T691.heap.size := Nat.le_trans Z263 K691.1
                obtain ⟨z707, hz707⟩ : ∃ z : Int32, z = (own_f5_1w (3 : Int32) (nar .boolean z157)) := ⟨_, rfl⟩
                rw [← hz707] at B694
                obtain ⟨z708, hz708⟩ : ∃ z : Int64, z = (own_f5_1c (0 : Int64) (nar .boolean z157) (nar .boolean z228)) := ⟨_, rfl⟩
                rw [← hz708] at B696
                refine own_via (fun k => st691 _ k) ?_
                show own_Go p e below s _ _ (T691.setTop (mkF m 224 #[iv p0, iv p1, iv p2, rv b1, jv 0, .second, jv 1, .second, jv 2, .second, rv b66, rv b123, rv b191, iv 3, iv 1, iv 0, iv 2, iv 2, iv 0, .unset, .unset, .unset] []))
                refine own_via (fun k => XS.aloadN X691.here hx rfl (hb hby at_224) rfl rfl  (XS.aload X691.here hx rfl (hb hby at_225) rfl rfl  (XS.aload X691.here hx rfl (hb hby at_227) rfl rfl  (XS.aload X691.here hx rfl (hb hby at_229) rfl rfl  k)))) ?_
                show own_Go p e below s _ _ (T691.setTop (mkF m 231 #[iv p0, iv p1, iv p2, rv b1, jv 0, .second, jv 1, .second, jv 2, .second, rv b66, rv b123, rv b191, iv 3, iv 1, iv 0, iv 2, iv 2, iv 0, .unset, .unset, .unset] [(.ref b191), (.ref b123), (.ref b66), (.ref b1)]))
                refine own_via (fun k => XS.iload X691.here hx rfl (hb hby at_231) rfl  k) ?_
                show own_Go p e below s _ _ (T691.setTop (mkF m 233 #[iv p0, iv p1, iv p2, rv b1, jv 0, .second, jv 1, .second, jv 2, .second, rv b66, rv b123, rv b191, iv 3, iv 1, iv 0, iv 2, iv 2, iv 0, .unset, .unset, .unset] [(.int 2), (.ref b191), (.ref b123), (.ref b66), (.ref b1)]))
                obtain ⟨_, _, ⟨T709, L709, k709, n709⟩, -, X709, ⟨Lc709, hQ709, l709, y709, z709⟩, st709⟩ := Jvm.LawKit.callS X691 hx (y := (⟨"com/example/tree_to_rows/treetorows/query/OutcomesSetPinLaw", "step", "(Lcom/example/tree_to_rows/treetorows/query/Outcomes;[J[Z[ZI)V"⟩ : MethodName)) hown (mvT hZ (hw _ (List.mem_of_getElem? (i := 31) rfl))) (mvT hZ (hw _ (List.mem_of_getElem? (i := 32) rfl))) (mvT hZ (hw _ (List.mem_of_getElem? (i := 33) rfl))) (mvT hZ (hw _ (List.mem_of_getElem? (i := 34) rfl))) (by decide) (backOf (W := 0) (rm5_2 l Z aw hw [] b1 b66 b123 b191 (3 : Int32) z707 (3 : Int64) z708 (0 : Int32) (0 : Int64) (0 : Int32) (0 : Int64) k66 k123 k191 (nar .boolean z140) (nar .boolean z157) (nar .boolean z174) (nar .boolean z210) (nar .boolean z228) (nar .boolean z246) T691.heap n0 Z706 B692 B693 B694 B695 B696 B697 B698 B699 B700 B702 B703 B704 B705 g2 (Ne.symm ne68) (Ne.symm ne125) (Ne.symm ne193)) hZ (hw _ (List.mem_of_getElem? (i := 34) rfl)) (hw _ (List.mem_of_getElem? (i := 33) rfl)) (by decide) (by decide)) (g := (mkF m 233 #[iv p0, iv p1, iv p2, rv b1, jv 0, .second, jv 1, .second, jv 2, .second, rv b66, rv b123, rv b191, iv 3, iv 1, iv 0, iv 2, iv 2, iv 0, .unset, .unset, .unset] [(.int 2), (.ref b191), (.ref b123), (.ref b66), (.ref b1)])) rfl (by rw [hml]; rfl) (argsL := [(.ref b1), (.ref b66), (.ref b123), (.ref b191), (.int 2)]) (rest := []) (lenOf pd_2 rfl) rfl (by show 2 * 0 + _ ≤ _; exact Nat.le_of_eq rfl) (hb hby at_233) (fun _ _ => ⟨rfl, rfl, (by decide : 5 + 0 ≤ _), (by decide : 27 + 0 ≤ _)⟩)
                dsimp only [Pt.U, Pt.locs, Pt.cells, Pt.slots] at X709 l709 y709 z709 st709 hQ709
                subst l709 y709 z709
                obtain ⟨rfl, N709q, K709, B710, B711, B712, B713, B714, B715, B716, B717, B718⟩ := hQ709
                have N719 := Fr.app N701 N709q
                have B720 := B702.keep K709
                have B721 := B703.keep K709 (ninS (Ne.symm ne68) nin0)
                have B722 := B704.keep K709 (ninS (Ne.symm ne125) nin0)
                have B723 := B705.keep K709 (ninS (Ne.symm ne193) nin0)
                have Z724 : n0 ≤ T709.heap.size := Nat.le_trans Z706 K709.1
                obtain ⟨z725, hz725⟩ : ∃ z : Int32, z = (own_f5_2w z707 (nar .boolean z174)) := ⟨_, rfl⟩
                rw [← hz725] at B712
                obtain ⟨z726, hz726⟩ : ∃ z : Int64, z = (own_f5_2c z708 (nar .boolean z174) (nar .boolean z246)) := ⟨_, rfl⟩
                rw [← hz726] at B714
                refine own_via (fun k => st709 _ k) ?_
                show own_Go p e below s _ _ (T709.setTop (mkF m 236 #[iv p0, iv p1, iv p2, rv b1, jv 0, .second, jv 1, .second, jv 2, .second, rv b66, rv b123, rv b191, iv 3, iv 1, iv 0, iv 2, iv 2, iv 0, .unset, .unset, .unset] []))
                refine own_via (fun k => XS.aloadN X709.here hx rfl (hb hby at_236) rfl rfl  (XS.aload X709.here hx rfl (hb hby at_237) rfl rfl  (XS.aload X709.here hx rfl (hb hby at_239) rfl rfl  (XS.aload X709.here hx rfl (hb hby at_241) rfl rfl  k)))) ?_
                show own_Go p e below s _ _ (T709.setTop (mkF m 243 #[iv p0, iv p1, iv p2, rv b1, jv 0, .second, jv 1, .second, jv 2, .second, rv b66, rv b123, rv b191, iv 3, iv 1, iv 0, iv 2, iv 2, iv 0, .unset, .unset, .unset] [(.ref b191), (.ref b123), (.ref b66), (.ref b1)]))
                refine own_via (fun k => XS.iload X709.here hx rfl (hb hby at_243) rfl  k) ?_
                show own_Go p e below s _ _ (T709.setTop (mkF m 245 #[iv p0, iv p1, iv p2, rv b1, jv 0, .second, jv 1, .second, jv 2, .second, rv b66, rv b123, rv b191, iv 3, iv 1, iv 0, iv 2, iv 2, iv 0, .unset, .unset, .unset] [(.int 0), (.ref b191), (.ref b123), (.ref b66), (.ref b1)]))
                obtain ⟨_, _, ⟨T727, L727, k727, n727⟩, -, X727, ⟨Lc727, hQ727, l727, y727, z727⟩, st727⟩ := Jvm.LawKit.callS X709 hx (y := (⟨"com/example/tree_to_rows/treetorows/query/OutcomesSetPinLaw", "step", "(Lcom/example/tree_to_rows/treetorows/query/Outcomes;[J[Z[ZI)V"⟩ : MethodName)) hown (mvT hZ (hw _ (List.mem_of_getElem? (i := 31) rfl))) (mvT hZ (hw _ (List.mem_of_getElem? (i := 32) rfl))) (mvT hZ (hw _ (List.mem_of_getElem? (i := 33) rfl))) (mvT hZ (hw _ (List.mem_of_getElem? (i := 34) rfl))) (by decide) (backOf (W := 0) (rm5_0 l Z aw hw [] b1 b66 b123 b191 (3 : Int32) z725 (3 : Int64) z726 (0 : Int32) (0 : Int64) (0 : Int32) (0 : Int64) k66 k123 k191 (nar .boolean z140) (nar .boolean z157) (nar .boolean z174) (nar .boolean z210) (nar .boolean z228) (nar .boolean z246) T709.heap n0 Z724 B710 B711 B712 B713 B714 B715 B716 B717 B718 B720 B721 B722 B723 g2 (Ne.symm ne68) (Ne.symm ne125) (Ne.symm ne193)) hZ (hw _ (List.mem_of_getElem? (i := 34) rfl)) (hw _ (List.mem_of_getElem? (i := 33) rfl)) (by decide) (by decide)) (g := (mkF m 245 #[iv p0, iv p1, iv p2, rv b1, jv 0, .second, jv 1, .second, jv 2, .second, rv b66, rv b123, rv b191, iv 3, iv 1, iv 0, iv 2, iv 2, iv 0, .unset, .unset, .unset] [(.int 0), (.ref b191), (.ref b123), (.ref b66), (.ref b1)])) rfl (by rw [hml]; rfl) (argsL := [(.ref b1), (.ref b66), (.ref b123), (.ref b191), (.int 0)]) (rest := []) (lenOf pd_2 rfl) rfl (by show 2 * 0 + _ ≤ _; exact Nat.le_of_eq rfl) (hb hby at_245) (fun _ _ => ⟨rfl, rfl, (by decide : 5 + 0 ≤ _), (by decide : 27 + 0 ≤ _)⟩)
                dsimp only [Pt.U, Pt.locs, Pt.cells, Pt.slots] at X727 l727 y727 z727 st727 hQ727
                subst l727 y727 z727
                obtain ⟨rfl, N727q, K727, B728, B729, B730, B731, B732, B733, B734, B735, B736⟩ := hQ727
                have N737 := Fr.app N719 N727q
                have B738 := B720.keep K727
                have B739 := B721.keep K727 (ninS (Ne.symm ne68) nin0)
                have B740 := B722.keep K727 (ninS (Ne.symm ne125) nin0)
                have B741 := B723.keep K727 (ninS (Ne.symm ne193) nin0)
                have Z742 : n0 ≤ T727.heap.size := Nat.le_trans Z724 K727.1
                obtain ⟨z743, hz743⟩ : ∃ z : Int32, z = (own_f5_0w z725 (nar .boolean z140)) := ⟨_, rfl⟩
                rw [← hz743] at B730
                obtain ⟨z744, hz744⟩ : ∃ z : Int64, z = (own_f5_0c z726 (nar .boolean z140) (nar .boolean z210)) := ⟨_, rfl⟩
                rw [← hz744] at B732
                refine own_via (fun k => st727 _ k) ?_
                show own_Go p e below s _ _ (T727.setTop (mkF m 248 #[iv p0, iv p1, iv p2, rv b1, jv 0, .second, jv 1, .second, jv 2, .second, rv b66, rv b123, rv b191, iv 3, iv 1, iv 0, iv 2, iv 2, iv 0, .unset, .unset, .unset] []))
                refine own_via (fun k => XS.aloadN X727.here hx rfl (hb hby at_248) rfl rfl  k) ?_
                show own_Go p e below s _ _ (T727.setTop (mkF m 249 #[iv p0, iv p1, iv p2, rv b1, jv 0, .second, jv 1, .second, jv 2, .second, rv b66, rv b123, rv b191, iv 3, iv 1, iv 0, iv 2, iv 2, iv 0, .unset, .unset, .unset] [(.ref b1)]))
                obtain ⟨cq745, kq745, q745a, q745b, q745c⟩ := isOf hZ rfl B738
                obtain ⟨_, _, ⟨T745, L745, k745, n745⟩, -, X745, ⟨Lc745, hQ745, l745, y745, z745⟩, st745⟩ := X727.virtualBack hx (y := (⟨"com/example/tree_to_rows/treetorows/query/Outcomes", "rewind", "()V"⟩ : MethodName)) (z := (⟨"com/example/tree_to_rows/treetorows/query/Outcomes", "rewind", "()V"⟩ : MethodName)) hown (mvT hZ (hw _ (List.mem_of_getElem? (i := 43) rfl))) (mvT hZ (hw _ (List.mem_of_getElem? (i := 44) rfl))) (notFace_of_selects (args := #[]) (mvT hZ (hw _ (List.mem_of_getElem? (i := 46) rfl)))) (mvT hZ (hw _ (List.mem_of_getElem? (i := 46) rfl))) (mvT hZ (hw _ (List.mem_of_getElem? (i := 45) rfl))) (by decide) (backOf (W := 0) (rm7 l Z aw hw [] b1 (0 : Int32) (3 : Int32) z743 (3 : Int64) z744 T727.heap n0 Z742 B728 B729 B730 B731 B732 B733 B734 B735 B736 B738 g2) hZ (hw _ (List.mem_of_getElem? (i := 47) rfl)) (hw _ (List.mem_of_getElem? (i := 2) rfl)) (by decide) (by decide)) q745a q745c (g := (mkF m 249 #[iv p0, iv p1, iv p2, rv b1, jv 0, .second, jv 1, .second, jv 2, .second, rv b66, rv b123, rv b191, iv 3, iv 1, iv 0, iv 2, iv 2, iv 0, .unset, .unset, .unset] [(.ref b1)])) rfl (by rw [hml]; rfl) (Steps.refl _) (argsL := []) (rest := []) (lenOf pd_0 rfl) rfl (by show 2 * 0 + _ ≤ _; exact Nat.le_of_eq rfl) (hb hby at_249) (fun _ _ => ⟨rfl, rfl, (by decide : 5 + 0 ≤ _), (by decide : 27 + 0 ≤ _)⟩)
                dsimp only [Pt.U, Pt.locs, Pt.cells, Pt.slots] at X745 l745 y745 z745 st745 hQ745
                subst l745 y745 z745
                obtain ⟨rfl, N745q, K745, B746, B747, B748, B749, B750, B751, B752, B753, B754⟩ := hQ745
                have N755 := Fr.app N737 N745q
                have B756 := B738.keep K745
                have B757 := B739.keep K745 (ninS (Ne.symm ne68) nin0)
                have B758 := B740.keep K745 (ninS (Ne.symm ne125) nin0)
                have B759 := B741.keep K745 (ninS (Ne.symm ne193) nin0)
                have Z760 : n0 ≤ T745.heap.size := Nat.le_trans Z742 K745.1
                refine own_via (fun k => st745.trans k) ?_
                show own_Go p e below s _ _ (T745.setTop (mkF m 252 #[iv p0, iv p1, iv p2, rv b1, jv 0, .second, jv 1, .second, jv 2, .second, rv b66, rv b123, rv b191, iv 3, iv 1, iv 0, iv 2, iv 2, iv 0, .unset, .unset, .unset] []))
                refine own_via (fun k => XS.aloadN X745.here hx rfl (hb hby at_252) rfl rfl  k) ?_
                show own_Go p e below s _ _ (T745.setTop (mkF m 253 #[iv p0, iv p1, iv p2, rv b1, jv 0, .second, jv 1, .second, jv 2, .second, rv b66, rv b123, rv b191, iv 3, iv 1, iv 0, iv 2, iv 2, iv 0, .unset, .unset, .unset] [(.ref b1)]))
                obtain ⟨cq761, kq761, q761a, q761b, q761c⟩ := isOf hZ rfl B756
                obtain ⟨_, _, ⟨T761, L761, k761, n761⟩, -, X761, ⟨Lc761, hQ761, l761, y761, z761⟩, st761⟩ := X745.virtualBack hx (y := (⟨"com/example/tree_to_rows/treetorows/query/Outcomes", "next", "()Z"⟩ : MethodName)) (z := (⟨"com/example/tree_to_rows/treetorows/query/Outcomes", "next", "()Z"⟩ : MethodName)) hown (mvT hZ (hw _ (List.mem_of_getElem? (i := 56) rfl))) (mvT hZ (hw _ (List.mem_of_getElem? (i := 57) rfl))) (notFace_of_selects (args := #[]) (mvT hZ (hw _ (List.mem_of_getElem? (i := 59) rfl)))) (mvT hZ (hw _ (List.mem_of_getElem? (i := 59) rfl))) (mvT hZ (hw _ (List.mem_of_getElem? (i := 58) rfl))) (by decide) (backOf (W := 0) (rm8_0 l Z aw hw [] b1 (3 : Int32) z743 z744 (0 : Int64) T745.heap n0 Z760 B746 B747 B748 B749 B750 B751 B752 B753 B754 B756 g2) hZ (hw _ (List.mem_of_getElem? (i := 60) rfl)) (hw _ (List.mem_of_getElem? (i := 2) rfl)) (by decide) (by decide)) q761a q761c (g := (mkF m 253 #[iv p0, iv p1, iv p2, rv b1, jv 0, .second, jv 1, .second, jv 2, .second, rv b66, rv b123, rv b191, iv 3, iv 1, iv 0, iv 2, iv 2, iv 0, .unset, .unset, .unset] [(.ref b1)])) rfl (by rw [hml]; rfl) (Steps.refl _) (argsL := []) (rest := []) (lenOf pd_4 rfl) rfl (by show 2 * 0 + _ ≤ _; exact Nat.le_of_eq rfl) (hb hby at_253) (fun _ _ => ⟨rfl, rfl, (by decide : 5 + 0 ≤ _), (by decide : 27 + 0 ≤ _)⟩)
                dsimp only [Pt.U, Pt.locs, Pt.cells, Pt.slots] at X761 l761 y761 z761 st761 hQ761
                subst l761 y761 z761
                obtain ⟨rfl, N761q, K761, B762, B763, B764, B765, B766, B767, B768, B769, B770⟩ := hQ761
                have N771 := Fr.app N755 N761q
                have B772 := B756.keep K761
                have B773 := B757.keep K761 (ninS (Ne.symm ne68) nin0)
                have B774 := B758.keep K761 (ninS (Ne.symm ne125) nin0)
                have B775 := B759.keep K761 (ninS (Ne.symm ne193) nin0)
                have Z776 : n0 ≤ T761.heap.size := Nat.le_trans Z760 K761.1
                refine own_via (fun k => st761.trans k) ?_
                show own_Go p e below s _ _ (T761.setTop (mkF m 256 #[iv p0, iv p1, iv p2, rv b1, jv 0, .second, jv 1, .second, jv 2, .second, rv b66, rv b123, rv b191, iv 3, iv 1, iv 0, iv 2, iv 2, iv 0, .unset, .unset, .unset] [(.int (own_f8_0 z744))]))
                obtain ⟨z777, hz777⟩ : ∃ z : Int32, z = (own_f8_0 z744) := ⟨_, rfl⟩
                rw [← hz777]
                show own_Go p e below s _ _ (T761.setTop (mkF m 256 #[iv p0, iv p1, iv p2, rv b1, jv 0, .second, jv 1, .second, jv 2, .second, rv b66, rv b123, rv b191, iv 3, iv 1, iv 0, iv 2, iv 2, iv 0, .unset, .unset, .unset] [(.int z777)]))
                refine own_via (fun k => XS.istore X761.here hx rfl (hb hby at_256) rfl (l' := #[iv p0, iv p1, iv p2, rv b1, jv 0, .second, jv 1, .second, jv 2, .second, rv b66, rv b123, rv b191, iv 3, iv 1, iv 0, iv 2, iv 2, iv 0, iv z777, .unset, .unset]) rfl (XS.aloadN X761.here hx rfl (hb hby at_258) rfl rfl  k)) ?_
                show own_Go p e below s _ _ (T761.setTop (mkF m 259 #[iv p0, iv p1, iv p2, rv b1, jv 0, .second, jv 1, .second, jv 2, .second, rv b66, rv b123, rv b191, iv 3, iv 1, iv 0, iv 2, iv 2, iv 0, iv z777, .unset, .unset] [(.ref b1)]))
                obtain ⟨cq778, kq778, q778a, q778b, q778c⟩ := isOf hZ rfl B772
                obtain ⟨_, _, ⟨T778, L778, k778, n778⟩, -, X778, ⟨Lc778, hQ778, l778, y778, z778⟩, st778⟩ := X761.virtualBack hx (y := (⟨"com/example/tree_to_rows/treetorows/query/Outcomes", "next", "()Z"⟩ : MethodName)) (z := (⟨"com/example/tree_to_rows/treetorows/query/Outcomes", "next", "()Z"⟩ : MethodName)) hown (mvT hZ (hw _ (List.mem_of_getElem? (i := 56) rfl))) (mvT hZ (hw _ (List.mem_of_getElem? (i := 57) rfl))) (notFace_of_selects (args := #[]) (mvT hZ (hw _ (List.mem_of_getElem? (i := 59) rfl)))) (mvT hZ (hw _ (List.mem_of_getElem? (i := 59) rfl))) (mvT hZ (hw _ (List.mem_of_getElem? (i := 58) rfl))) (by decide) (backOf (W := 0) (rm8_1 l Z aw hw [] b1 (3 : Int32) z743 z744 (0 : Int64) T761.heap n0 Z776 B762 B763 B764 B765 B766 B767 B768 B769 B770 B772 g2) hZ (hw _ (List.mem_of_getElem? (i := 60) rfl)) (hw _ (List.mem_of_getElem? (i := 2) rfl)) (by decide) (by decide)) q778a q778c (g := (mkF m 259 #[iv p0, iv p1, iv p2, rv b1, jv 0, .second, jv 1, .second, jv 2, .second, rv b66, rv b123, rv b191, iv 3, iv 1, iv 0, iv 2, iv 2, iv 0, iv z777, .unset, .unset] [(.ref b1)])) rfl (by rw [hml]; rfl) (Steps.refl _) (argsL := []) (rest := []) (lenOf pd_4 rfl) rfl (by show 2 * 0 + _ ≤ _; exact Nat.le_of_eq rfl) (hb hby at_259) (fun _ _ => ⟨rfl, rfl, (by decide : 5 + 0 ≤ _), (by decide : 27 + 0 ≤ _)⟩)
                dsimp only [Pt.U, Pt.locs, Pt.cells, Pt.slots] at X778 l778 y778 z778 st778 hQ778
                subst l778 y778 z778
                obtain ⟨rfl, N778q, K778, B779, B780, B781, B782, B783, B784, B785, B786, B787⟩ := hQ778
                have N788 := Fr.app N771 N778q
                have B789 := B772.keep K778
                have B790 := B773.keep K778 (ninS (Ne.symm ne68) nin0)
                have B791 := B774.keep K778 (ninS (Ne.symm ne125) nin0)
                have B792 := B775.keep K778 (ninS (Ne.symm ne193) nin0)
                have Z793 : n0 ≤ T778.heap.size := Nat.le_trans Z776 K778.1
                refine own_via (fun k => st778.trans k) ?_
                show own_Go p e below s _ _ (T778.setTop (mkF m 262 #[iv p0, iv p1, iv p2, rv b1, jv 0, .second, jv 1, .second, jv 2, .second, rv b66, rv b123, rv b191, iv 3, iv 1, iv 0, iv 2, iv 2, iv 0, iv z777, .unset, .unset] [(.int (own_f8_1 z744))]))
                obtain ⟨z794, hz794⟩ : ∃ z : Int32, z = (own_f8_1 z744) := ⟨_, rfl⟩
                rw [← hz794]
                show own_Go p e below s _ _ (T778.setTop (mkF m 262 #[iv p0, iv p1, iv p2, rv b1, jv 0, .second, jv 1, .second, jv 2, .second, rv b66, rv b123, rv b191, iv 3, iv 1, iv 0, iv 2, iv 2, iv 0, iv z777, .unset, .unset] [(.int z794)]))
                refine own_via (fun k => XS.istore X778.here hx rfl (hb hby at_262) rfl (l' := #[iv p0, iv p1, iv p2, rv b1, jv 0, .second, jv 1, .second, jv 2, .second, rv b66, rv b123, rv b191, iv 3, iv 1, iv 0, iv 2, iv 2, iv 0, iv z777, iv z794, .unset]) rfl (XS.aloadN X778.here hx rfl (hb hby at_264) rfl rfl  k)) ?_
                show own_Go p e below s _ _ (T778.setTop (mkF m 265 #[iv p0, iv p1, iv p2, rv b1, jv 0, .second, jv 1, .second, jv 2, .second, rv b66, rv b123, rv b191, iv 3, iv 1, iv 0, iv 2, iv 2, iv 0, iv z777, iv z794, .unset] [(.ref b1)]))
                obtain ⟨cq795, kq795, q795a, q795b, q795c⟩ := isOf hZ rfl B789
                obtain ⟨_, _, ⟨T795, L795, k795, n795⟩, -, X795, ⟨Lc795, hQ795, l795, y795, z795⟩, st795⟩ := X778.virtualBack hx (y := (⟨"com/example/tree_to_rows/treetorows/query/Outcomes", "next", "()Z"⟩ : MethodName)) (z := (⟨"com/example/tree_to_rows/treetorows/query/Outcomes", "next", "()Z"⟩ : MethodName)) hown (mvT hZ (hw _ (List.mem_of_getElem? (i := 56) rfl))) (mvT hZ (hw _ (List.mem_of_getElem? (i := 57) rfl))) (notFace_of_selects (args := #[]) (mvT hZ (hw _ (List.mem_of_getElem? (i := 59) rfl)))) (mvT hZ (hw _ (List.mem_of_getElem? (i := 59) rfl))) (mvT hZ (hw _ (List.mem_of_getElem? (i := 58) rfl))) (by decide) (backOf (W := 0) (rm8_2 l Z aw hw [] b1 (3 : Int32) z743 z744 (0 : Int64) T778.heap n0 Z793 B779 B780 B781 B782 B783 B784 B785 B786 B787 B789 g2) hZ (hw _ (List.mem_of_getElem? (i := 60) rfl)) (hw _ (List.mem_of_getElem? (i := 2) rfl)) (by decide) (by decide)) q795a q795c (g := (mkF m 265 #[iv p0, iv p1, iv p2, rv b1, jv 0, .second, jv 1, .second, jv 2, .second, rv b66, rv b123, rv b191, iv 3, iv 1, iv 0, iv 2, iv 2, iv 0, iv z777, iv z794, .unset] [(.ref b1)])) rfl (by rw [hml]; rfl) (Steps.refl _) (argsL := []) (rest := []) (lenOf pd_4 rfl) rfl (by show 2 * 0 + _ ≤ _; exact Nat.le_of_eq rfl) (hb hby at_265) (fun _ _ => ⟨rfl, rfl, (by decide : 5 + 0 ≤ _), (by decide : 27 + 0 ≤ _)⟩)
                dsimp only [Pt.U, Pt.locs, Pt.cells, Pt.slots] at X795 l795 y795 z795 st795 hQ795
                subst l795 y795 z795
                obtain ⟨rfl, N795q, K795, B796, B797, B798, B799, B800, B801, B802, B803, B804⟩ := hQ795
                have N805 := Fr.app N788 N795q
                have B806 := B789.keep K795
                have B807 := B790.keep K795 (ninS (Ne.symm ne68) nin0)
                have B808 := B791.keep K795 (ninS (Ne.symm ne125) nin0)
                have B809 := B792.keep K795 (ninS (Ne.symm ne193) nin0)
                have Z810 : n0 ≤ T795.heap.size := Nat.le_trans Z793 K795.1
                refine own_via (fun k => st795.trans k) ?_
                show own_Go p e below s _ _ (T795.setTop (mkF m 268 #[iv p0, iv p1, iv p2, rv b1, jv 0, .second, jv 1, .second, jv 2, .second, rv b66, rv b123, rv b191, iv 3, iv 1, iv 0, iv 2, iv 2, iv 0, iv z777, iv z794, .unset] [(.int (own_f8_2 z744))]))
                obtain ⟨z811, hz811⟩ : ∃ z : Int32, z = (own_f8_2 z744) := ⟨_, rfl⟩
                rw [← hz811]
                show own_Go p e below s _ _ (T795.setTop (mkF m 268 #[iv p0, iv p1, iv p2, rv b1, jv 0, .second, jv 1, .second, jv 2, .second, rv b66, rv b123, rv b191, iv 3, iv 1, iv 0, iv 2, iv 2, iv 0, iv z777, iv z794, .unset] [(.int z811)]))
                refine own_via (fun k => XS.istore X795.here hx rfl (hb hby at_268) rfl (l' := #[iv p0, iv p1, iv p2, rv b1, jv 0, .second, jv 1, .second, jv 2, .second, rv b66, rv b123, rv b191, iv 3, iv 1, iv 0, iv 2, iv 2, iv 0, iv z777, iv z794, iv z811]) rfl (XS.lload X795.here hx rfl (hb hby at_270) rfl  (XS.lconst X795.here hx rfl (hb hby at_272) (XS.lcmp X795.here hx rfl (hb hby at_273) rfl k)))) ?_
                show own_Go p e below s _ _ (T795.setTop (mkF m 274 #[iv p0, iv p1, iv p2, rv b1, jv 0, .second, jv 1, .second, jv 2, .second, rv b66, rv b123, rv b191, iv 3, iv 1, iv 0, iv 2, iv 2, iv 0, iv z777, iv z794, iv z811] [(.int (lcmpW (0 : Int64) (0 : Int64)))]))
                refine own_via (fun k => XS.ifNo X795.here hx rfl (hb hby at_274) rfl (by decide) k) ?_
                show own_Go p e below s _ _ (T795.setTop (mkF m 277 #[iv p0, iv p1, iv p2, rv b1, jv 0, .second, jv 1, .second, jv 2, .second, rv b66, rv b123, rv b191, iv 3, iv 1, iv 0, iv 2, iv 2, iv 0, iv z777, iv z794, iv z811] []))
                refine own_via (fun k => XS.lload X795.here hx rfl (hb hby at_277) rfl  (XS.lconst X795.here hx rfl (hb hby at_279) (XS.lcmp X795.here hx rfl (hb hby at_280) rfl k))) ?_
                show own_Go p e below s _ _ (T795.setTop (mkF m 281 #[iv p0, iv p1, iv p2, rv b1, jv 0, .second, jv 1, .second, jv 2, .second, rv b66, rv b123, rv b191, iv 3, iv 1, iv 0, iv 2, iv 2, iv 0, iv z777, iv z794, iv z811] [(.int (lcmpW (1 : Int64) (1 : Int64)))]))
                refine own_via (fun k => XS.ifNo X795.here hx rfl (hb hby at_281) rfl (by decide) k) ?_
                show own_Go p e below s _ _ (T795.setTop (mkF m 284 #[iv p0, iv p1, iv p2, rv b1, jv 0, .second, jv 1, .second, jv 2, .second, rv b66, rv b123, rv b191, iv 3, iv 1, iv 0, iv 2, iv 2, iv 0, iv z777, iv z794, iv z811] []))
                refine own_via (fun k => XS.lload X795.here hx rfl (hb hby at_284) rfl  (X795.ldc2Long hx hown (mvT hZ (hw _ (List.mem_of_getElem? (i := 62) rfl))) (g := (mkF m 286 #[iv p0, iv p1, iv p2, rv b1, jv 0, .second, jv 1, .second, jv 2, .second, rv b66, rv b123, rv b191, iv 3, iv 1, iv 0, iv 2, iv 2, iv 0, iv z777, iv z794, iv z811] [(.long 2)])) rfl (hb hby at_286) _ (XS.lcmp X795.here hx rfl (hb hby at_289) rfl k))) ?_
                show own_Go p e below s _ _ (T795.setTop (mkF m 290 #[iv p0, iv p1, iv p2, rv b1, jv 0, .second, jv 1, .second, jv 2, .second, rv b66, rv b123, rv b191, iv 3, iv 1, iv 0, iv 2, iv 2, iv 0, iv z777, iv z794, iv z811] [(.int (lcmpW (2 : Int64) (2 : Int64)))]))
                refine own_via (fun k => XS.ifNo X795.here hx rfl (hb hby at_290) rfl (by decide) k) ?_
                show own_Go p e below s _ _ (T795.setTop (mkF m 293 #[iv p0, iv p1, iv p2, rv b1, jv 0, .second, jv 1, .second, jv 2, .second, rv b66, rv b123, rv b191, iv 3, iv 1, iv 0, iv 2, iv 2, iv 0, iv z777, iv z794, iv z811] []))
                refine own_via (fun k => XS.iload X795.here hx rfl (hb hby at_293) rfl  (XS.aload X795.here hx rfl (hb hby at_295) rfl rfl  (XS.iconst X795.here hx rfl (hb hby at_297) k))) ?_
                show own_Go p e below s _ _ (T795.setTop (mkF m 298 #[iv p0, iv p1, iv p2, rv b1, jv 0, .second, jv 1, .second, jv 2, .second, rv b66, rv b123, rv b191, iv 3, iv 1, iv 0, iv 2, iv 2, iv 0, iv z777, iv z794, iv z811] [(.int 0), (.ref b123), (.int z777)]))
                obtain ⟨cl812, Ar812, q812, S812, NN812, H812, G812⟩ := id B808
                have hin812 : ¬ ((0 : Int32) < 0 ∨ cl812.slots.size ≤ ((0 : Int32)).toNatClampNeg) := inb_of S812 ⟨by decide, by decide⟩
                have hat812 : cl812.slots[((0 : Int32)).toNatClampNeg]? = some (.int (nar .boolean z140)) := H812.at hin812 rfl
                refine own_via (fun k => X795.baloadBooleans hx (j := (0 : Int32)) (v := (.int (nar .boolean z140))) Ar812.1 (State.isArrayOf_alike hZ.alike Ar812.2.1) Ar812.2.2 hin812 hat812 (g := (mkF m 298 #[iv p0, iv p1, iv p2, rv b1, jv 0, .second, jv 1, .second, jv 2, .second, rv b66, rv b123, rv b191, iv 3, iv 1, iv 0, iv 2, iv 2, iv 0, iv z777, iv z794, iv z811] [(.int 0), (.ref b123), (.int z777)])) rfl rfl (hb hby at_298) _ k) ?_
                show own_Go p e below s _ _ (T795.setTop (mkF m 299 #[iv p0, iv p1, iv p2, rv b1, jv 0, .second, jv 1, .second, jv 2, .second, rv b66, rv b123, rv b191, iv 3, iv 1, iv 0, iv 2, iv 2, iv 0, iv z777, iv z794, iv z811] [(.int (nar .boolean z140)), (.int z777)]))
                have J815 : ∀ (T815 : State) (lo815 : List Loc), Stand p l e room_1 s m #[(.int p0), (.int p1), (.int p2)] below meth c T815 lo815 5 27 → Fr n0 lo815 → T815.heap = T795.heap → ∀ (z814 : Int32), z814 = (if (nar .boolean z140) = (0 : Int32) then (0 : Int32) else (if (nar .boolean z210) = (0 : Int32) then (0 : Int32) else (1 : Int32))) → own_Go p e below s (Q0 Z p0 p1 p2 h0 n0) (room_1.cells, room_1.slots) (T815.setTop (mkF m 314 #[iv p0, iv p1, iv p2, rv b1, jv 0, .second, jv 1, .second, jv 2, .second, rv b66, rv b123, rv b191, iv 3, iv 1, iv 0, iv 2, iv 2, iv 0, iv z777, iv z794, iv z811] [(.int z814), (.int z777)])) := by
                  intro T815 lo815 X815 N815 e815 z814 hz814
                  refine own_via (fun k => XS.icmpNo X815.here hx rfl (hb hby at_314) rfl (teq (own_law3_314 p0 p1 p2 z140 hz140 z157 hz157 z174 hz174 z210 hz210 z228 hz228 z246 hz246 z708 hz708 z726 hz726 z744 hz744 z777 hz777 z814 hz814 hl264)).2 k) ?_
                  show own_Go p e below s _ _ (T815.setTop (mkF m 317 #[iv p0, iv p1, iv p2, rv b1, jv 0, .second, jv 1, .second, jv 2, .second, rv b66, rv b123, rv b191, iv 3, iv 1, iv 0, iv 2, iv 2, iv 0, iv z777, iv z794, iv z811] []))
                  refine own_via (fun k => XS.iload X815.here hx rfl (hb hby at_317) rfl  (XS.aload X815.here hx rfl (hb hby at_319) rfl rfl  (XS.iconst X815.here hx rfl (hb hby at_321) k))) ?_
                  show own_Go p e below s _ _ (T815.setTop (mkF m 322 #[iv p0, iv p1, iv p2, rv b1, jv 0, .second, jv 1, .second, jv 2, .second, rv b66, rv b123, rv b191, iv 3, iv 1, iv 0, iv 2, iv 2, iv 0, iv z777, iv z794, iv z811] [(.int 1), (.ref b123), (.int z794)]))
                  obtain ⟨cl816, Ar816, q816, S816, NN816, H816, G816⟩ := id B808
                  have hin816 : ¬ ((1 : Int32) < 0 ∨ cl816.slots.size ≤ ((1 : Int32)).toNatClampNeg) := inb_of S816 ⟨by decide, by decide⟩
                  have hat816 : cl816.slots[((1 : Int32)).toNatClampNeg]? = some (.int (nar .boolean z157)) := H816.at hin816 rfl
                  refine own_via (fun k => X815.baloadBooleans hx (j := (1 : Int32)) (v := (.int (nar .boolean z157))) (by rw [e815]; exact Ar816.1) (State.isArrayOf_alike hZ.alike Ar816.2.1) Ar816.2.2 hin816 hat816 (g := (mkF m 322 #[iv p0, iv p1, iv p2, rv b1, jv 0, .second, jv 1, .second, jv 2, .second, rv b66, rv b123, rv b191, iv 3, iv 1, iv 0, iv 2, iv 2, iv 0, iv z777, iv z794, iv z811] [(.int 1), (.ref b123), (.int z794)])) rfl rfl (hb hby at_322) _ k) ?_
                  show own_Go p e below s _ _ (T815.setTop (mkF m 323 #[iv p0, iv p1, iv p2, rv b1, jv 0, .second, jv 1, .second, jv 2, .second, rv b66, rv b123, rv b191, iv 3, iv 1, iv 0, iv 2, iv 2, iv 0, iv z777, iv z794, iv z811] [(.int (nar .boolean z157)), (.int z794)]))
                  have J819 : ∀ (T819 : State) (lo819 : List Loc), Stand p l e room_1 s m #[(.int p0), (.int p1), (.int p2)] below meth c T819 lo819 5 27 → Fr n0 lo819 → T819.heap = T795.heap → ∀ (z818 : Int32), z818 = (if (nar .boolean z157) = (0 : Int32) then (0 : Int32) else (if (nar .boolean z228) = (0 : Int32) then (0 : Int32) else (1 : Int32))) → own_Go p e below s (Q0 Z p0 p1 p2 h0 n0) (room_1.cells, room_1.slots) (T819.setTop (mkF m 338 #[iv p0, iv p1, iv p2, rv b1, jv 0, .second, jv 1, .second, jv 2, .second, rv b66, rv b123, rv b191, iv 3, iv 1, iv 0, iv 2, iv 2, iv 0, iv z777, iv z794, iv z811] [(.int z818), (.int z794)])) := by
                    intro T819 lo819 X819 N819 e819 z818 hz818
                    refine own_via (fun k => XS.icmpNo X819.here hx rfl (hb hby at_338) rfl (teq (own_law3_338 p0 p1 p2 z140 hz140 z157 hz157 z174 hz174 z210 hz210 z228 hz228 z246 hz246 z708 hz708 z726 hz726 z744 hz744 z794 hz794 z818 hz818 hl264)).2 k) ?_
                    show own_Go p e below s _ _ (T819.setTop (mkF m 341 #[iv p0, iv p1, iv p2, rv b1, jv 0, .second, jv 1, .second, jv 2, .second, rv b66, rv b123, rv b191, iv 3, iv 1, iv 0, iv 2, iv 2, iv 0, iv z777, iv z794, iv z811] []))
                    refine own_via (fun k => XS.iload X819.here hx rfl (hb hby at_341) rfl  (XS.aload X819.here hx rfl (hb hby at_343) rfl rfl  (XS.iconst X819.here hx rfl (hb hby at_345) k))) ?_
                    show own_Go p e below s _ _ (T819.setTop (mkF m 346 #[iv p0, iv p1, iv p2, rv b1, jv 0, .second, jv 1, .second, jv 2, .second, rv b66, rv b123, rv b191, iv 3, iv 1, iv 0, iv 2, iv 2, iv 0, iv z777, iv z794, iv z811] [(.int 2), (.ref b123), (.int z811)]))
                    obtain ⟨cl820, Ar820, q820, S820, NN820, H820, G820⟩ := id B808
                    have hin820 : ¬ ((2 : Int32) < 0 ∨ cl820.slots.size ≤ ((2 : Int32)).toNatClampNeg) := inb_of S820 ⟨by decide, by decide⟩
                    have hat820 : cl820.slots[((2 : Int32)).toNatClampNeg]? = some (.int (nar .boolean z174)) := H820.at hin820 rfl
                    refine own_via (fun k => X819.baloadBooleans hx (j := (2 : Int32)) (v := (.int (nar .boolean z174))) (by rw [e819]; exact Ar820.1) (State.isArrayOf_alike hZ.alike Ar820.2.1) Ar820.2.2 hin820 hat820 (g := (mkF m 346 #[iv p0, iv p1, iv p2, rv b1, jv 0, .second, jv 1, .second, jv 2, .second, rv b66, rv b123, rv b191, iv 3, iv 1, iv 0, iv 2, iv 2, iv 0, iv z777, iv z794, iv z811] [(.int 2), (.ref b123), (.int z811)])) rfl rfl (hb hby at_346) _ k) ?_
                    show own_Go p e below s _ _ (T819.setTop (mkF m 347 #[iv p0, iv p1, iv p2, rv b1, jv 0, .second, jv 1, .second, jv 2, .second, rv b66, rv b123, rv b191, iv 3, iv 1, iv 0, iv 2, iv 2, iv 0, iv z777, iv z794, iv z811] [(.int (nar .boolean z174)), (.int z811)]))
                    have J823 : ∀ (T823 : State) (lo823 : List Loc), Stand p l e room_1 s m #[(.int p0), (.int p1), (.int p2)] below meth c T823 lo823 5 27 → Fr n0 lo823 → T823.heap = T795.heap → ∀ (z822 : Int32), z822 = (if (nar .boolean z174) = (0 : Int32) then (0 : Int32) else (if (nar .boolean z246) = (0 : Int32) then (0 : Int32) else (1 : Int32))) → own_Go p e below s (Q0 Z p0 p1 p2 h0 n0) (room_1.cells, room_1.slots) (T823.setTop (mkF m 362 #[iv p0, iv p1, iv p2, rv b1, jv 0, .second, jv 1, .second, jv 2, .second, rv b66, rv b123, rv b191, iv 3, iv 1, iv 0, iv 2, iv 2, iv 0, iv z777, iv z794, iv z811] [(.int z822), (.int z811)])) := by
                      intro T823 lo823 X823 N823 e823 z822 hz822
                      refine own_via (fun k => XS.icmpNo X823.here hx rfl (hb hby at_362) rfl (teq (own_law3_362 p0 p1 p2 z140 hz140 z157 hz157 z174 hz174 z210 hz210 z228 hz228 z246 hz246 z708 hz708 z726 hz726 z744 hz744 z811 hz811 z822 hz822 hl264)).2 k) ?_
                      show own_Go p e below s _ _ (T823.setTop (mkF m 365 #[iv p0, iv p1, iv p2, rv b1, jv 0, .second, jv 1, .second, jv 2, .second, rv b66, rv b123, rv b191, iv 3, iv 1, iv 0, iv 2, iv 2, iv 0, iv z777, iv z794, iv z811] []))
                      refine own_via (fun k => XS.iconst X823.here hx rfl (hb hby at_365) (XS.goto X823.here hx rfl (pc0 := 366) (pc' := 370) rfl (hb hby at_366) (by decide) (by decide) k)) ?_
                      show own_Go p e below s _ _ (T823.setTop (mkF m 370 #[iv p0, iv p1, iv p2, rv b1, jv 0, .second, jv 1, .second, jv 2, .second, rv b66, rv b123, rv b191, iv 3, iv 1, iv 0, iv 2, iv 2, iv 0, iv z777, iv z794, iv z811] [(.int 1)]))
                      exact own_retN X823 hx hlk (t := .boolean) Bd.returns (by simp) (hb hby at_370) (Q := (Q0 Z p0 p1 p2 h0 n0)) ⟨rfl, N823⟩ (by decide) (by decide)
                    by_cases hc824 : (nar .boolean z174) = (0 : Int32)
                    · refine own_via (fun k => XS.ifYes X819.here hx rfl (pc0 := 347) (pc' := 361) rfl (hb hby at_347) rfl ((if0 _ _).trans (teq hc824).1) (by decide) (by decide) k) ?_
                      show own_Go p e below s _ _ (T819.setTop (mkF m 361 #[iv p0, iv p1, iv p2, rv b1, jv 0, .second, jv 1, .second, jv 2, .second, rv b66, rv b123, rv b191, iv 3, iv 1, iv 0, iv 2, iv 2, iv 0, iv z777, iv z794, iv z811] [(.int z811)]))
                      refine own_via (fun k => XS.iconst X819.here hx rfl (hb hby at_361) k) ?_
                      show own_Go p e below s _ _ (T819.setTop (mkF m 362 #[iv p0, iv p1, iv p2, rv b1, jv 0, .second, jv 1, .second, jv 2, .second, rv b66, rv b123, rv b191, iv 3, iv 1, iv 0, iv 2, iv 2, iv 0, iv z777, iv z794, iv z811] [(.int 0), (.int z811)]))
                      exact J823 _ _ X819 N819 e819 (0 : Int32) (((if_pos hc824).trans rfl)).symm
                    · refine own_via (fun k => XS.ifNo X819.here hx rfl (hb hby at_347) rfl ((if0 _ _).trans (feq hc824).1) k) ?_
                      show own_Go p e below s _ _ (T819.setTop (mkF m 350 #[iv p0, iv p1, iv p2, rv b1, jv 0, .second, jv 1, .second, jv 2, .second, rv b66, rv b123, rv b191, iv 3, iv 1, iv 0, iv 2, iv 2, iv 0, iv z777, iv z794, iv z811] [(.int z811)]))
                      refine own_via (fun k => XS.aload X819.here hx rfl (hb hby at_350) rfl rfl  (XS.iconst X819.here hx rfl (hb hby at_352) k)) ?_
                      show own_Go p e below s _ _ (T819.setTop (mkF m 353 #[iv p0, iv p1, iv p2, rv b1, jv 0, .second, jv 1, .second, jv 2, .second, rv b66, rv b123, rv b191, iv 3, iv 1, iv 0, iv 2, iv 2, iv 0, iv z777, iv z794, iv z811] [(.int 2), (.ref b191), (.int z811)]))
                      obtain ⟨cl825, Ar825, q825, S825, NN825, H825, G825⟩ := id B809
                      have hin825 : ¬ ((2 : Int32) < 0 ∨ cl825.slots.size ≤ ((2 : Int32)).toNatClampNeg) := inb_of S825 ⟨by decide, by decide⟩
                      have hat825 : cl825.slots[((2 : Int32)).toNatClampNeg]? = some (.int (nar .boolean z246)) := H825.at hin825 rfl
                      refine own_via (fun k => X819.baloadBooleans hx (j := (2 : Int32)) (v := (.int (nar .boolean z246))) (by rw [e819]; exact Ar825.1) (State.isArrayOf_alike hZ.alike Ar825.2.1) Ar825.2.2 hin825 hat825 (g := (mkF m 353 #[iv p0, iv p1, iv p2, rv b1, jv 0, .second, jv 1, .second, jv 2, .second, rv b66, rv b123, rv b191, iv 3, iv 1, iv 0, iv 2, iv 2, iv 0, iv z777, iv z794, iv z811] [(.int 2), (.ref b191), (.int z811)])) rfl rfl (hb hby at_353) _ k) ?_
                      show own_Go p e below s _ _ (T819.setTop (mkF m 354 #[iv p0, iv p1, iv p2, rv b1, jv 0, .second, jv 1, .second, jv 2, .second, rv b66, rv b123, rv b191, iv 3, iv 1, iv 0, iv 2, iv 2, iv 0, iv z777, iv z794, iv z811] [(.int (nar .boolean z246)), (.int z811)]))
                      by_cases hc826 : (nar .boolean z246) = (0 : Int32)
                      · refine own_via (fun k => XS.ifYes X819.here hx rfl (pc0 := 354) (pc' := 361) rfl (hb hby at_354) rfl ((if0 _ _).trans (teq hc826).1) (by decide) (by decide) k) ?_
                        show own_Go p e below s _ _ (T819.setTop (mkF m 361 #[iv p0, iv p1, iv p2, rv b1, jv 0, .second, jv 1, .second, jv 2, .second, rv b66, rv b123, rv b191, iv 3, iv 1, iv 0, iv 2, iv 2, iv 0, iv z777, iv z794, iv z811] [(.int z811)]))
                        refine own_via (fun k => XS.iconst X819.here hx rfl (hb hby at_361) k) ?_
                        show own_Go p e below s _ _ (T819.setTop (mkF m 362 #[iv p0, iv p1, iv p2, rv b1, jv 0, .second, jv 1, .second, jv 2, .second, rv b66, rv b123, rv b191, iv 3, iv 1, iv 0, iv 2, iv 2, iv 0, iv z777, iv z794, iv z811] [(.int 0), (.int z811)]))
                        exact J823 _ _ X819 N819 e819 (0 : Int32) (((if_neg hc824).trans ((if_pos hc826).trans rfl))).symm
                      · refine own_via (fun k => XS.ifNo X819.here hx rfl (hb hby at_354) rfl ((if0 _ _).trans (feq hc826).1) k) ?_
                        show own_Go p e below s _ _ (T819.setTop (mkF m 357 #[iv p0, iv p1, iv p2, rv b1, jv 0, .second, jv 1, .second, jv 2, .second, rv b66, rv b123, rv b191, iv 3, iv 1, iv 0, iv 2, iv 2, iv 0, iv z777, iv z794, iv z811] [(.int z811)]))
                        refine own_via (fun k => XS.iconst X819.here hx rfl (hb hby at_357) (XS.goto X819.here hx rfl (pc0 := 358) (pc' := 362) rfl (hb hby at_358) (by decide) (by decide) k)) ?_
                        show own_Go p e below s _ _ (T819.setTop (mkF m 362 #[iv p0, iv p1, iv p2, rv b1, jv 0, .second, jv 1, .second, jv 2, .second, rv b66, rv b123, rv b191, iv 3, iv 1, iv 0, iv 2, iv 2, iv 0, iv z777, iv z794, iv z811] [(.int 1), (.int z811)]))
                        exact J823 _ _ X819 N819 e819 (1 : Int32) (((if_neg hc824).trans ((if_neg hc826).trans rfl))).symm
                  by_cases hc827 : (nar .boolean z157) = (0 : Int32)
                  · refine own_via (fun k => XS.ifYes X815.here hx rfl (pc0 := 323) (pc' := 337) rfl (hb hby at_323) rfl ((if0 _ _).trans (teq hc827).1) (by decide) (by decide) k) ?_
                    show own_Go p e below s _ _ (T815.setTop (mkF m 337 #[iv p0, iv p1, iv p2, rv b1, jv 0, .second, jv 1, .second, jv 2, .second, rv b66, rv b123, rv b191, iv 3, iv 1, iv 0, iv 2, iv 2, iv 0, iv z777, iv z794, iv z811] [(.int z794)]))
                    refine own_via (fun k => XS.iconst X815.here hx rfl (hb hby at_337) k) ?_
                    show own_Go p e below s _ _ (T815.setTop (mkF m 338 #[iv p0, iv p1, iv p2, rv b1, jv 0, .second, jv 1, .second, jv 2, .second, rv b66, rv b123, rv b191, iv 3, iv 1, iv 0, iv 2, iv 2, iv 0, iv z777, iv z794, iv z811] [(.int 0), (.int z794)]))
                    exact J819 _ _ X815 N815 e815 (0 : Int32) (((if_pos hc827).trans rfl)).symm
                  · refine own_via (fun k => XS.ifNo X815.here hx rfl (hb hby at_323) rfl ((if0 _ _).trans (feq hc827).1) k) ?_
                    show own_Go p e below s _ _ (T815.setTop (mkF m 326 #[iv p0, iv p1, iv p2, rv b1, jv 0, .second, jv 1, .second, jv 2, .second, rv b66, rv b123, rv b191, iv 3, iv 1, iv 0, iv 2, iv 2, iv 0, iv z777, iv z794, iv z811] [(.int z794)]))
                    refine own_via (fun k => XS.aload X815.here hx rfl (hb hby at_326) rfl rfl  (XS.iconst X815.here hx rfl (hb hby at_328) k)) ?_
                    show own_Go p e below s _ _ (T815.setTop (mkF m 329 #[iv p0, iv p1, iv p2, rv b1, jv 0, .second, jv 1, .second, jv 2, .second, rv b66, rv b123, rv b191, iv 3, iv 1, iv 0, iv 2, iv 2, iv 0, iv z777, iv z794, iv z811] [(.int 1), (.ref b191), (.int z794)]))
                    obtain ⟨cl828, Ar828, q828, S828, NN828, H828, G828⟩ := id B809
                    have hin828 : ¬ ((1 : Int32) < 0 ∨ cl828.slots.size ≤ ((1 : Int32)).toNatClampNeg) := inb_of S828 ⟨by decide, by decide⟩
                    have hat828 : cl828.slots[((1 : Int32)).toNatClampNeg]? = some (.int (nar .boolean z228)) := H828.at hin828 rfl
                    refine own_via (fun k => X815.baloadBooleans hx (j := (1 : Int32)) (v := (.int (nar .boolean z228))) (by rw [e815]; exact Ar828.1) (State.isArrayOf_alike hZ.alike Ar828.2.1) Ar828.2.2 hin828 hat828 (g := (mkF m 329 #[iv p0, iv p1, iv p2, rv b1, jv 0, .second, jv 1, .second, jv 2, .second, rv b66, rv b123, rv b191, iv 3, iv 1, iv 0, iv 2, iv 2, iv 0, iv z777, iv z794, iv z811] [(.int 1), (.ref b191), (.int z794)])) rfl rfl (hb hby at_329) _ k) ?_
                    show own_Go p e below s _ _ (T815.setTop (mkF m 330 #[iv p0, iv p1, iv p2, rv b1, jv 0, .second, jv 1, .second, jv 2, .second, rv b66, rv b123, rv b191, iv 3, iv 1, iv 0, iv 2, iv 2, iv 0, iv z777, iv z794, iv z811] [(.int (nar .boolean z228)), (.int z794)]))
                    by_cases hc829 : (nar .boolean z228) = (0 : Int32)
                    · refine own_via (fun k => XS.ifYes X815.here hx rfl (pc0 := 330) (pc' := 337) rfl (hb hby at_330) rfl ((if0 _ _).trans (teq hc829).1) (by decide) (by decide) k) ?_
                      show own_Go p e below s _ _ (T815.setTop (mkF m 337 #[iv p0, iv p1, iv p2, rv b1, jv 0, .second, jv 1, .second, jv 2, .second, rv b66, rv b123, rv b191, iv 3, iv 1, iv 0, iv 2, iv 2, iv 0, iv z777, iv z794, iv z811] [(.int z794)]))
                      refine own_via (fun k => XS.iconst X815.here hx rfl (hb hby at_337) k) ?_
                      show own_Go p e below s _ _ (T815.setTop (mkF m 338 #[iv p0, iv p1, iv p2, rv b1, jv 0, .second, jv 1, .second, jv 2, .second, rv b66, rv b123, rv b191, iv 3, iv 1, iv 0, iv 2, iv 2, iv 0, iv z777, iv z794, iv z811] [(.int 0), (.int z794)]))
                      exact J819 _ _ X815 N815 e815 (0 : Int32) (((if_neg hc827).trans ((if_pos hc829).trans rfl))).symm
                    · refine own_via (fun k => XS.ifNo X815.here hx rfl (hb hby at_330) rfl ((if0 _ _).trans (feq hc829).1) k) ?_
                      show own_Go p e below s _ _ (T815.setTop (mkF m 333 #[iv p0, iv p1, iv p2, rv b1, jv 0, .second, jv 1, .second, jv 2, .second, rv b66, rv b123, rv b191, iv 3, iv 1, iv 0, iv 2, iv 2, iv 0, iv z777, iv z794, iv z811] [(.int z794)]))
                      refine own_via (fun k => XS.iconst X815.here hx rfl (hb hby at_333) (XS.goto X815.here hx rfl (pc0 := 334) (pc' := 338) rfl (hb hby at_334) (by decide) (by decide) k)) ?_
                      show own_Go p e below s _ _ (T815.setTop (mkF m 338 #[iv p0, iv p1, iv p2, rv b1, jv 0, .second, jv 1, .second, jv 2, .second, rv b66, rv b123, rv b191, iv 3, iv 1, iv 0, iv 2, iv 2, iv 0, iv z777, iv z794, iv z811] [(.int 1), (.int z794)]))
                      exact J819 _ _ X815 N815 e815 (1 : Int32) (((if_neg hc827).trans ((if_neg hc829).trans rfl))).symm
                by_cases hc830 : (nar .boolean z140) = (0 : Int32)
                · refine own_via (fun k => XS.ifYes X795.here hx rfl (pc0 := 299) (pc' := 313) rfl (hb hby at_299) rfl ((if0 _ _).trans (teq hc830).1) (by decide) (by decide) k) ?_
                  show own_Go p e below s _ _ (T795.setTop (mkF m 313 #[iv p0, iv p1, iv p2, rv b1, jv 0, .second, jv 1, .second, jv 2, .second, rv b66, rv b123, rv b191, iv 3, iv 1, iv 0, iv 2, iv 2, iv 0, iv z777, iv z794, iv z811] [(.int z777)]))
                  refine own_via (fun k => XS.iconst X795.here hx rfl (hb hby at_313) k) ?_
                  show own_Go p e below s _ _ (T795.setTop (mkF m 314 #[iv p0, iv p1, iv p2, rv b1, jv 0, .second, jv 1, .second, jv 2, .second, rv b66, rv b123, rv b191, iv 3, iv 1, iv 0, iv 2, iv 2, iv 0, iv z777, iv z794, iv z811] [(.int 0), (.int z777)]))
                  exact J815 _ _ X795 N805 rfl (0 : Int32) (((if_pos hc830).trans rfl)).symm
                · refine own_via (fun k => XS.ifNo X795.here hx rfl (hb hby at_299) rfl ((if0 _ _).trans (feq hc830).1) k) ?_
                  show own_Go p e below s _ _ (T795.setTop (mkF m 302 #[iv p0, iv p1, iv p2, rv b1, jv 0, .second, jv 1, .second, jv 2, .second, rv b66, rv b123, rv b191, iv 3, iv 1, iv 0, iv 2, iv 2, iv 0, iv z777, iv z794, iv z811] [(.int z777)]))
                  refine own_via (fun k => XS.aload X795.here hx rfl (hb hby at_302) rfl rfl  (XS.iconst X795.here hx rfl (hb hby at_304) k)) ?_
                  show own_Go p e below s _ _ (T795.setTop (mkF m 305 #[iv p0, iv p1, iv p2, rv b1, jv 0, .second, jv 1, .second, jv 2, .second, rv b66, rv b123, rv b191, iv 3, iv 1, iv 0, iv 2, iv 2, iv 0, iv z777, iv z794, iv z811] [(.int 0), (.ref b191), (.int z777)]))
                  obtain ⟨cl831, Ar831, q831, S831, NN831, H831, G831⟩ := id B809
                  have hin831 : ¬ ((0 : Int32) < 0 ∨ cl831.slots.size ≤ ((0 : Int32)).toNatClampNeg) := inb_of S831 ⟨by decide, by decide⟩
                  have hat831 : cl831.slots[((0 : Int32)).toNatClampNeg]? = some (.int (nar .boolean z210)) := H831.at hin831 rfl
                  refine own_via (fun k => X795.baloadBooleans hx (j := (0 : Int32)) (v := (.int (nar .boolean z210))) Ar831.1 (State.isArrayOf_alike hZ.alike Ar831.2.1) Ar831.2.2 hin831 hat831 (g := (mkF m 305 #[iv p0, iv p1, iv p2, rv b1, jv 0, .second, jv 1, .second, jv 2, .second, rv b66, rv b123, rv b191, iv 3, iv 1, iv 0, iv 2, iv 2, iv 0, iv z777, iv z794, iv z811] [(.int 0), (.ref b191), (.int z777)])) rfl rfl (hb hby at_305) _ k) ?_
                  show own_Go p e below s _ _ (T795.setTop (mkF m 306 #[iv p0, iv p1, iv p2, rv b1, jv 0, .second, jv 1, .second, jv 2, .second, rv b66, rv b123, rv b191, iv 3, iv 1, iv 0, iv 2, iv 2, iv 0, iv z777, iv z794, iv z811] [(.int (nar .boolean z210)), (.int z777)]))
                  by_cases hc832 : (nar .boolean z210) = (0 : Int32)
                  · refine own_via (fun k => XS.ifYes X795.here hx rfl (pc0 := 306) (pc' := 313) rfl (hb hby at_306) rfl ((if0 _ _).trans (teq hc832).1) (by decide) (by decide) k) ?_
                    show own_Go p e below s _ _ (T795.setTop (mkF m 313 #[iv p0, iv p1, iv p2, rv b1, jv 0, .second, jv 1, .second, jv 2, .second, rv b66, rv b123, rv b191, iv 3, iv 1, iv 0, iv 2, iv 2, iv 0, iv z777, iv z794, iv z811] [(.int z777)]))
                    refine own_via (fun k => XS.iconst X795.here hx rfl (hb hby at_313) k) ?_
                    show own_Go p e below s _ _ (T795.setTop (mkF m 314 #[iv p0, iv p1, iv p2, rv b1, jv 0, .second, jv 1, .second, jv 2, .second, rv b66, rv b123, rv b191, iv 3, iv 1, iv 0, iv 2, iv 2, iv 0, iv z777, iv z794, iv z811] [(.int 0), (.int z777)]))
                    exact J815 _ _ X795 N805 rfl (0 : Int32) (((if_neg hc830).trans ((if_pos hc832).trans rfl))).symm
                  · refine own_via (fun k => XS.ifNo X795.here hx rfl (hb hby at_306) rfl ((if0 _ _).trans (feq hc832).1) k) ?_
                    show own_Go p e below s _ _ (T795.setTop (mkF m 309 #[iv p0, iv p1, iv p2, rv b1, jv 0, .second, jv 1, .second, jv 2, .second, rv b66, rv b123, rv b191, iv 3, iv 1, iv 0, iv 2, iv 2, iv 0, iv z777, iv z794, iv z811] [(.int z777)]))
                    refine own_via (fun k => XS.iconst X795.here hx rfl (hb hby at_309) (XS.goto X795.here hx rfl (pc0 := 310) (pc' := 314) rfl (hb hby at_310) (by decide) (by decide) k)) ?_
                    show own_Go p e below s _ _ (T795.setTop (mkF m 314 #[iv p0, iv p1, iv p2, rv b1, jv 0, .second, jv 1, .second, jv 2, .second, rv b66, rv b123, rv b191, iv 3, iv 1, iv 0, iv 2, iv 2, iv 0, iv z777, iv z794, iv z811] [(.int 1), (.int z777)]))
                    exact J815 _ _ X795 N805 rfl (1 : Int32) (((if_neg hc830).trans ((if_neg hc832).trans rfl))).symm
              · rw [hl264]
                show own_Go p e below s _ _ (T248.setTop (mkF m 149 #[iv p0, iv p1, iv p2, rv b1, jv 0, .second, jv 1, .second, jv 2, .second, rv b66, rv b123, rv b191, iv 4, .unset, .unset, .unset, .unset, .unset, .unset, .unset, .unset] []))
                refine own_via (fun k => XS.iload X248.here hx rfl (hb hby at_149) rfl  (XS.iconst X248.here hx rfl (hb hby at_151) (XS.idiv X248.here hx rfl (hb hby at_152) rfl (by decide) k))) ?_
                show own_Go p e below s _ _ (T248.setTop (mkF m 153 #[iv p0, iv p1, iv p2, rv b1, jv 0, .second, jv 1, .second, jv 2, .second, rv b66, rv b123, rv b191, iv 4, .unset, .unset, .unset, .unset, .unset, .unset, .unset, .unset] [(.int ((4 : Int32) / (2 : Int32)))]))
                rw [show ((4 : Int32) / (2 : Int32)) = (2 : Int32) from by decide]
                show own_Go p e below s _ _ (T248.setTop (mkF m 153 #[iv p0, iv p1, iv p2, rv b1, jv 0, .second, jv 1, .second, jv 2, .second, rv b66, rv b123, rv b191, iv 4, .unset, .unset, .unset, .unset, .unset, .unset, .unset, .unset] [(.int 2)]))
                refine own_via (fun k => XS.istore X248.here hx rfl (hb hby at_153) rfl (l' := #[iv p0, iv p1, iv p2, rv b1, jv 0, .second, jv 1, .second, jv 2, .second, rv b66, rv b123, rv b191, iv 4, iv 2, .unset, .unset, .unset, .unset, .unset, .unset, .unset]) rfl (XS.iload X248.here hx rfl (hb hby at_155) rfl  k)) ?_
                show own_Go p e below s _ _ (T248.setTop (mkF m 157 #[iv p0, iv p1, iv p2, rv b1, jv 0, .second, jv 1, .second, jv 2, .second, rv b66, rv b123, rv b191, iv 4, iv 2, .unset, .unset, .unset, .unset, .unset, .unset, .unset] [(.int 2)]))
                refine own_via (fun k => XS.ifYes X248.here hx rfl (pc0 := 157) (pc' := 164) rfl (hb hby at_157) rfl (by decide) (by decide) (by decide) k) ?_
                show own_Go p e below s _ _ (T248.setTop (mkF m 164 #[iv p0, iv p1, iv p2, rv b1, jv 0, .second, jv 1, .second, jv 2, .second, rv b66, rv b123, rv b191, iv 4, iv 2, .unset, .unset, .unset, .unset, .unset, .unset, .unset] []))
                refine own_via (fun k => XS.iconst X248.here hx rfl (hb hby at_164) (XS.istore X248.here hx rfl (hb hby at_165) rfl (l' := #[iv p0, iv p1, iv p2, rv b1, jv 0, .second, jv 1, .second, jv 2, .second, rv b66, rv b123, rv b191, iv 4, iv 2, iv 0, .unset, .unset, .unset, .unset, .unset, .unset]) rfl (XS.iload X248.here hx rfl (hb hby at_167) rfl  (XS.iconst X248.here hx rfl (hb hby at_169) k)))) ?_
                show own_Go p e below s _ _ (T248.setTop (mkF m 170 #[iv p0, iv p1, iv p2, rv b1, jv 0, .second, jv 1, .second, jv 2, .second, rv b66, rv b123, rv b191, iv 4, iv 2, iv 0, .unset, .unset, .unset, .unset, .unset, .unset] [(.int 2), (.int 2)]))
                refine own_via (fun k => XS.icmpNo X248.here hx rfl (hb hby at_170) rfl (by decide) k) ?_
                show own_Go p e below s _ _ (T248.setTop (mkF m 173 #[iv p0, iv p1, iv p2, rv b1, jv 0, .second, jv 1, .second, jv 2, .second, rv b66, rv b123, rv b191, iv 4, iv 2, iv 0, .unset, .unset, .unset, .unset, .unset, .unset] []))
                refine own_via (fun k => XS.iconst X248.here hx rfl (hb hby at_173) (XS.goto X248.here hx rfl (pc0 := 174) (pc' := 178) rfl (hb hby at_174) (by decide) (by decide) (XS.istore X248.here hx rfl (hb hby at_178) rfl (l' := #[iv p0, iv p1, iv p2, rv b1, jv 0, .second, jv 1, .second, jv 2, .second, rv b66, rv b123, rv b191, iv 4, iv 2, iv 0, iv 1, .unset, .unset, .unset, .unset, .unset]) rfl (XS.iload X248.here hx rfl (hb hby at_180) rfl  k)))) ?_
                show own_Go p e below s _ _ (T248.setTop (mkF m 182 #[iv p0, iv p1, iv p2, rv b1, jv 0, .second, jv 1, .second, jv 2, .second, rv b66, rv b123, rv b191, iv 4, iv 2, iv 0, iv 1, .unset, .unset, .unset, .unset, .unset] [(.int 4)]))
                refine own_via (fun k => XS.iconst X248.here hx rfl (hb hby at_182) (Jvm.RoadKit.iremM X248 hx rfl (hb hby at_183) rfl (by decide) k)) ?_
                show own_Go p e below s _ _ (T248.setTop (mkF m 184 #[iv p0, iv p1, iv p2, rv b1, jv 0, .second, jv 1, .second, jv 2, .second, rv b66, rv b123, rv b191, iv 4, iv 2, iv 0, iv 1, .unset, .unset, .unset, .unset, .unset] [(.int ((4 : Int32) % (2 : Int32)))]))
                rw [show ((4 : Int32) % (2 : Int32)) = (0 : Int32) from by decide]
                show own_Go p e below s _ _ (T248.setTop (mkF m 184 #[iv p0, iv p1, iv p2, rv b1, jv 0, .second, jv 1, .second, jv 2, .second, rv b66, rv b123, rv b191, iv 4, iv 2, iv 0, iv 1, .unset, .unset, .unset, .unset, .unset] [(.int 0)]))
                refine own_via (fun k => XS.ifNo X248.here hx rfl (hb hby at_184) rfl (by decide) k) ?_
                show own_Go p e below s _ _ (T248.setTop (mkF m 187 #[iv p0, iv p1, iv p2, rv b1, jv 0, .second, jv 1, .second, jv 2, .second, rv b66, rv b123, rv b191, iv 4, iv 2, iv 0, iv 1, .unset, .unset, .unset, .unset, .unset] []))
                refine own_via (fun k => XS.iload X248.here hx rfl (hb hby at_187) rfl  (XS.goto X248.here hx rfl (pc0 := 189) (pc' := 194) rfl (hb hby at_189) (by decide) (by decide) (XS.istore X248.here hx rfl (hb hby at_194) rfl (l' := #[iv p0, iv p1, iv p2, rv b1, jv 0, .second, jv 1, .second, jv 2, .second, rv b66, rv b123, rv b191, iv 4, iv 2, iv 0, iv 1, iv 0, .unset, .unset, .unset, .unset]) rfl (XS.iload X248.here hx rfl (hb hby at_196) rfl  k)))) ?_
                show own_Go p e below s _ _ (T248.setTop (mkF m 198 #[iv p0, iv p1, iv p2, rv b1, jv 0, .second, jv 1, .second, jv 2, .second, rv b66, rv b123, rv b191, iv 4, iv 2, iv 0, iv 1, iv 0, .unset, .unset, .unset, .unset] [(.int 4)]))
                refine own_via (fun k => XS.iconst X248.here hx rfl (hb hby at_198) (Jvm.RoadKit.iremM X248 hx rfl (hb hby at_199) rfl (by decide) k)) ?_
                show own_Go p e below s _ _ (T248.setTop (mkF m 200 #[iv p0, iv p1, iv p2, rv b1, jv 0, .second, jv 1, .second, jv 2, .second, rv b66, rv b123, rv b191, iv 4, iv 2, iv 0, iv 1, iv 0, .unset, .unset, .unset, .unset] [(.int ((4 : Int32) % (2 : Int32)))]))
                rw [show ((4 : Int32) % (2 : Int32)) = (0 : Int32) from by decide]
                show own_Go p e below s _ _ (T248.setTop (mkF m 200 #[iv p0, iv p1, iv p2, rv b1, jv 0, .second, jv 1, .second, jv 2, .second, rv b66, rv b123, rv b191, iv 4, iv 2, iv 0, iv 1, iv 0, .unset, .unset, .unset, .unset] [(.int 0)]))
                refine own_via (fun k => XS.ifNo X248.here hx rfl (hb hby at_200) rfl (by decide) k) ?_
                show own_Go p e below s _ _ (T248.setTop (mkF m 203 #[iv p0, iv p1, iv p2, rv b1, jv 0, .second, jv 1, .second, jv 2, .second, rv b66, rv b123, rv b191, iv 4, iv 2, iv 0, iv 1, iv 0, .unset, .unset, .unset, .unset] []))
                refine own_via (fun k => XS.iload X248.here hx rfl (hb hby at_203) rfl  (XS.goto X248.here hx rfl (pc0 := 205) (pc' := 210) rfl (hb hby at_205) (by decide) (by decide) (XS.istore X248.here hx rfl (hb hby at_210) rfl (l' := #[iv p0, iv p1, iv p2, rv b1, jv 0, .second, jv 1, .second, jv 2, .second, rv b66, rv b123, rv b191, iv 4, iv 2, iv 0, iv 1, iv 0, iv 1, .unset, .unset, .unset]) rfl (XS.aloadN X248.here hx rfl (hb hby at_212) rfl rfl  k)))) ?_
                show own_Go p e below s _ _ (T248.setTop (mkF m 213 #[iv p0, iv p1, iv p2, rv b1, jv 0, .second, jv 1, .second, jv 2, .second, rv b66, rv b123, rv b191, iv 4, iv 2, iv 0, iv 1, iv 0, iv 1, .unset, .unset, .unset] [(.ref b1)]))
                refine own_via (fun k => XS.aload X248.here hx rfl (hb hby at_213) rfl rfl  (XS.aload X248.here hx rfl (hb hby at_215) rfl rfl  (XS.aload X248.here hx rfl (hb hby at_217) rfl rfl  (XS.iload X248.here hx rfl (hb hby at_219) rfl  k)))) ?_
                show own_Go p e below s _ _ (T248.setTop (mkF m 221 #[iv p0, iv p1, iv p2, rv b1, jv 0, .second, jv 1, .second, jv 2, .second, rv b66, rv b123, rv b191, iv 4, iv 2, iv 0, iv 1, iv 0, iv 1, .unset, .unset, .unset] [(.int 2), (.ref b191), (.ref b123), (.ref b66), (.ref b1)]))
                obtain ⟨_, _, ⟨T833, L833, k833, n833⟩, -, X833, ⟨Lc833, hQ833, l833, y833, z833⟩, st833⟩ := Jvm.LawKit.callS X248 hx (y := (⟨"com/example/tree_to_rows/treetorows/query/OutcomesSetPinLaw", "step", "(Lcom/example/tree_to_rows/treetorows/query/Outcomes;[J[Z[ZI)V"⟩ : MethodName)) hown (mvT hZ (hw _ (List.mem_of_getElem? (i := 31) rfl))) (mvT hZ (hw _ (List.mem_of_getElem? (i := 32) rfl))) (mvT hZ (hw _ (List.mem_of_getElem? (i := 33) rfl))) (mvT hZ (hw _ (List.mem_of_getElem? (i := 34) rfl))) (by decide) (backOf (W := 0) (rm5_2 l Z aw hw [] b1 b66 b123 b191 (3 : Int32) (3 : Int32) (3 : Int64) (0 : Int64) (0 : Int32) (0 : Int64) (0 : Int32) (0 : Int64) k66 k123 k191 (nar .boolean z140) (nar .boolean z157) (nar .boolean z174) (nar .boolean z210) (nar .boolean z228) (nar .boolean z246) h248 n0 Z263 B250 B251 B252 B253 B254 B255 B256 B257 B258 B249 B259 B260 B261 g2 (Ne.symm ne68) (Ne.symm ne125) (Ne.symm ne193)) hZ (hw _ (List.mem_of_getElem? (i := 34) rfl)) (hw _ (List.mem_of_getElem? (i := 33) rfl)) (by decide) (by decide)) (g := (mkF m 221 #[iv p0, iv p1, iv p2, rv b1, jv 0, .second, jv 1, .second, jv 2, .second, rv b66, rv b123, rv b191, iv 4, iv 2, iv 0, iv 1, iv 0, iv 1, .unset, .unset, .unset] [(.int 2), (.ref b191), (.ref b123), (.ref b66), (.ref b1)])) rfl (by rw [hml]; rfl) (argsL := [(.ref b1), (.ref b66), (.ref b123), (.ref b191), (.int 2)]) (rest := []) (lenOf pd_2 rfl) rfl (by show 2 * 0 + _ ≤ _; exact Nat.le_of_eq rfl) (hb hby at_221) (fun _ _ => ⟨rfl, e248, (by decide : 5 + 0 ≤ _), (by decide : 27 + 0 ≤ _)⟩)
                dsimp only [Pt.U, Pt.locs, Pt.cells, Pt.slots] at X833 l833 y833 z833 st833 hQ833
                subst l833 y833 z833
                obtain ⟨rfl, N833q, K833, B834, B835, B836, B837, B838, B839, B840, B841, B842⟩ := hQ833
                have N843 := Fr.app N262 N833q
                have B844 := B249.keep K833
                have B845 := B259.keep K833 (ninS (Ne.symm ne68) nin0)
                have B846 := B260.keep K833 (ninS (Ne.symm ne125) nin0)
                have B847 := B261.keep K833 (ninS (Ne.symm ne193) nin0)
                have Z848 : n0 ≤ T833.heap.size := Nat.le_trans Z263 K833.1
                obtain ⟨z849, hz849⟩ : ∃ z : Int32, z = (own_f5_2w (3 : Int32) (nar .boolean z174)) := ⟨_, rfl⟩
                rw [← hz849] at B836
                obtain ⟨z850, hz850⟩ : ∃ z : Int64, z = (own_f5_2c (0 : Int64) (nar .boolean z174) (nar .boolean z246)) := ⟨_, rfl⟩
                rw [← hz850] at B838
                refine own_via (fun k => st833 _ k) ?_
                show own_Go p e below s _ _ (T833.setTop (mkF m 224 #[iv p0, iv p1, iv p2, rv b1, jv 0, .second, jv 1, .second, jv 2, .second, rv b66, rv b123, rv b191, iv 4, iv 2, iv 0, iv 1, iv 0, iv 1, .unset, .unset, .unset] []))
                refine own_via (fun k => XS.aloadN X833.here hx rfl (hb hby at_224) rfl rfl  (XS.aload X833.here hx rfl (hb hby at_225) rfl rfl  (XS.aload X833.here hx rfl (hb hby at_227) rfl rfl  (XS.aload X833.here hx rfl (hb hby at_229) rfl rfl  k)))) ?_
                show own_Go p e below s _ _ (T833.setTop (mkF m 231 #[iv p0, iv p1, iv p2, rv b1, jv 0, .second, jv 1, .second, jv 2, .second, rv b66, rv b123, rv b191, iv 4, iv 2, iv 0, iv 1, iv 0, iv 1, .unset, .unset, .unset] [(.ref b191), (.ref b123), (.ref b66), (.ref b1)]))
                refine own_via (fun k => XS.iload X833.here hx rfl (hb hby at_231) rfl  k) ?_
                show own_Go p e below s _ _ (T833.setTop (mkF m 233 #[iv p0, iv p1, iv p2, rv b1, jv 0, .second, jv 1, .second, jv 2, .second, rv b66, rv b123, rv b191, iv 4, iv 2, iv 0, iv 1, iv 0, iv 1, .unset, .unset, .unset] [(.int 0), (.ref b191), (.ref b123), (.ref b66), (.ref b1)]))
                obtain ⟨_, _, ⟨T851, L851, k851, n851⟩, -, X851, ⟨Lc851, hQ851, l851, y851, z851⟩, st851⟩ := Jvm.LawKit.callS X833 hx (y := (⟨"com/example/tree_to_rows/treetorows/query/OutcomesSetPinLaw", "step", "(Lcom/example/tree_to_rows/treetorows/query/Outcomes;[J[Z[ZI)V"⟩ : MethodName)) hown (mvT hZ (hw _ (List.mem_of_getElem? (i := 31) rfl))) (mvT hZ (hw _ (List.mem_of_getElem? (i := 32) rfl))) (mvT hZ (hw _ (List.mem_of_getElem? (i := 33) rfl))) (mvT hZ (hw _ (List.mem_of_getElem? (i := 34) rfl))) (by decide) (backOf (W := 0) (rm5_0 l Z aw hw [] b1 b66 b123 b191 (3 : Int32) z849 (3 : Int64) z850 (0 : Int32) (0 : Int64) (0 : Int32) (0 : Int64) k66 k123 k191 (nar .boolean z140) (nar .boolean z157) (nar .boolean z174) (nar .boolean z210) (nar .boolean z228) (nar .boolean z246) T833.heap n0 Z848 B834 B835 B836 B837 B838 B839 B840 B841 B842 B844 B845 B846 B847 g2 (Ne.symm ne68) (Ne.symm ne125) (Ne.symm ne193)) hZ (hw _ (List.mem_of_getElem? (i := 34) rfl)) (hw _ (List.mem_of_getElem? (i := 33) rfl)) (by decide) (by decide)) (g := (mkF m 233 #[iv p0, iv p1, iv p2, rv b1, jv 0, .second, jv 1, .second, jv 2, .second, rv b66, rv b123, rv b191, iv 4, iv 2, iv 0, iv 1, iv 0, iv 1, .unset, .unset, .unset] [(.int 0), (.ref b191), (.ref b123), (.ref b66), (.ref b1)])) rfl (by rw [hml]; rfl) (argsL := [(.ref b1), (.ref b66), (.ref b123), (.ref b191), (.int 0)]) (rest := []) (lenOf pd_2 rfl) rfl (by show 2 * 0 + _ ≤ _; exact Nat.le_of_eq rfl) (hb hby at_233) (fun _ _ => ⟨rfl, rfl, (by decide : 5 + 0 ≤ _), (by decide : 27 + 0 ≤ _)⟩)
                dsimp only [Pt.U, Pt.locs, Pt.cells, Pt.slots] at X851 l851 y851 z851 st851 hQ851
                subst l851 y851 z851
                obtain ⟨rfl, N851q, K851, B852, B853, B854, B855, B856, B857, B858, B859, B860⟩ := hQ851
                have N861 := Fr.app N843 N851q
                have B862 := B844.keep K851
                have B863 := B845.keep K851 (ninS (Ne.symm ne68) nin0)
                have B864 := B846.keep K851 (ninS (Ne.symm ne125) nin0)
                have B865 := B847.keep K851 (ninS (Ne.symm ne193) nin0)
                have Z866 : n0 ≤ T851.heap.size := Nat.le_trans Z848 K851.1
                obtain ⟨z867, hz867⟩ : ∃ z : Int32, z = (own_f5_0w z849 (nar .boolean z140)) := ⟨_, rfl⟩
                rw [← hz867] at B854
                obtain ⟨z868, hz868⟩ : ∃ z : Int64, z = (own_f5_0c z850 (nar .boolean z140) (nar .boolean z210)) := ⟨_, rfl⟩
                rw [← hz868] at B856
                refine own_via (fun k => st851 _ k) ?_
                show own_Go p e below s _ _ (T851.setTop (mkF m 236 #[iv p0, iv p1, iv p2, rv b1, jv 0, .second, jv 1, .second, jv 2, .second, rv b66, rv b123, rv b191, iv 4, iv 2, iv 0, iv 1, iv 0, iv 1, .unset, .unset, .unset] []))
                refine own_via (fun k => XS.aloadN X851.here hx rfl (hb hby at_236) rfl rfl  (XS.aload X851.here hx rfl (hb hby at_237) rfl rfl  (XS.aload X851.here hx rfl (hb hby at_239) rfl rfl  (XS.aload X851.here hx rfl (hb hby at_241) rfl rfl  k)))) ?_
                show own_Go p e below s _ _ (T851.setTop (mkF m 243 #[iv p0, iv p1, iv p2, rv b1, jv 0, .second, jv 1, .second, jv 2, .second, rv b66, rv b123, rv b191, iv 4, iv 2, iv 0, iv 1, iv 0, iv 1, .unset, .unset, .unset] [(.ref b191), (.ref b123), (.ref b66), (.ref b1)]))
                refine own_via (fun k => XS.iload X851.here hx rfl (hb hby at_243) rfl  k) ?_
                show own_Go p e below s _ _ (T851.setTop (mkF m 245 #[iv p0, iv p1, iv p2, rv b1, jv 0, .second, jv 1, .second, jv 2, .second, rv b66, rv b123, rv b191, iv 4, iv 2, iv 0, iv 1, iv 0, iv 1, .unset, .unset, .unset] [(.int 1), (.ref b191), (.ref b123), (.ref b66), (.ref b1)]))
                obtain ⟨_, _, ⟨T869, L869, k869, n869⟩, -, X869, ⟨Lc869, hQ869, l869, y869, z869⟩, st869⟩ := Jvm.LawKit.callS X851 hx (y := (⟨"com/example/tree_to_rows/treetorows/query/OutcomesSetPinLaw", "step", "(Lcom/example/tree_to_rows/treetorows/query/Outcomes;[J[Z[ZI)V"⟩ : MethodName)) hown (mvT hZ (hw _ (List.mem_of_getElem? (i := 31) rfl))) (mvT hZ (hw _ (List.mem_of_getElem? (i := 32) rfl))) (mvT hZ (hw _ (List.mem_of_getElem? (i := 33) rfl))) (mvT hZ (hw _ (List.mem_of_getElem? (i := 34) rfl))) (by decide) (backOf (W := 0) (rm5_1 l Z aw hw [] b1 b66 b123 b191 (3 : Int32) z867 (3 : Int64) z868 (0 : Int32) (0 : Int64) (0 : Int32) (0 : Int64) k66 k123 k191 (nar .boolean z140) (nar .boolean z157) (nar .boolean z174) (nar .boolean z210) (nar .boolean z228) (nar .boolean z246) T851.heap n0 Z866 B852 B853 B854 B855 B856 B857 B858 B859 B860 B862 B863 B864 B865 g2 (Ne.symm ne68) (Ne.symm ne125) (Ne.symm ne193)) hZ (hw _ (List.mem_of_getElem? (i := 34) rfl)) (hw _ (List.mem_of_getElem? (i := 33) rfl)) (by decide) (by decide)) (g := (mkF m 245 #[iv p0, iv p1, iv p2, rv b1, jv 0, .second, jv 1, .second, jv 2, .second, rv b66, rv b123, rv b191, iv 4, iv 2, iv 0, iv 1, iv 0, iv 1, .unset, .unset, .unset] [(.int 1), (.ref b191), (.ref b123), (.ref b66), (.ref b1)])) rfl (by rw [hml]; rfl) (argsL := [(.ref b1), (.ref b66), (.ref b123), (.ref b191), (.int 1)]) (rest := []) (lenOf pd_2 rfl) rfl (by show 2 * 0 + _ ≤ _; exact Nat.le_of_eq rfl) (hb hby at_245) (fun _ _ => ⟨rfl, rfl, (by decide : 5 + 0 ≤ _), (by decide : 27 + 0 ≤ _)⟩)
                dsimp only [Pt.U, Pt.locs, Pt.cells, Pt.slots] at X869 l869 y869 z869 st869 hQ869
                subst l869 y869 z869
                obtain ⟨rfl, N869q, K869, B870, B871, B872, B873, B874, B875, B876, B877, B878⟩ := hQ869
                have N879 := Fr.app N861 N869q
                have B880 := B862.keep K869
                have B881 := B863.keep K869 (ninS (Ne.symm ne68) nin0)
                have B882 := B864.keep K869 (ninS (Ne.symm ne125) nin0)
                have B883 := B865.keep K869 (ninS (Ne.symm ne193) nin0)
                have Z884 : n0 ≤ T869.heap.size := Nat.le_trans Z866 K869.1
                obtain ⟨z885, hz885⟩ : ∃ z : Int32, z = (own_f5_1w z867 (nar .boolean z157)) := ⟨_, rfl⟩
                rw [← hz885] at B872
                obtain ⟨z886, hz886⟩ : ∃ z : Int64, z = (own_f5_1c z868 (nar .boolean z157) (nar .boolean z228)) := ⟨_, rfl⟩
                rw [← hz886] at B874
                refine own_via (fun k => st869 _ k) ?_
                show own_Go p e below s _ _ (T869.setTop (mkF m 248 #[iv p0, iv p1, iv p2, rv b1, jv 0, .second, jv 1, .second, jv 2, .second, rv b66, rv b123, rv b191, iv 4, iv 2, iv 0, iv 1, iv 0, iv 1, .unset, .unset, .unset] []))
                refine own_via (fun k => XS.aloadN X869.here hx rfl (hb hby at_248) rfl rfl  k) ?_
                show own_Go p e below s _ _ (T869.setTop (mkF m 249 #[iv p0, iv p1, iv p2, rv b1, jv 0, .second, jv 1, .second, jv 2, .second, rv b66, rv b123, rv b191, iv 4, iv 2, iv 0, iv 1, iv 0, iv 1, .unset, .unset, .unset] [(.ref b1)]))
                obtain ⟨cq887, kq887, q887a, q887b, q887c⟩ := isOf hZ rfl B880
                obtain ⟨_, _, ⟨T887, L887, k887, n887⟩, -, X887, ⟨Lc887, hQ887, l887, y887, z887⟩, st887⟩ := X869.virtualBack hx (y := (⟨"com/example/tree_to_rows/treetorows/query/Outcomes", "rewind", "()V"⟩ : MethodName)) (z := (⟨"com/example/tree_to_rows/treetorows/query/Outcomes", "rewind", "()V"⟩ : MethodName)) hown (mvT hZ (hw _ (List.mem_of_getElem? (i := 43) rfl))) (mvT hZ (hw _ (List.mem_of_getElem? (i := 44) rfl))) (notFace_of_selects (args := #[]) (mvT hZ (hw _ (List.mem_of_getElem? (i := 46) rfl)))) (mvT hZ (hw _ (List.mem_of_getElem? (i := 46) rfl))) (mvT hZ (hw _ (List.mem_of_getElem? (i := 45) rfl))) (by decide) (backOf (W := 0) (rm7 l Z aw hw [] b1 (0 : Int32) (3 : Int32) z885 (3 : Int64) z886 T869.heap n0 Z884 B870 B871 B872 B873 B874 B875 B876 B877 B878 B880 g2) hZ (hw _ (List.mem_of_getElem? (i := 47) rfl)) (hw _ (List.mem_of_getElem? (i := 2) rfl)) (by decide) (by decide)) q887a q887c (g := (mkF m 249 #[iv p0, iv p1, iv p2, rv b1, jv 0, .second, jv 1, .second, jv 2, .second, rv b66, rv b123, rv b191, iv 4, iv 2, iv 0, iv 1, iv 0, iv 1, .unset, .unset, .unset] [(.ref b1)])) rfl (by rw [hml]; rfl) (Steps.refl _) (argsL := []) (rest := []) (lenOf pd_0 rfl) rfl (by show 2 * 0 + _ ≤ _; exact Nat.le_of_eq rfl) (hb hby at_249) (fun _ _ => ⟨rfl, rfl, (by decide : 5 + 0 ≤ _), (by decide : 27 + 0 ≤ _)⟩)
                dsimp only [Pt.U, Pt.locs, Pt.cells, Pt.slots] at X887 l887 y887 z887 st887 hQ887
                subst l887 y887 z887
                obtain ⟨rfl, N887q, K887, B888, B889, B890, B891, B892, B893, B894, B895, B896⟩ := hQ887
                have N897 := Fr.app N879 N887q
                have B898 := B880.keep K887
                have B899 := B881.keep K887 (ninS (Ne.symm ne68) nin0)
                have B900 := B882.keep K887 (ninS (Ne.symm ne125) nin0)
                have B901 := B883.keep K887 (ninS (Ne.symm ne193) nin0)
                have Z902 : n0 ≤ T887.heap.size := Nat.le_trans Z884 K887.1
                refine own_via (fun k => st887.trans k) ?_
                show own_Go p e below s _ _ (T887.setTop (mkF m 252 #[iv p0, iv p1, iv p2, rv b1, jv 0, .second, jv 1, .second, jv 2, .second, rv b66, rv b123, rv b191, iv 4, iv 2, iv 0, iv 1, iv 0, iv 1, .unset, .unset, .unset] []))
                refine own_via (fun k => XS.aloadN X887.here hx rfl (hb hby at_252) rfl rfl  k) ?_
                show own_Go p e below s _ _ (T887.setTop (mkF m 253 #[iv p0, iv p1, iv p2, rv b1, jv 0, .second, jv 1, .second, jv 2, .second, rv b66, rv b123, rv b191, iv 4, iv 2, iv 0, iv 1, iv 0, iv 1, .unset, .unset, .unset] [(.ref b1)]))
                obtain ⟨cq903, kq903, q903a, q903b, q903c⟩ := isOf hZ rfl B898
                obtain ⟨_, _, ⟨T903, L903, k903, n903⟩, -, X903, ⟨Lc903, hQ903, l903, y903, z903⟩, st903⟩ := X887.virtualBack hx (y := (⟨"com/example/tree_to_rows/treetorows/query/Outcomes", "next", "()Z"⟩ : MethodName)) (z := (⟨"com/example/tree_to_rows/treetorows/query/Outcomes", "next", "()Z"⟩ : MethodName)) hown (mvT hZ (hw _ (List.mem_of_getElem? (i := 56) rfl))) (mvT hZ (hw _ (List.mem_of_getElem? (i := 57) rfl))) (notFace_of_selects (args := #[]) (mvT hZ (hw _ (List.mem_of_getElem? (i := 59) rfl)))) (mvT hZ (hw _ (List.mem_of_getElem? (i := 59) rfl))) (mvT hZ (hw _ (List.mem_of_getElem? (i := 58) rfl))) (by decide) (backOf (W := 0) (rm8_0 l Z aw hw [] b1 (3 : Int32) z885 z886 (0 : Int64) T887.heap n0 Z902 B888 B889 B890 B891 B892 B893 B894 B895 B896 B898 g2) hZ (hw _ (List.mem_of_getElem? (i := 60) rfl)) (hw _ (List.mem_of_getElem? (i := 2) rfl)) (by decide) (by decide)) q903a q903c (g := (mkF m 253 #[iv p0, iv p1, iv p2, rv b1, jv 0, .second, jv 1, .second, jv 2, .second, rv b66, rv b123, rv b191, iv 4, iv 2, iv 0, iv 1, iv 0, iv 1, .unset, .unset, .unset] [(.ref b1)])) rfl (by rw [hml]; rfl) (Steps.refl _) (argsL := []) (rest := []) (lenOf pd_4 rfl) rfl (by show 2 * 0 + _ ≤ _; exact Nat.le_of_eq rfl) (hb hby at_253) (fun _ _ => ⟨rfl, rfl, (by decide : 5 + 0 ≤ _), (by decide : 27 + 0 ≤ _)⟩)
                dsimp only [Pt.U, Pt.locs, Pt.cells, Pt.slots] at X903 l903 y903 z903 st903 hQ903
                subst l903 y903 z903
                obtain ⟨rfl, N903q, K903, B904, B905, B906, B907, B908, B909, B910, B911, B912⟩ := hQ903
                have N913 := Fr.app N897 N903q
                have B914 := B898.keep K903
                have B915 := B899.keep K903 (ninS (Ne.symm ne68) nin0)
                have B916 := B900.keep K903 (ninS (Ne.symm ne125) nin0)
                have B917 := B901.keep K903 (ninS (Ne.symm ne193) nin0)
                have Z918 : n0 ≤ T903.heap.size := Nat.le_trans Z902 K903.1
                refine own_via (fun k => st903.trans k) ?_
                show own_Go p e below s _ _ (T903.setTop (mkF m 256 #[iv p0, iv p1, iv p2, rv b1, jv 0, .second, jv 1, .second, jv 2, .second, rv b66, rv b123, rv b191, iv 4, iv 2, iv 0, iv 1, iv 0, iv 1, .unset, .unset, .unset] [(.int (own_f8_0 z886))]))
                obtain ⟨z919, hz919⟩ : ∃ z : Int32, z = (own_f8_0 z886) := ⟨_, rfl⟩
                rw [← hz919]
                show own_Go p e below s _ _ (T903.setTop (mkF m 256 #[iv p0, iv p1, iv p2, rv b1, jv 0, .second, jv 1, .second, jv 2, .second, rv b66, rv b123, rv b191, iv 4, iv 2, iv 0, iv 1, iv 0, iv 1, .unset, .unset, .unset] [(.int z919)]))
                refine own_via (fun k => XS.istore X903.here hx rfl (hb hby at_256) rfl (l' := #[iv p0, iv p1, iv p2, rv b1, jv 0, .second, jv 1, .second, jv 2, .second, rv b66, rv b123, rv b191, iv 4, iv 2, iv 0, iv 1, iv 0, iv 1, iv z919, .unset, .unset]) rfl (XS.aloadN X903.here hx rfl (hb hby at_258) rfl rfl  k)) ?_
                show own_Go p e below s _ _ (T903.setTop (mkF m 259 #[iv p0, iv p1, iv p2, rv b1, jv 0, .second, jv 1, .second, jv 2, .second, rv b66, rv b123, rv b191, iv 4, iv 2, iv 0, iv 1, iv 0, iv 1, iv z919, .unset, .unset] [(.ref b1)]))
                obtain ⟨cq920, kq920, q920a, q920b, q920c⟩ := isOf hZ rfl B914
                obtain ⟨_, _, ⟨T920, L920, k920, n920⟩, -, X920, ⟨Lc920, hQ920, l920, y920, z920⟩, st920⟩ := X903.virtualBack hx (y := (⟨"com/example/tree_to_rows/treetorows/query/Outcomes", "next", "()Z"⟩ : MethodName)) (z := (⟨"com/example/tree_to_rows/treetorows/query/Outcomes", "next", "()Z"⟩ : MethodName)) hown (mvT hZ (hw _ (List.mem_of_getElem? (i := 56) rfl))) (mvT hZ (hw _ (List.mem_of_getElem? (i := 57) rfl))) (notFace_of_selects (args := #[]) (mvT hZ (hw _ (List.mem_of_getElem? (i := 59) rfl)))) (mvT hZ (hw _ (List.mem_of_getElem? (i := 59) rfl))) (mvT hZ (hw _ (List.mem_of_getElem? (i := 58) rfl))) (by decide) (backOf (W := 0) (rm8_1 l Z aw hw [] b1 (3 : Int32) z885 z886 (0 : Int64) T903.heap n0 Z918 B904 B905 B906 B907 B908 B909 B910 B911 B912 B914 g2) hZ (hw _ (List.mem_of_getElem? (i := 60) rfl)) (hw _ (List.mem_of_getElem? (i := 2) rfl)) (by decide) (by decide)) q920a q920c (g := (mkF m 259 #[iv p0, iv p1, iv p2, rv b1, jv 0, .second, jv 1, .second, jv 2, .second, rv b66, rv b123, rv b191, iv 4, iv 2, iv 0, iv 1, iv 0, iv 1, iv z919, .unset, .unset] [(.ref b1)])) rfl (by rw [hml]; rfl) (Steps.refl _) (argsL := []) (rest := []) (lenOf pd_4 rfl) rfl (by show 2 * 0 + _ ≤ _; exact Nat.le_of_eq rfl) (hb hby at_259) (fun _ _ => ⟨rfl, rfl, (by decide : 5 + 0 ≤ _), (by decide : 27 + 0 ≤ _)⟩)
                dsimp only [Pt.U, Pt.locs, Pt.cells, Pt.slots] at X920 l920 y920 z920 st920 hQ920
                subst l920 y920 z920
                obtain ⟨rfl, N920q, K920, B921, B922, B923, B924, B925, B926, B927, B928, B929⟩ := hQ920
                have N930 := Fr.app N913 N920q
                have B931 := B914.keep K920
                have B932 := B915.keep K920 (ninS (Ne.symm ne68) nin0)
                have B933 := B916.keep K920 (ninS (Ne.symm ne125) nin0)
                have B934 := B917.keep K920 (ninS (Ne.symm ne193) nin0)
                have Z935 : n0 ≤ T920.heap.size := Nat.le_trans Z918 K920.1
                refine own_via (fun k => st920.trans k) ?_
                show own_Go p e below s _ _ (T920.setTop (mkF m 262 #[iv p0, iv p1, iv p2, rv b1, jv 0, .second, jv 1, .second, jv 2, .second, rv b66, rv b123, rv b191, iv 4, iv 2, iv 0, iv 1, iv 0, iv 1, iv z919, .unset, .unset] [(.int (own_f8_1 z886))]))
                obtain ⟨z936, hz936⟩ : ∃ z : Int32, z = (own_f8_1 z886) := ⟨_, rfl⟩
                rw [← hz936]
                show own_Go p e below s _ _ (T920.setTop (mkF m 262 #[iv p0, iv p1, iv p2, rv b1, jv 0, .second, jv 1, .second, jv 2, .second, rv b66, rv b123, rv b191, iv 4, iv 2, iv 0, iv 1, iv 0, iv 1, iv z919, .unset, .unset] [(.int z936)]))
                refine own_via (fun k => XS.istore X920.here hx rfl (hb hby at_262) rfl (l' := #[iv p0, iv p1, iv p2, rv b1, jv 0, .second, jv 1, .second, jv 2, .second, rv b66, rv b123, rv b191, iv 4, iv 2, iv 0, iv 1, iv 0, iv 1, iv z919, iv z936, .unset]) rfl (XS.aloadN X920.here hx rfl (hb hby at_264) rfl rfl  k)) ?_
                show own_Go p e below s _ _ (T920.setTop (mkF m 265 #[iv p0, iv p1, iv p2, rv b1, jv 0, .second, jv 1, .second, jv 2, .second, rv b66, rv b123, rv b191, iv 4, iv 2, iv 0, iv 1, iv 0, iv 1, iv z919, iv z936, .unset] [(.ref b1)]))
                obtain ⟨cq937, kq937, q937a, q937b, q937c⟩ := isOf hZ rfl B931
                obtain ⟨_, _, ⟨T937, L937, k937, n937⟩, -, X937, ⟨Lc937, hQ937, l937, y937, z937⟩, st937⟩ := X920.virtualBack hx (y := (⟨"com/example/tree_to_rows/treetorows/query/Outcomes", "next", "()Z"⟩ : MethodName)) (z := (⟨"com/example/tree_to_rows/treetorows/query/Outcomes", "next", "()Z"⟩ : MethodName)) hown (mvT hZ (hw _ (List.mem_of_getElem? (i := 56) rfl))) (mvT hZ (hw _ (List.mem_of_getElem? (i := 57) rfl))) (notFace_of_selects (args := #[]) (mvT hZ (hw _ (List.mem_of_getElem? (i := 59) rfl)))) (mvT hZ (hw _ (List.mem_of_getElem? (i := 59) rfl))) (mvT hZ (hw _ (List.mem_of_getElem? (i := 58) rfl))) (by decide) (backOf (W := 0) (rm8_2 l Z aw hw [] b1 (3 : Int32) z885 z886 (0 : Int64) T920.heap n0 Z935 B921 B922 B923 B924 B925 B926 B927 B928 B929 B931 g2) hZ (hw _ (List.mem_of_getElem? (i := 60) rfl)) (hw _ (List.mem_of_getElem? (i := 2) rfl)) (by decide) (by decide)) q937a q937c (g := (mkF m 265 #[iv p0, iv p1, iv p2, rv b1, jv 0, .second, jv 1, .second, jv 2, .second, rv b66, rv b123, rv b191, iv 4, iv 2, iv 0, iv 1, iv 0, iv 1, iv z919, iv z936, .unset] [(.ref b1)])) rfl (by rw [hml]; rfl) (Steps.refl _) (argsL := []) (rest := []) (lenOf pd_4 rfl) rfl (by show 2 * 0 + _ ≤ _; exact Nat.le_of_eq rfl) (hb hby at_265) (fun _ _ => ⟨rfl, rfl, (by decide : 5 + 0 ≤ _), (by decide : 27 + 0 ≤ _)⟩)
                dsimp only [Pt.U, Pt.locs, Pt.cells, Pt.slots] at X937 l937 y937 z937 st937 hQ937
                subst l937 y937 z937
                obtain ⟨rfl, N937q, K937, B938, B939, B940, B941, B942, B943, B944, B945, B946⟩ := hQ937
                have N947 := Fr.app N930 N937q
                have B948 := B931.keep K937
                have B949 := B932.keep K937 (ninS (Ne.symm ne68) nin0)
                have B950 := B933.keep K937 (ninS (Ne.symm ne125) nin0)
                have B951 := B934.keep K937 (ninS (Ne.symm ne193) nin0)
                have Z952 : n0 ≤ T937.heap.size := Nat.le_trans Z935 K937.1
                refine own_via (fun k => st937.trans k) ?_
                show own_Go p e below s _ _ (T937.setTop (mkF m 268 #[iv p0, iv p1, iv p2, rv b1, jv 0, .second, jv 1, .second, jv 2, .second, rv b66, rv b123, rv b191, iv 4, iv 2, iv 0, iv 1, iv 0, iv 1, iv z919, iv z936, .unset] [(.int (own_f8_2 z886))]))
                obtain ⟨z953, hz953⟩ : ∃ z : Int32, z = (own_f8_2 z886) := ⟨_, rfl⟩
                rw [← hz953]
                show own_Go p e below s _ _ (T937.setTop (mkF m 268 #[iv p0, iv p1, iv p2, rv b1, jv 0, .second, jv 1, .second, jv 2, .second, rv b66, rv b123, rv b191, iv 4, iv 2, iv 0, iv 1, iv 0, iv 1, iv z919, iv z936, .unset] [(.int z953)]))
                refine own_via (fun k => XS.istore X937.here hx rfl (hb hby at_268) rfl (l' := #[iv p0, iv p1, iv p2, rv b1, jv 0, .second, jv 1, .second, jv 2, .second, rv b66, rv b123, rv b191, iv 4, iv 2, iv 0, iv 1, iv 0, iv 1, iv z919, iv z936, iv z953]) rfl (XS.lload X937.here hx rfl (hb hby at_270) rfl  (XS.lconst X937.here hx rfl (hb hby at_272) (XS.lcmp X937.here hx rfl (hb hby at_273) rfl k)))) ?_
                show own_Go p e below s _ _ (T937.setTop (mkF m 274 #[iv p0, iv p1, iv p2, rv b1, jv 0, .second, jv 1, .second, jv 2, .second, rv b66, rv b123, rv b191, iv 4, iv 2, iv 0, iv 1, iv 0, iv 1, iv z919, iv z936, iv z953] [(.int (lcmpW (0 : Int64) (0 : Int64)))]))
                refine own_via (fun k => XS.ifNo X937.here hx rfl (hb hby at_274) rfl (by decide) k) ?_
                show own_Go p e below s _ _ (T937.setTop (mkF m 277 #[iv p0, iv p1, iv p2, rv b1, jv 0, .second, jv 1, .second, jv 2, .second, rv b66, rv b123, rv b191, iv 4, iv 2, iv 0, iv 1, iv 0, iv 1, iv z919, iv z936, iv z953] []))
                refine own_via (fun k => XS.lload X937.here hx rfl (hb hby at_277) rfl  (XS.lconst X937.here hx rfl (hb hby at_279) (XS.lcmp X937.here hx rfl (hb hby at_280) rfl k))) ?_
                show own_Go p e below s _ _ (T937.setTop (mkF m 281 #[iv p0, iv p1, iv p2, rv b1, jv 0, .second, jv 1, .second, jv 2, .second, rv b66, rv b123, rv b191, iv 4, iv 2, iv 0, iv 1, iv 0, iv 1, iv z919, iv z936, iv z953] [(.int (lcmpW (1 : Int64) (1 : Int64)))]))
                refine own_via (fun k => XS.ifNo X937.here hx rfl (hb hby at_281) rfl (by decide) k) ?_
                show own_Go p e below s _ _ (T937.setTop (mkF m 284 #[iv p0, iv p1, iv p2, rv b1, jv 0, .second, jv 1, .second, jv 2, .second, rv b66, rv b123, rv b191, iv 4, iv 2, iv 0, iv 1, iv 0, iv 1, iv z919, iv z936, iv z953] []))
                refine own_via (fun k => XS.lload X937.here hx rfl (hb hby at_284) rfl  (X937.ldc2Long hx hown (mvT hZ (hw _ (List.mem_of_getElem? (i := 62) rfl))) (g := (mkF m 286 #[iv p0, iv p1, iv p2, rv b1, jv 0, .second, jv 1, .second, jv 2, .second, rv b66, rv b123, rv b191, iv 4, iv 2, iv 0, iv 1, iv 0, iv 1, iv z919, iv z936, iv z953] [(.long 2)])) rfl (hb hby at_286) _ (XS.lcmp X937.here hx rfl (hb hby at_289) rfl k))) ?_
                show own_Go p e below s _ _ (T937.setTop (mkF m 290 #[iv p0, iv p1, iv p2, rv b1, jv 0, .second, jv 1, .second, jv 2, .second, rv b66, rv b123, rv b191, iv 4, iv 2, iv 0, iv 1, iv 0, iv 1, iv z919, iv z936, iv z953] [(.int (lcmpW (2 : Int64) (2 : Int64)))]))
                refine own_via (fun k => XS.ifNo X937.here hx rfl (hb hby at_290) rfl (by decide) k) ?_
                show own_Go p e below s _ _ (T937.setTop (mkF m 293 #[iv p0, iv p1, iv p2, rv b1, jv 0, .second, jv 1, .second, jv 2, .second, rv b66, rv b123, rv b191, iv 4, iv 2, iv 0, iv 1, iv 0, iv 1, iv z919, iv z936, iv z953] []))
                refine own_via (fun k => XS.iload X937.here hx rfl (hb hby at_293) rfl  (XS.aload X937.here hx rfl (hb hby at_295) rfl rfl  (XS.iconst X937.here hx rfl (hb hby at_297) k))) ?_
                show own_Go p e below s _ _ (T937.setTop (mkF m 298 #[iv p0, iv p1, iv p2, rv b1, jv 0, .second, jv 1, .second, jv 2, .second, rv b66, rv b123, rv b191, iv 4, iv 2, iv 0, iv 1, iv 0, iv 1, iv z919, iv z936, iv z953] [(.int 0), (.ref b123), (.int z919)]))
                obtain ⟨cl954, Ar954, q954, S954, NN954, H954, G954⟩ := id B950
                have hin954 : ¬ ((0 : Int32) < 0 ∨ cl954.slots.size ≤ ((0 : Int32)).toNatClampNeg) := inb_of S954 ⟨by decide, by decide⟩
                have hat954 : cl954.slots[((0 : Int32)).toNatClampNeg]? = some (.int (nar .boolean z140)) := H954.at hin954 rfl
                refine own_via (fun k => X937.baloadBooleans hx (j := (0 : Int32)) (v := (.int (nar .boolean z140))) Ar954.1 (State.isArrayOf_alike hZ.alike Ar954.2.1) Ar954.2.2 hin954 hat954 (g := (mkF m 298 #[iv p0, iv p1, iv p2, rv b1, jv 0, .second, jv 1, .second, jv 2, .second, rv b66, rv b123, rv b191, iv 4, iv 2, iv 0, iv 1, iv 0, iv 1, iv z919, iv z936, iv z953] [(.int 0), (.ref b123), (.int z919)])) rfl rfl (hb hby at_298) _ k) ?_
                show own_Go p e below s _ _ (T937.setTop (mkF m 299 #[iv p0, iv p1, iv p2, rv b1, jv 0, .second, jv 1, .second, jv 2, .second, rv b66, rv b123, rv b191, iv 4, iv 2, iv 0, iv 1, iv 0, iv 1, iv z919, iv z936, iv z953] [(.int (nar .boolean z140)), (.int z919)]))
                have J957 : ∀ (T957 : State) (lo957 : List Loc), Stand p l e room_1 s m #[(.int p0), (.int p1), (.int p2)] below meth c T957 lo957 5 27 → Fr n0 lo957 → T957.heap = T937.heap → ∀ (z956 : Int32), z956 = (if (nar .boolean z140) = (0 : Int32) then (0 : Int32) else (if (nar .boolean z210) = (0 : Int32) then (0 : Int32) else (1 : Int32))) → own_Go p e below s (Q0 Z p0 p1 p2 h0 n0) (room_1.cells, room_1.slots) (T957.setTop (mkF m 314 #[iv p0, iv p1, iv p2, rv b1, jv 0, .second, jv 1, .second, jv 2, .second, rv b66, rv b123, rv b191, iv 4, iv 2, iv 0, iv 1, iv 0, iv 1, iv z919, iv z936, iv z953] [(.int z956), (.int z919)])) := by
                  intro T957 lo957 X957 N957 e957 z956 hz956
                  refine own_via (fun k => XS.icmpNo X957.here hx rfl (hb hby at_314) rfl (teq (own_law4_314 p0 p1 p2 z140 hz140 z157 hz157 z174 hz174 z210 hz210 z228 hz228 z246 hz246 z850 hz850 z868 hz868 z886 hz886 z919 hz919 z956 hz956 hl264)).2 k) ?_
                  show own_Go p e below s _ _ (T957.setTop (mkF m 317 #[iv p0, iv p1, iv p2, rv b1, jv 0, .second, jv 1, .second, jv 2, .second, rv b66, rv b123, rv b191, iv 4, iv 2, iv 0, iv 1, iv 0, iv 1, iv z919, iv z936, iv z953] []))
                  refine own_via (fun k => XS.iload X957.here hx rfl (hb hby at_317) rfl  (XS.aload X957.here hx rfl (hb hby at_319) rfl rfl  (XS.iconst X957.here hx rfl (hb hby at_321) k))) ?_
                  show own_Go p e below s _ _ (T957.setTop (mkF m 322 #[iv p0, iv p1, iv p2, rv b1, jv 0, .second, jv 1, .second, jv 2, .second, rv b66, rv b123, rv b191, iv 4, iv 2, iv 0, iv 1, iv 0, iv 1, iv z919, iv z936, iv z953] [(.int 1), (.ref b123), (.int z936)]))
                  obtain ⟨cl958, Ar958, q958, S958, NN958, H958, G958⟩ := id B950
                  have hin958 : ¬ ((1 : Int32) < 0 ∨ cl958.slots.size ≤ ((1 : Int32)).toNatClampNeg) := inb_of S958 ⟨by decide, by decide⟩
                  have hat958 : cl958.slots[((1 : Int32)).toNatClampNeg]? = some (.int (nar .boolean z157)) := H958.at hin958 rfl
                  refine own_via (fun k => X957.baloadBooleans hx (j := (1 : Int32)) (v := (.int (nar .boolean z157))) (by rw [e957]; exact Ar958.1) (State.isArrayOf_alike hZ.alike Ar958.2.1) Ar958.2.2 hin958 hat958 (g := (mkF m 322 #[iv p0, iv p1, iv p2, rv b1, jv 0, .second, jv 1, .second, jv 2, .second, rv b66, rv b123, rv b191, iv 4, iv 2, iv 0, iv 1, iv 0, iv 1, iv z919, iv z936, iv z953] [(.int 1), (.ref b123), (.int z936)])) rfl rfl (hb hby at_322) _ k) ?_
                  show own_Go p e below s _ _ (T957.setTop (mkF m 323 #[iv p0, iv p1, iv p2, rv b1, jv 0, .second, jv 1, .second, jv 2, .second, rv b66, rv b123, rv b191, iv 4, iv 2, iv 0, iv 1, iv 0, iv 1, iv z919, iv z936, iv z953] [(.int (nar .boolean z157)), (.int z936)]))
                  have J961 : ∀ (T961 : State) (lo961 : List Loc), Stand p l e room_1 s m #[(.int p0), (.int p1), (.int p2)] below meth c T961 lo961 5 27 → Fr n0 lo961 → T961.heap = T937.heap → ∀ (z960 : Int32), z960 = (if (nar .boolean z157) = (0 : Int32) then (0 : Int32) else (if (nar .boolean z228) = (0 : Int32) then (0 : Int32) else (1 : Int32))) → own_Go p e below s (Q0 Z p0 p1 p2 h0 n0) (room_1.cells, room_1.slots) (T961.setTop (mkF m 338 #[iv p0, iv p1, iv p2, rv b1, jv 0, .second, jv 1, .second, jv 2, .second, rv b66, rv b123, rv b191, iv 4, iv 2, iv 0, iv 1, iv 0, iv 1, iv z919, iv z936, iv z953] [(.int z960), (.int z936)])) := by
                    intro T961 lo961 X961 N961 e961 z960 hz960
                    refine own_via (fun k => XS.icmpNo X961.here hx rfl (hb hby at_338) rfl (teq (own_law4_338 p0 p1 p2 z140 hz140 z157 hz157 z174 hz174 z210 hz210 z228 hz228 z246 hz246 z850 hz850 z868 hz868 z886 hz886 z936 hz936 z960 hz960 hl264)).2 k) ?_
                    show own_Go p e below s _ _ (T961.setTop (mkF m 341 #[iv p0, iv p1, iv p2, rv b1, jv 0, .second, jv 1, .second, jv 2, .second, rv b66, rv b123, rv b191, iv 4, iv 2, iv 0, iv 1, iv 0, iv 1, iv z919, iv z936, iv z953] []))
                    refine own_via (fun k => XS.iload X961.here hx rfl (hb hby at_341) rfl  (XS.aload X961.here hx rfl (hb hby at_343) rfl rfl  (XS.iconst X961.here hx rfl (hb hby at_345) k))) ?_
                    show own_Go p e below s _ _ (T961.setTop (mkF m 346 #[iv p0, iv p1, iv p2, rv b1, jv 0, .second, jv 1, .second, jv 2, .second, rv b66, rv b123, rv b191, iv 4, iv 2, iv 0, iv 1, iv 0, iv 1, iv z919, iv z936, iv z953] [(.int 2), (.ref b123), (.int z953)]))
                    obtain ⟨cl962, Ar962, q962, S962, NN962, H962, G962⟩ := id B950
                    have hin962 : ¬ ((2 : Int32) < 0 ∨ cl962.slots.size ≤ ((2 : Int32)).toNatClampNeg) := inb_of S962 ⟨by decide, by decide⟩
                    have hat962 : cl962.slots[((2 : Int32)).toNatClampNeg]? = some (.int (nar .boolean z174)) := H962.at hin962 rfl
                    refine own_via (fun k => X961.baloadBooleans hx (j := (2 : Int32)) (v := (.int (nar .boolean z174))) (by rw [e961]; exact Ar962.1) (State.isArrayOf_alike hZ.alike Ar962.2.1) Ar962.2.2 hin962 hat962 (g := (mkF m 346 #[iv p0, iv p1, iv p2, rv b1, jv 0, .second, jv 1, .second, jv 2, .second, rv b66, rv b123, rv b191, iv 4, iv 2, iv 0, iv 1, iv 0, iv 1, iv z919, iv z936, iv z953] [(.int 2), (.ref b123), (.int z953)])) rfl rfl (hb hby at_346) _ k) ?_
                    show own_Go p e below s _ _ (T961.setTop (mkF m 347 #[iv p0, iv p1, iv p2, rv b1, jv 0, .second, jv 1, .second, jv 2, .second, rv b66, rv b123, rv b191, iv 4, iv 2, iv 0, iv 1, iv 0, iv 1, iv z919, iv z936, iv z953] [(.int (nar .boolean z174)), (.int z953)]))
                    have J965 : ∀ (T965 : State) (lo965 : List Loc), Stand p l e room_1 s m #[(.int p0), (.int p1), (.int p2)] below meth c T965 lo965 5 27 → Fr n0 lo965 → T965.heap = T937.heap → ∀ (z964 : Int32), z964 = (if (nar .boolean z174) = (0 : Int32) then (0 : Int32) else (if (nar .boolean z246) = (0 : Int32) then (0 : Int32) else (1 : Int32))) → own_Go p e below s (Q0 Z p0 p1 p2 h0 n0) (room_1.cells, room_1.slots) (T965.setTop (mkF m 362 #[iv p0, iv p1, iv p2, rv b1, jv 0, .second, jv 1, .second, jv 2, .second, rv b66, rv b123, rv b191, iv 4, iv 2, iv 0, iv 1, iv 0, iv 1, iv z919, iv z936, iv z953] [(.int z964), (.int z953)])) := by
                      intro T965 lo965 X965 N965 e965 z964 hz964
                      refine own_via (fun k => XS.icmpNo X965.here hx rfl (hb hby at_362) rfl (teq (own_law4_362 p0 p1 p2 z140 hz140 z157 hz157 z174 hz174 z210 hz210 z228 hz228 z246 hz246 z850 hz850 z868 hz868 z886 hz886 z953 hz953 z964 hz964 hl264)).2 k) ?_
                      show own_Go p e below s _ _ (T965.setTop (mkF m 365 #[iv p0, iv p1, iv p2, rv b1, jv 0, .second, jv 1, .second, jv 2, .second, rv b66, rv b123, rv b191, iv 4, iv 2, iv 0, iv 1, iv 0, iv 1, iv z919, iv z936, iv z953] []))
                      refine own_via (fun k => XS.iconst X965.here hx rfl (hb hby at_365) (XS.goto X965.here hx rfl (pc0 := 366) (pc' := 370) rfl (hb hby at_366) (by decide) (by decide) k)) ?_
                      show own_Go p e below s _ _ (T965.setTop (mkF m 370 #[iv p0, iv p1, iv p2, rv b1, jv 0, .second, jv 1, .second, jv 2, .second, rv b66, rv b123, rv b191, iv 4, iv 2, iv 0, iv 1, iv 0, iv 1, iv z919, iv z936, iv z953] [(.int 1)]))
                      exact own_retN X965 hx hlk (t := .boolean) Bd.returns (by simp) (hb hby at_370) (Q := (Q0 Z p0 p1 p2 h0 n0)) ⟨rfl, N965⟩ (by decide) (by decide)
                    by_cases hc966 : (nar .boolean z174) = (0 : Int32)
                    · refine own_via (fun k => XS.ifYes X961.here hx rfl (pc0 := 347) (pc' := 361) rfl (hb hby at_347) rfl ((if0 _ _).trans (teq hc966).1) (by decide) (by decide) k) ?_
                      show own_Go p e below s _ _ (T961.setTop (mkF m 361 #[iv p0, iv p1, iv p2, rv b1, jv 0, .second, jv 1, .second, jv 2, .second, rv b66, rv b123, rv b191, iv 4, iv 2, iv 0, iv 1, iv 0, iv 1, iv z919, iv z936, iv z953] [(.int z953)]))
                      refine own_via (fun k => XS.iconst X961.here hx rfl (hb hby at_361) k) ?_
                      show own_Go p e below s _ _ (T961.setTop (mkF m 362 #[iv p0, iv p1, iv p2, rv b1, jv 0, .second, jv 1, .second, jv 2, .second, rv b66, rv b123, rv b191, iv 4, iv 2, iv 0, iv 1, iv 0, iv 1, iv z919, iv z936, iv z953] [(.int 0), (.int z953)]))
                      exact J965 _ _ X961 N961 e961 (0 : Int32) (((if_pos hc966).trans rfl)).symm
                    · refine own_via (fun k => XS.ifNo X961.here hx rfl (hb hby at_347) rfl ((if0 _ _).trans (feq hc966).1) k) ?_
                      show own_Go p e below s _ _ (T961.setTop (mkF m 350 #[iv p0, iv p1, iv p2, rv b1, jv 0, .second, jv 1, .second, jv 2, .second, rv b66, rv b123, rv b191, iv 4, iv 2, iv 0, iv 1, iv 0, iv 1, iv z919, iv z936, iv z953] [(.int z953)]))
                      refine own_via (fun k => XS.aload X961.here hx rfl (hb hby at_350) rfl rfl  (XS.iconst X961.here hx rfl (hb hby at_352) k)) ?_
                      show own_Go p e below s _ _ (T961.setTop (mkF m 353 #[iv p0, iv p1, iv p2, rv b1, jv 0, .second, jv 1, .second, jv 2, .second, rv b66, rv b123, rv b191, iv 4, iv 2, iv 0, iv 1, iv 0, iv 1, iv z919, iv z936, iv z953] [(.int 2), (.ref b191), (.int z953)]))
                      obtain ⟨cl967, Ar967, q967, S967, NN967, H967, G967⟩ := id B951
                      have hin967 : ¬ ((2 : Int32) < 0 ∨ cl967.slots.size ≤ ((2 : Int32)).toNatClampNeg) := inb_of S967 ⟨by decide, by decide⟩
                      have hat967 : cl967.slots[((2 : Int32)).toNatClampNeg]? = some (.int (nar .boolean z246)) := H967.at hin967 rfl
                      refine own_via (fun k => X961.baloadBooleans hx (j := (2 : Int32)) (v := (.int (nar .boolean z246))) (by rw [e961]; exact Ar967.1) (State.isArrayOf_alike hZ.alike Ar967.2.1) Ar967.2.2 hin967 hat967 (g := (mkF m 353 #[iv p0, iv p1, iv p2, rv b1, jv 0, .second, jv 1, .second, jv 2, .second, rv b66, rv b123, rv b191, iv 4, iv 2, iv 0, iv 1, iv 0, iv 1, iv z919, iv z936, iv z953] [(.int 2), (.ref b191), (.int z953)])) rfl rfl (hb hby at_353) _ k) ?_
                      show own_Go p e below s _ _ (T961.setTop (mkF m 354 #[iv p0, iv p1, iv p2, rv b1, jv 0, .second, jv 1, .second, jv 2, .second, rv b66, rv b123, rv b191, iv 4, iv 2, iv 0, iv 1, iv 0, iv 1, iv z919, iv z936, iv z953] [(.int (nar .boolean z246)), (.int z953)]))
                      by_cases hc968 : (nar .boolean z246) = (0 : Int32)
                      · refine own_via (fun k => XS.ifYes X961.here hx rfl (pc0 := 354) (pc' := 361) rfl (hb hby at_354) rfl ((if0 _ _).trans (teq hc968).1) (by decide) (by decide) k) ?_
                        show own_Go p e below s _ _ (T961.setTop (mkF m 361 #[iv p0, iv p1, iv p2, rv b1, jv 0, .second, jv 1, .second, jv 2, .second, rv b66, rv b123, rv b191, iv 4, iv 2, iv 0, iv 1, iv 0, iv 1, iv z919, iv z936, iv z953] [(.int z953)]))
                        refine own_via (fun k => XS.iconst X961.here hx rfl (hb hby at_361) k) ?_
                        show own_Go p e below s _ _ (T961.setTop (mkF m 362 #[iv p0, iv p1, iv p2, rv b1, jv 0, .second, jv 1, .second, jv 2, .second, rv b66, rv b123, rv b191, iv 4, iv 2, iv 0, iv 1, iv 0, iv 1, iv z919, iv z936, iv z953] [(.int 0), (.int z953)]))
                        exact J965 _ _ X961 N961 e961 (0 : Int32) (((if_neg hc966).trans ((if_pos hc968).trans rfl))).symm
                      · refine own_via (fun k => XS.ifNo X961.here hx rfl (hb hby at_354) rfl ((if0 _ _).trans (feq hc968).1) k) ?_
                        show own_Go p e below s _ _ (T961.setTop (mkF m 357 #[iv p0, iv p1, iv p2, rv b1, jv 0, .second, jv 1, .second, jv 2, .second, rv b66, rv b123, rv b191, iv 4, iv 2, iv 0, iv 1, iv 0, iv 1, iv z919, iv z936, iv z953] [(.int z953)]))
                        refine own_via (fun k => XS.iconst X961.here hx rfl (hb hby at_357) (XS.goto X961.here hx rfl (pc0 := 358) (pc' := 362) rfl (hb hby at_358) (by decide) (by decide) k)) ?_
                        show own_Go p e below s _ _ (T961.setTop (mkF m 362 #[iv p0, iv p1, iv p2, rv b1, jv 0, .second, jv 1, .second, jv 2, .second, rv b66, rv b123, rv b191, iv 4, iv 2, iv 0, iv 1, iv 0, iv 1, iv z919, iv z936, iv z953] [(.int 1), (.int z953)]))
                        exact J965 _ _ X961 N961 e961 (1 : Int32) (((if_neg hc966).trans ((if_neg hc968).trans rfl))).symm
                  by_cases hc969 : (nar .boolean z157) = (0 : Int32)
                  · refine own_via (fun k => XS.ifYes X957.here hx rfl (pc0 := 323) (pc' := 337) rfl (hb hby at_323) rfl ((if0 _ _).trans (teq hc969).1) (by decide) (by decide) k) ?_
                    show own_Go p e below s _ _ (T957.setTop (mkF m 337 #[iv p0, iv p1, iv p2, rv b1, jv 0, .second, jv 1, .second, jv 2, .second, rv b66, rv b123, rv b191, iv 4, iv 2, iv 0, iv 1, iv 0, iv 1, iv z919, iv z936, iv z953] [(.int z936)]))
                    refine own_via (fun k => XS.iconst X957.here hx rfl (hb hby at_337) k) ?_
                    show own_Go p e below s _ _ (T957.setTop (mkF m 338 #[iv p0, iv p1, iv p2, rv b1, jv 0, .second, jv 1, .second, jv 2, .second, rv b66, rv b123, rv b191, iv 4, iv 2, iv 0, iv 1, iv 0, iv 1, iv z919, iv z936, iv z953] [(.int 0), (.int z936)]))
                    exact J961 _ _ X957 N957 e957 (0 : Int32) (((if_pos hc969).trans rfl)).symm
                  · refine own_via (fun k => XS.ifNo X957.here hx rfl (hb hby at_323) rfl ((if0 _ _).trans (feq hc969).1) k) ?_
                    show own_Go p e below s _ _ (T957.setTop (mkF m 326 #[iv p0, iv p1, iv p2, rv b1, jv 0, .second, jv 1, .second, jv 2, .second, rv b66, rv b123, rv b191, iv 4, iv 2, iv 0, iv 1, iv 0, iv 1, iv z919, iv z936, iv z953] [(.int z936)]))
                    refine own_via (fun k => XS.aload X957.here hx rfl (hb hby at_326) rfl rfl  (XS.iconst X957.here hx rfl (hb hby at_328) k)) ?_
                    show own_Go p e below s _ _ (T957.setTop (mkF m 329 #[iv p0, iv p1, iv p2, rv b1, jv 0, .second, jv 1, .second, jv 2, .second, rv b66, rv b123, rv b191, iv 4, iv 2, iv 0, iv 1, iv 0, iv 1, iv z919, iv z936, iv z953] [(.int 1), (.ref b191), (.int z936)]))
                    obtain ⟨cl970, Ar970, q970, S970, NN970, H970, G970⟩ := id B951
                    have hin970 : ¬ ((1 : Int32) < 0 ∨ cl970.slots.size ≤ ((1 : Int32)).toNatClampNeg) := inb_of S970 ⟨by decide, by decide⟩
                    have hat970 : cl970.slots[((1 : Int32)).toNatClampNeg]? = some (.int (nar .boolean z228)) := H970.at hin970 rfl
                    refine own_via (fun k => X957.baloadBooleans hx (j := (1 : Int32)) (v := (.int (nar .boolean z228))) (by rw [e957]; exact Ar970.1) (State.isArrayOf_alike hZ.alike Ar970.2.1) Ar970.2.2 hin970 hat970 (g := (mkF m 329 #[iv p0, iv p1, iv p2, rv b1, jv 0, .second, jv 1, .second, jv 2, .second, rv b66, rv b123, rv b191, iv 4, iv 2, iv 0, iv 1, iv 0, iv 1, iv z919, iv z936, iv z953] [(.int 1), (.ref b191), (.int z936)])) rfl rfl (hb hby at_329) _ k) ?_
                    show own_Go p e below s _ _ (T957.setTop (mkF m 330 #[iv p0, iv p1, iv p2, rv b1, jv 0, .second, jv 1, .second, jv 2, .second, rv b66, rv b123, rv b191, iv 4, iv 2, iv 0, iv 1, iv 0, iv 1, iv z919, iv z936, iv z953] [(.int (nar .boolean z228)), (.int z936)]))
                    by_cases hc971 : (nar .boolean z228) = (0 : Int32)
                    · refine own_via (fun k => XS.ifYes X957.here hx rfl (pc0 := 330) (pc' := 337) rfl (hb hby at_330) rfl ((if0 _ _).trans (teq hc971).1) (by decide) (by decide) k) ?_
                      show own_Go p e below s _ _ (T957.setTop (mkF m 337 #[iv p0, iv p1, iv p2, rv b1, jv 0, .second, jv 1, .second, jv 2, .second, rv b66, rv b123, rv b191, iv 4, iv 2, iv 0, iv 1, iv 0, iv 1, iv z919, iv z936, iv z953] [(.int z936)]))
                      refine own_via (fun k => XS.iconst X957.here hx rfl (hb hby at_337) k) ?_
                      show own_Go p e below s _ _ (T957.setTop (mkF m 338 #[iv p0, iv p1, iv p2, rv b1, jv 0, .second, jv 1, .second, jv 2, .second, rv b66, rv b123, rv b191, iv 4, iv 2, iv 0, iv 1, iv 0, iv 1, iv z919, iv z936, iv z953] [(.int 0), (.int z936)]))
                      exact J961 _ _ X957 N957 e957 (0 : Int32) (((if_neg hc969).trans ((if_pos hc971).trans rfl))).symm
                    · refine own_via (fun k => XS.ifNo X957.here hx rfl (hb hby at_330) rfl ((if0 _ _).trans (feq hc971).1) k) ?_
                      show own_Go p e below s _ _ (T957.setTop (mkF m 333 #[iv p0, iv p1, iv p2, rv b1, jv 0, .second, jv 1, .second, jv 2, .second, rv b66, rv b123, rv b191, iv 4, iv 2, iv 0, iv 1, iv 0, iv 1, iv z919, iv z936, iv z953] [(.int z936)]))
                      refine own_via (fun k => XS.iconst X957.here hx rfl (hb hby at_333) (XS.goto X957.here hx rfl (pc0 := 334) (pc' := 338) rfl (hb hby at_334) (by decide) (by decide) k)) ?_
                      show own_Go p e below s _ _ (T957.setTop (mkF m 338 #[iv p0, iv p1, iv p2, rv b1, jv 0, .second, jv 1, .second, jv 2, .second, rv b66, rv b123, rv b191, iv 4, iv 2, iv 0, iv 1, iv 0, iv 1, iv z919, iv z936, iv z953] [(.int 1), (.int z936)]))
                      exact J961 _ _ X957 N957 e957 (1 : Int32) (((if_neg hc969).trans ((if_neg hc971).trans rfl))).symm
                by_cases hc972 : (nar .boolean z140) = (0 : Int32)
                · refine own_via (fun k => XS.ifYes X937.here hx rfl (pc0 := 299) (pc' := 313) rfl (hb hby at_299) rfl ((if0 _ _).trans (teq hc972).1) (by decide) (by decide) k) ?_
                  show own_Go p e below s _ _ (T937.setTop (mkF m 313 #[iv p0, iv p1, iv p2, rv b1, jv 0, .second, jv 1, .second, jv 2, .second, rv b66, rv b123, rv b191, iv 4, iv 2, iv 0, iv 1, iv 0, iv 1, iv z919, iv z936, iv z953] [(.int z919)]))
                  refine own_via (fun k => XS.iconst X937.here hx rfl (hb hby at_313) k) ?_
                  show own_Go p e below s _ _ (T937.setTop (mkF m 314 #[iv p0, iv p1, iv p2, rv b1, jv 0, .second, jv 1, .second, jv 2, .second, rv b66, rv b123, rv b191, iv 4, iv 2, iv 0, iv 1, iv 0, iv 1, iv z919, iv z936, iv z953] [(.int 0), (.int z919)]))
                  exact J957 _ _ X937 N947 rfl (0 : Int32) (((if_pos hc972).trans rfl)).symm
                · refine own_via (fun k => XS.ifNo X937.here hx rfl (hb hby at_299) rfl ((if0 _ _).trans (feq hc972).1) k) ?_
                  show own_Go p e below s _ _ (T937.setTop (mkF m 302 #[iv p0, iv p1, iv p2, rv b1, jv 0, .second, jv 1, .second, jv 2, .second, rv b66, rv b123, rv b191, iv 4, iv 2, iv 0, iv 1, iv 0, iv 1, iv z919, iv z936, iv z953] [(.int z919)]))
                  refine own_via (fun k => XS.aload X937.here hx rfl (hb hby at_302) rfl rfl  (XS.iconst X937.here hx rfl (hb hby at_304) k)) ?_
                  show own_Go p e below s _ _ (T937.setTop (mkF m 305 #[iv p0, iv p1, iv p2, rv b1, jv 0, .second, jv 1, .second, jv 2, .second, rv b66, rv b123, rv b191, iv 4, iv 2, iv 0, iv 1, iv 0, iv 1, iv z919, iv z936, iv z953] [(.int 0), (.ref b191), (.int z919)]))
                  obtain ⟨cl973, Ar973, q973, S973, NN973, H973, G973⟩ := id B951
                  have hin973 : ¬ ((0 : Int32) < 0 ∨ cl973.slots.size ≤ ((0 : Int32)).toNatClampNeg) := inb_of S973 ⟨by decide, by decide⟩
                  have hat973 : cl973.slots[((0 : Int32)).toNatClampNeg]? = some (.int (nar .boolean z210)) := H973.at hin973 rfl
                  refine own_via (fun k => X937.baloadBooleans hx (j := (0 : Int32)) (v := (.int (nar .boolean z210))) Ar973.1 (State.isArrayOf_alike hZ.alike Ar973.2.1) Ar973.2.2 hin973 hat973 (g := (mkF m 305 #[iv p0, iv p1, iv p2, rv b1, jv 0, .second, jv 1, .second, jv 2, .second, rv b66, rv b123, rv b191, iv 4, iv 2, iv 0, iv 1, iv 0, iv 1, iv z919, iv z936, iv z953] [(.int 0), (.ref b191), (.int z919)])) rfl rfl (hb hby at_305) _ k) ?_
                  show own_Go p e below s _ _ (T937.setTop (mkF m 306 #[iv p0, iv p1, iv p2, rv b1, jv 0, .second, jv 1, .second, jv 2, .second, rv b66, rv b123, rv b191, iv 4, iv 2, iv 0, iv 1, iv 0, iv 1, iv z919, iv z936, iv z953] [(.int (nar .boolean z210)), (.int z919)]))
                  by_cases hc974 : (nar .boolean z210) = (0 : Int32)
                  · refine own_via (fun k => XS.ifYes X937.here hx rfl (pc0 := 306) (pc' := 313) rfl (hb hby at_306) rfl ((if0 _ _).trans (teq hc974).1) (by decide) (by decide) k) ?_
                    show own_Go p e below s _ _ (T937.setTop (mkF m 313 #[iv p0, iv p1, iv p2, rv b1, jv 0, .second, jv 1, .second, jv 2, .second, rv b66, rv b123, rv b191, iv 4, iv 2, iv 0, iv 1, iv 0, iv 1, iv z919, iv z936, iv z953] [(.int z919)]))
                    refine own_via (fun k => XS.iconst X937.here hx rfl (hb hby at_313) k) ?_
                    show own_Go p e below s _ _ (T937.setTop (mkF m 314 #[iv p0, iv p1, iv p2, rv b1, jv 0, .second, jv 1, .second, jv 2, .second, rv b66, rv b123, rv b191, iv 4, iv 2, iv 0, iv 1, iv 0, iv 1, iv z919, iv z936, iv z953] [(.int 0), (.int z919)]))
                    exact J957 _ _ X937 N947 rfl (0 : Int32) (((if_neg hc972).trans ((if_pos hc974).trans rfl))).symm
                  · refine own_via (fun k => XS.ifNo X937.here hx rfl (hb hby at_306) rfl ((if0 _ _).trans (feq hc974).1) k) ?_
                    show own_Go p e below s _ _ (T937.setTop (mkF m 309 #[iv p0, iv p1, iv p2, rv b1, jv 0, .second, jv 1, .second, jv 2, .second, rv b66, rv b123, rv b191, iv 4, iv 2, iv 0, iv 1, iv 0, iv 1, iv z919, iv z936, iv z953] [(.int z919)]))
                    refine own_via (fun k => XS.iconst X937.here hx rfl (hb hby at_309) (XS.goto X937.here hx rfl (pc0 := 310) (pc' := 314) rfl (hb hby at_310) (by decide) (by decide) k)) ?_
                    show own_Go p e below s _ _ (T937.setTop (mkF m 314 #[iv p0, iv p1, iv p2, rv b1, jv 0, .second, jv 1, .second, jv 2, .second, rv b66, rv b123, rv b191, iv 4, iv 2, iv 0, iv 1, iv 0, iv 1, iv z919, iv z936, iv z953] [(.int 1), (.int z919)]))
                    exact J957 _ _ X937 N947 rfl (1 : Int32) (((if_neg hc972).trans ((if_neg hc974).trans rfl))).symm
              · rw [hl264]
                show own_Go p e below s _ _ (T248.setTop (mkF m 149 #[iv p0, iv p1, iv p2, rv b1, jv 0, .second, jv 1, .second, jv 2, .second, rv b66, rv b123, rv b191, iv 5, .unset, .unset, .unset, .unset, .unset, .unset, .unset, .unset] []))
                refine own_via (fun k => XS.iload X248.here hx rfl (hb hby at_149) rfl  (XS.iconst X248.here hx rfl (hb hby at_151) (XS.idiv X248.here hx rfl (hb hby at_152) rfl (by decide) k))) ?_
                show own_Go p e below s _ _ (T248.setTop (mkF m 153 #[iv p0, iv p1, iv p2, rv b1, jv 0, .second, jv 1, .second, jv 2, .second, rv b66, rv b123, rv b191, iv 5, .unset, .unset, .unset, .unset, .unset, .unset, .unset, .unset] [(.int ((5 : Int32) / (2 : Int32)))]))
                rw [show ((5 : Int32) / (2 : Int32)) = (2 : Int32) from by decide]
                show own_Go p e below s _ _ (T248.setTop (mkF m 153 #[iv p0, iv p1, iv p2, rv b1, jv 0, .second, jv 1, .second, jv 2, .second, rv b66, rv b123, rv b191, iv 5, .unset, .unset, .unset, .unset, .unset, .unset, .unset, .unset] [(.int 2)]))
                refine own_via (fun k => XS.istore X248.here hx rfl (hb hby at_153) rfl (l' := #[iv p0, iv p1, iv p2, rv b1, jv 0, .second, jv 1, .second, jv 2, .second, rv b66, rv b123, rv b191, iv 5, iv 2, .unset, .unset, .unset, .unset, .unset, .unset, .unset]) rfl (XS.iload X248.here hx rfl (hb hby at_155) rfl  k)) ?_
                show own_Go p e below s _ _ (T248.setTop (mkF m 157 #[iv p0, iv p1, iv p2, rv b1, jv 0, .second, jv 1, .second, jv 2, .second, rv b66, rv b123, rv b191, iv 5, iv 2, .unset, .unset, .unset, .unset, .unset, .unset, .unset] [(.int 2)]))
                refine own_via (fun k => XS.ifYes X248.here hx rfl (pc0 := 157) (pc' := 164) rfl (hb hby at_157) rfl (by decide) (by decide) (by decide) k) ?_
                show own_Go p e below s _ _ (T248.setTop (mkF m 164 #[iv p0, iv p1, iv p2, rv b1, jv 0, .second, jv 1, .second, jv 2, .second, rv b66, rv b123, rv b191, iv 5, iv 2, .unset, .unset, .unset, .unset, .unset, .unset, .unset] []))
                refine own_via (fun k => XS.iconst X248.here hx rfl (hb hby at_164) (XS.istore X248.here hx rfl (hb hby at_165) rfl (l' := #[iv p0, iv p1, iv p2, rv b1, jv 0, .second, jv 1, .second, jv 2, .second, rv b66, rv b123, rv b191, iv 5, iv 2, iv 0, .unset, .unset, .unset, .unset, .unset, .unset]) rfl (XS.iload X248.here hx rfl (hb hby at_167) rfl  (XS.iconst X248.here hx rfl (hb hby at_169) k)))) ?_
                show own_Go p e below s _ _ (T248.setTop (mkF m 170 #[iv p0, iv p1, iv p2, rv b1, jv 0, .second, jv 1, .second, jv 2, .second, rv b66, rv b123, rv b191, iv 5, iv 2, iv 0, .unset, .unset, .unset, .unset, .unset, .unset] [(.int 2), (.int 2)]))
                refine own_via (fun k => XS.icmpNo X248.here hx rfl (hb hby at_170) rfl (by decide) k) ?_
                show own_Go p e below s _ _ (T248.setTop (mkF m 173 #[iv p0, iv p1, iv p2, rv b1, jv 0, .second, jv 1, .second, jv 2, .second, rv b66, rv b123, rv b191, iv 5, iv 2, iv 0, .unset, .unset, .unset, .unset, .unset, .unset] []))
                refine own_via (fun k => XS.iconst X248.here hx rfl (hb hby at_173) (XS.goto X248.here hx rfl (pc0 := 174) (pc' := 178) rfl (hb hby at_174) (by decide) (by decide) (XS.istore X248.here hx rfl (hb hby at_178) rfl (l' := #[iv p0, iv p1, iv p2, rv b1, jv 0, .second, jv 1, .second, jv 2, .second, rv b66, rv b123, rv b191, iv 5, iv 2, iv 0, iv 1, .unset, .unset, .unset, .unset, .unset]) rfl (XS.iload X248.here hx rfl (hb hby at_180) rfl  k)))) ?_
                show own_Go p e below s _ _ (T248.setTop (mkF m 182 #[iv p0, iv p1, iv p2, rv b1, jv 0, .second, jv 1, .second, jv 2, .second, rv b66, rv b123, rv b191, iv 5, iv 2, iv 0, iv 1, .unset, .unset, .unset, .unset, .unset] [(.int 5)]))
                refine own_via (fun k => XS.iconst X248.here hx rfl (hb hby at_182) (Jvm.RoadKit.iremM X248 hx rfl (hb hby at_183) rfl (by decide) k)) ?_
                show own_Go p e below s _ _ (T248.setTop (mkF m 184 #[iv p0, iv p1, iv p2, rv b1, jv 0, .second, jv 1, .second, jv 2, .second, rv b66, rv b123, rv b191, iv 5, iv 2, iv 0, iv 1, .unset, .unset, .unset, .unset, .unset] [(.int ((5 : Int32) % (2 : Int32)))]))
                rw [show ((5 : Int32) % (2 : Int32)) = (1 : Int32) from by decide]
                show own_Go p e below s _ _ (T248.setTop (mkF m 184 #[iv p0, iv p1, iv p2, rv b1, jv 0, .second, jv 1, .second, jv 2, .second, rv b66, rv b123, rv b191, iv 5, iv 2, iv 0, iv 1, .unset, .unset, .unset, .unset, .unset] [(.int 1)]))
                refine own_via (fun k => XS.ifYes X248.here hx rfl (pc0 := 184) (pc' := 192) rfl (hb hby at_184) rfl (by decide) (by decide) (by decide) k) ?_
                show own_Go p e below s _ _ (T248.setTop (mkF m 192 #[iv p0, iv p1, iv p2, rv b1, jv 0, .second, jv 1, .second, jv 2, .second, rv b66, rv b123, rv b191, iv 5, iv 2, iv 0, iv 1, .unset, .unset, .unset, .unset, .unset] []))
                refine own_via (fun k => XS.iload X248.here hx rfl (hb hby at_192) rfl  (XS.istore X248.here hx rfl (hb hby at_194) rfl (l' := #[iv p0, iv p1, iv p2, rv b1, jv 0, .second, jv 1, .second, jv 2, .second, rv b66, rv b123, rv b191, iv 5, iv 2, iv 0, iv 1, iv 1, .unset, .unset, .unset, .unset]) rfl (XS.iload X248.here hx rfl (hb hby at_196) rfl  (XS.iconst X248.here hx rfl (hb hby at_198) k)))) ?_
                show own_Go p e below s _ _ (T248.setTop (mkF m 199 #[iv p0, iv p1, iv p2, rv b1, jv 0, .second, jv 1, .second, jv 2, .second, rv b66, rv b123, rv b191, iv 5, iv 2, iv 0, iv 1, iv 1, .unset, .unset, .unset, .unset] [(.int 2), (.int 5)]))
                refine own_via (fun k => Jvm.RoadKit.iremM X248 hx rfl (hb hby at_199) rfl (by decide) k) ?_
                show own_Go p e below s _ _ (T248.setTop (mkF m 200 #[iv p0, iv p1, iv p2, rv b1, jv 0, .second, jv 1, .second, jv 2, .second, rv b66, rv b123, rv b191, iv 5, iv 2, iv 0, iv 1, iv 1, .unset, .unset, .unset, .unset] [(.int ((5 : Int32) % (2 : Int32)))]))
                rw [show ((5 : Int32) % (2 : Int32)) = (1 : Int32) from by decide]
                show own_Go p e below s _ _ (T248.setTop (mkF m 200 #[iv p0, iv p1, iv p2, rv b1, jv 0, .second, jv 1, .second, jv 2, .second, rv b66, rv b123, rv b191, iv 5, iv 2, iv 0, iv 1, iv 1, .unset, .unset, .unset, .unset] [(.int 1)]))
                refine own_via (fun k => XS.ifYes X248.here hx rfl (pc0 := 200) (pc' := 208) rfl (hb hby at_200) rfl (by decide) (by decide) (by decide) k) ?_
                show own_Go p e below s _ _ (T248.setTop (mkF m 208 #[iv p0, iv p1, iv p2, rv b1, jv 0, .second, jv 1, .second, jv 2, .second, rv b66, rv b123, rv b191, iv 5, iv 2, iv 0, iv 1, iv 1, .unset, .unset, .unset, .unset] []))
                refine own_via (fun k => XS.iload X248.here hx rfl (hb hby at_208) rfl  (XS.istore X248.here hx rfl (hb hby at_210) rfl (l' := #[iv p0, iv p1, iv p2, rv b1, jv 0, .second, jv 1, .second, jv 2, .second, rv b66, rv b123, rv b191, iv 5, iv 2, iv 0, iv 1, iv 1, iv 0, .unset, .unset, .unset]) rfl (XS.aloadN X248.here hx rfl (hb hby at_212) rfl rfl  (XS.aload X248.here hx rfl (hb hby at_213) rfl rfl  k)))) ?_
                show own_Go p e below s _ _ (T248.setTop (mkF m 215 #[iv p0, iv p1, iv p2, rv b1, jv 0, .second, jv 1, .second, jv 2, .second, rv b66, rv b123, rv b191, iv 5, iv 2, iv 0, iv 1, iv 1, iv 0, .unset, .unset, .unset] [(.ref b66), (.ref b1)]))
                refine own_via (fun k => XS.aload X248.here hx rfl (hb hby at_215) rfl rfl  (XS.aload X248.here hx rfl (hb hby at_217) rfl rfl  (XS.iload X248.here hx rfl (hb hby at_219) rfl  k))) ?_
                show own_Go p e below s _ _ (T248.setTop (mkF m 221 #[iv p0, iv p1, iv p2, rv b1, jv 0, .second, jv 1, .second, jv 2, .second, rv b66, rv b123, rv b191, iv 5, iv 2, iv 0, iv 1, iv 1, iv 0, .unset, .unset, .unset] [(.int 2), (.ref b191), (.ref b123), (.ref b66), (.ref b1)]))
                obtain ⟨_, _, ⟨T975, L975, k975, n975⟩, -, X975, ⟨Lc975, hQ975, l975, y975, z975⟩, st975⟩ := Jvm.LawKit.callS X248 hx (y := (⟨"com/example/tree_to_rows/treetorows/query/OutcomesSetPinLaw", "step", "(Lcom/example/tree_to_rows/treetorows/query/Outcomes;[J[Z[ZI)V"⟩ : MethodName)) hown (mvT hZ (hw _ (List.mem_of_getElem? (i := 31) rfl))) (mvT hZ (hw _ (List.mem_of_getElem? (i := 32) rfl))) (mvT hZ (hw _ (List.mem_of_getElem? (i := 33) rfl))) (mvT hZ (hw _ (List.mem_of_getElem? (i := 34) rfl))) (by decide) (backOf (W := 0) (rm5_2 l Z aw hw [] b1 b66 b123 b191 (3 : Int32) (3 : Int32) (3 : Int64) (0 : Int64) (0 : Int32) (0 : Int64) (0 : Int32) (0 : Int64) k66 k123 k191 (nar .boolean z140) (nar .boolean z157) (nar .boolean z174) (nar .boolean z210) (nar .boolean z228) (nar .boolean z246) h248 n0 Z263 B250 B251 B252 B253 B254 B255 B256 B257 B258 B249 B259 B260 B261 g2 (Ne.symm ne68) (Ne.symm ne125) (Ne.symm ne193)) hZ (hw _ (List.mem_of_getElem? (i := 34) rfl)) (hw _ (List.mem_of_getElem? (i := 33) rfl)) (by decide) (by decide)) (g := (mkF m 221 #[iv p0, iv p1, iv p2, rv b1, jv 0, .second, jv 1, .second, jv 2, .second, rv b66, rv b123, rv b191, iv 5, iv 2, iv 0, iv 1, iv 1, iv 0, .unset, .unset, .unset] [(.int 2), (.ref b191), (.ref b123), (.ref b66), (.ref b1)])) rfl (by rw [hml]; rfl) (argsL := [(.ref b1), (.ref b66), (.ref b123), (.ref b191), (.int 2)]) (rest := []) (lenOf pd_2 rfl) rfl (by show 2 * 0 + _ ≤ _; exact Nat.le_of_eq rfl) (hb hby at_221) (fun _ _ => ⟨rfl, e248, (by decide : 5 + 0 ≤ _), (by decide : 27 + 0 ≤ _)⟩)
                dsimp only [Pt.U, Pt.locs, Pt.cells, Pt.slots] at X975 l975 y975 z975 st975 hQ975
                subst l975 y975 z975
                obtain ⟨rfl, N975q, K975, B976, B977, B978, B979, B980, B981, B982, B983, B984⟩ := hQ975
                have N985 := Fr.app N262 N975q
                have B986 := B249.keep K975
                have B987 := B259.keep K975 (ninS (Ne.symm ne68) nin0)
                have B988 := B260.keep K975 (ninS (Ne.symm ne125) nin0)
                have B989 := B261.keep K975 (ninS (Ne.symm ne193) nin0)
                have Z990 : n0 ≤ T975.heap.size := Nat.le_trans Z263 K975.1
                obtain ⟨z991, hz991⟩ : ∃ z : Int32, z = (own_f5_2w (3 : Int32) (nar .boolean z174)) := ⟨_, rfl⟩
                rw [← hz991] at B978
                obtain ⟨z992, hz992⟩ : ∃ z : Int64, z = (own_f5_2c (0 : Int64) (nar .boolean z174) (nar .boolean z246)) := ⟨_, rfl⟩
                rw [← hz992] at B980
                refine own_via (fun k => st975 _ k) ?_
                show own_Go p e below s _ _ (T975.setTop (mkF m 224 #[iv p0, iv p1, iv p2, rv b1, jv 0, .second, jv 1, .second, jv 2, .second, rv b66, rv b123, rv b191, iv 5, iv 2, iv 0, iv 1, iv 1, iv 0, .unset, .unset, .unset] []))
                refine own_via (fun k => XS.aloadN X975.here hx rfl (hb hby at_224) rfl rfl  (XS.aload X975.here hx rfl (hb hby at_225) rfl rfl  (XS.aload X975.here hx rfl (hb hby at_227) rfl rfl  (XS.aload X975.here hx rfl (hb hby at_229) rfl rfl  k)))) ?_
                show own_Go p e below s _ _ (T975.setTop (mkF m 231 #[iv p0, iv p1, iv p2, rv b1, jv 0, .second, jv 1, .second, jv 2, .second, rv b66, rv b123, rv b191, iv 5, iv 2, iv 0, iv 1, iv 1, iv 0, .unset, .unset, .unset] [(.ref b191), (.ref b123), (.ref b66), (.ref b1)]))
                refine own_via (fun k => XS.iload X975.here hx rfl (hb hby at_231) rfl  k) ?_
                show own_Go p e below s _ _ (T975.setTop (mkF m 233 #[iv p0, iv p1, iv p2, rv b1, jv 0, .second, jv 1, .second, jv 2, .second, rv b66, rv b123, rv b191, iv 5, iv 2, iv 0, iv 1, iv 1, iv 0, .unset, .unset, .unset] [(.int 1), (.ref b191), (.ref b123), (.ref b66), (.ref b1)]))
                obtain ⟨_, _, ⟨T993, L993, k993, n993⟩, -, X993, ⟨Lc993, hQ993, l993, y993, z993⟩, st993⟩ := Jvm.LawKit.callS X975 hx (y := (⟨"com/example/tree_to_rows/treetorows/query/OutcomesSetPinLaw", "step", "(Lcom/example/tree_to_rows/treetorows/query/Outcomes;[J[Z[ZI)V"⟩ : MethodName)) hown (mvT hZ (hw _ (List.mem_of_getElem? (i := 31) rfl))) (mvT hZ (hw _ (List.mem_of_getElem? (i := 32) rfl))) (mvT hZ (hw _ (List.mem_of_getElem? (i := 33) rfl))) (mvT hZ (hw _ (List.mem_of_getElem? (i := 34) rfl))) (by decide) (backOf (W := 0) (rm5_1 l Z aw hw [] b1 b66 b123 b191 (3 : Int32) z991 (3 : Int64) z992 (0 : Int32) (0 : Int64) (0 : Int32) (0 : Int64) k66 k123 k191 (nar .boolean z140) (nar .boolean z157) (nar .boolean z174) (nar .boolean z210) (nar .boolean z228) (nar .boolean z246) T975.heap n0 Z990 B976 B977 B978 B979 B980 B981 B982 B983 B984 B986 B987 B988 B989 g2 (Ne.symm ne68) (Ne.symm ne125) (Ne.symm ne193)) hZ (hw _ (List.mem_of_getElem? (i := 34) rfl)) (hw _ (List.mem_of_getElem? (i := 33) rfl)) (by decide) (by decide)) (g := (mkF m 233 #[iv p0, iv p1, iv p2, rv b1, jv 0, .second, jv 1, .second, jv 2, .second, rv b66, rv b123, rv b191, iv 5, iv 2, iv 0, iv 1, iv 1, iv 0, .unset, .unset, .unset] [(.int 1), (.ref b191), (.ref b123), (.ref b66), (.ref b1)])) rfl (by rw [hml]; rfl) (argsL := [(.ref b1), (.ref b66), (.ref b123), (.ref b191), (.int 1)]) (rest := []) (lenOf pd_2 rfl) rfl (by show 2 * 0 + _ ≤ _; exact Nat.le_of_eq rfl) (hb hby at_233) (fun _ _ => ⟨rfl, rfl, (by decide : 5 + 0 ≤ _), (by decide : 27 + 0 ≤ _)⟩)
                dsimp only [Pt.U, Pt.locs, Pt.cells, Pt.slots] at X993 l993 y993 z993 st993 hQ993
                subst l993 y993 z993
                obtain ⟨rfl, N993q, K993, B994, B995, B996, B997, B998, B999, B1000, B1001, B1002⟩ := hQ993
                have N1003 := Fr.app N985 N993q
                have B1004 := B986.keep K993
                have B1005 := B987.keep K993 (ninS (Ne.symm ne68) nin0)
                have B1006 := B988.keep K993 (ninS (Ne.symm ne125) nin0)
                have B1007 := B989.keep K993 (ninS (Ne.symm ne193) nin0)
                have Z1008 : n0 ≤ T993.heap.size := Nat.le_trans Z990 K993.1
                obtain ⟨z1009, hz1009⟩ : ∃ z : Int32, z = (own_f5_1w z991 (nar .boolean z157)) := ⟨_, rfl⟩
                rw [← hz1009] at B996
                obtain ⟨z1010, hz1010⟩ : ∃ z : Int64, z = (own_f5_1c z992 (nar .boolean z157) (nar .boolean z228)) := ⟨_, rfl⟩
                rw [← hz1010] at B998
                refine own_via (fun k => st993 _ k) ?_
                show own_Go p e below s _ _ (T993.setTop (mkF m 236 #[iv p0, iv p1, iv p2, rv b1, jv 0, .second, jv 1, .second, jv 2, .second, rv b66, rv b123, rv b191, iv 5, iv 2, iv 0, iv 1, iv 1, iv 0, .unset, .unset, .unset] []))
                refine own_via (fun k => XS.aloadN X993.here hx rfl (hb hby at_236) rfl rfl  (XS.aload X993.here hx rfl (hb hby at_237) rfl rfl  (XS.aload X993.here hx rfl (hb hby at_239) rfl rfl  (XS.aload X993.here hx rfl (hb hby at_241) rfl rfl  k)))) ?_
                show own_Go p e below s _ _ (T993.setTop (mkF m 243 #[iv p0, iv p1, iv p2, rv b1, jv 0, .second, jv 1, .second, jv 2, .second, rv b66, rv b123, rv b191, iv 5, iv 2, iv 0, iv 1, iv 1, iv 0, .unset, .unset, .unset] [(.ref b191), (.ref b123), (.ref b66), (.ref b1)]))
                refine own_via (fun k => XS.iload X993.here hx rfl (hb hby at_243) rfl  k) ?_
                show own_Go p e below s _ _ (T993.setTop (mkF m 245 #[iv p0, iv p1, iv p2, rv b1, jv 0, .second, jv 1, .second, jv 2, .second, rv b66, rv b123, rv b191, iv 5, iv 2, iv 0, iv 1, iv 1, iv 0, .unset, .unset, .unset] [(.int 0), (.ref b191), (.ref b123), (.ref b66), (.ref b1)]))
                obtain ⟨_, _, ⟨T1011, L1011, k1011, n1011⟩, -, X1011, ⟨Lc1011, hQ1011, l1011, y1011, z1011⟩, st1011⟩ := Jvm.LawKit.callS X993 hx (y := (⟨"com/example/tree_to_rows/treetorows/query/OutcomesSetPinLaw", "step", "(Lcom/example/tree_to_rows/treetorows/query/Outcomes;[J[Z[ZI)V"⟩ : MethodName)) hown (mvT hZ (hw _ (List.mem_of_getElem? (i := 31) rfl))) (mvT hZ (hw _ (List.mem_of_getElem? (i := 32) rfl))) (mvT hZ (hw _ (List.mem_of_getElem? (i := 33) rfl))) (mvT hZ (hw _ (List.mem_of_getElem? (i := 34) rfl))) (by decide) (backOf (W := 0) (rm5_0 l Z aw hw [] b1 b66 b123 b191 (3 : Int32) z1009 (3 : Int64) z1010 (0 : Int32) (0 : Int64) (0 : Int32) (0 : Int64) k66 k123 k191 (nar .boolean z140) (nar .boolean z157) (nar .boolean z174) (nar .boolean z210) (nar .boolean z228) (nar .boolean z246) T993.heap n0 Z1008 B994 B995 B996 B997 B998 B999 B1000 B1001 B1002 B1004 B1005 B1006 B1007 g2 (Ne.symm ne68) (Ne.symm ne125) (Ne.symm ne193)) hZ (hw _ (List.mem_of_getElem? (i := 34) rfl)) (hw _ (List.mem_of_getElem? (i := 33) rfl)) (by decide) (by decide)) (g := (mkF m 245 #[iv p0, iv p1, iv p2, rv b1, jv 0, .second, jv 1, .second, jv 2, .second, rv b66, rv b123, rv b191, iv 5, iv 2, iv 0, iv 1, iv 1, iv 0, .unset, .unset, .unset] [(.int 0), (.ref b191), (.ref b123), (.ref b66), (.ref b1)])) rfl (by rw [hml]; rfl) (argsL := [(.ref b1), (.ref b66), (.ref b123), (.ref b191), (.int 0)]) (rest := []) (lenOf pd_2 rfl) rfl (by show 2 * 0 + _ ≤ _; exact Nat.le_of_eq rfl) (hb hby at_245) (fun _ _ => ⟨rfl, rfl, (by decide : 5 + 0 ≤ _), (by decide : 27 + 0 ≤ _)⟩)
                dsimp only [Pt.U, Pt.locs, Pt.cells, Pt.slots] at X1011 l1011 y1011 z1011 st1011 hQ1011
                subst l1011 y1011 z1011
                obtain ⟨rfl, N1011q, K1011, B1012, B1013, B1014, B1015, B1016, B1017, B1018, B1019, B1020⟩ := hQ1011
                have N1021 := Fr.app N1003 N1011q
                have B1022 := B1004.keep K1011
                have B1023 := B1005.keep K1011 (ninS (Ne.symm ne68) nin0)
                have B1024 := B1006.keep K1011 (ninS (Ne.symm ne125) nin0)
                have B1025 := B1007.keep K1011 (ninS (Ne.symm ne193) nin0)
                have Z1026 : n0 ≤ T1011.heap.size := Nat.le_trans Z1008 K1011.1
                obtain ⟨z1027, hz1027⟩ : ∃ z : Int32, z = (own_f5_0w z1009 (nar .boolean z140)) := ⟨_, rfl⟩
                rw [← hz1027] at B1014
                obtain ⟨z1028, hz1028⟩ : ∃ z : Int64, z = (own_f5_0c z1010 (nar .boolean z140) (nar .boolean z210)) := ⟨_, rfl⟩
                rw [← hz1028] at B1016
                refine own_via (fun k => st1011 _ k) ?_
                show own_Go p e below s _ _ (T1011.setTop (mkF m 248 #[iv p0, iv p1, iv p2, rv b1, jv 0, .second, jv 1, .second, jv 2, .second, rv b66, rv b123, rv b191, iv 5, iv 2, iv 0, iv 1, iv 1, iv 0, .unset, .unset, .unset] []))
                refine own_via (fun k => XS.aloadN X1011.here hx rfl (hb hby at_248) rfl rfl  k) ?_
                show own_Go p e below s _ _ (T1011.setTop (mkF m 249 #[iv p0, iv p1, iv p2, rv b1, jv 0, .second, jv 1, .second, jv 2, .second, rv b66, rv b123, rv b191, iv 5, iv 2, iv 0, iv 1, iv 1, iv 0, .unset, .unset, .unset] [(.ref b1)]))
                obtain ⟨cq1029, kq1029, q1029a, q1029b, q1029c⟩ := isOf hZ rfl B1022
                obtain ⟨_, _, ⟨T1029, L1029, k1029, n1029⟩, -, X1029, ⟨Lc1029, hQ1029, l1029, y1029, z1029⟩, st1029⟩ := X1011.virtualBack hx (y := (⟨"com/example/tree_to_rows/treetorows/query/Outcomes", "rewind", "()V"⟩ : MethodName)) (z := (⟨"com/example/tree_to_rows/treetorows/query/Outcomes", "rewind", "()V"⟩ : MethodName)) hown (mvT hZ (hw _ (List.mem_of_getElem? (i := 43) rfl))) (mvT hZ (hw _ (List.mem_of_getElem? (i := 44) rfl))) (notFace_of_selects (args := #[]) (mvT hZ (hw _ (List.mem_of_getElem? (i := 46) rfl)))) (mvT hZ (hw _ (List.mem_of_getElem? (i := 46) rfl))) (mvT hZ (hw _ (List.mem_of_getElem? (i := 45) rfl))) (by decide) (backOf (W := 0) (rm7 l Z aw hw [] b1 (0 : Int32) (3 : Int32) z1027 (3 : Int64) z1028 T1011.heap n0 Z1026 B1012 B1013 B1014 B1015 B1016 B1017 B1018 B1019 B1020 B1022 g2) hZ (hw _ (List.mem_of_getElem? (i := 47) rfl)) (hw _ (List.mem_of_getElem? (i := 2) rfl)) (by decide) (by decide)) q1029a q1029c (g := (mkF m 249 #[iv p0, iv p1, iv p2, rv b1, jv 0, .second, jv 1, .second, jv 2, .second, rv b66, rv b123, rv b191, iv 5, iv 2, iv 0, iv 1, iv 1, iv 0, .unset, .unset, .unset] [(.ref b1)])) rfl (by rw [hml]; rfl) (Steps.refl _) (argsL := []) (rest := []) (lenOf pd_0 rfl) rfl (by show 2 * 0 + _ ≤ _; exact Nat.le_of_eq rfl) (hb hby at_249) (fun _ _ => ⟨rfl, rfl, (by decide : 5 + 0 ≤ _), (by decide : 27 + 0 ≤ _)⟩)
                dsimp only [Pt.U, Pt.locs, Pt.cells, Pt.slots] at X1029 l1029 y1029 z1029 st1029 hQ1029
                subst l1029 y1029 z1029
                obtain ⟨rfl, N1029q, K1029, B1030, B1031, B1032, B1033, B1034, B1035, B1036, B1037, B1038⟩ := hQ1029
                have N1039 := Fr.app N1021 N1029q
                have B1040 := B1022.keep K1029
                have B1041 := B1023.keep K1029 (ninS (Ne.symm ne68) nin0)
                have B1042 := B1024.keep K1029 (ninS (Ne.symm ne125) nin0)
                have B1043 := B1025.keep K1029 (ninS (Ne.symm ne193) nin0)
                have Z1044 : n0 ≤ T1029.heap.size := Nat.le_trans Z1026 K1029.1
                refine own_via (fun k => st1029.trans k) ?_
                show own_Go p e below s _ _ (T1029.setTop (mkF m 252 #[iv p0, iv p1, iv p2, rv b1, jv 0, .second, jv 1, .second, jv 2, .second, rv b66, rv b123, rv b191, iv 5, iv 2, iv 0, iv 1, iv 1, iv 0, .unset, .unset, .unset] []))
                refine own_via (fun k => XS.aloadN X1029.here hx rfl (hb hby at_252) rfl rfl  k) ?_
                show own_Go p e below s _ _ (T1029.setTop (mkF m 253 #[iv p0, iv p1, iv p2, rv b1, jv 0, .second, jv 1, .second, jv 2, .second, rv b66, rv b123, rv b191, iv 5, iv 2, iv 0, iv 1, iv 1, iv 0, .unset, .unset, .unset] [(.ref b1)]))
                obtain ⟨cq1045, kq1045, q1045a, q1045b, q1045c⟩ := isOf hZ rfl B1040
                obtain ⟨_, _, ⟨T1045, L1045, k1045, n1045⟩, -, X1045, ⟨Lc1045, hQ1045, l1045, y1045, z1045⟩, st1045⟩ := X1029.virtualBack hx (y := (⟨"com/example/tree_to_rows/treetorows/query/Outcomes", "next", "()Z"⟩ : MethodName)) (z := (⟨"com/example/tree_to_rows/treetorows/query/Outcomes", "next", "()Z"⟩ : MethodName)) hown (mvT hZ (hw _ (List.mem_of_getElem? (i := 56) rfl))) (mvT hZ (hw _ (List.mem_of_getElem? (i := 57) rfl))) (notFace_of_selects (args := #[]) (mvT hZ (hw _ (List.mem_of_getElem? (i := 59) rfl)))) (mvT hZ (hw _ (List.mem_of_getElem? (i := 59) rfl))) (mvT hZ (hw _ (List.mem_of_getElem? (i := 58) rfl))) (by decide) (backOf (W := 0) (rm8_0 l Z aw hw [] b1 (3 : Int32) z1027 z1028 (0 : Int64) T1029.heap n0 Z1044 B1030 B1031 B1032 B1033 B1034 B1035 B1036 B1037 B1038 B1040 g2) hZ (hw _ (List.mem_of_getElem? (i := 60) rfl)) (hw _ (List.mem_of_getElem? (i := 2) rfl)) (by decide) (by decide)) q1045a q1045c (g := (mkF m 253 #[iv p0, iv p1, iv p2, rv b1, jv 0, .second, jv 1, .second, jv 2, .second, rv b66, rv b123, rv b191, iv 5, iv 2, iv 0, iv 1, iv 1, iv 0, .unset, .unset, .unset] [(.ref b1)])) rfl (by rw [hml]; rfl) (Steps.refl _) (argsL := []) (rest := []) (lenOf pd_4 rfl) rfl (by show 2 * 0 + _ ≤ _; exact Nat.le_of_eq rfl) (hb hby at_253) (fun _ _ => ⟨rfl, rfl, (by decide : 5 + 0 ≤ _), (by decide : 27 + 0 ≤ _)⟩)
                dsimp only [Pt.U, Pt.locs, Pt.cells, Pt.slots] at X1045 l1045 y1045 z1045 st1045 hQ1045
                subst l1045 y1045 z1045
                obtain ⟨rfl, N1045q, K1045, B1046, B1047, B1048, B1049, B1050, B1051, B1052, B1053, B1054⟩ := hQ1045
                have N1055 := Fr.app N1039 N1045q
                have B1056 := B1040.keep K1045
                have B1057 := B1041.keep K1045 (ninS (Ne.symm ne68) nin0)
                have B1058 := B1042.keep K1045 (ninS (Ne.symm ne125) nin0)
                have B1059 := B1043.keep K1045 (ninS (Ne.symm ne193) nin0)
                have Z1060 : n0 ≤ T1045.heap.size := Nat.le_trans Z1044 K1045.1
                refine own_via (fun k => st1045.trans k) ?_
                show own_Go p e below s _ _ (T1045.setTop (mkF m 256 #[iv p0, iv p1, iv p2, rv b1, jv 0, .second, jv 1, .second, jv 2, .second, rv b66, rv b123, rv b191, iv 5, iv 2, iv 0, iv 1, iv 1, iv 0, .unset, .unset, .unset] [(.int (own_f8_0 z1028))]))
                obtain ⟨z1061, hz1061⟩ : ∃ z : Int32, z = (own_f8_0 z1028) := ⟨_, rfl⟩
                rw [← hz1061]
                show own_Go p e below s _ _ (T1045.setTop (mkF m 256 #[iv p0, iv p1, iv p2, rv b1, jv 0, .second, jv 1, .second, jv 2, .second, rv b66, rv b123, rv b191, iv 5, iv 2, iv 0, iv 1, iv 1, iv 0, .unset, .unset, .unset] [(.int z1061)]))
                refine own_via (fun k => XS.istore X1045.here hx rfl (hb hby at_256) rfl (l' := #[iv p0, iv p1, iv p2, rv b1, jv 0, .second, jv 1, .second, jv 2, .second, rv b66, rv b123, rv b191, iv 5, iv 2, iv 0, iv 1, iv 1, iv 0, iv z1061, .unset, .unset]) rfl (XS.aloadN X1045.here hx rfl (hb hby at_258) rfl rfl  k)) ?_
                show own_Go p e below s _ _ (T1045.setTop (mkF m 259 #[iv p0, iv p1, iv p2, rv b1, jv 0, .second, jv 1, .second, jv 2, .second, rv b66, rv b123, rv b191, iv 5, iv 2, iv 0, iv 1, iv 1, iv 0, iv z1061, .unset, .unset] [(.ref b1)]))
                obtain ⟨cq1062, kq1062, q1062a, q1062b, q1062c⟩ := isOf hZ rfl B1056
                obtain ⟨_, _, ⟨T1062, L1062, k1062, n1062⟩, -, X1062, ⟨Lc1062, hQ1062, l1062, y1062, z1062⟩, st1062⟩ := X1045.virtualBack hx (y := (⟨"com/example/tree_to_rows/treetorows/query/Outcomes", "next", "()Z"⟩ : MethodName)) (z := (⟨"com/example/tree_to_rows/treetorows/query/Outcomes", "next", "()Z"⟩ : MethodName)) hown (mvT hZ (hw _ (List.mem_of_getElem? (i := 56) rfl))) (mvT hZ (hw _ (List.mem_of_getElem? (i := 57) rfl))) (notFace_of_selects (args := #[]) (mvT hZ (hw _ (List.mem_of_getElem? (i := 59) rfl)))) (mvT hZ (hw _ (List.mem_of_getElem? (i := 59) rfl))) (mvT hZ (hw _ (List.mem_of_getElem? (i := 58) rfl))) (by decide) (backOf (W := 0) (rm8_1 l Z aw hw [] b1 (3 : Int32) z1027 z1028 (0 : Int64) T1045.heap n0 Z1060 B1046 B1047 B1048 B1049 B1050 B1051 B1052 B1053 B1054 B1056 g2) hZ (hw _ (List.mem_of_getElem? (i := 60) rfl)) (hw _ (List.mem_of_getElem? (i := 2) rfl)) (by decide) (by decide)) q1062a q1062c (g := (mkF m 259 #[iv p0, iv p1, iv p2, rv b1, jv 0, .second, jv 1, .second, jv 2, .second, rv b66, rv b123, rv b191, iv 5, iv 2, iv 0, iv 1, iv 1, iv 0, iv z1061, .unset, .unset] [(.ref b1)])) rfl (by rw [hml]; rfl) (Steps.refl _) (argsL := []) (rest := []) (lenOf pd_4 rfl) rfl (by show 2 * 0 + _ ≤ _; exact Nat.le_of_eq rfl) (hb hby at_259) (fun _ _ => ⟨rfl, rfl, (by decide : 5 + 0 ≤ _), (by decide : 27 + 0 ≤ _)⟩)
                dsimp only [Pt.U, Pt.locs, Pt.cells, Pt.slots] at X1062 l1062 y1062 z1062 st1062 hQ1062
                subst l1062 y1062 z1062
                obtain ⟨rfl, N1062q, K1062, B1063, B1064, B1065, B1066, B1067, B1068, B1069, B1070, B1071⟩ := hQ1062
                have N1072 := Fr.app N1055 N1062q
                have B1073 := B1056.keep K1062
                have B1074 := B1057.keep K1062 (ninS (Ne.symm ne68) nin0)
                have B1075 := B1058.keep K1062 (ninS (Ne.symm ne125) nin0)
                have B1076 := B1059.keep K1062 (ninS (Ne.symm ne193) nin0)
                have Z1077 : n0 ≤ T1062.heap.size := Nat.le_trans Z1060 K1062.1
                refine own_via (fun k => st1062.trans k) ?_
                show own_Go p e below s _ _ (T1062.setTop (mkF m 262 #[iv p0, iv p1, iv p2, rv b1, jv 0, .second, jv 1, .second, jv 2, .second, rv b66, rv b123, rv b191, iv 5, iv 2, iv 0, iv 1, iv 1, iv 0, iv z1061, .unset, .unset] [(.int (own_f8_1 z1028))]))
                obtain ⟨z1078, hz1078⟩ : ∃ z : Int32, z = (own_f8_1 z1028) := ⟨_, rfl⟩
                rw [← hz1078]
                show own_Go p e below s _ _ (T1062.setTop (mkF m 262 #[iv p0, iv p1, iv p2, rv b1, jv 0, .second, jv 1, .second, jv 2, .second, rv b66, rv b123, rv b191, iv 5, iv 2, iv 0, iv 1, iv 1, iv 0, iv z1061, .unset, .unset] [(.int z1078)]))
                refine own_via (fun k => XS.istore X1062.here hx rfl (hb hby at_262) rfl (l' := #[iv p0, iv p1, iv p2, rv b1, jv 0, .second, jv 1, .second, jv 2, .second, rv b66, rv b123, rv b191, iv 5, iv 2, iv 0, iv 1, iv 1, iv 0, iv z1061, iv z1078, .unset]) rfl (XS.aloadN X1062.here hx rfl (hb hby at_264) rfl rfl  k)) ?_
                show own_Go p e below s _ _ (T1062.setTop (mkF m 265 #[iv p0, iv p1, iv p2, rv b1, jv 0, .second, jv 1, .second, jv 2, .second, rv b66, rv b123, rv b191, iv 5, iv 2, iv 0, iv 1, iv 1, iv 0, iv z1061, iv z1078, .unset] [(.ref b1)]))
                obtain ⟨cq1079, kq1079, q1079a, q1079b, q1079c⟩ := isOf hZ rfl B1073
                obtain ⟨_, _, ⟨T1079, L1079, k1079, n1079⟩, -, X1079, ⟨Lc1079, hQ1079, l1079, y1079, z1079⟩, st1079⟩ := X1062.virtualBack hx (y := (⟨"com/example/tree_to_rows/treetorows/query/Outcomes", "next", "()Z"⟩ : MethodName)) (z := (⟨"com/example/tree_to_rows/treetorows/query/Outcomes", "next", "()Z"⟩ : MethodName)) hown (mvT hZ (hw _ (List.mem_of_getElem? (i := 56) rfl))) (mvT hZ (hw _ (List.mem_of_getElem? (i := 57) rfl))) (notFace_of_selects (args := #[]) (mvT hZ (hw _ (List.mem_of_getElem? (i := 59) rfl)))) (mvT hZ (hw _ (List.mem_of_getElem? (i := 59) rfl))) (mvT hZ (hw _ (List.mem_of_getElem? (i := 58) rfl))) (by decide) (backOf (W := 0) (rm8_2 l Z aw hw [] b1 (3 : Int32) z1027 z1028 (0 : Int64) T1062.heap n0 Z1077 B1063 B1064 B1065 B1066 B1067 B1068 B1069 B1070 B1071 B1073 g2) hZ (hw _ (List.mem_of_getElem? (i := 60) rfl)) (hw _ (List.mem_of_getElem? (i := 2) rfl)) (by decide) (by decide)) q1079a q1079c (g := (mkF m 265 #[iv p0, iv p1, iv p2, rv b1, jv 0, .second, jv 1, .second, jv 2, .second, rv b66, rv b123, rv b191, iv 5, iv 2, iv 0, iv 1, iv 1, iv 0, iv z1061, iv z1078, .unset] [(.ref b1)])) rfl (by rw [hml]; rfl) (Steps.refl _) (argsL := []) (rest := []) (lenOf pd_4 rfl) rfl (by show 2 * 0 + _ ≤ _; exact Nat.le_of_eq rfl) (hb hby at_265) (fun _ _ => ⟨rfl, rfl, (by decide : 5 + 0 ≤ _), (by decide : 27 + 0 ≤ _)⟩)
                dsimp only [Pt.U, Pt.locs, Pt.cells, Pt.slots] at X1079 l1079 y1079 z1079 st1079 hQ1079
                subst l1079 y1079 z1079
                obtain ⟨rfl, N1079q, K1079, B1080, B1081, B1082, B1083, B1084, B1085, B1086, B1087, B1088⟩ := hQ1079
                have N1089 := Fr.app N1072 N1079q
                have B1090 := B1073.keep K1079
                have B1091 := B1074.keep K1079 (ninS (Ne.symm ne68) nin0)
                have B1092 := B1075.keep K1079 (ninS (Ne.symm ne125) nin0)
                have B1093 := B1076.keep K1079 (ninS (Ne.symm ne193) nin0)
                have Z1094 : n0 ≤ T1079.heap.size := Nat.le_trans Z1077 K1079.1
                refine own_via (fun k => st1079.trans k) ?_
                show own_Go p e below s _ _ (T1079.setTop (mkF m 268 #[iv p0, iv p1, iv p2, rv b1, jv 0, .second, jv 1, .second, jv 2, .second, rv b66, rv b123, rv b191, iv 5, iv 2, iv 0, iv 1, iv 1, iv 0, iv z1061, iv z1078, .unset] [(.int (own_f8_2 z1028))]))
                obtain ⟨z1095, hz1095⟩ : ∃ z : Int32, z = (own_f8_2 z1028) := ⟨_, rfl⟩
                rw [← hz1095]
                show own_Go p e below s _ _ (T1079.setTop (mkF m 268 #[iv p0, iv p1, iv p2, rv b1, jv 0, .second, jv 1, .second, jv 2, .second, rv b66, rv b123, rv b191, iv 5, iv 2, iv 0, iv 1, iv 1, iv 0, iv z1061, iv z1078, .unset] [(.int z1095)]))
                refine own_via (fun k => XS.istore X1079.here hx rfl (hb hby at_268) rfl (l' := #[iv p0, iv p1, iv p2, rv b1, jv 0, .second, jv 1, .second, jv 2, .second, rv b66, rv b123, rv b191, iv 5, iv 2, iv 0, iv 1, iv 1, iv 0, iv z1061, iv z1078, iv z1095]) rfl (XS.lload X1079.here hx rfl (hb hby at_270) rfl  (XS.lconst X1079.here hx rfl (hb hby at_272) (XS.lcmp X1079.here hx rfl (hb hby at_273) rfl k)))) ?_
                show own_Go p e below s _ _ (T1079.setTop (mkF m 274 #[iv p0, iv p1, iv p2, rv b1, jv 0, .second, jv 1, .second, jv 2, .second, rv b66, rv b123, rv b191, iv 5, iv 2, iv 0, iv 1, iv 1, iv 0, iv z1061, iv z1078, iv z1095] [(.int (lcmpW (0 : Int64) (0 : Int64)))]))
                refine own_via (fun k => XS.ifNo X1079.here hx rfl (hb hby at_274) rfl (by decide) k) ?_
                show own_Go p e below s _ _ (T1079.setTop (mkF m 277 #[iv p0, iv p1, iv p2, rv b1, jv 0, .second, jv 1, .second, jv 2, .second, rv b66, rv b123, rv b191, iv 5, iv 2, iv 0, iv 1, iv 1, iv 0, iv z1061, iv z1078, iv z1095] []))
                refine own_via (fun k => XS.lload X1079.here hx rfl (hb hby at_277) rfl  (XS.lconst X1079.here hx rfl (hb hby at_279) (XS.lcmp X1079.here hx rfl (hb hby at_280) rfl k))) ?_
                show own_Go p e below s _ _ (T1079.setTop (mkF m 281 #[iv p0, iv p1, iv p2, rv b1, jv 0, .second, jv 1, .second, jv 2, .second, rv b66, rv b123, rv b191, iv 5, iv 2, iv 0, iv 1, iv 1, iv 0, iv z1061, iv z1078, iv z1095] [(.int (lcmpW (1 : Int64) (1 : Int64)))]))
                refine own_via (fun k => XS.ifNo X1079.here hx rfl (hb hby at_281) rfl (by decide) k) ?_
                show own_Go p e below s _ _ (T1079.setTop (mkF m 284 #[iv p0, iv p1, iv p2, rv b1, jv 0, .second, jv 1, .second, jv 2, .second, rv b66, rv b123, rv b191, iv 5, iv 2, iv 0, iv 1, iv 1, iv 0, iv z1061, iv z1078, iv z1095] []))
                refine own_via (fun k => XS.lload X1079.here hx rfl (hb hby at_284) rfl  (X1079.ldc2Long hx hown (mvT hZ (hw _ (List.mem_of_getElem? (i := 62) rfl))) (g := (mkF m 286 #[iv p0, iv p1, iv p2, rv b1, jv 0, .second, jv 1, .second, jv 2, .second, rv b66, rv b123, rv b191, iv 5, iv 2, iv 0, iv 1, iv 1, iv 0, iv z1061, iv z1078, iv z1095] [(.long 2)])) rfl (hb hby at_286) _ (XS.lcmp X1079.here hx rfl (hb hby at_289) rfl k))) ?_
                show own_Go p e below s _ _ (T1079.setTop (mkF m 290 #[iv p0, iv p1, iv p2, rv b1, jv 0, .second, jv 1, .second, jv 2, .second, rv b66, rv b123, rv b191, iv 5, iv 2, iv 0, iv 1, iv 1, iv 0, iv z1061, iv z1078, iv z1095] [(.int (lcmpW (2 : Int64) (2 : Int64)))]))
                refine own_via (fun k => XS.ifNo X1079.here hx rfl (hb hby at_290) rfl (by decide) k) ?_
                show own_Go p e below s _ _ (T1079.setTop (mkF m 293 #[iv p0, iv p1, iv p2, rv b1, jv 0, .second, jv 1, .second, jv 2, .second, rv b66, rv b123, rv b191, iv 5, iv 2, iv 0, iv 1, iv 1, iv 0, iv z1061, iv z1078, iv z1095] []))
                refine own_via (fun k => XS.iload X1079.here hx rfl (hb hby at_293) rfl  (XS.aload X1079.here hx rfl (hb hby at_295) rfl rfl  (XS.iconst X1079.here hx rfl (hb hby at_297) k))) ?_
                show own_Go p e below s _ _ (T1079.setTop (mkF m 298 #[iv p0, iv p1, iv p2, rv b1, jv 0, .second, jv 1, .second, jv 2, .second, rv b66, rv b123, rv b191, iv 5, iv 2, iv 0, iv 1, iv 1, iv 0, iv z1061, iv z1078, iv z1095] [(.int 0), (.ref b123), (.int z1061)]))
                obtain ⟨cl1096, Ar1096, q1096, S1096, NN1096, H1096, G1096⟩ := id B1092
                have hin1096 : ¬ ((0 : Int32) < 0 ∨ cl1096.slots.size ≤ ((0 : Int32)).toNatClampNeg) := inb_of S1096 ⟨by decide, by decide⟩
                have hat1096 : cl1096.slots[((0 : Int32)).toNatClampNeg]? = some (.int (nar .boolean z140)) := H1096.at hin1096 rfl
                refine own_via (fun k => X1079.baloadBooleans hx (j := (0 : Int32)) (v := (.int (nar .boolean z140))) Ar1096.1 (State.isArrayOf_alike hZ.alike Ar1096.2.1) Ar1096.2.2 hin1096 hat1096 (g := (mkF m 298 #[iv p0, iv p1, iv p2, rv b1, jv 0, .second, jv 1, .second, jv 2, .second, rv b66, rv b123, rv b191, iv 5, iv 2, iv 0, iv 1, iv 1, iv 0, iv z1061, iv z1078, iv z1095] [(.int 0), (.ref b123), (.int z1061)])) rfl rfl (hb hby at_298) _ k) ?_
                show own_Go p e below s _ _ (T1079.setTop (mkF m 299 #[iv p0, iv p1, iv p2, rv b1, jv 0, .second, jv 1, .second, jv 2, .second, rv b66, rv b123, rv b191, iv 5, iv 2, iv 0, iv 1, iv 1, iv 0, iv z1061, iv z1078, iv z1095] [(.int (nar .boolean z140)), (.int z1061)]))
                have J1099 : ∀ (T1099 : State) (lo1099 : List Loc), Stand p l e room_1 s m #[(.int p0), (.int p1), (.int p2)] below meth c T1099 lo1099 5 27 → Fr n0 lo1099 → T1099.heap = T1079.heap → ∀ (z1098 : Int32), z1098 = (if (nar .boolean z140) = (0 : Int32) then (0 : Int32) else (if (nar .boolean z210) = (0 : Int32) then (0 : Int32) else (1 : Int32))) → own_Go p e below s (Q0 Z p0 p1 p2 h0 n0) (room_1.cells, room_1.slots) (T1099.setTop (mkF m 314 #[iv p0, iv p1, iv p2, rv b1, jv 0, .second, jv 1, .second, jv 2, .second, rv b66, rv b123, rv b191, iv 5, iv 2, iv 0, iv 1, iv 1, iv 0, iv z1061, iv z1078, iv z1095] [(.int z1098), (.int z1061)])) := by
                  intro T1099 lo1099 X1099 N1099 e1099 z1098 hz1098
                  refine own_via (fun k => XS.icmpNo X1099.here hx rfl (hb hby at_314) rfl (teq (own_law5_314 p0 p1 p2 z140 hz140 z157 hz157 z174 hz174 z210 hz210 z228 hz228 z246 hz246 z992 hz992 z1010 hz1010 z1028 hz1028 z1061 hz1061 z1098 hz1098 hl264)).2 k) ?_
                  show own_Go p e below s _ _ (T1099.setTop (mkF m 317 #[iv p0, iv p1, iv p2, rv b1, jv 0, .second, jv 1, .second, jv 2, .second, rv b66, rv b123, rv b191, iv 5, iv 2, iv 0, iv 1, iv 1, iv 0, iv z1061, iv z1078, iv z1095] []))
                  refine own_via (fun k => XS.iload X1099.here hx rfl (hb hby at_317) rfl  (XS.aload X1099.here hx rfl (hb hby at_319) rfl rfl  (XS.iconst X1099.here hx rfl (hb hby at_321) k))) ?_
                  show own_Go p e below s _ _ (T1099.setTop (mkF m 322 #[iv p0, iv p1, iv p2, rv b1, jv 0, .second, jv 1, .second, jv 2, .second, rv b66, rv b123, rv b191, iv 5, iv 2, iv 0, iv 1, iv 1, iv 0, iv z1061, iv z1078, iv z1095] [(.int 1), (.ref b123), (.int z1078)]))
                  obtain ⟨cl1100, Ar1100, q1100, S1100, NN1100, H1100, G1100⟩ := id B1092
                  have hin1100 : ¬ ((1 : Int32) < 0 ∨ cl1100.slots.size ≤ ((1 : Int32)).toNatClampNeg) := inb_of S1100 ⟨by decide, by decide⟩
                  have hat1100 : cl1100.slots[((1 : Int32)).toNatClampNeg]? = some (.int (nar .boolean z157)) := H1100.at hin1100 rfl
                  refine own_via (fun k => X1099.baloadBooleans hx (j := (1 : Int32)) (v := (.int (nar .boolean z157))) (by rw [e1099]; exact Ar1100.1) (State.isArrayOf_alike hZ.alike Ar1100.2.1) Ar1100.2.2 hin1100 hat1100 (g := (mkF m 322 #[iv p0, iv p1, iv p2, rv b1, jv 0, .second, jv 1, .second, jv 2, .second, rv b66, rv b123, rv b191, iv 5, iv 2, iv 0, iv 1, iv 1, iv 0, iv z1061, iv z1078, iv z1095] [(.int 1), (.ref b123), (.int z1078)])) rfl rfl (hb hby at_322) _ k) ?_
                  show own_Go p e below s _ _ (T1099.setTop (mkF m 323 #[iv p0, iv p1, iv p2, rv b1, jv 0, .second, jv 1, .second, jv 2, .second, rv b66, rv b123, rv b191, iv 5, iv 2, iv 0, iv 1, iv 1, iv 0, iv z1061, iv z1078, iv z1095] [(.int (nar .boolean z157)), (.int z1078)]))
                  have J1103 : ∀ (T1103 : State) (lo1103 : List Loc), Stand p l e room_1 s m #[(.int p0), (.int p1), (.int p2)] below meth c T1103 lo1103 5 27 → Fr n0 lo1103 → T1103.heap = T1079.heap → ∀ (z1102 : Int32), z1102 = (if (nar .boolean z157) = (0 : Int32) then (0 : Int32) else (if (nar .boolean z228) = (0 : Int32) then (0 : Int32) else (1 : Int32))) → own_Go p e below s (Q0 Z p0 p1 p2 h0 n0) (room_1.cells, room_1.slots) (T1103.setTop (mkF m 338 #[iv p0, iv p1, iv p2, rv b1, jv 0, .second, jv 1, .second, jv 2, .second, rv b66, rv b123, rv b191, iv 5, iv 2, iv 0, iv 1, iv 1, iv 0, iv z1061, iv z1078, iv z1095] [(.int z1102), (.int z1078)])) := by
                    intro T1103 lo1103 X1103 N1103 e1103 z1102 hz1102
                    refine own_via (fun k => XS.icmpNo X1103.here hx rfl (hb hby at_338) rfl (teq (own_law5_338 p0 p1 p2 z140 hz140 z157 hz157 z174 hz174 z210 hz210 z228 hz228 z246 hz246 z992 hz992 z1010 hz1010 z1028 hz1028 z1078 hz1078 z1102 hz1102 hl264)).2 k) ?_
                    show own_Go p e below s _ _ (T1103.setTop (mkF m 341 #[iv p0, iv p1, iv p2, rv b1, jv 0, .second, jv 1, .second, jv 2, .second, rv b66, rv b123, rv b191, iv 5, iv 2, iv 0, iv 1, iv 1, iv 0, iv z1061, iv z1078, iv z1095] []))
                    refine own_via (fun k => XS.iload X1103.here hx rfl (hb hby at_341) rfl  (XS.aload X1103.here hx rfl (hb hby at_343) rfl rfl  (XS.iconst X1103.here hx rfl (hb hby at_345) k))) ?_
                    show own_Go p e below s _ _ (T1103.setTop (mkF m 346 #[iv p0, iv p1, iv p2, rv b1, jv 0, .second, jv 1, .second, jv 2, .second, rv b66, rv b123, rv b191, iv 5, iv 2, iv 0, iv 1, iv 1, iv 0, iv z1061, iv z1078, iv z1095] [(.int 2), (.ref b123), (.int z1095)]))
                    obtain ⟨cl1104, Ar1104, q1104, S1104, NN1104, H1104, G1104⟩ := id B1092
                    have hin1104 : ¬ ((2 : Int32) < 0 ∨ cl1104.slots.size ≤ ((2 : Int32)).toNatClampNeg) := inb_of S1104 ⟨by decide, by decide⟩
                    have hat1104 : cl1104.slots[((2 : Int32)).toNatClampNeg]? = some (.int (nar .boolean z174)) := H1104.at hin1104 rfl
                    refine own_via (fun k => X1103.baloadBooleans hx (j := (2 : Int32)) (v := (.int (nar .boolean z174))) (by rw [e1103]; exact Ar1104.1) (State.isArrayOf_alike hZ.alike Ar1104.2.1) Ar1104.2.2 hin1104 hat1104 (g := (mkF m 346 #[iv p0, iv p1, iv p2, rv b1, jv 0, .second, jv 1, .second, jv 2, .second, rv b66, rv b123, rv b191, iv 5, iv 2, iv 0, iv 1, iv 1, iv 0, iv z1061, iv z1078, iv z1095] [(.int 2), (.ref b123), (.int z1095)])) rfl rfl (hb hby at_346) _ k) ?_
                    show own_Go p e below s _ _ (T1103.setTop (mkF m 347 #[iv p0, iv p1, iv p2, rv b1, jv 0, .second, jv 1, .second, jv 2, .second, rv b66, rv b123, rv b191, iv 5, iv 2, iv 0, iv 1, iv 1, iv 0, iv z1061, iv z1078, iv z1095] [(.int (nar .boolean z174)), (.int z1095)]))
                    have J1107 : ∀ (T1107 : State) (lo1107 : List Loc), Stand p l e room_1 s m #[(.int p0), (.int p1), (.int p2)] below meth c T1107 lo1107 5 27 → Fr n0 lo1107 → T1107.heap = T1079.heap → ∀ (z1106 : Int32), z1106 = (if (nar .boolean z174) = (0 : Int32) then (0 : Int32) else (if (nar .boolean z246) = (0 : Int32) then (0 : Int32) else (1 : Int32))) → own_Go p e below s (Q0 Z p0 p1 p2 h0 n0) (room_1.cells, room_1.slots) (T1107.setTop (mkF m 362 #[iv p0, iv p1, iv p2, rv b1, jv 0, .second, jv 1, .second, jv 2, .second, rv b66, rv b123, rv b191, iv 5, iv 2, iv 0, iv 1, iv 1, iv 0, iv z1061, iv z1078, iv z1095] [(.int z1106), (.int z1095)])) := by
                      intro T1107 lo1107 X1107 N1107 e1107 z1106 hz1106
                      refine own_via (fun k => XS.icmpNo X1107.here hx rfl (hb hby at_362) rfl (teq (own_law5_362 p0 p1 p2 z140 hz140 z157 hz157 z174 hz174 z210 hz210 z228 hz228 z246 hz246 z992 hz992 z1010 hz1010 z1028 hz1028 z1095 hz1095 z1106 hz1106 hl264)).2 k) ?_
                      show own_Go p e below s _ _ (T1107.setTop (mkF m 365 #[iv p0, iv p1, iv p2, rv b1, jv 0, .second, jv 1, .second, jv 2, .second, rv b66, rv b123, rv b191, iv 5, iv 2, iv 0, iv 1, iv 1, iv 0, iv z1061, iv z1078, iv z1095] []))
                      refine own_via (fun k => XS.iconst X1107.here hx rfl (hb hby at_365) (XS.goto X1107.here hx rfl (pc0 := 366) (pc' := 370) rfl (hb hby at_366) (by decide) (by decide) k)) ?_
                      show own_Go p e below s _ _ (T1107.setTop (mkF m 370 #[iv p0, iv p1, iv p2, rv b1, jv 0, .second, jv 1, .second, jv 2, .second, rv b66, rv b123, rv b191, iv 5, iv 2, iv 0, iv 1, iv 1, iv 0, iv z1061, iv z1078, iv z1095] [(.int 1)]))
                      exact own_retN X1107 hx hlk (t := .boolean) Bd.returns (by simp) (hb hby at_370) (Q := (Q0 Z p0 p1 p2 h0 n0)) ⟨rfl, N1107⟩ (by decide) (by decide)
                    by_cases hc1108 : (nar .boolean z174) = (0 : Int32)
                    · refine own_via (fun k => XS.ifYes X1103.here hx rfl (pc0 := 347) (pc' := 361) rfl (hb hby at_347) rfl ((if0 _ _).trans (teq hc1108).1) (by decide) (by decide) k) ?_
                      show own_Go p e below s _ _ (T1103.setTop (mkF m 361 #[iv p0, iv p1, iv p2, rv b1, jv 0, .second, jv 1, .second, jv 2, .second, rv b66, rv b123, rv b191, iv 5, iv 2, iv 0, iv 1, iv 1, iv 0, iv z1061, iv z1078, iv z1095] [(.int z1095)]))
                      refine own_via (fun k => XS.iconst X1103.here hx rfl (hb hby at_361) k) ?_
                      show own_Go p e below s _ _ (T1103.setTop (mkF m 362 #[iv p0, iv p1, iv p2, rv b1, jv 0, .second, jv 1, .second, jv 2, .second, rv b66, rv b123, rv b191, iv 5, iv 2, iv 0, iv 1, iv 1, iv 0, iv z1061, iv z1078, iv z1095] [(.int 0), (.int z1095)]))
                      exact J1107 _ _ X1103 N1103 e1103 (0 : Int32) (((if_pos hc1108).trans rfl)).symm
                    · refine own_via (fun k => XS.ifNo X1103.here hx rfl (hb hby at_347) rfl ((if0 _ _).trans (feq hc1108).1) k) ?_
                      show own_Go p e below s _ _ (T1103.setTop (mkF m 350 #[iv p0, iv p1, iv p2, rv b1, jv 0, .second, jv 1, .second, jv 2, .second, rv b66, rv b123, rv b191, iv 5, iv 2, iv 0, iv 1, iv 1, iv 0, iv z1061, iv z1078, iv z1095] [(.int z1095)]))
                      refine own_via (fun k => XS.aload X1103.here hx rfl (hb hby at_350) rfl rfl  (XS.iconst X1103.here hx rfl (hb hby at_352) k)) ?_
                      show own_Go p e below s _ _ (T1103.setTop (mkF m 353 #[iv p0, iv p1, iv p2, rv b1, jv 0, .second, jv 1, .second, jv 2, .second, rv b66, rv b123, rv b191, iv 5, iv 2, iv 0, iv 1, iv 1, iv 0, iv z1061, iv z1078, iv z1095] [(.int 2), (.ref b191), (.int z1095)]))
                      obtain ⟨cl1109, Ar1109, q1109, S1109, NN1109, H1109, G1109⟩ := id B1093
                      have hin1109 : ¬ ((2 : Int32) < 0 ∨ cl1109.slots.size ≤ ((2 : Int32)).toNatClampNeg) := inb_of S1109 ⟨by decide, by decide⟩
                      have hat1109 : cl1109.slots[((2 : Int32)).toNatClampNeg]? = some (.int (nar .boolean z246)) := H1109.at hin1109 rfl
                      refine own_via (fun k => X1103.baloadBooleans hx (j := (2 : Int32)) (v := (.int (nar .boolean z246))) (by rw [e1103]; exact Ar1109.1) (State.isArrayOf_alike hZ.alike Ar1109.2.1) Ar1109.2.2 hin1109 hat1109 (g := (mkF m 353 #[iv p0, iv p1, iv p2, rv b1, jv 0, .second, jv 1, .second, jv 2, .second, rv b66, rv b123, rv b191, iv 5, iv 2, iv 0, iv 1, iv 1, iv 0, iv z1061, iv z1078, iv z1095] [(.int 2), (.ref b191), (.int z1095)])) rfl rfl (hb hby at_353) _ k) ?_
                      show own_Go p e below s _ _ (T1103.setTop (mkF m 354 #[iv p0, iv p1, iv p2, rv b1, jv 0, .second, jv 1, .second, jv 2, .second, rv b66, rv b123, rv b191, iv 5, iv 2, iv 0, iv 1, iv 1, iv 0, iv z1061, iv z1078, iv z1095] [(.int (nar .boolean z246)), (.int z1095)]))
                      by_cases hc1110 : (nar .boolean z246) = (0 : Int32)
                      · refine own_via (fun k => XS.ifYes X1103.here hx rfl (pc0 := 354) (pc' := 361) rfl (hb hby at_354) rfl ((if0 _ _).trans (teq hc1110).1) (by decide) (by decide) k) ?_
                        show own_Go p e below s _ _ (T1103.setTop (mkF m 361 #[iv p0, iv p1, iv p2, rv b1, jv 0, .second, jv 1, .second, jv 2, .second, rv b66, rv b123, rv b191, iv 5, iv 2, iv 0, iv 1, iv 1, iv 0, iv z1061, iv z1078, iv z1095] [(.int z1095)]))
                        refine own_via (fun k => XS.iconst X1103.here hx rfl (hb hby at_361) k) ?_
                        show own_Go p e below s _ _ (T1103.setTop (mkF m 362 #[iv p0, iv p1, iv p2, rv b1, jv 0, .second, jv 1, .second, jv 2, .second, rv b66, rv b123, rv b191, iv 5, iv 2, iv 0, iv 1, iv 1, iv 0, iv z1061, iv z1078, iv z1095] [(.int 0), (.int z1095)]))
                        exact J1107 _ _ X1103 N1103 e1103 (0 : Int32) (((if_neg hc1108).trans ((if_pos hc1110).trans rfl))).symm
                      · refine own_via (fun k => XS.ifNo X1103.here hx rfl (hb hby at_354) rfl ((if0 _ _).trans (feq hc1110).1) k) ?_
                        show own_Go p e below s _ _ (T1103.setTop (mkF m 357 #[iv p0, iv p1, iv p2, rv b1, jv 0, .second, jv 1, .second, jv 2, .second, rv b66, rv b123, rv b191, iv 5, iv 2, iv 0, iv 1, iv 1, iv 0, iv z1061, iv z1078, iv z1095] [(.int z1095)]))
                        refine own_via (fun k => XS.iconst X1103.here hx rfl (hb hby at_357) (XS.goto X1103.here hx rfl (pc0 := 358) (pc' := 362) rfl (hb hby at_358) (by decide) (by decide) k)) ?_
                        show own_Go p e below s _ _ (T1103.setTop (mkF m 362 #[iv p0, iv p1, iv p2, rv b1, jv 0, .second, jv 1, .second, jv 2, .second, rv b66, rv b123, rv b191, iv 5, iv 2, iv 0, iv 1, iv 1, iv 0, iv z1061, iv z1078, iv z1095] [(.int 1), (.int z1095)]))
                        exact J1107 _ _ X1103 N1103 e1103 (1 : Int32) (((if_neg hc1108).trans ((if_neg hc1110).trans rfl))).symm
                  by_cases hc1111 : (nar .boolean z157) = (0 : Int32)
                  · refine own_via (fun k => XS.ifYes X1099.here hx rfl (pc0 := 323) (pc' := 337) rfl (hb hby at_323) rfl ((if0 _ _).trans (teq hc1111).1) (by decide) (by decide) k) ?_
                    show own_Go p e below s _ _ (T1099.setTop (mkF m 337 #[iv p0, iv p1, iv p2, rv b1, jv 0, .second, jv 1, .second, jv 2, .second, rv b66, rv b123, rv b191, iv 5, iv 2, iv 0, iv 1, iv 1, iv 0, iv z1061, iv z1078, iv z1095] [(.int z1078)]))
                    refine own_via (fun k => XS.iconst X1099.here hx rfl (hb hby at_337) k) ?_
                    show own_Go p e below s _ _ (T1099.setTop (mkF m 338 #[iv p0, iv p1, iv p2, rv b1, jv 0, .second, jv 1, .second, jv 2, .second, rv b66, rv b123, rv b191, iv 5, iv 2, iv 0, iv 1, iv 1, iv 0, iv z1061, iv z1078, iv z1095] [(.int 0), (.int z1078)]))
                    exact J1103 _ _ X1099 N1099 e1099 (0 : Int32) (((if_pos hc1111).trans rfl)).symm
                  · refine own_via (fun k => XS.ifNo X1099.here hx rfl (hb hby at_323) rfl ((if0 _ _).trans (feq hc1111).1) k) ?_
                    show own_Go p e below s _ _ (T1099.setTop (mkF m 326 #[iv p0, iv p1, iv p2, rv b1, jv 0, .second, jv 1, .second, jv 2, .second, rv b66, rv b123, rv b191, iv 5, iv 2, iv 0, iv 1, iv 1, iv 0, iv z1061, iv z1078, iv z1095] [(.int z1078)]))
                    refine own_via (fun k => XS.aload X1099.here hx rfl (hb hby at_326) rfl rfl  (XS.iconst X1099.here hx rfl (hb hby at_328) k)) ?_
                    show own_Go p e below s _ _ (T1099.setTop (mkF m 329 #[iv p0, iv p1, iv p2, rv b1, jv 0, .second, jv 1, .second, jv 2, .second, rv b66, rv b123, rv b191, iv 5, iv 2, iv 0, iv 1, iv 1, iv 0, iv z1061, iv z1078, iv z1095] [(.int 1), (.ref b191), (.int z1078)]))
                    obtain ⟨cl1112, Ar1112, q1112, S1112, NN1112, H1112, G1112⟩ := id B1093
                    have hin1112 : ¬ ((1 : Int32) < 0 ∨ cl1112.slots.size ≤ ((1 : Int32)).toNatClampNeg) := inb_of S1112 ⟨by decide, by decide⟩
                    have hat1112 : cl1112.slots[((1 : Int32)).toNatClampNeg]? = some (.int (nar .boolean z228)) := H1112.at hin1112 rfl
                    refine own_via (fun k => X1099.baloadBooleans hx (j := (1 : Int32)) (v := (.int (nar .boolean z228))) (by rw [e1099]; exact Ar1112.1) (State.isArrayOf_alike hZ.alike Ar1112.2.1) Ar1112.2.2 hin1112 hat1112 (g := (mkF m 329 #[iv p0, iv p1, iv p2, rv b1, jv 0, .second, jv 1, .second, jv 2, .second, rv b66, rv b123, rv b191, iv 5, iv 2, iv 0, iv 1, iv 1, iv 0, iv z1061, iv z1078, iv z1095] [(.int 1), (.ref b191), (.int z1078)])) rfl rfl (hb hby at_329) _ k) ?_
                    show own_Go p e below s _ _ (T1099.setTop (mkF m 330 #[iv p0, iv p1, iv p2, rv b1, jv 0, .second, jv 1, .second, jv 2, .second, rv b66, rv b123, rv b191, iv 5, iv 2, iv 0, iv 1, iv 1, iv 0, iv z1061, iv z1078, iv z1095] [(.int (nar .boolean z228)), (.int z1078)]))
                    by_cases hc1113 : (nar .boolean z228) = (0 : Int32)
                    · refine own_via (fun k => XS.ifYes X1099.here hx rfl (pc0 := 330) (pc' := 337) rfl (hb hby at_330) rfl ((if0 _ _).trans (teq hc1113).1) (by decide) (by decide) k) ?_
                      show own_Go p e below s _ _ (T1099.setTop (mkF m 337 #[iv p0, iv p1, iv p2, rv b1, jv 0, .second, jv 1, .second, jv 2, .second, rv b66, rv b123, rv b191, iv 5, iv 2, iv 0, iv 1, iv 1, iv 0, iv z1061, iv z1078, iv z1095] [(.int z1078)]))
                      refine own_via (fun k => XS.iconst X1099.here hx rfl (hb hby at_337) k) ?_
                      show own_Go p e below s _ _ (T1099.setTop (mkF m 338 #[iv p0, iv p1, iv p2, rv b1, jv 0, .second, jv 1, .second, jv 2, .second, rv b66, rv b123, rv b191, iv 5, iv 2, iv 0, iv 1, iv 1, iv 0, iv z1061, iv z1078, iv z1095] [(.int 0), (.int z1078)]))
                      exact J1103 _ _ X1099 N1099 e1099 (0 : Int32) (((if_neg hc1111).trans ((if_pos hc1113).trans rfl))).symm
                    · refine own_via (fun k => XS.ifNo X1099.here hx rfl (hb hby at_330) rfl ((if0 _ _).trans (feq hc1113).1) k) ?_
                      show own_Go p e below s _ _ (T1099.setTop (mkF m 333 #[iv p0, iv p1, iv p2, rv b1, jv 0, .second, jv 1, .second, jv 2, .second, rv b66, rv b123, rv b191, iv 5, iv 2, iv 0, iv 1, iv 1, iv 0, iv z1061, iv z1078, iv z1095] [(.int z1078)]))
                      refine own_via (fun k => XS.iconst X1099.here hx rfl (hb hby at_333) (XS.goto X1099.here hx rfl (pc0 := 334) (pc' := 338) rfl (hb hby at_334) (by decide) (by decide) k)) ?_
                      show own_Go p e below s _ _ (T1099.setTop (mkF m 338 #[iv p0, iv p1, iv p2, rv b1, jv 0, .second, jv 1, .second, jv 2, .second, rv b66, rv b123, rv b191, iv 5, iv 2, iv 0, iv 1, iv 1, iv 0, iv z1061, iv z1078, iv z1095] [(.int 1), (.int z1078)]))
                      exact J1103 _ _ X1099 N1099 e1099 (1 : Int32) (((if_neg hc1111).trans ((if_neg hc1113).trans rfl))).symm
                by_cases hc1114 : (nar .boolean z140) = (0 : Int32)
                · refine own_via (fun k => XS.ifYes X1079.here hx rfl (pc0 := 299) (pc' := 313) rfl (hb hby at_299) rfl ((if0 _ _).trans (teq hc1114).1) (by decide) (by decide) k) ?_
                  show own_Go p e below s _ _ (T1079.setTop (mkF m 313 #[iv p0, iv p1, iv p2, rv b1, jv 0, .second, jv 1, .second, jv 2, .second, rv b66, rv b123, rv b191, iv 5, iv 2, iv 0, iv 1, iv 1, iv 0, iv z1061, iv z1078, iv z1095] [(.int z1061)]))
                  refine own_via (fun k => XS.iconst X1079.here hx rfl (hb hby at_313) k) ?_
                  show own_Go p e below s _ _ (T1079.setTop (mkF m 314 #[iv p0, iv p1, iv p2, rv b1, jv 0, .second, jv 1, .second, jv 2, .second, rv b66, rv b123, rv b191, iv 5, iv 2, iv 0, iv 1, iv 1, iv 0, iv z1061, iv z1078, iv z1095] [(.int 0), (.int z1061)]))
                  exact J1099 _ _ X1079 N1089 rfl (0 : Int32) (((if_pos hc1114).trans rfl)).symm
                · refine own_via (fun k => XS.ifNo X1079.here hx rfl (hb hby at_299) rfl ((if0 _ _).trans (feq hc1114).1) k) ?_
                  show own_Go p e below s _ _ (T1079.setTop (mkF m 302 #[iv p0, iv p1, iv p2, rv b1, jv 0, .second, jv 1, .second, jv 2, .second, rv b66, rv b123, rv b191, iv 5, iv 2, iv 0, iv 1, iv 1, iv 0, iv z1061, iv z1078, iv z1095] [(.int z1061)]))
                  refine own_via (fun k => XS.aload X1079.here hx rfl (hb hby at_302) rfl rfl  (XS.iconst X1079.here hx rfl (hb hby at_304) k)) ?_
                  show own_Go p e below s _ _ (T1079.setTop (mkF m 305 #[iv p0, iv p1, iv p2, rv b1, jv 0, .second, jv 1, .second, jv 2, .second, rv b66, rv b123, rv b191, iv 5, iv 2, iv 0, iv 1, iv 1, iv 0, iv z1061, iv z1078, iv z1095] [(.int 0), (.ref b191), (.int z1061)]))
                  obtain ⟨cl1115, Ar1115, q1115, S1115, NN1115, H1115, G1115⟩ := id B1093
                  have hin1115 : ¬ ((0 : Int32) < 0 ∨ cl1115.slots.size ≤ ((0 : Int32)).toNatClampNeg) := inb_of S1115 ⟨by decide, by decide⟩
                  have hat1115 : cl1115.slots[((0 : Int32)).toNatClampNeg]? = some (.int (nar .boolean z210)) := H1115.at hin1115 rfl
                  refine own_via (fun k => X1079.baloadBooleans hx (j := (0 : Int32)) (v := (.int (nar .boolean z210))) Ar1115.1 (State.isArrayOf_alike hZ.alike Ar1115.2.1) Ar1115.2.2 hin1115 hat1115 (g := (mkF m 305 #[iv p0, iv p1, iv p2, rv b1, jv 0, .second, jv 1, .second, jv 2, .second, rv b66, rv b123, rv b191, iv 5, iv 2, iv 0, iv 1, iv 1, iv 0, iv z1061, iv z1078, iv z1095] [(.int 0), (.ref b191), (.int z1061)])) rfl rfl (hb hby at_305) _ k) ?_
                  show own_Go p e below s _ _ (T1079.setTop (mkF m 306 #[iv p0, iv p1, iv p2, rv b1, jv 0, .second, jv 1, .second, jv 2, .second, rv b66, rv b123, rv b191, iv 5, iv 2, iv 0, iv 1, iv 1, iv 0, iv z1061, iv z1078, iv z1095] [(.int (nar .boolean z210)), (.int z1061)]))
                  by_cases hc1116 : (nar .boolean z210) = (0 : Int32)
                  · refine own_via (fun k => XS.ifYes X1079.here hx rfl (pc0 := 306) (pc' := 313) rfl (hb hby at_306) rfl ((if0 _ _).trans (teq hc1116).1) (by decide) (by decide) k) ?_
                    show own_Go p e below s _ _ (T1079.setTop (mkF m 313 #[iv p0, iv p1, iv p2, rv b1, jv 0, .second, jv 1, .second, jv 2, .second, rv b66, rv b123, rv b191, iv 5, iv 2, iv 0, iv 1, iv 1, iv 0, iv z1061, iv z1078, iv z1095] [(.int z1061)]))
                    refine own_via (fun k => XS.iconst X1079.here hx rfl (hb hby at_313) k) ?_
                    show own_Go p e below s _ _ (T1079.setTop (mkF m 314 #[iv p0, iv p1, iv p2, rv b1, jv 0, .second, jv 1, .second, jv 2, .second, rv b66, rv b123, rv b191, iv 5, iv 2, iv 0, iv 1, iv 1, iv 0, iv z1061, iv z1078, iv z1095] [(.int 0), (.int z1061)]))
                    exact J1099 _ _ X1079 N1089 rfl (0 : Int32) (((if_neg hc1114).trans ((if_pos hc1116).trans rfl))).symm
                  · refine own_via (fun k => XS.ifNo X1079.here hx rfl (hb hby at_306) rfl ((if0 _ _).trans (feq hc1116).1) k) ?_
                    show own_Go p e below s _ _ (T1079.setTop (mkF m 309 #[iv p0, iv p1, iv p2, rv b1, jv 0, .second, jv 1, .second, jv 2, .second, rv b66, rv b123, rv b191, iv 5, iv 2, iv 0, iv 1, iv 1, iv 0, iv z1061, iv z1078, iv z1095] [(.int z1061)]))
                    refine own_via (fun k => XS.iconst X1079.here hx rfl (hb hby at_309) (XS.goto X1079.here hx rfl (pc0 := 310) (pc' := 314) rfl (hb hby at_310) (by decide) (by decide) k)) ?_
                    show own_Go p e below s _ _ (T1079.setTop (mkF m 314 #[iv p0, iv p1, iv p2, rv b1, jv 0, .second, jv 1, .second, jv 2, .second, rv b66, rv b123, rv b191, iv 5, iv 2, iv 0, iv 1, iv 1, iv 0, iv z1061, iv z1078, iv z1095] [(.int 1), (.int z1061)]))
                    exact J1099 _ _ X1079 N1089 rfl (1 : Int32) (((if_neg hc1114).trans ((if_neg hc1116).trans rfl))).symm
            by_cases hc1117 : (p2 &&& (4 : Int32)) = (0 : Int32)
            · refine own_via (fun k => XS.ifYes X230.here hx rfl (pc0 := 129) (pc' := 136) rfl (hb hby at_129) rfl ((if0 _ _).trans (teq hc1117).1) (by decide) (by decide) k) ?_
              show own_Go p e below s _ _ (T230.setTop (mkF m 136 #[iv p0, iv p1, iv p2, rv b1, jv 0, .second, jv 1, .second, jv 2, .second, rv b66, rv b123, .unset, .unset, .unset, .unset, .unset, .unset, .unset, .unset, .unset, .unset] [(.int 2), (.ref b191), (.ref b191)]))
              refine own_via (fun k => XS.iconst X230.here hx rfl (hb hby at_136) k) ?_
              show own_Go p e below s _ _ (T230.setTop (mkF m 137 #[iv p0, iv p1, iv p2, rv b1, jv 0, .second, jv 1, .second, jv 2, .second, rv b66, rv b123, .unset, .unset, .unset, .unset, .unset, .unset, .unset, .unset, .unset, .unset] [(.int 0), (.int 2), (.ref b191), (.ref b191)]))
              exact J247 (0 : Int32) (((if_pos hc1117).trans rfl)).symm
            · refine own_via (fun k => XS.ifNo X230.here hx rfl (hb hby at_129) rfl ((if0 _ _).trans (feq hc1117).1) k) ?_
              show own_Go p e below s _ _ (T230.setTop (mkF m 132 #[iv p0, iv p1, iv p2, rv b1, jv 0, .second, jv 1, .second, jv 2, .second, rv b66, rv b123, .unset, .unset, .unset, .unset, .unset, .unset, .unset, .unset, .unset, .unset] [(.int 2), (.ref b191), (.ref b191)]))
              refine own_via (fun k => XS.iconst X230.here hx rfl (hb hby at_132) (XS.goto X230.here hx rfl (pc0 := 133) (pc' := 137) rfl (hb hby at_133) (by decide) (by decide) k)) ?_
              show own_Go p e below s _ _ (T230.setTop (mkF m 137 #[iv p0, iv p1, iv p2, rv b1, jv 0, .second, jv 1, .second, jv 2, .second, rv b66, rv b123, .unset, .unset, .unset, .unset, .unset, .unset, .unset, .unset, .unset, .unset] [(.int 1), (.int 2), (.ref b191), (.ref b191)]))
              exact J247 (1 : Int32) (((if_neg hc1117).trans rfl)).symm
          by_cases hc1118 : (p2 &&& (2 : Int32)) = (0 : Int32)
          · refine own_via (fun k => XS.ifYes X212.here hx rfl (pc0 := 115) (pc' := 122) rfl (hb hby at_115) rfl ((if0 _ _).trans (teq hc1118).1) (by decide) (by decide) k) ?_
            show own_Go p e below s _ _ (T212.setTop (mkF m 122 #[iv p0, iv p1, iv p2, rv b1, jv 0, .second, jv 1, .second, jv 2, .second, rv b66, rv b123, .unset, .unset, .unset, .unset, .unset, .unset, .unset, .unset, .unset, .unset] [(.int 1), (.ref b191), (.ref b191)]))
            refine own_via (fun k => XS.iconst X212.here hx rfl (hb hby at_122) k) ?_
            show own_Go p e below s _ _ (T212.setTop (mkF m 123 #[iv p0, iv p1, iv p2, rv b1, jv 0, .second, jv 1, .second, jv 2, .second, rv b66, rv b123, .unset, .unset, .unset, .unset, .unset, .unset, .unset, .unset, .unset, .unset] [(.int 0), (.int 1), (.ref b191), (.ref b191)]))
            exact J229 (0 : Int32) (((if_pos hc1118).trans rfl)).symm
          · refine own_via (fun k => XS.ifNo X212.here hx rfl (hb hby at_115) rfl ((if0 _ _).trans (feq hc1118).1) k) ?_
            show own_Go p e below s _ _ (T212.setTop (mkF m 118 #[iv p0, iv p1, iv p2, rv b1, jv 0, .second, jv 1, .second, jv 2, .second, rv b66, rv b123, .unset, .unset, .unset, .unset, .unset, .unset, .unset, .unset, .unset, .unset] [(.int 1), (.ref b191), (.ref b191)]))
            refine own_via (fun k => XS.iconst X212.here hx rfl (hb hby at_118) (XS.goto X212.here hx rfl (pc0 := 119) (pc' := 123) rfl (hb hby at_119) (by decide) (by decide) k)) ?_
            show own_Go p e below s _ _ (T212.setTop (mkF m 123 #[iv p0, iv p1, iv p2, rv b1, jv 0, .second, jv 1, .second, jv 2, .second, rv b66, rv b123, .unset, .unset, .unset, .unset, .unset, .unset, .unset, .unset, .unset, .unset] [(.int 1), (.int 1), (.ref b191), (.ref b191)]))
            exact J229 (1 : Int32) (((if_neg hc1118).trans rfl)).symm
        by_cases hc1119 : (p2 &&& (1 : Int32)) = (0 : Int32)
        · refine own_via (fun k => XS.ifYes X191.here hx rfl (pc0 := 101) (pc' := 108) rfl (hb hby at_101) rfl ((if0 _ _).trans (teq hc1119).1) (by decide) (by decide) k) ?_
          show own_Go p e below s _ _ (T191.setTop (mkF m 108 #[iv p0, iv p1, iv p2, rv b1, jv 0, .second, jv 1, .second, jv 2, .second, rv b66, rv b123, .unset, .unset, .unset, .unset, .unset, .unset, .unset, .unset, .unset, .unset] [(.int 0), (.ref b191), (.ref b191)]))
          refine own_via (fun k => XS.iconst X191.here hx rfl (hb hby at_108) k) ?_
          show own_Go p e below s _ _ (T191.setTop (mkF m 109 #[iv p0, iv p1, iv p2, rv b1, jv 0, .second, jv 1, .second, jv 2, .second, rv b66, rv b123, .unset, .unset, .unset, .unset, .unset, .unset, .unset, .unset, .unset, .unset] [(.int 0), (.int 0), (.ref b191), (.ref b191)]))
          exact J211 (0 : Int32) (((if_pos hc1119).trans rfl)).symm
        · refine own_via (fun k => XS.ifNo X191.here hx rfl (hb hby at_101) rfl ((if0 _ _).trans (feq hc1119).1) k) ?_
          show own_Go p e below s _ _ (T191.setTop (mkF m 104 #[iv p0, iv p1, iv p2, rv b1, jv 0, .second, jv 1, .second, jv 2, .second, rv b66, rv b123, .unset, .unset, .unset, .unset, .unset, .unset, .unset, .unset, .unset, .unset] [(.int 0), (.ref b191), (.ref b191)]))
          refine own_via (fun k => XS.iconst X191.here hx rfl (hb hby at_104) (XS.goto X191.here hx rfl (pc0 := 105) (pc' := 109) rfl (hb hby at_105) (by decide) (by decide) k)) ?_
          show own_Go p e below s _ _ (T191.setTop (mkF m 109 #[iv p0, iv p1, iv p2, rv b1, jv 0, .second, jv 1, .second, jv 2, .second, rv b66, rv b123, .unset, .unset, .unset, .unset, .unset, .unset, .unset, .unset, .unset, .unset] [(.int 1), (.int 0), (.ref b191), (.ref b191)]))
          exact J211 (1 : Int32) (((if_neg hc1119).trans rfl)).symm
      by_cases hc1120 : (p1 &&& (4 : Int32)) = (0 : Int32)
      · refine own_via (fun k => XS.ifYes X159.here hx rfl (pc0 := 82) (pc' := 89) rfl (hb hby at_82) rfl ((if0 _ _).trans (teq hc1120).1) (by decide) (by decide) k) ?_
        show own_Go p e below s _ _ (T159.setTop (mkF m 89 #[iv p0, iv p1, iv p2, rv b1, jv 0, .second, jv 1, .second, jv 2, .second, rv b66, .unset, .unset, .unset, .unset, .unset, .unset, .unset, .unset, .unset, .unset, .unset] [(.int 2), (.ref b123), (.ref b123)]))
        refine own_via (fun k => XS.iconst X159.here hx rfl (hb hby at_89) k) ?_
        show own_Go p e below s _ _ (T159.setTop (mkF m 90 #[iv p0, iv p1, iv p2, rv b1, jv 0, .second, jv 1, .second, jv 2, .second, rv b66, .unset, .unset, .unset, .unset, .unset, .unset, .unset, .unset, .unset, .unset, .unset] [(.int 0), (.int 2), (.ref b123), (.ref b123)]))
        exact J175 (0 : Int32) (((if_pos hc1120).trans rfl)).symm
      · refine own_via (fun k => XS.ifNo X159.here hx rfl (hb hby at_82) rfl ((if0 _ _).trans (feq hc1120).1) k) ?_
        show own_Go p e below s _ _ (T159.setTop (mkF m 85 #[iv p0, iv p1, iv p2, rv b1, jv 0, .second, jv 1, .second, jv 2, .second, rv b66, .unset, .unset, .unset, .unset, .unset, .unset, .unset, .unset, .unset, .unset, .unset] [(.int 2), (.ref b123), (.ref b123)]))
        refine own_via (fun k => XS.iconst X159.here hx rfl (hb hby at_85) (XS.goto X159.here hx rfl (pc0 := 86) (pc' := 90) rfl (hb hby at_86) (by decide) (by decide) k)) ?_
        show own_Go p e below s _ _ (T159.setTop (mkF m 90 #[iv p0, iv p1, iv p2, rv b1, jv 0, .second, jv 1, .second, jv 2, .second, rv b66, .unset, .unset, .unset, .unset, .unset, .unset, .unset, .unset, .unset, .unset, .unset] [(.int 1), (.int 2), (.ref b123), (.ref b123)]))
        exact J175 (1 : Int32) (((if_neg hc1120).trans rfl)).symm
    by_cases hc1121 : (p1 &&& (2 : Int32)) = (0 : Int32)
    · refine own_via (fun k => XS.ifYes X142.here hx rfl (pc0 := 68) (pc' := 75) rfl (hb hby at_68) rfl ((if0 _ _).trans (teq hc1121).1) (by decide) (by decide) k) ?_
      show own_Go p e below s _ _ (T142.setTop (mkF m 75 #[iv p0, iv p1, iv p2, rv b1, jv 0, .second, jv 1, .second, jv 2, .second, rv b66, .unset, .unset, .unset, .unset, .unset, .unset, .unset, .unset, .unset, .unset, .unset] [(.int 1), (.ref b123), (.ref b123)]))
      refine own_via (fun k => XS.iconst X142.here hx rfl (hb hby at_75) k) ?_
      show own_Go p e below s _ _ (T142.setTop (mkF m 76 #[iv p0, iv p1, iv p2, rv b1, jv 0, .second, jv 1, .second, jv 2, .second, rv b66, .unset, .unset, .unset, .unset, .unset, .unset, .unset, .unset, .unset, .unset, .unset] [(.int 0), (.int 1), (.ref b123), (.ref b123)]))
      exact J158 (0 : Int32) (((if_pos hc1121).trans rfl)).symm
    · refine own_via (fun k => XS.ifNo X142.here hx rfl (hb hby at_68) rfl ((if0 _ _).trans (feq hc1121).1) k) ?_
      show own_Go p e below s _ _ (T142.setTop (mkF m 71 #[iv p0, iv p1, iv p2, rv b1, jv 0, .second, jv 1, .second, jv 2, .second, rv b66, .unset, .unset, .unset, .unset, .unset, .unset, .unset, .unset, .unset, .unset, .unset] [(.int 1), (.ref b123), (.ref b123)]))
      refine own_via (fun k => XS.iconst X142.here hx rfl (hb hby at_71) (XS.goto X142.here hx rfl (pc0 := 72) (pc' := 76) rfl (hb hby at_72) (by decide) (by decide) k)) ?_
      show own_Go p e below s _ _ (T142.setTop (mkF m 76 #[iv p0, iv p1, iv p2, rv b1, jv 0, .second, jv 1, .second, jv 2, .second, rv b66, .unset, .unset, .unset, .unset, .unset, .unset, .unset, .unset, .unset, .unset, .unset] [(.int 1), (.int 1), (.ref b123), (.ref b123)]))
      exact J158 (1 : Int32) (((if_neg hc1121).trans rfl)).symm
  by_cases hc1122 : (p1 &&& (1 : Int32)) = (0 : Int32)
  · refine own_via (fun k => XS.ifYes X123.here hx rfl (pc0 := 54) (pc' := 61) rfl (hb hby at_54) rfl ((if0 _ _).trans (teq hc1122).1) (by decide) (by decide) k) ?_
    show own_Go p e below s _ _ (T123.setTop (mkF m 61 #[iv p0, iv p1, iv p2, rv b1, jv 0, .second, jv 1, .second, jv 2, .second, rv b66, .unset, .unset, .unset, .unset, .unset, .unset, .unset, .unset, .unset, .unset, .unset] [(.int 0), (.ref b123), (.ref b123)]))
    refine own_via (fun k => XS.iconst X123.here hx rfl (hb hby at_61) k) ?_
    show own_Go p e below s _ _ (T123.setTop (mkF m 62 #[iv p0, iv p1, iv p2, rv b1, jv 0, .second, jv 1, .second, jv 2, .second, rv b66, .unset, .unset, .unset, .unset, .unset, .unset, .unset, .unset, .unset, .unset, .unset] [(.int 0), (.int 0), (.ref b123), (.ref b123)]))
    exact J141 (0 : Int32) (((if_pos hc1122).trans rfl)).symm
  · refine own_via (fun k => XS.ifNo X123.here hx rfl (hb hby at_54) rfl ((if0 _ _).trans (feq hc1122).1) k) ?_
    show own_Go p e below s _ _ (T123.setTop (mkF m 57 #[iv p0, iv p1, iv p2, rv b1, jv 0, .second, jv 1, .second, jv 2, .second, rv b66, .unset, .unset, .unset, .unset, .unset, .unset, .unset, .unset, .unset, .unset, .unset] [(.int 0), (.ref b123), (.ref b123)]))
    refine own_via (fun k => XS.iconst X123.here hx rfl (hb hby at_57) (XS.goto X123.here hx rfl (pc0 := 58) (pc' := 62) rfl (hb hby at_58) (by decide) (by decide) k)) ?_
    show own_Go p e below s _ _ (T123.setTop (mkF m 62 #[iv p0, iv p1, iv p2, rv b1, jv 0, .second, jv 1, .second, jv 2, .second, rv b66, .unset, .unset, .unset, .unset, .unset, .unset, .unset, .unset, .unset, .unset, .unset] [(.int 1), (.int 0), (.ref b123), (.ref b123)]))
    exact J141 (1 : Int32) (((if_neg hc1122).trans rfl)).symm
set_option maxRecDepth 65536 in
set_option maxHeartbeats 40000000 in
theorem comes_1 {Post : Tables → Env → Array Value → State → Outcome → State → Prop} (hpost : ∀ tb e args s v u, (limb_1_1.after args s (.returned v) u = true ∧ limb_1_2.after args s (.returned v) u = true ∧ True) → FrameEnd s (.returned v) u (Jvm.fieldLocs frame_1_writes args s ++ Jvm.arrayLocs frame_1_arrays args s ++ Jvm.staticLocs frame_1_statics s) 24 128 → Post tb e args s (.returned v) u) :
    ArmFor flags0 classFile x code maxLocals ret World_1 tables_1 room_1 Calls_1 rest_1 Pre_1 Post := by
  intro l hfl _ _ p e ha hc hk s m args below hf hA hF happ hP
  obtain ⟨hcalls, hrest, hpre⟩ := hP
  obtain ⟨-, -, -, hnamed, -, -, -, hat⟩ := (Spec.applies_iff hf).mp happ
  obtain ⟨hg, hn⟩ := and_e (Cond.before_iff.mp (show (Jvm.Cond.and given_1 narrow_1).before args s = true from hpre))
  obtain ⟨g1, g2⟩ := and_e hg
  obtain ⟨g3, g4⟩ := and_e g2
  obtain ⟨g5, g6⟩ := and_e g4
  obtain ⟨w0, w1, w2, rfl⟩ : ∃ w0 w1 w2 : Value, args = #[w0, w1, w2] := by
    have hs : args.size = 3 := by simpa [Cond.value, given_1] using g1
    obtain ⟨L⟩ := args
    match L, hs with
    | [w0, w1, w2], _ => exact ⟨w0, w1, w2, rfl⟩
  have hw := fun d (hd : d ∈ tables_1) => atoms_spec (ws := Jvm.Cond.code x code maxLocals ret :: tables_1) hat d (List.mem_cons_of_mem _ hd)
  obtain ⟨i0, ei0⟩ := is_v g3
  obtain rfl : w0 = (.int i0) := Option.some.inj ei0
  obtain ⟨i1, ei1⟩ := is_v g5
  obtain rfl : w1 = (.int i1) := Option.some.inj ei1
  obtain ⟨i2, ei2⟩ := is_v g6
  obtain rfl : w2 = (.int i2) := Option.some.inj ei2
  obtain ⟨n, o, h1, h2, h3, _, L, rfl, ⟨rfl, N⟩, hq⟩ := rm0 l s _ hw tables_1 i0 i1 i2 s.heap s.heap.size (Nat.le_refl _) p e ha hc hk s m _ below hf ((Spec.applies_iff_loose hf).mp happ).1 ⟨rfl, State.Warmed39.refl s, rfl⟩ trivial
  refine ⟨n, _, h1, h2, h3, hpost _ _ _ _ _ _ ⟨Cond.after_iff.mpr rfl, Cond.after_iff.mpr (eq_i res_at (Term.int_eval (1)) rfl), trivial⟩ ⟨hq.1, hq.2.1, (hq.2.2.sift fun y hy => Or.inr (N y hy)).mono (by decide) (by decide)⟩⟩
theorem main_1_1 : Claimed_1_1 := comes_1 fun _ _ _ _ _ _ h hF => ⟨h.1, hF⟩
theorem main_1_2 : Claimed_1_2 := comes_1 fun _ _ _ _ _ _ h hF => ⟨h.2.1, hF⟩
end Jvm.Pilot.@@N@@
namespace Jvm.Pilot.@@N@@
open Jvm Jvm.ClassFile Sem Op Lib Jvm.Free Jvm.Stand Jvm.Pilot.@@N@@.Jvm.D
/-! MADE BY PROGRAM (witnessworld.py) out of the Statement's table words and the real class files: 13 classes; the members and pool entries that the words name. The judged class is class 1, her method 2. -/
namespace start1
open Jvm.ClassFile
def u (s : String) : CpInfo := .utf8 (stringToUtf16 s)
/-- a pool by its gaps: so many unusable entries, then the entry; so many at the end -/
def gap : Nat → List CpInfo → List CpInfo
  | 0, r => r
  | n + 1, r => .unusable :: gap n r
def poolList (es : List (Nat × CpInfo)) (last : Nat) : List CpInfo := es.foldr (fun e r => gap e.1 (e.2 :: r)) (gap last [])
def pool (es : List (Nat × CpInfo)) (last : Nat) : Array CpInfo := ⟨poolList es last⟩
def fileOf (pool : Array CpInfo) (this : Nat) (attrs : Array Attribute := #[]) (ms : Array MethodInfo := #[]) (fl : Nat := 33) (sup : Nat := 0) (ifs : Array Nat := #[]) (fds : Array FieldInfo := #[]) : ClassFile where
  minorVersion := 0
  majorVersion := 65
  constantPool := pool
  accessFlags := fl
  thisClass := this
  superClass := sup
  interfaces := ifs
  fields := fds
  methods := ms
  attributes := attrs
def plain (name : String) (sup : Option ClassId) : Class where
  name := name
  kind := .ordinary
  loader := none
  accessFlags := 33
  super := sup
  interfaces := #[]
  cf := none
  fields := #[]
  methods := #[]
  instanceTypes := #[]
  staticTypes := #[]
  resolved := #[]
  callSites := []
  init := .initialized
  statics := none
  mirror := none

def pool0 : Array CpInfo := pool [(5, u "<init>"), (0, u "()V"), (1, .class_ 10), (1, u "java/lang/Object")] 113

def k0c0 : Code := { maxStack := 0, maxLocals := 1, code := object_method_1_code, exceptionTable := #[], attributes := #[] }
def k0m0 : Method := { name := "<init>", desc := "()V", sig := { parameters := [], returnType := none }, accessFlags := 1, code := some k0c0 }
/-- java/lang/Object -/
def k0 : Class := { plain "java/lang/Object" none with
  accessFlags := 33
  interfaces := #[]
  cf := some (fileOf pool0 8 #[] #[{ accessFlags := 1, nameIndex := 5, descriptorIndex := 6, attributes := #[] }] 33 0 #[] #[])
  fields := #[]
  methods := #[k0m0]
  instanceTypes := #[]
  staticTypes := #[]
  resolved := Array.replicate 124 none
  statics := none }

def pool1 : Array CpInfo := pool [(2, .class_ 4), (0, .nameAndType 5 6), (0, u "java/lang/Object"), (0, u "<init>"), (0, u "()V"), (0, .methodref 8 9), (0, .class_ 10), (0, .nameAndType 11 12), (0, u "com/example/tree_to_rows/treetorows/query/Outcomes"), (0, u "set"), (0, u "(JZ)V"), (0, .methodref 8 3), (0, .methodref 8 15), (0, .nameAndType 16 17), (0, u "place"), (0, u "()J"), (0, .integer 2147483647), (0, .methodref 20 21), (0, .class_ 22), (0, .nameAndType 23 24), (0, u "com/example/tree_to_rows/treetorows/query/OutcomesSetPinLaw"), (0, u "step"), (0, u "(Lcom/example/tree_to_rows/treetorows/query/Outcomes;[J[Z[ZI)V"), (0, .methodref 8 26), (0, .nameAndType 27 6), (0, u "rewind"), (0, .methodref 8 29), (0, .nameAndType 30 31), (0, u "next"), (0, u "()Z"), (0, .long 2), (4, u "law"), (0, u "(III)Z")] 6

def k1m0 : Method := { name := "<init>", desc := "()V", sig := { parameters := [], returnType := none }, accessFlags := 1, code := none }
def k1c1 : Code := { maxStack := 5, maxLocals := 5, code := method_2_code, exceptionTable := #[], attributes := #[] }
def k1m1 : Method := { name := "step", desc := "(Lcom/example/tree_to_rows/treetorows/query/Outcomes;[J[Z[ZI)V", sig := { parameters := [(.object "com/example/tree_to_rows/treetorows/query/Outcomes"), (.array .long), (.array .boolean), (.array .boolean), .int], returnType := none }, accessFlags := 10, code := some k1c1 }
def k1c2 : Code := { maxStack := 5, maxLocals := 22, code := code, exceptionTable := #[], attributes := #[] }
def k1m2 : Method := { name := "law", desc := "(III)Z", sig := { parameters := [.int, .int, .int], returnType := some .boolean }, accessFlags := 9, code := some k1c2 }
/-- com/example/tree_to_rows/treetorows/query/OutcomesSetPinLaw -/
def k1 : Class := { plain "com/example/tree_to_rows/treetorows/query/OutcomesSetPinLaw" (some 0) with
  accessFlags := 49
  interfaces := #[]
  cf := some (fileOf pool1 20 #[] #[{ accessFlags := 1, nameIndex := 5, descriptorIndex := 6, attributes := #[] }, { accessFlags := 10, nameIndex := 23, descriptorIndex := 24, attributes := #[] }, { accessFlags := 9, nameIndex := 37, descriptorIndex := 38, attributes := #[] }] 49 2 #[] #[])
  fields := #[]
  methods := #[k1m0, k1m1, k1m2]
  instanceTypes := #[]
  staticTypes := #[]
  resolved := Array.replicate 45 none
  statics := none }

def pool2 : Array CpInfo := pool [(1, .class_ 2), (0, u "com/example/tree_to_rows/treetorows/query/Outcomes"), (0, .methodref 4 5), (0, .class_ 6), (0, .nameAndType 7 8), (0, u "java/lang/Object"), (0, u "<init>"), (0, u "()V"), (0, .fieldref 1 10), (0, .nameAndType 11 12), (0, u "words"), (0, u "[J"), (0, .fieldref 1 14), (0, .nameAndType 15 16), (0, u "size"), (0, u "I"), (0, .fieldref 1 18), (0, .nameAndType 19 16), (0, u "used"), (0, .fieldref 1 21), (0, .nameAndType 22 16), (0, u "waiting"), (0, .methodref 1 24), (0, .nameAndType 25 8), (0, u "take"), (0, .long 63), (1, .fieldref 1 29), (0, .nameAndType 30 31), (0, u "current"), (0, u "J"), (0, .fieldref 1 33), (0, .nameAndType 34 31), (0, u "read"), (0, .fieldref 1 36), (0, .nameAndType 37 31), (0, u "bits"), (9, .fieldref 1 48), (0, .nameAndType 49 16), (0, u "readWord"), (0, .long 9223372036854775808), (1, .long 4611686018427387904), (1, .fieldref 1 55), (0, .nameAndType 56 16), (0, u "readBit"), (0, .fieldref 1 58), (0, .nameAndType 59 31), (0, u "readGroup"), (0, .long 4611686018427387903), (14, u "GROUP"), (2, u "FILL"), (0, u "ONES"), (0, u "GROUPS"), (0, u "FULL"), (2, u "place"), (0, u "()J"), (0, u "set"), (0, u "(JZ)V"), (1, u "next"), (0, u "()Z"), (0, u "rewind")] 18

def k2c0 : Code := { maxStack := 2, maxLocals := 1, code := prog_24_method_1_code, exceptionTable := #[], attributes := #[] }
def k2m0 : Method := { name := "<init>", desc := "()V", sig := { parameters := [], returnType := none }, accessFlags := 0, code := some k2c0 }
def k2c1 : Code := { maxStack := 4, maxLocals := 3, code := prog_24_method_2_code, exceptionTable := #[], attributes := #[] }
def k2m1 : Method := { name := "place", desc := "()J", sig := { parameters := [], returnType := some .long }, accessFlags := 0, code := some k2c1 }
def k2c2 : Code := { maxStack := 6, maxLocals := 7, code := prog_24_method_3_code, exceptionTable := #[], attributes := #[] }
def k2m2 : Method := { name := "set", desc := "(JZ)V", sig := { parameters := [.long, .boolean], returnType := none }, accessFlags := 0, code := some k2c2 }
def k2c3 : Code := { maxStack := 6, maxLocals := 4, code := prog_24_method_4_code, exceptionTable := #[], attributes := #[] }
def k2m3 : Method := { name := "next", desc := "()Z", sig := { parameters := [], returnType := some .boolean }, accessFlags := 0, code := some k2c3 }
def k2c4 : Code := { maxStack := 3, maxLocals := 1, code := prog_24_method_5_code, exceptionTable := #[], attributes := #[] }
def k2m4 : Method := { name := "rewind", desc := "()V", sig := { parameters := [], returnType := none }, accessFlags := 0, code := some k2c4 }
def k2c5 : Code := { maxStack := 5, maxLocals := 1, code := prog_24_method_6_code, exceptionTable := #[], attributes := #[] }
def k2m5 : Method := { name := "take", desc := "()V", sig := { parameters := [], returnType := none }, accessFlags := 2, code := some k2c5 }
/-- com/example/tree_to_rows/treetorows/query/Outcomes -/
def k2 : Class := { plain "com/example/tree_to_rows/treetorows/query/Outcomes" (some 0) with
  accessFlags := 48
  interfaces := #[]
  cf := some (fileOf pool2 1 #[] #[{ accessFlags := 0, nameIndex := 7, descriptorIndex := 8, attributes := #[] }, { accessFlags := 0, nameIndex := 84, descriptorIndex := 85, attributes := #[] }, { accessFlags := 0, nameIndex := 86, descriptorIndex := 87, attributes := #[] }, { accessFlags := 0, nameIndex := 89, descriptorIndex := 90, attributes := #[] }, { accessFlags := 0, nameIndex := 91, descriptorIndex := 8, attributes := #[] }, { accessFlags := 2, nameIndex := 25, descriptorIndex := 8, attributes := #[] }] 48 4 #[] #[{ accessFlags := 26, nameIndex := 75, descriptorIndex := 16, attributes := #[] }, { accessFlags := 26, nameIndex := 78, descriptorIndex := 31, attributes := #[] }, { accessFlags := 26, nameIndex := 79, descriptorIndex := 31, attributes := #[] }, { accessFlags := 26, nameIndex := 80, descriptorIndex := 31, attributes := #[] }, { accessFlags := 26, nameIndex := 81, descriptorIndex := 31, attributes := #[] }, { accessFlags := 2, nameIndex := 11, descriptorIndex := 12, attributes := #[] }, { accessFlags := 2, nameIndex := 15, descriptorIndex := 16, attributes := #[] }, { accessFlags := 2, nameIndex := 30, descriptorIndex := 31, attributes := #[] }, { accessFlags := 2, nameIndex := 19, descriptorIndex := 16, attributes := #[] }, { accessFlags := 2, nameIndex := 22, descriptorIndex := 16, attributes := #[] }, { accessFlags := 2, nameIndex := 37, descriptorIndex := 31, attributes := #[] }, { accessFlags := 2, nameIndex := 49, descriptorIndex := 16, attributes := #[] }, { accessFlags := 2, nameIndex := 59, descriptorIndex := 31, attributes := #[] }, { accessFlags := 2, nameIndex := 56, descriptorIndex := 16, attributes := #[] }, { accessFlags := 2, nameIndex := 34, descriptorIndex := 31, attributes := #[] }])
  fields := #[{ name := "GROUP", type := .int, accessFlags := 26, slot := 0, constantValue := 0 }, { name := "FILL", type := .long, accessFlags := 26, slot := 1, constantValue := 0 }, { name := "ONES", type := .long, accessFlags := 26, slot := 2, constantValue := 0 }, { name := "GROUPS", type := .long, accessFlags := 26, slot := 3, constantValue := 0 }, { name := "FULL", type := .long, accessFlags := 26, slot := 4, constantValue := 0 }, { name := "words", type := (.array .long), accessFlags := 2, slot := 0, constantValue := 0 }, { name := "size", type := .int, accessFlags := 2, slot := 1, constantValue := 0 }, { name := "current", type := .long, accessFlags := 2, slot := 2, constantValue := 0 }, { name := "used", type := .int, accessFlags := 2, slot := 3, constantValue := 0 }, { name := "waiting", type := .int, accessFlags := 2, slot := 4, constantValue := 0 }, { name := "bits", type := .long, accessFlags := 2, slot := 5, constantValue := 0 }, { name := "readWord", type := .int, accessFlags := 2, slot := 6, constantValue := 0 }, { name := "readGroup", type := .long, accessFlags := 2, slot := 7, constantValue := 0 }, { name := "readBit", type := .int, accessFlags := 2, slot := 8, constantValue := 0 }, { name := "read", type := .long, accessFlags := 2, slot := 9, constantValue := 0 }]
  methods := #[k2m0, k2m1, k2m2, k2m3, k2m4, k2m5]
  instanceTypes := #[(.array .long), .int, .long, .int, .int, .long, .int, .long, .int, .long]
  staticTypes := #[.int, .long, .long, .long, .long]
  resolved := Array.replicate 110 none
  statics := none }

def pool3 : Array CpInfo := pool [(1, u "java/lang/Cloneable"), (0, .class_ 1), (0, u "java/lang/Object"), (0, .class_ 3)] 3

/-- java/lang/Cloneable -/
def k3 : Class := { plain "java/lang/Cloneable" (some 0) with
  accessFlags := 1537
  interfaces := #[]
  cf := some (fileOf pool3 2 #[] #[] 1537 4 #[] #[])
  fields := #[]
  methods := #[]
  instanceTypes := #[]
  staticTypes := #[]
  resolved := Array.replicate 8 none
  statics := none }

def pool4 : Array CpInfo := pool [(1, u "java/io/Serializable"), (0, .class_ 1), (0, u "java/lang/Object"), (0, .class_ 3)] 3

/-- java/io/Serializable -/
def k4 : Class := { plain "java/io/Serializable" (some 0) with
  accessFlags := 1537
  interfaces := #[]
  cf := some (fileOf pool4 2 #[] #[] 1537 4 #[] #[])
  fields := #[]
  methods := #[]
  instanceTypes := #[]
  staticTypes := #[]
  resolved := Array.replicate 8 none
  statics := none }

/-- the primitive boolean -/
def k5 : Class := { plain "boolean" none with kind := .primitive 'Z', accessFlags := 0x411 }
/-- [Z -/
def k6 : Class := { plain "[Z" (some 0) with kind := .array 5 .boolean, interfaces := #[3, 4], accessFlags := 1041 }

/-- the primitive byte -/
def k7 : Class := { plain "byte" none with kind := .primitive 'B', accessFlags := 0x411 }
/-- [B -/
def k8 : Class := { plain "[B" (some 0) with kind := .array 7 .byte, interfaces := #[3, 4], accessFlags := 1041 }

/-- the primitive int -/
def k9 : Class := { plain "int" none with kind := .primitive 'I', accessFlags := 0x411 }
/-- [I -/
def k10 : Class := { plain "[I" (some 0) with kind := .array 9 .int, interfaces := #[3, 4], accessFlags := 1041 }

/-- the primitive long -/
def k11 : Class := { plain "long" none with kind := .primitive 'J', accessFlags := 0x411 }
/-- [J -/
def k12 : Class := { plain "[J" (some 0) with kind := .array 11 .long, interfaces := #[3, 4], accessFlags := 1041 }

def heap : Heap := #[]
def classes : Array Class := #[k0, k1, k2, k3, k4, k5, k6, k7, k8, k9, k10, k11, k12]
def interned : List (Array UInt16 × Addr) := []
def slotsUsed : Nat := 0
def theMethod : MethodId := ⟨1, 2⟩
def args0 : Array Value := #[.int 5, .int 3, .int 2]
def aboutOver (below : List Frame) : State where
  vm := { classes := classes, interned := interned.toArray }
  heap := heap
  slotsUsed := slotsUsed
  threads := #[{ frames := .invoking theMethod args0 :: below }]
def below0 : List Frame := [.native { method := ⟨0, 0⟩, args := #[] }]
def about1 : State := aboutOver below0
def p0 : Program := .bare "" "" ""
def e0 : Env := launch0.env 0 0 0
theorem w_frames : about1.frames = Frame.invoking theMethod args0 :: below0 := rfl
set_option maxRecDepth 65536 in
theorem w_args : argsFit about1.vm theMethod args0 = true := by decide +kernel
set_option maxRecDepth 65536 in
theorem w_heap : heapFits about1 = true := by decide +kernel
set_option maxRecDepth 65536 in
theorem w_runnable : about1.curStatus? = some .runnable := by decide +kernel
set_option maxRecDepth 65536 in
theorem w_alone : about1.alone = true := by decide +kernel
set_option maxRecDepth 65536 in
theorem w_named : about1.methodNamed? x = some theMethod := by decide +kernel
set_option maxRecDepth 65536 in
theorem w_hears : about1.hears theMethod below0 = true := by decide +kernel
set_option maxRecDepth 65536 in
theorem w_ripe : about1.ripe theMethod args0 below0 = true := by decide +kernel
theorem w_running : about1.status = .running := rfl
set_option maxRecDepth 65536 in
theorem w_room : about1.hasRoom e0.platform room_1 = true :=
  launch0.hasRoom_least _ room_1 (by decide +kernel) (by decide +kernel) (by decide +kernel) (by decide +kernel) (by decide +kernel) (by decide +kernel)
theorem allAtoms_all (ts : List Jvm.Cond) (a : Array Jvm.Value) (st : Jvm.State) : (allAtoms ts).before a st = ts.all (fun c => c.before a st) := by
  induction ts with
  | nil => rfl
  | cons c t ih =>
    show (Jvm.Cond.and c (allAtoms t)).before a st = _
    rw [Jvm.Cond.before_and, ih, List.all_cons]
def words1 : List Jvm.Cond := Jvm.Cond.code x code maxLocals ret :: tables_1
/-- a 'code' word, met by the world's own term for the bytes: nothing is compared byte by byte -/
theorem code_word {y : MethodName} {bytes : ByteArray} {mx : Nat} {rt : Option FieldType} {a : Array Value} {s : State} {m : MethodId} {meth : Method} {c : Code} (h1 : s.methodNamed? y = some m) (h2 : s.vm.method? m = some meth) (h3 : meth.code = some c) (h4 : c.code = bytes)
    (h5 : (c.maxLocals == mx && c.exceptionTable.isEmpty && decide (c.maxStack ≤ mostOperands) && decide (meth.sig.returnType = rt) && !meth.locks && decide (parseMethodDescriptor y.desc = some meth.sig)) = true) : (Jvm.Cond.code y bytes mx rt).before a s = true := by
  simp only [Bool.and_eq_true, beq_iff_eq, Bool.not_eq_true', decide_eq_true_eq] at h5
  obtain ⟨⟨⟨⟨⟨g1, g2⟩, g3⟩, g4⟩, g5⟩, g6⟩ := h5
  simp [Cond.before, Cond.holds, Cond.value, h1, h2, h3, h4, g1, g2, g3, g4, g5, g6]
def isCode : Jvm.Cond → Bool
  | .code _ _ _ _ => true
  | _ => false
theorem all_split {L : List Jvm.Cond} {P : Jvm.Cond → Bool} (h1 : L.all (fun c => isCode c || P c) = true) (h2 : ∀ c ∈ L.filter isCode, P c = true) : L.all P = true := by
  refine List.all_eq_true.mpr fun c hc => ?_
  have h := List.all_eq_true.mp h1 c hc
  rcases Bool.eq_false_or_eq_true (isCode c) with hi | hi
  · exact h2 c (List.mem_filter.mpr ⟨hc, hi⟩)
  · simpa [hi] using h
set_option maxRecDepth 65536 in
theorem w_c0 : (Jvm.Cond.code x code maxLocals ret).before args0 about1 = true := code_word (m := ⟨1, 2⟩) (meth := k1m2) (c := k1c2) (by decide +kernel) rfl rfl rfl (by decide +kernel)
set_option maxRecDepth 65536 in
theorem w_c1 : (Jvm.Cond.code ({ cls := "com/example/tree_to_rows/treetorows/query/Outcomes", name := "<init>", desc := "()V" } : Jvm.MethodName) prog_24_method_1_code (1 : Nat) (Option.none : Option Jvm.ClassFile.FieldType)).before args0 about1 = true := code_word (m := ⟨2, 0⟩) (meth := k2m0) (c := k2c0) (by decide +kernel) rfl rfl rfl (by decide +kernel)
set_option maxRecDepth 65536 in
theorem w_c2 : (Jvm.Cond.code ({ cls := "java/lang/Object", name := "<init>", desc := "()V" } : Jvm.MethodName) object_method_1_code (1 : Nat) (Option.none : Option Jvm.ClassFile.FieldType)).before args0 about1 = true := code_word (m := ⟨0, 0⟩) (meth := k0m0) (c := k0c0) (by decide +kernel) rfl rfl rfl (by decide +kernel)
set_option maxRecDepth 65536 in
theorem w_c3 : (Jvm.Cond.code ({ cls := "com/example/tree_to_rows/treetorows/query/Outcomes", name := "place", desc := "()J" } : Jvm.MethodName) prog_24_method_2_code (3 : Nat) (Option.some Jvm.ClassFile.FieldType.long)).before args0 about1 = true := code_word (m := ⟨2, 1⟩) (meth := k2m1) (c := k2c1) (by decide +kernel) rfl rfl rfl (by decide +kernel)
set_option maxRecDepth 65536 in
theorem w_c4 : (Jvm.Cond.code ({ cls := "com/example/tree_to_rows/treetorows/query/Outcomes", name := "take", desc := "()V" } : Jvm.MethodName) prog_24_method_6_code (1 : Nat) (Option.none : Option Jvm.ClassFile.FieldType)).before args0 about1 = true := code_word (m := ⟨2, 5⟩) (meth := k2m5) (c := k2c5) (by decide +kernel) rfl rfl rfl (by decide +kernel)
set_option maxRecDepth 65536 in
theorem w_c5 : (Jvm.Cond.code ({ cls := "com/example/tree_to_rows/treetorows/query/OutcomesSetPinLaw", name := "step", desc := "(Lcom/example/tree_to_rows/treetorows/query/Outcomes;[J[Z[ZI)V" } : Jvm.MethodName) method_2_code (5 : Nat) (Option.none : Option Jvm.ClassFile.FieldType)).before args0 about1 = true := code_word (m := ⟨1, 1⟩) (meth := k1m1) (c := k1c1) (by decide +kernel) rfl rfl rfl (by decide +kernel)
set_option maxRecDepth 65536 in
theorem w_c6 : (Jvm.Cond.code ({ cls := "com/example/tree_to_rows/treetorows/query/Outcomes", name := "set", desc := "(JZ)V" } : Jvm.MethodName) prog_24_method_3_code (7 : Nat) (Option.none : Option Jvm.ClassFile.FieldType)).before args0 about1 = true := code_word (m := ⟨2, 2⟩) (meth := k2m2) (c := k2c2) (by decide +kernel) rfl rfl rfl (by decide +kernel)
set_option maxRecDepth 65536 in
theorem w_c7 : (Jvm.Cond.code ({ cls := "com/example/tree_to_rows/treetorows/query/Outcomes", name := "rewind", desc := "()V" } : Jvm.MethodName) prog_24_method_5_code (1 : Nat) (Option.none : Option Jvm.ClassFile.FieldType)).before args0 about1 = true := code_word (m := ⟨2, 4⟩) (meth := k2m4) (c := k2c4) (by decide +kernel) rfl rfl rfl (by decide +kernel)
set_option maxRecDepth 65536 in
theorem w_c8 : (Jvm.Cond.code ({ cls := "com/example/tree_to_rows/treetorows/query/Outcomes", name := "next", desc := "()Z" } : Jvm.MethodName) prog_24_method_4_code (4 : Nat) (Option.some Jvm.ClassFile.FieldType.boolean)).before args0 about1 = true := code_word (m := ⟨2, 3⟩) (meth := k2m3) (c := k2c3) (by decide +kernel) rfl rfl rfl (by decide +kernel)
def codes1 : List Jvm.Cond := [Jvm.Cond.code x code maxLocals ret, Jvm.Cond.code ({ cls := "com/example/tree_to_rows/treetorows/query/Outcomes", name := "<init>", desc := "()V" } : Jvm.MethodName) prog_24_method_1_code (1 : Nat) (Option.none : Option Jvm.ClassFile.FieldType), Jvm.Cond.code ({ cls := "java/lang/Object", name := "<init>", desc := "()V" } : Jvm.MethodName) object_method_1_code (1 : Nat) (Option.none : Option Jvm.ClassFile.FieldType), Jvm.Cond.code ({ cls := "com/example/tree_to_rows/treetorows/query/Outcomes", name := "place", desc := "()J" } : Jvm.MethodName) prog_24_method_2_code (3 : Nat) (Option.some Jvm.ClassFile.FieldType.long), Jvm.Cond.code ({ cls := "com/example/tree_to_rows/treetorows/query/Outcomes", name := "take", desc := "()V" } : Jvm.MethodName) prog_24_method_6_code (1 : Nat) (Option.none : Option Jvm.ClassFile.FieldType), Jvm.Cond.code ({ cls := "com/example/tree_to_rows/treetorows/query/OutcomesSetPinLaw", name := "step", desc := "(Lcom/example/tree_to_rows/treetorows/query/Outcomes;[J[Z[ZI)V" } : Jvm.MethodName) method_2_code (5 : Nat) (Option.none : Option Jvm.ClassFile.FieldType), Jvm.Cond.code ({ cls := "com/example/tree_to_rows/treetorows/query/Outcomes", name := "set", desc := "(JZ)V" } : Jvm.MethodName) prog_24_method_3_code (7 : Nat) (Option.none : Option Jvm.ClassFile.FieldType), Jvm.Cond.code ({ cls := "com/example/tree_to_rows/treetorows/query/Outcomes", name := "rewind", desc := "()V" } : Jvm.MethodName) prog_24_method_5_code (1 : Nat) (Option.none : Option Jvm.ClassFile.FieldType), Jvm.Cond.code ({ cls := "com/example/tree_to_rows/treetorows/query/Outcomes", name := "next", desc := "()Z" } : Jvm.MethodName) prog_24_method_4_code (4 : Nat) (Option.some Jvm.ClassFile.FieldType.boolean)]
set_option maxRecDepth 65536 in
theorem codes_eq : words1.filter isCode = codes1 := rfl
theorem w_codes : ∀ c ∈ words1.filter isCode, c.before args0 about1 = true := by
  rw [codes_eq]
  intro c hc
  simp only [codes1, List.mem_cons, List.not_mem_nil, or_false] at hc
  rcases hc with rfl | rfl | rfl | rfl | rfl | rfl | rfl | rfl | rfl
  · exact w_c0
  · exact w_c1
  · exact w_c2
  · exact w_c3
  · exact w_c4
  · exact w_c5
  · exact w_c6
  · exact w_c7
  · exact w_c8
set_option maxRecDepth 65536 in
theorem w_t1 : (words1.take 24).all (fun c => isCode c || c.before args0 about1) = true := by decide +kernel
set_option maxRecDepth 65536 in
theorem w_t2 : ((words1.drop 24).take 24).all (fun c => isCode c || c.before args0 about1) = true := by decide +kernel
set_option maxRecDepth 65536 in
theorem w_t3 : ((words1.drop 24).drop 24).all (fun c => isCode c || c.before args0 about1) = true := by decide +kernel
theorem w_tables : (allAtoms (Jvm.Cond.code x code maxLocals ret :: tables_1)).before args0 about1 = true := by
  rw [allAtoms_all]
  show words1.all (fun c => c.before args0 about1) = true
  refine all_split ?_ w_codes
  rw [← List.take_append_drop 24 words1, List.all_append, w_t1, ← List.take_append_drop 24 (words1.drop 24), List.all_append, w_t2, w_t3]
  rfl
set_option maxRecDepth 65536 in
theorem w_case : (Jvm.Cond.and given_1 narrow_1).before args0 about1 = true := by decide +kernel
theorem w_applies : (headSpec (Jvm.Cond.code x code maxLocals ret :: tables_1) room_1).applies x e0.platform about1 = true :=
  (Spec.applies_iff w_frames).mpr ⟨w_running, w_runnable, w_alone, w_named, w_hears, w_ripe, w_room, w_tables⟩
theorem atStart : AtStart classFile x code maxLocals ret World_1 tables_1 room_1 Calls_1 rest_1 Pre_1 launch0 p0 e0 about1 theMethod args0 below0 :=
  ⟨lists_1, trivial, launch0.admits_env _ _ _, launch0.least_env, fairChoices_fair.cas, fairChoices_fair.clock, w_frames, w_args, w_heap, w_applies, trivial, trivial, w_case⟩
end start1
theorem witness_1 : WitnessClaimed_1 := ⟨start1.p0, start1.e0, start1.about1, start1.theMethod, start1.args0, start1.below0, start1.atStart⟩
end Jvm.Pilot.@@N@@
