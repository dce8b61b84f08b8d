import JvmDerived
import JvmDerived.Pilot.@@N@@Statement
import JvmDerived.Pilot.@@N@@Code
set_option linter.unusedVariables false
set_option linter.unusedSimpArgs false
namespace Jvm.RoadKit
open Sem ClassFile Op Lib Jvm.Stand Jvm.Free Jvm.LawKit
section New
variable {p : Program} {l : Launch} {e : Env} {R : Room} {s : State} {m : MethodId} {args : Array Value} {below : List Frame} {meth : Method} {c : Code} {T : State} {locs : List Loc} {cells slots : Nat}
theorem retI (X : Stand p l e R s m args below meth c T locs cells slots) (hx : p.tables.exec = Jvm.exec) {pc : Nat} {Ls : Array Slot} {z : Int32} {rest : List Value} (hret : meth.sig.returnType = some .int) (hd : decode c.code pc = .ok (.ireturn, 1)) {fs : List Frame}
    (hl : ∀ (f : JFrame) (acts : List Action), f.method = m → f.locked = none → f.entered = [] → (doReturn e (T.setTop f) acts (some (.int z))).1 = T.setFrames fs) : Steps p.tables e below (T.setTop (mkF m pc Ls (.int z :: rest))) (T.setFrames fs) := by
  have hm' : T.vm.method? m = some meth := X.method'
  have hn : narrow .int (.int z) = .int z := rfl
  show Steps p.tables e below (T.setTop { method := m, pc := pc, locals := Ls, stack := _ :: rest, locked := none }) _
  jvm_step X.here [X.here.top, hx, hd, hm', hret, hn]
  first | (intro acts; rw [hl _ acts rfl rfl rfl]) | rw [hl _ _ rfl rfl rfl]
  exact Steps.refl _
abbrev jv (x : Int64) : Slot := .val (.long x)
/-- from the state st the run ends as Q says -/
def own_Go (p : Program) (e : Env) (below : List Frame) (s : State) (Q : Option Value → Heap → List Loc → Prop) (CS : Nat × Nat) (st : State) : Prop :=
  ∃ s₂ o, Steps p.tables e below st s₂ ∧ s₂.status = .running ∧ Ended s₂ below o ∧ ∃ v L, o = .returned v ∧ Q v s₂.heap L ∧ FrameEnd s o s₂ L CS.1 CS.2
variable {Q : Option Value → Heap → List Loc → Prop} {CS : Nat × Nat} {st st' : State}
theorem own_via (h : ∀ {t}, Steps p.tables e below st t → Steps p.tables e below st' t) (g : own_Go p e below s Q CS st) : own_Go p e below s Q CS st' := by
  obtain ⟨s₂, o, h1, h2⟩ := g
  exact ⟨s₂, o, h h1, h2⟩
theorem own_start {g g' : JFrame} (q : g = g') (h : own_Go p e below s Q CS (T.setTop g')) : ∃ s₂ o, Steps p.tables e below (T.setTop g) s₂ ∧ s₂.status = .running ∧ Ended s₂ below o ∧ ∃ v L, o = .returned v ∧ Q v s₂.heap L ∧ FrameEnd s o s₂ L CS.1 CS.2 := q ▸ h
theorem own_retN (X : Stand p l e R s m args below meth c T locs cells slots) (hx : p.tables.exec = Jvm.exec) (hlk : meth.locks = false) {pc : Nat} {Ls : Array Slot} {z : Int32} {t : FieldType} {rest : List Value} (hret : meth.sig.returnType = some t) (ht : t = .boolean ∨ t = .byte ∨ t = .char ∨ t = .short)
    (hd : decode c.code pc = .ok (.ireturn, 1)) (hq : Q (some (.int (nar t z))) T.heap locs) (hc : cells ≤ CS.1) (hs : slots ≤ CS.2) : own_Go p e below s Q CS (T.setTop (mkF m pc Ls (.int z :: rest))) := by
  obtain ⟨fs, hr, hrun, hended, hW, hsame⟩ := X.leave (v := some (.int (nar t z))) (fun h => by rw [hret] at h; cases h) hlk
  exact ⟨_, _, retN X hx hret ht hd hr, hrun, hended, _, _, rfl, hq, ⟨_, rfl⟩, hW, hsame.mono hc hs⟩
theorem own_retI (X : Stand p l e R s m args below meth c T locs cells slots) (hx : p.tables.exec = Jvm.exec) (hlk : meth.locks = false) {pc : Nat} {Ls : Array Slot} {z : Int32} {rest : List Value} (hret : meth.sig.returnType = some .int)
    (hd : decode c.code pc = .ok (.ireturn, 1)) (hq : Q (some (.int z)) T.heap locs) (hc : cells ≤ CS.1) (hs : slots ≤ CS.2) : own_Go p e below s Q CS (T.setTop (mkF m pc Ls (.int z :: rest))) := by
  obtain ⟨fs, hr, hrun, hended, hW, hsame⟩ := X.leave (v := some (.int z)) (fun h => by rw [hret] at h; cases h) hlk
  exact ⟨_, _, retI X hx hret hd hr, hrun, hended, _, _, rfl, hq, ⟨_, rfl⟩, hW, hsame.mono hc hs⟩
theorem own_retL (X : Stand p l e R s m args below meth c T locs cells slots) (hx : p.tables.exec = Jvm.exec) (hlk : meth.locks = false) {pc : Nat} {Ls : Array Slot} {z : Int64} (hret : meth.sig.returnType = some .long)
    (hd : decode c.code pc = .ok (.lreturn, 1)) (hq : Q (some (.long z)) T.heap locs) (hc : cells ≤ CS.1) (hs : slots ≤ CS.2) : own_Go p e below s Q CS (T.setTop (mkF m pc Ls [.long z])) := by
  obtain ⟨fs, hr, hrun, hended, hW, hsame⟩ := X.leave (v := some (.long z)) (fun h => by rw [hret] at h; cases h) hlk
  exact ⟨_, _, X.lreturnOut hx hret hd hr, hrun, hended, _, _, rfl, hq, ⟨_, rfl⟩, hW, hsame.mono hc hs⟩
theorem own_retA (X : Stand p l e R s m args below meth c T locs cells slots) (hx : p.tables.exec = Jvm.exec) (hlk : meth.locks = false) {pc : Nat} {Ls : Array Slot} {w : Value} (hw : w.isRef = true) {t : FieldType} (hret : meth.sig.returnType = some t) (ht : t.isReference = true)
    (hd : decode c.code pc = .ok (.areturn, 1)) (hq : Q (some w) T.heap locs) (hc : cells ≤ CS.1) (hs : slots ≤ CS.2) : own_Go p e below s Q CS (T.setTop (mkF m pc Ls [w])) := by
  obtain ⟨fs, hr, hrun, hended, hW, hsame⟩ := X.leave (v := some w) (fun h => by rw [hret] at h; cases h) hlk
  exact ⟨_, _, X.areturnOut hx hw hret ht hd hr, hrun, hended, _, _, rfl, hq, ⟨_, rfl⟩, hW, hsame.mono hc hs⟩
theorem own_ret0 (X : Stand p l e R s m args below meth c T locs cells slots) (hx : p.tables.exec = Jvm.exec) (hlk : meth.locks = false) {pc : Nat} {Ls : Array Slot} (hret : meth.sig.returnType = none)
    (hd : decode c.code pc = .ok (.return_, 1)) (hq : Q none T.heap locs) (hc : cells ≤ CS.1) (hs : slots ≤ CS.2) : own_Go p e below s Q CS (T.setTop (mkF m pc Ls [])) := by
  obtain ⟨fs, hr, hrun, hended, hW, hsame⟩ := X.leave (v := none) (fun _ => rfl) hlk
  exact ⟨_, _, X.returnOut hx hret hd hr, hrun, hended, _, _, rfl, hq, ⟨_, rfl⟩, hW, hsame.mono hc hs⟩
theorem own_fldI {Z : State} {h : Heap} {a : Addr} {C n d : String} {v w : Int32} (q : v = w) (F : Fld Z h a C n d (.int v)) : Fld Z h a C n d (.int w) := q ▸ F
theorem own_fldJ {Z : State} {h : Heap} {a : Addr} {C n d : String} {v w : Int64} (q : v = w) (F : Fld Z h a C n d (.long v)) : Fld Z h a C n d (.long w) := q ▸ F
theorem own_arv {Z : State} {h : Heap} {a : Addr} {k : ClassId} {ty : FieldType} {n : Int32} {vs vs' : List Value} {d : Value} (q : vs = vs') (F : Arv Z h a k ty n vs d) : Arv Z h a k ty n vs' d := q ▸ F
theorem own_fits {t : FieldType} {v w : Int32} (q : v = w) (F : fits t (.int v) = true) : fits t (.int w) = true := q ▸ F
end New
end Jvm.RoadKit
namespace Jvm.Pilot.@@N@@
open Jvm Jvm.ClassFile Sem Op Lib Jvm.Free Jvm.Stand Jvm.LawKit Jvm.RoadKit Bundle Jvm.Pilot.@@N@@.Jvm.D
theorem own_l32 {x y : Int32} : x < y ↔ x.toInt < y.toInt := Int32.lt_iff_toInt_lt
theorem own_e32 {x y : Int32} : x = y ↔ x.toInt = y.toInt := Int32.toInt_inj.symm
theorem own_l64 {x y : Int64} : x < y ↔ x.toInt < y.toInt := Int64.lt_iff_toInt_lt
theorem own_e64 {x y : Int64} : x = y ↔ x.toInt = y.toInt := Int64.toInt_inj.symm
theorem own_all8 {P : Int8 → Prop} (h : ∀ n : Fin 256, P (Int8.ofBitVec (BitVec.ofFin n))) (i : Int8) : P i := h i.toBitVec.toFin
theorem d1_0 : decode prog_84_method_1_code 0 = .ok (.aload_n 0, 1) := by decide +kernel
theorem d1_1 : decode prog_84_method_1_code 1 = .ok (.invokespecial 1, 3) := by decide +kernel
theorem d1_4 : decode prog_84_method_1_code 4 = .ok (.aload_n 0, 1) := by decide +kernel
theorem d1_5 : decode prog_84_method_1_code 5 = .ok (.iload_n 1, 1) := by decide +kernel
theorem d1_6 : decode prog_84_method_1_code 6 = .ok (.i2l, 1) := by decide +kernel
theorem d1_7 : decode prog_84_method_1_code 7 = .ok (.putfield 7, 3) := by decide +kernel
theorem d1_10 : decode prog_84_method_1_code 10 = .ok (.return_, 1) := by decide +kernel
theorem pn_1 : plainName "organico/records/RecordRoom" = true := by first | (simp [plainName, overriddenIn]; done) | decide +kernel
theorem ef_1 (m : MethodId) (x0 : Addr) (x1 : Int32) : entryFrame m #[(.ref x0), (.int x1)] 2 = mkF m 0 #[rv x0, iv x1] [] := by first | (simp [entryFrame, mkF, argsToLocals, Value.category]; done) | rfl
def Q1 (Z : State) (a0 : Addr) (p1 : Int32) (h0 : Heap) (n0 : Nat) (v : Option Value) (h : Heap) (L : List Loc) : Prop := v = none ∧ Fr n0 L ∧ Keep h0 h [a0] ∧ Fld Z h a0 "organico/records/RecordRoom" "taken" "J" (.long (p1.toInt64))
set_option maxRecDepth 65536 in
set_option maxHeartbeats 40000000 in
theorem rm1 (l : Launch) (Z : State) (aw : Array Value) (hw : ∀ d ∈ tables_1, d.before aw Z = true) (ws : List Jvm.Cond) (a0 : Addr) (p1 : Int32) (h0 : Heap) (n0 : Nat) (Z0 : n0 ≤ h0.size) (P0 : Fld Z h0 a0 "organico/records/RecordRoom" "taken" "J" (.long 0)) (P1 : Exa Z h0 a0 "organico/records/RecordRoom") (ge0 : n0 ≤ a0) :
    MetFree l (⟨"organico/records/RecordRoom", "<init>", "(I)V"⟩ : MethodName) (head1 (Jvm.Cond.code (⟨"organico/records/RecordRoom", "<init>", "(I)V"⟩ : MethodName) prog_84_method_1_code 2 none :: ws) ({ frames := 1, cells := 0, slots := 0, locals := 12 } : Room)) (fun a U => a = #[(.ref a0), (.int p1)] ∧ Z.Warmed39 U.vm ∧ U.heap = h0) (fun _ _ _ _ _ => True) (fun _ U o U' => ∃ v L, o = .returned v ∧ Q1 Z a0 p1 h0 n0 v U'.heap L ∧ FrameEnd U o U' L ({ frames := 1, cells := 0, slots := 0, locals := 12 } : Room).cells ({ frames := 1, cells := 0, slots := 0, locals := 12 } : Room).slots) := by
  refine MetFree.of_bodySF (plainFor_of_name pn_1) hisR ?_
  intro p e s m args below meth c s₁ Bd hml0 hP hK
  obtain ⟨rfl, hZ, hh⟩ := hP
  have hx := Bd.exec
  have hby := Bd.bytes
  have hml : c.maxLocals = 2 := hml0
  have hown : s.vm.findClass "organico/records/RecordRoom" = some m.cls := findClass_of_methodNamed Bd.named
  have hnm := (name_of_methodNamed Bd.named Bd.method).1
  have hlk : meth.locks = false := by first | exact BodyLoose.notSynchronized (by assumption) | exact Body.notSynchronized (by assumption)
  have X0 : Stand p l e ({ frames := 1, cells := 0, slots := 0, locals := 12 } : Room) s m #[(.ref a0), (.int p1)] below meth c s₁ [] 0 0 := Stand.of_body Bd
  have e0 : s₁.heap = h0 := by rw [← hh, Bd.state]; rfl
  have N0 := Fr.nil n0
  have K0 : Keep h0 h0 [a0] := Keep.refl _ _
  refine own_start (CS := (0, 0)) (Q := (Q1 Z a0 p1 h0 n0)) (ef_1 m a0 p1) ?_
  show own_Go p e below s _ _ (s₁.setTop (mkF m 0 #[rv a0, iv p1] []))
  refine own_via (fun k => XS.aloadN X0.here hx rfl (hb hby d1_0) rfl rfl  k) ?_
  show own_Go p e below s _ _ (s₁.setTop (mkF m 1 #[rv a0, iv p1] [(.ref a0)]))
  obtain ⟨T1, X1, e1, st1⟩ := initO X0 hx hZ hown (hw _ (List.mem_of_getElem? (i := 7) rfl)) (hw _ (List.mem_of_getElem? (i := 8) rfl)) (hw _ (List.mem_of_getElem? (i := 9) rfl)) e0 (g := (mkF m 1 #[rv a0, iv p1] [(.ref a0)])) rfl (by rw [hml]; rfl) rfl (hb hby d1_1) (by decide) (W := 0) (by show 2 * 0 + _ ≤ _; exact Nat.le_of_eq rfl) (by decide)
  refine own_via (fun k => st1 _ k) ?_
  show own_Go p e below s _ _ (T1.setTop (mkF m 4 #[rv a0, iv p1] []))
  refine own_via (fun k => XS.aloadN X1.here hx rfl (hb hby d1_4) rfl rfl  (XS.iloadN X1.here hx rfl (hb hby d1_5) rfl  (XS.i2l X1.here hx rfl (hb hby d1_6) rfl k))) ?_
  show own_Go p e below s _ _ (T1.setTop (mkF m 7 #[rv a0, iv p1] [(.long (p1.toInt64)), (.ref a0)]))
  obtain ⟨T2, h2, X2, e2, W2, st2⟩ := putF X1 hx hZ hown (host := "") (Or.inl (hw _ (List.mem_of_getElem? (i := 10) rfl))) Via.refl e1 P0 P1 (Or.inl (hw _ (List.mem_of_getElem? (i := 11) rfl))) (hw _ (List.mem_of_getElem? (i := 2) rfl)) (ty := .long) (by decide) rfl rfl (g := (mkF m 7 #[rv a0, iv p1] [(.long (p1.toInt64)), (.ref a0)])) rfl rfl (hb hby d1_7)
  refine own_via (fun k => st2 _ k) ?_
  show own_Go p e below s _ _ (T2.setTop (mkF m 10 #[rv a0, iv p1] []))
  have B3 := P1.wr W2
  have B4 : Fld Z h2 a0 "organico/records/RecordRoom" "taken" "J" (.long (p1.toInt64)) := P0.same W2
  have N5 := Fr.snoc X2 N0 ge0
  have K6 : Keep h0 h2 [a0] := K0.wr W2 (Or.inl (List.mem_of_getElem? (i := 0) rfl))
  have Z7 : n0 ≤ h2.size := Nat.le_trans Z0 (Keep.of_wr W2).1
  exact own_ret0 X2 hx hlk Bd.returns (hb hby d1_10) (Q := (Q1 Z a0 p1 h0 n0)) ⟨rfl, N5, (by rw [e2]; exact K6), (by rw [e2]; exact B4)⟩ (by decide) (by decide)
theorem d3_0 : decode prog_84_method_2_code 0 = .ok (.aload_n 0, 1) := by decide +kernel
theorem d3_1 : decode prog_84_method_2_code 1 = .ok (.dup, 1) := by decide +kernel
theorem d3_2 : decode prog_84_method_2_code 2 = .ok (.getfield 7, 3) := by decide +kernel
theorem d3_5 : decode prog_84_method_2_code 5 = .ok (.iload_n 1, 1) := by decide +kernel
theorem d3_6 : decode prog_84_method_2_code 6 = .ok (.i2l, 1) := by decide +kernel
theorem d3_7 : decode prog_84_method_2_code 7 = .ok (.ladd, 1) := by decide +kernel
theorem d3_8 : decode prog_84_method_2_code 8 = .ok (.putfield 7, 3) := by decide +kernel
theorem d3_11 : decode prog_84_method_2_code 11 = .ok (.aload_n 0, 1) := by decide +kernel
theorem d3_12 : decode prog_84_method_2_code 12 = .ok (.getfield 7, 3) := by decide +kernel
theorem d3_15 : decode prog_84_method_2_code 15 = .ok (.ldc2_w 15, 3) := by decide +kernel
theorem d3_18 : decode prog_84_method_2_code 18 = .ok (.lcmp, 1) := by decide +kernel
theorem d3_19 : decode prog_84_method_2_code 19 = .ok (.ifCond .gt 7, 3) := by decide +kernel
theorem d3_22 : decode prog_84_method_2_code 22 = .ok (.iconst 1, 1) := by decide +kernel
theorem d3_23 : decode prog_84_method_2_code 23 = .ok (.goto 4, 3) := by decide +kernel
theorem d3_26 : decode prog_84_method_2_code 26 = .ok (.iconst 0, 1) := by decide +kernel
theorem d3_27 : decode prog_84_method_2_code 27 = .ok (.ireturn, 1) := by decide +kernel
theorem pn_3 : plainName "organico/records/RecordRoom" = true := by first | (simp [plainName, overriddenIn]; done) | decide +kernel
theorem ef_3 (m : MethodId) (x0 : Addr) (x1 : Int32) : entryFrame m #[(.ref x0), (.int x1)] 2 = mkF m 0 #[rv x0, iv x1] [] := by first | (simp [entryFrame, mkF, argsToLocals, Value.category]; done) | rfl
def own_f3 (p1 : Int32) (w0 : Int64) : Int32 := (if (99999 : Int64) < (w0 + (p1.toInt64)) then (0 : Int32) else (1 : Int32))
def Q3 (Z : State) (a0 : Addr) (p1 : Int32) (w0 : Int64) (h0 : Heap) (n0 : Nat) (v : Option Value) (h : Heap) (L : List Loc) : Prop := v = some (.int (own_f3 p1 w0)) ∧ Fr n0 L ∧ Keep h0 h [a0] ∧ Fld Z h a0 "organico/records/RecordRoom" "taken" "J" (.long (w0 + (p1.toInt64)))
set_option maxRecDepth 65536 in
set_option maxHeartbeats 40000000 in
theorem rm3 (l : Launch) (Z : State) (aw : Array Value) (hw : ∀ d ∈ tables_1, d.before aw Z = true) (ws : List Jvm.Cond) (a0 : Addr) (p1 : Int32) (w0 : Int64) (h0 : Heap) (n0 : Nat) (Z0 : n0 ≤ h0.size) (P0 : Fld Z h0 a0 "organico/records/RecordRoom" "taken" "J" (.long w0)) (P1 : Exa Z h0 a0 "organico/records/RecordRoom") (ge0 : n0 ≤ a0) :
    MetFree l (⟨"organico/records/RecordRoom", "take", "(I)Z"⟩ : MethodName) (head1 (Jvm.Cond.code (⟨"organico/records/RecordRoom", "take", "(I)Z"⟩ : MethodName) prog_84_method_2_code 2 (some .boolean) :: ws) ({ frames := 0, cells := 0, slots := 0, locals := 0 } : Room)) (fun a U => a = #[(.ref a0), (.int p1)] ∧ Z.Warmed39 U.vm ∧ U.heap = h0) (fun _ _ _ _ _ => True) (fun _ U o U' => ∃ v L, o = .returned v ∧ Q3 Z a0 p1 w0 h0 n0 v U'.heap L ∧ FrameEnd U o U' L ({ frames := 0, cells := 0, slots := 0, locals := 0 } : Room).cells ({ frames := 0, cells := 0, slots := 0, locals := 0 } : Room).slots) := by
  refine MetFree.of_bodySF (plainFor_of_name pn_3) hisR ?_
  intro p e s m args below meth c s₁ Bd hml0 hP hK
  obtain ⟨rfl, hZ, hh⟩ := hP
  have hx := Bd.exec
  have hby := Bd.bytes
  have hml : c.maxLocals = 2 := hml0
  have hown : s.vm.findClass "organico/records/RecordRoom" = some m.cls := findClass_of_methodNamed Bd.named
  have hnm := (name_of_methodNamed Bd.named Bd.method).1
  have hlk : meth.locks = false := by first | exact BodyLoose.notSynchronized (by assumption) | exact Body.notSynchronized (by assumption)
  have X0 : Stand p l e ({ frames := 0, cells := 0, slots := 0, locals := 0 } : Room) s m #[(.ref a0), (.int p1)] below meth c s₁ [] 0 0 := Stand.of_body Bd
  have e0 : s₁.heap = h0 := by rw [← hh, Bd.state]; rfl
  have N0 := Fr.nil n0
  have K0 : Keep h0 h0 [a0] := Keep.refl _ _
  refine own_start (CS := (0, 0)) (Q := (Q3 Z a0 p1 w0 h0 n0)) (ef_3 m a0 p1) ?_
  show own_Go p e below s _ _ (s₁.setTop (mkF m 0 #[rv a0, iv p1] []))
  refine own_via (fun k => XS.aloadN X0.here hx rfl (hb hby d3_0) rfl rfl  (XS.dup X0.here hx rfl (hb hby d3_1) rfl rfl k)) ?_
  show own_Go p e below s _ _ (s₁.setTop (mkF m 2 #[rv a0, iv p1] [(.ref a0), (.ref a0)]))
  obtain ⟨T1, X1, e1, st1⟩ := getF X0 hx hZ hown (host := "") (Or.inl (hw _ (List.mem_of_getElem? (i := 10) rfl))) Via.refl e0 P0 (g := (mkF m 2 #[rv a0, iv p1] [(.ref a0), (.ref a0)])) rfl rfl (hb hby d3_2)
  refine own_via (fun k => st1 _ k) ?_
  show own_Go p e below s _ _ (T1.setTop (mkF m 5 #[rv a0, iv p1] [(.long w0), (.ref a0)]))
  refine own_via (fun k => XS.iloadN X1.here hx rfl (hb hby d3_5) rfl  (XS.i2l X1.here hx rfl (hb hby d3_6) rfl (XS.ladd X1.here hx rfl (hb hby d3_7) rfl k))) ?_
  show own_Go p e below s _ _ (T1.setTop (mkF m 8 #[rv a0, iv p1] [(.long (w0 + (p1.toInt64))), (.ref a0)]))
  obtain ⟨T2, h2, X2, e2, W2, st2⟩ := putF X1 hx hZ hown (host := "") (Or.inl (hw _ (List.mem_of_getElem? (i := 10) rfl))) Via.refl e1 P0 P1 (Or.inl (hw _ (List.mem_of_getElem? (i := 11) rfl))) (hw _ (List.mem_of_getElem? (i := 2) rfl)) (ty := .long) (by decide) rfl rfl (g := (mkF m 8 #[rv a0, iv p1] [(.long (w0 + (p1.toInt64))), (.ref a0)])) rfl rfl (hb hby d3_8)
  refine own_via (fun k => st2 _ k) ?_
  show own_Go p e below s _ _ (T2.setTop (mkF m 11 #[rv a0, iv p1] []))
  have B3 := P1.wr W2
  have B4 : Fld Z h2 a0 "organico/records/RecordRoom" "taken" "J" (.long (w0 + (p1.toInt64))) := P0.same W2
  have N5 := Fr.snoc X2 N0 ge0
  have K6 : Keep h0 h2 [a0] := K0.wr W2 (Or.inl (List.mem_of_getElem? (i := 0) rfl))
  have Z7 : n0 ≤ h2.size := Nat.le_trans Z0 (Keep.of_wr W2).1
  refine own_via (fun k => XS.aloadN X2.here hx rfl (hb hby d3_11) rfl rfl  k) ?_
  show own_Go p e below s _ _ (T2.setTop (mkF m 12 #[rv a0, iv p1] [(.ref a0)]))
  obtain ⟨T8, X8, e8, st8⟩ := getF X2 hx hZ hown (host := "") (Or.inl (hw _ (List.mem_of_getElem? (i := 10) rfl))) Via.refl e2 B4 (g := (mkF m 12 #[rv a0, iv p1] [(.ref a0)])) rfl rfl (hb hby d3_12)
  refine own_via (fun k => st8 _ k) ?_
  show own_Go p e below s _ _ (T8.setTop (mkF m 15 #[rv a0, iv p1] [(.long (w0 + (p1.toInt64)))]))
  refine own_via (fun k => X8.ldc2Long hx hown (mvT hZ (hw _ (List.mem_of_getElem? (i := 17) rfl))) (g := (mkF m 15 #[rv a0, iv p1] [(.long (w0 + (p1.toInt64)))])) rfl (hb hby d3_15) _ (XS.lcmp X8.here hx rfl (hb hby d3_18) rfl k)) ?_
  show own_Go p e below s _ _ (T8.setTop (mkF m 19 #[rv a0, iv p1] [(.int (lcmpW (w0 + (p1.toInt64)) (99999 : Int64)))]))
  by_cases hc9 : (99999 : Int64) < (w0 + (p1.toInt64))
  · refine own_via (fun k => XS.ifYes X8.here hx rfl (pc0 := 19) (pc' := 26) rfl (hb hby d3_19) rfl ((if0 _ _).trans (tlt ((lw_gt _ _).mpr hc9)).2.2.1) (by decide) (by decide) k) ?_
    show own_Go p e below s _ _ (T8.setTop (mkF m 26 #[rv a0, iv p1] []))
    refine own_via (fun k => XS.iconst X8.here hx rfl (hb hby d3_26) k) ?_
    show own_Go p e below s _ _ (T8.setTop (mkF m 27 #[rv a0, iv p1] [(.int 0)]))
    exact own_retN X8 hx hlk (t := .boolean) Bd.returns (by simp) (hb hby d3_27) (Q := (Q3 Z a0 p1 w0 h0 n0)) ⟨(congrArg (fun z => some (Value.int z)) (show (0 : Int32) = (own_f3 p1 w0) from (by unfold own_f3; exact ((if_pos hc9).trans rfl).symm))), N5, (by rw [e8]; exact K6), (by rw [e8]; exact B4)⟩ (by decide) (by decide)
  · refine own_via (fun k => XS.ifNo X8.here hx rfl (hb hby d3_19) rfl ((if0 _ _).trans (flt (mt (lw_gt _ _).mp hc9)).2.2.1) k) ?_
    show own_Go p e below s _ _ (T8.setTop (mkF m 22 #[rv a0, iv p1] []))
    refine own_via (fun k => XS.iconst X8.here hx rfl (hb hby d3_22) (XS.goto X8.here hx rfl (pc0 := 23) (pc' := 27) rfl (hb hby d3_23) (by decide) (by decide) k)) ?_
    show own_Go p e below s _ _ (T8.setTop (mkF m 27 #[rv a0, iv p1] [(.int 1)]))
    exact own_retN X8 hx hlk (t := .boolean) Bd.returns (by simp) (hb hby d3_27) (Q := (Q3 Z a0 p1 w0 h0 n0)) ⟨(congrArg (fun z => some (Value.int z)) (show (1 : Int32) = (own_f3 p1 w0) from (by unfold own_f3; exact ((if_neg hc9).trans rfl).symm))), N5, (by rw [e8]; exact K6), (by rw [e8]; exact B4)⟩ (by decide) (by decide)
theorem pn_0 : plainName "organico/records/RecordRoomTakePinLaw" = true := by first | (simp [plainName, overriddenIn]; done) | decide +kernel
theorem pd_0 : parseMethodDescriptor "(I)V" = some ⟨[.int], none⟩ := by decide +kernel
theorem pd_2 : parseMethodDescriptor "(I)Z" = some ⟨[.int], some .boolean⟩ := by decide +kernel
theorem ef_0 (m : MethodId) (x0 : Int32) (x1 : Int32) (x2 : Int32) (x3 : Int32) : entryFrame m #[(.int x0), (.int x1), (.int x2), (.int x3)] maxLocals = mkF m 0 #[iv x0, iv x1, iv x2, iv x3, .unset, .unset, .unset, .unset, .unset, .unset, .unset, .unset, .unset, .unset, .unset, .unset, .unset, .unset, .unset, .unset, .unset] [] := by first | (simp [entryFrame, mkF, argsToLocals, Value.category, maxLocals]; done) | rfl
theorem own_mono (p1 : Int32) (w : Int64) (h1 : -2147483648 ≤ w.toInt) (h2 : w.toInt < 8589934592) (h : (99999 : Int64) < w) : (99999 : Int64) < w + (p1 &&& (2147483647 : Int32)).toInt64 := by
  have e : (99999 : Int64).toInt = 99999 := by decide
  have m := c_mask p1 2147483647 31 (by decide) (by decide)
  have c := c_i2l (p1 &&& (2147483647 : Int32))
  have a := c_ladd w (p1 &&& (2147483647 : Int32)).toInt64
  have r := rng64 (w + (p1 &&& (2147483647 : Int32)).toInt64)
  rw [own_l64] at h ⊢; omega
theorem own_sum (p1 : Int32) (w : Int64) (h1 : -2147483648 ≤ w.toInt) (h2 : w.toInt < 8589934592) : (w + (p1 &&& (2147483647 : Int32)).toInt64).toInt = w.toInt + p1.toInt % 2147483648 := by
  have m := c_mask p1 2147483647 31 (by decide) (by decide)
  have c := c_i2l (p1 &&& (2147483647 : Int32))
  have a := c_ladd w (p1 &&& (2147483647 : Int32)).toInt64
  have r := rng64 (w + (p1 &&& (2147483647 : Int32)).toInt64)
  omega
theorem own_law158 (p0 : Int32) (p1 : Int32) (z25 : Int32) (hz25 : z25 = (if (99999 : Int64) < ((p0.toInt64) + ((p1 &&& (2147483647 : Int32)).toInt64)) then (0 : Int32) else (1 : Int32))) : (own_f3 (p1 &&& (2147483647 : Int32)) (p0.toInt64)) = z25 := by subst hz25; rfl
theorem own_law165 (p0 : Int32) (p1 : Int32) (p2 : Int32) (z27 : Int32) (hz27 : z27 = (if (99999 : Int64) < (((p0.toInt64) + ((p1 &&& (2147483647 : Int32)).toInt64)) + ((p2 &&& (2147483647 : Int32)).toInt64)) then (0 : Int32) else (1 : Int32))) : (own_f3 (p2 &&& (2147483647 : Int32)) ((p0.toInt64) + ((p1 &&& (2147483647 : Int32)).toInt64))) = z27 := by subst hz27; rfl
theorem own_law172 (p0 : Int32) (p1 : Int32) (p2 : Int32) (p3 : Int32) (z29 : Int32) (hz29 : z29 = (if (99999 : Int64) < ((((p0.toInt64) + ((p1 &&& (2147483647 : Int32)).toInt64)) + ((p2 &&& (2147483647 : Int32)).toInt64)) + ((p3 &&& (2147483647 : Int32)).toInt64)) then (0 : Int32) else (1 : Int32))) : (own_f3 (p3 &&& (2147483647 : Int32)) (((p0.toInt64) + ((p1 &&& (2147483647 : Int32)).toInt64)) + ((p2 &&& (2147483647 : Int32)).toInt64))) = z29 := by subst hz29; rfl
theorem own_law177 (p0 : Int32) (p1 : Int32) (p2 : Int32) (p3 : Int32) (z31 : Int32) (hz31 : z31 = (if (own_f3 (p1 &&& (2147483647 : Int32)) (p0.toInt64)) = (0 : Int32) then (if (own_f3 (p2 &&& (2147483647 : Int32)) ((p0.toInt64) + ((p1 &&& (2147483647 : Int32)).toInt64))) = (0 : Int32) then (if (own_f3 (p3 &&& (2147483647 : Int32)) (((p0.toInt64) + ((p1 &&& (2147483647 : Int32)).toInt64)) + ((p2 &&& (2147483647 : Int32)).toInt64))) = (0 : Int32) then (1 : Int32) else (0 : Int32)) else (0 : Int32)) else (if (own_f3 (p2 &&& (2147483647 : Int32)) ((p0.toInt64) + ((p1 &&& (2147483647 : Int32)).toInt64))) = (0 : Int32) then (if (own_f3 (p3 &&& (2147483647 : Int32)) (((p0.toInt64) + ((p1 &&& (2147483647 : Int32)).toInt64)) + ((p2 &&& (2147483647 : Int32)).toInt64))) = (0 : Int32) then (1 : Int32) else (0 : Int32)) else (1 : Int32)))) : ¬ (z31 = (0 : Int32)) := by
  subst hz31
  have r0 := rng32 p0; have c0 := c_i2l p0
  have s1 := own_sum p1 p0.toInt64 (by omega) (by omega)
  have s2 := own_sum p2 (p0.toInt64 + (p1 &&& (2147483647 : Int32)).toInt64) (by omega) (by omega)
  have m2 := own_mono p2 (p0.toInt64 + (p1 &&& (2147483647 : Int32)).toInt64) (by omega) (by omega)
  have m3 := own_mono p3 (p0.toInt64 + (p1 &&& (2147483647 : Int32)).toInt64 + (p2 &&& (2147483647 : Int32)).toInt64) (by omega) (by omega)
  simp only [own_f3]
  by_cases a1 : (99999 : Int64) < p0.toInt64 + (p1 &&& (2147483647 : Int32)).toInt64 <;> by_cases a2 : (99999 : Int64) < p0.toInt64 + (p1 &&& (2147483647 : Int32)).toInt64 + (p2 &&& (2147483647 : Int32)).toInt64 <;> by_cases a3 : (99999 : Int64) < p0.toInt64 + (p1 &&& (2147483647 : Int32)).toInt64 + (p2 &&& (2147483647 : Int32)).toInt64 + (p3 &&& (2147483647 : Int32)).toInt64 <;> simp_all
def Q0 (Z : State) (p0 : Int32) (p1 : Int32) (p2 : Int32) (p3 : Int32) (h0 : Heap) (n0 : Nat) (v : Option Value) (h : Heap) (L : List Loc) : Prop := v = some (.int 1) ∧ Fr n0 L
set_option maxRecDepth 65536 in
set_option maxHeartbeats 40000000 in
theorem rm0 (l : Launch) (Z : State) (aw : Array Value) (hw : ∀ d ∈ tables_1, d.before aw Z = true) (ws : List Jvm.Cond) (p0 : Int32) (p1 : Int32) (p2 : Int32) (p3 : Int32) (h0 : Heap) (n0 : Nat) (Z0 : n0 ≤ h0.size)  :
    MetFree l x (head1 (Jvm.Cond.code x code maxLocals ret :: ws) room_1) (fun a U => a = #[(.int p0), (.int p1), (.int p2), (.int p3)] ∧ Z.Warmed39 U.vm ∧ U.heap = h0) (fun _ _ _ _ _ => True) (fun _ U o U' => ∃ v L, o = .returned v ∧ Q0 Z p0 p1 p2 p3 h0 n0 v U'.heap L ∧ FrameEnd U o U' L room_1.cells room_1.slots) := by
  refine MetFree.of_bodySF (plainFor_of_name pn_0) hisR ?_
  intro p e s m args below meth c s₁ Bd hml0 hP hK
  obtain ⟨rfl, hZ, hh⟩ := hP
  have hx := Bd.exec
  have hby := Bd.bytes
  have hml : c.maxLocals = 21 := hml0
  have hown : s.vm.findClass "organico/records/RecordRoomTakePinLaw" = some m.cls := findClass_of_methodNamed Bd.named
  have hnm := (name_of_methodNamed Bd.named Bd.method).1
  have hlk : meth.locks = false := by first | exact BodyLoose.notSynchronized (by assumption) | exact Body.notSynchronized (by assumption)
  have X0 : Stand p l e room_1 s m #[(.int p0), (.int p1), (.int p2), (.int p3)] below meth c s₁ [] 0 0 := Stand.of_body Bd
  have e0 : s₁.heap = h0 := by rw [← hh, Bd.state]; rfl
  have N0 := Fr.nil n0
  refine own_start (CS := (room_1.cells, room_1.slots)) (Q := (Q0 Z p0 p1 p2 p3 h0 n0)) (ef_0 m p0 p1 p2 p3) ?_
  show own_Go p e below s _ _ (s₁.setTop (mkF m 0 #[iv p0, iv p1, iv p2, iv p3, .unset, .unset, .unset, .unset, .unset, .unset, .unset, .unset, .unset, .unset, .unset, .unset, .unset, .unset, .unset, .unset, .unset] []))
  refine own_via (fun k => XS.iloadN X0.here hx rfl (hb hby at_0) rfl  (X0.ldcInt hx hown (mvT hZ (hw _ (List.mem_of_getElem? (i := 0) rfl))) (g := (mkF m 1 #[iv p0, iv p1, iv p2, iv p3, .unset, .unset, .unset, .unset, .unset, .unset, .unset, .unset, .unset, .unset, .unset, .unset, .unset, .unset, .unset, .unset, .unset] [(.int p1)])) rfl (hb hby at_1) _ (XS.iand X0.here hx rfl (hb hby at_3) rfl (XS.istore X0.here hx rfl (hb hby at_4) rfl (l' := #[iv p0, iv p1, iv p2, iv p3, iv (p1 &&& (2147483647 : Int32)), .unset, .unset, .unset, .unset, .unset, .unset, .unset, .unset, .unset, .unset, .unset, .unset, .unset, .unset, .unset, .unset]) rfl k)))) ?_
  show own_Go p e below s _ _ (s₁.setTop (mkF m 6 #[iv p0, iv p1, iv p2, iv p3, iv (p1 &&& (2147483647 : Int32)), .unset, .unset, .unset, .unset, .unset, .unset, .unset, .unset, .unset, .unset, .unset, .unset, .unset, .unset, .unset, .unset] []))
  refine own_via (fun k => XS.iloadN X0.here hx rfl (hb hby at_6) rfl  (X0.ldcInt hx hown (mvT hZ (hw _ (List.mem_of_getElem? (i := 0) rfl))) (g := (mkF m 7 #[iv p0, iv p1, iv p2, iv p3, iv (p1 &&& (2147483647 : Int32)), .unset, .unset, .unset, .unset, .unset, .unset, .unset, .unset, .unset, .unset, .unset, .unset, .unset, .unset, .unset, .unset] [(.int p2)])) rfl (hb hby at_7) _ (XS.iand X0.here hx rfl (hb hby at_9) rfl (XS.istore X0.here hx rfl (hb hby at_10) rfl (l' := #[iv p0, iv p1, iv p2, iv p3, iv (p1 &&& (2147483647 : Int32)), iv (p2 &&& (2147483647 : Int32)), .unset, .unset, .unset, .unset, .unset, .unset, .unset, .unset, .unset, .unset, .unset, .unset, .unset, .unset, .unset]) rfl k)))) ?_
  show own_Go p e below s _ _ (s₁.setTop (mkF m 12 #[iv p0, iv p1, iv p2, iv p3, iv (p1 &&& (2147483647 : Int32)), iv (p2 &&& (2147483647 : Int32)), .unset, .unset, .unset, .unset, .unset, .unset, .unset, .unset, .unset, .unset, .unset, .unset, .unset, .unset, .unset] []))
  refine own_via (fun k => XS.iloadN X0.here hx rfl (hb hby at_12) rfl  (X0.ldcInt hx hown (mvT hZ (hw _ (List.mem_of_getElem? (i := 0) rfl))) (g := (mkF m 13 #[iv p0, iv p1, iv p2, iv p3, iv (p1 &&& (2147483647 : Int32)), iv (p2 &&& (2147483647 : Int32)), .unset, .unset, .unset, .unset, .unset, .unset, .unset, .unset, .unset, .unset, .unset, .unset, .unset, .unset, .unset] [(.int p3)])) rfl (hb hby at_13) _ (XS.iand X0.here hx rfl (hb hby at_15) rfl (XS.istore X0.here hx rfl (hb hby at_16) rfl (l' := #[iv p0, iv p1, iv p2, iv p3, iv (p1 &&& (2147483647 : Int32)), iv (p2 &&& (2147483647 : Int32)), iv (p3 &&& (2147483647 : Int32)), .unset, .unset, .unset, .unset, .unset, .unset, .unset, .unset, .unset, .unset, .unset, .unset, .unset, .unset]) rfl k)))) ?_
  show own_Go p e below s _ _ (s₁.setTop (mkF m 18 #[iv p0, iv p1, iv p2, iv p3, iv (p1 &&& (2147483647 : Int32)), iv (p2 &&& (2147483647 : Int32)), iv (p3 &&& (2147483647 : Int32)), .unset, .unset, .unset, .unset, .unset, .unset, .unset, .unset, .unset, .unset, .unset, .unset, .unset, .unset] []))
  obtain ⟨T1, h1, X1, e1, E1, A1, D1, -, st1⟩ := newO X0 hx hZ hown (hw _ (List.mem_of_getElem? (i := 1) rfl)) (hw _ (List.mem_of_getElem? (i := 2) rfl)) (hw _ (List.mem_of_getElem? (i := 3) rfl)) e0 (g := (mkF m 18 #[iv p0, iv p1, iv p2, iv p3, iv (p1 &&& (2147483647 : Int32)), iv (p2 &&& (2147483647 : Int32)), iv (p3 &&& (2147483647 : Int32)), .unset, .unset, .unset, .unset, .unset, .unset, .unset, .unset, .unset, .unset, .unset, .unset, .unset, .unset] [])) rfl (hb hby at_18) (by decide) (by decide)
  obtain ⟨b1, g1⟩ : ∃ z, z = h0.size := ⟨_, rfl⟩
  rw [← g1] at A1 D1 st1
  refine own_via (fun k => st1 _ k) ?_
  show own_Go p e below s _ _ (T1.setTop (mkF m 21 #[iv p0, iv p1, iv p2, iv p3, iv (p1 &&& (2147483647 : Int32)), iv (p2 &&& (2147483647 : Int32)), iv (p3 &&& (2147483647 : Int32)), .unset, .unset, .unset, .unset, .unset, .unset, .unset, .unset, .unset, .unset, .unset, .unset, .unset, .unset] [(.ref b1)]))
  have g2 : n0 ≤ b1 := Nat.le_trans Z0 (Nat.le_of_eq g1.symm)
  have Z3 : n0 ≤ h1.size := Nat.le_trans Z0 E1.1
  have B4 : Fld Z h1 b1 "organico/records/RecordRoom" "taken" "J" (.long 0) := D1 (Or.inl (hw _ (List.mem_of_getElem? (i := 11) rfl))) (ty := .long) (by decide)
  refine own_via (fun k => XS.dup X1.here hx rfl (hb hby at_21) rfl rfl (XS.iloadN X1.here hx rfl (hb hby at_22) rfl  k)) ?_
  show own_Go p e below s _ _ (T1.setTop (mkF m 23 #[iv p0, iv p1, iv p2, iv p3, iv (p1 &&& (2147483647 : Int32)), iv (p2 &&& (2147483647 : Int32)), iv (p3 &&& (2147483647 : Int32)), .unset, .unset, .unset, .unset, .unset, .unset, .unset, .unset, .unset, .unset, .unset, .unset, .unset, .unset] [(.int p0), (.ref b1), (.ref b1)]))
  obtain ⟨_, _, ⟨T5, L5, k5, n5⟩, -, X5, ⟨Lc5, hQ5, l5, y5, z5⟩, st5⟩ := X1.specialBack hx (y := (⟨"organico/records/RecordRoom", "<init>", "(I)V"⟩ : MethodName)) rfl hown (mvT hZ (hw _ (List.mem_of_getElem? (i := 4) rfl))) (mvT hZ (hw _ (List.mem_of_getElem? (i := 5) rfl))) (mvT hZ (hw _ (List.mem_of_getElem? (i := 6) rfl))) (by decide) (backOf (W := 1) (rm1 l Z aw hw [] b1 p0 h1 n0 Z3 B4 A1 g2) hZ (hw _ (List.mem_of_getElem? (i := 6) rfl)) (hw _ (List.mem_of_getElem? (i := 3) rfl)) (by decide) (by decide)) (g := (mkF m 23 #[iv p0, iv p1, iv p2, iv p3, iv (p1 &&& (2147483647 : Int32)), iv (p2 &&& (2147483647 : Int32)), iv (p3 &&& (2147483647 : Int32)), .unset, .unset, .unset, .unset, .unset, .unset, .unset, .unset, .unset, .unset, .unset, .unset, .unset, .unset] [(.int p0), (.ref b1), (.ref b1)])) rfl (by rw [hml]; rfl) (Steps.refl _) (a := b1) (argsL := [(.int p0)]) (rest := [(.ref b1)]) (lenOf pd_0 rfl) rfl (by show 2 * 0 + _ ≤ _; exact Nat.le_of_eq rfl) (hb hby at_23) (fun _ _ => ⟨rfl, e1, (by decide : 1 + 0 ≤ _), (by decide : 1 + 0 ≤ _)⟩)
  dsimp only [Pt.U, Pt.locs, Pt.cells, Pt.slots] at X5 l5 y5 z5 st5 hQ5
  subst l5 y5 z5
  obtain ⟨rfl, N5q, K5, B6⟩ := hQ5
  have N7 := Fr.app N0 N5q
  have B8 := A1.keep K5
  have Z9 : n0 ≤ T5.heap.size := Nat.le_trans Z3 K5.1
  refine own_via (fun k => st5.trans k) ?_
  show own_Go p e below s _ _ (T5.setTop (mkF m 26 #[iv p0, iv p1, iv p2, iv p3, iv (p1 &&& (2147483647 : Int32)), iv (p2 &&& (2147483647 : Int32)), iv (p3 &&& (2147483647 : Int32)), .unset, .unset, .unset, .unset, .unset, .unset, .unset, .unset, .unset, .unset, .unset, .unset, .unset, .unset] [(.ref b1)]))
  refine own_via (fun k => XS.astore X5.here hx rfl (hb hby at_26) rfl rfl (l' := #[iv p0, iv p1, iv p2, iv p3, iv (p1 &&& (2147483647 : Int32)), iv (p2 &&& (2147483647 : Int32)), iv (p3 &&& (2147483647 : Int32)), rv b1, .unset, .unset, .unset, .unset, .unset, .unset, .unset, .unset, .unset, .unset, .unset, .unset, .unset]) rfl (XS.aload X5.here hx rfl (hb hby at_28) rfl rfl  (XS.iload X5.here hx rfl (hb hby at_30) rfl  k))) ?_
  show own_Go p e below s _ _ (T5.setTop (mkF m 32 #[iv p0, iv p1, iv p2, iv p3, iv (p1 &&& (2147483647 : Int32)), iv (p2 &&& (2147483647 : Int32)), iv (p3 &&& (2147483647 : Int32)), rv b1, .unset, .unset, .unset, .unset, .unset, .unset, .unset, .unset, .unset, .unset, .unset, .unset, .unset] [(.int (p1 &&& (2147483647 : Int32))), (.ref b1)]))
  obtain ⟨cq10, kq10, q10a, q10b, q10c⟩ := isOf hZ rfl B8
  obtain ⟨_, _, ⟨T10, L10, k10, n10⟩, -, X10, ⟨Lc10, hQ10, l10, y10, z10⟩, st10⟩ := X5.virtualBack hx (y := (⟨"organico/records/RecordRoom", "take", "(I)Z"⟩ : MethodName)) (z := (⟨"organico/records/RecordRoom", "take", "(I)Z"⟩ : MethodName)) hown (mvT hZ (hw _ (List.mem_of_getElem? (i := 12) rfl))) (mvT hZ (hw _ (List.mem_of_getElem? (i := 13) rfl))) (notFace_of_selects (args := #[]) (mvT hZ (hw _ (List.mem_of_getElem? (i := 15) rfl)))) (mvT hZ (hw _ (List.mem_of_getElem? (i := 15) rfl))) (mvT hZ (hw _ (List.mem_of_getElem? (i := 14) rfl))) (by decide) (backOf (W := 0) (rm3 l Z aw hw [] b1 (p1 &&& (2147483647 : Int32)) (p0.toInt64) T5.heap n0 Z9 B6 B8 g2) hZ (hw _ (List.mem_of_getElem? (i := 16) rfl)) (hw _ (List.mem_of_getElem? (i := 3) rfl)) (by decide) (by decide)) q10a q10c (g := (mkF m 32 #[iv p0, iv p1, iv p2, iv p3, iv (p1 &&& (2147483647 : Int32)), iv (p2 &&& (2147483647 : Int32)), iv (p3 &&& (2147483647 : Int32)), rv b1, .unset, .unset, .unset, .unset, .unset, .unset, .unset, .unset, .unset, .unset, .unset, .unset, .unset] [(.int (p1 &&& (2147483647 : Int32))), (.ref b1)])) rfl (by rw [hml]; rfl) (Steps.refl _) (argsL := [(.int (p1 &&& (2147483647 : Int32)))]) (rest := []) (lenOf pd_2 rfl) rfl (by show 2 * 0 + _ ≤ _; exact Nat.le_of_eq rfl) (hb hby at_32) (fun _ _ => ⟨rfl, rfl, (by decide : 1 + 0 ≤ _), (by decide : 1 + 0 ≤ _)⟩)
  dsimp only [Pt.U, Pt.locs, Pt.cells, Pt.slots] at X10 l10 y10 z10 st10 hQ10
  subst l10 y10 z10
  obtain ⟨rfl, N10q, K10, B11⟩ := hQ10
  have N12 := Fr.app N7 N10q
  have B13 := B8.keep K10
  have Z14 : n0 ≤ T10.heap.size := Nat.le_trans Z9 K10.1
  refine own_via (fun k => st10.trans k) ?_
  show own_Go p e below s _ _ (T10.setTop (mkF m 35 #[iv p0, iv p1, iv p2, iv p3, iv (p1 &&& (2147483647 : Int32)), iv (p2 &&& (2147483647 : Int32)), iv (p3 &&& (2147483647 : Int32)), rv b1, .unset, .unset, .unset, .unset, .unset, .unset, .unset, .unset, .unset, .unset, .unset, .unset, .unset] [(.int (own_f3 (p1 &&& (2147483647 : Int32)) (p0.toInt64)))]))
  refine own_via (fun k => XS.istore X10.here hx rfl (hb hby at_35) rfl (l' := #[iv p0, iv p1, iv p2, iv p3, iv (p1 &&& (2147483647 : Int32)), iv (p2 &&& (2147483647 : Int32)), iv (p3 &&& (2147483647 : Int32)), rv b1, iv (own_f3 (p1 &&& (2147483647 : Int32)) (p0.toInt64)), .unset, .unset, .unset, .unset, .unset, .unset, .unset, .unset, .unset, .unset, .unset, .unset]) rfl (XS.aload X10.here hx rfl (hb hby at_37) rfl rfl  (XS.iload X10.here hx rfl (hb hby at_39) rfl  k))) ?_
  show own_Go p e below s _ _ (T10.setTop (mkF m 41 #[iv p0, iv p1, iv p2, iv p3, iv (p1 &&& (2147483647 : Int32)), iv (p2 &&& (2147483647 : Int32)), iv (p3 &&& (2147483647 : Int32)), rv b1, iv (own_f3 (p1 &&& (2147483647 : Int32)) (p0.toInt64)), .unset, .unset, .unset, .unset, .unset, .unset, .unset, .unset, .unset, .unset, .unset, .unset] [(.int (p2 &&& (2147483647 : Int32))), (.ref b1)]))
  obtain ⟨cq15, kq15, q15a, q15b, q15c⟩ := isOf hZ rfl B13
  obtain ⟨_, _, ⟨T15, L15, k15, n15⟩, -, X15, ⟨Lc15, hQ15, l15, y15, z15⟩, st15⟩ := X10.virtualBack hx (y := (⟨"organico/records/RecordRoom", "take", "(I)Z"⟩ : MethodName)) (z := (⟨"organico/records/RecordRoom", "take", "(I)Z"⟩ : MethodName)) hown (mvT hZ (hw _ (List.mem_of_getElem? (i := 12) rfl))) (mvT hZ (hw _ (List.mem_of_getElem? (i := 13) rfl))) (notFace_of_selects (args := #[]) (mvT hZ (hw _ (List.mem_of_getElem? (i := 15) rfl)))) (mvT hZ (hw _ (List.mem_of_getElem? (i := 15) rfl))) (mvT hZ (hw _ (List.mem_of_getElem? (i := 14) rfl))) (by decide) (backOf (W := 0) (rm3 l Z aw hw [] b1 (p2 &&& (2147483647 : Int32)) ((p0.toInt64) + ((p1 &&& (2147483647 : Int32)).toInt64)) T10.heap n0 Z14 B11 B13 g2) hZ (hw _ (List.mem_of_getElem? (i := 16) rfl)) (hw _ (List.mem_of_getElem? (i := 3) rfl)) (by decide) (by decide)) q15a q15c (g := (mkF m 41 #[iv p0, iv p1, iv p2, iv p3, iv (p1 &&& (2147483647 : Int32)), iv (p2 &&& (2147483647 : Int32)), iv (p3 &&& (2147483647 : Int32)), rv b1, iv (own_f3 (p1 &&& (2147483647 : Int32)) (p0.toInt64)), .unset, .unset, .unset, .unset, .unset, .unset, .unset, .unset, .unset, .unset, .unset, .unset] [(.int (p2 &&& (2147483647 : Int32))), (.ref b1)])) rfl (by rw [hml]; rfl) (Steps.refl _) (argsL := [(.int (p2 &&& (2147483647 : Int32)))]) (rest := []) (lenOf pd_2 rfl) rfl (by show 2 * 0 + _ ≤ _; exact Nat.le_of_eq rfl) (hb hby at_41) (fun _ _ => ⟨rfl, rfl, (by decide : 1 + 0 ≤ _), (by decide : 1 + 0 ≤ _)⟩)
  dsimp only [Pt.U, Pt.locs, Pt.cells, Pt.slots] at X15 l15 y15 z15 st15 hQ15
  subst l15 y15 z15
  obtain ⟨rfl, N15q, K15, B16⟩ := hQ15
  have N17 := Fr.app N12 N15q
  have B18 := B13.keep K15
  have Z19 : n0 ≤ T15.heap.size := Nat.le_trans Z14 K15.1
  refine own_via (fun k => st15.trans k) ?_
  show own_Go p e below s _ _ (T15.setTop (mkF m 44 #[iv p0, iv p1, iv p2, iv p3, iv (p1 &&& (2147483647 : Int32)), iv (p2 &&& (2147483647 : Int32)), iv (p3 &&& (2147483647 : Int32)), rv b1, iv (own_f3 (p1 &&& (2147483647 : Int32)) (p0.toInt64)), .unset, .unset, .unset, .unset, .unset, .unset, .unset, .unset, .unset, .unset, .unset, .unset] [(.int (own_f3 (p2 &&& (2147483647 : Int32)) ((p0.toInt64) + ((p1 &&& (2147483647 : Int32)).toInt64))))]))
  refine own_via (fun k => XS.istore X15.here hx rfl (hb hby at_44) rfl (l' := #[iv p0, iv p1, iv p2, iv p3, iv (p1 &&& (2147483647 : Int32)), iv (p2 &&& (2147483647 : Int32)), iv (p3 &&& (2147483647 : Int32)), rv b1, iv (own_f3 (p1 &&& (2147483647 : Int32)) (p0.toInt64)), iv (own_f3 (p2 &&& (2147483647 : Int32)) ((p0.toInt64) + ((p1 &&& (2147483647 : Int32)).toInt64))), .unset, .unset, .unset, .unset, .unset, .unset, .unset, .unset, .unset, .unset, .unset]) rfl (XS.aload X15.here hx rfl (hb hby at_46) rfl rfl  (XS.iload X15.here hx rfl (hb hby at_48) rfl  k))) ?_
  show own_Go p e below s _ _ (T15.setTop (mkF m 50 #[iv p0, iv p1, iv p2, iv p3, iv (p1 &&& (2147483647 : Int32)), iv (p2 &&& (2147483647 : Int32)), iv (p3 &&& (2147483647 : Int32)), rv b1, iv (own_f3 (p1 &&& (2147483647 : Int32)) (p0.toInt64)), iv (own_f3 (p2 &&& (2147483647 : Int32)) ((p0.toInt64) + ((p1 &&& (2147483647 : Int32)).toInt64))), .unset, .unset, .unset, .unset, .unset, .unset, .unset, .unset, .unset, .unset, .unset] [(.int (p3 &&& (2147483647 : Int32))), (.ref b1)]))
  obtain ⟨cq20, kq20, q20a, q20b, q20c⟩ := isOf hZ rfl B18
  obtain ⟨_, _, ⟨T20, L20, k20, n20⟩, -, X20, ⟨Lc20, hQ20, l20, y20, z20⟩, st20⟩ := X15.virtualBack hx (y := (⟨"organico/records/RecordRoom", "take", "(I)Z"⟩ : MethodName)) (z := (⟨"organico/records/RecordRoom", "take", "(I)Z"⟩ : MethodName)) hown (mvT hZ (hw _ (List.mem_of_getElem? (i := 12) rfl))) (mvT hZ (hw _ (List.mem_of_getElem? (i := 13) rfl))) (notFace_of_selects (args := #[]) (mvT hZ (hw _ (List.mem_of_getElem? (i := 15) rfl)))) (mvT hZ (hw _ (List.mem_of_getElem? (i := 15) rfl))) (mvT hZ (hw _ (List.mem_of_getElem? (i := 14) rfl))) (by decide) (backOf (W := 0) (rm3 l Z aw hw [] b1 (p3 &&& (2147483647 : Int32)) (((p0.toInt64) + ((p1 &&& (2147483647 : Int32)).toInt64)) + ((p2 &&& (2147483647 : Int32)).toInt64)) T15.heap n0 Z19 B16 B18 g2) hZ (hw _ (List.mem_of_getElem? (i := 16) rfl)) (hw _ (List.mem_of_getElem? (i := 3) rfl)) (by decide) (by decide)) q20a q20c (g := (mkF m 50 #[iv p0, iv p1, iv p2, iv p3, iv (p1 &&& (2147483647 : Int32)), iv (p2 &&& (2147483647 : Int32)), iv (p3 &&& (2147483647 : Int32)), rv b1, iv (own_f3 (p1 &&& (2147483647 : Int32)) (p0.toInt64)), iv (own_f3 (p2 &&& (2147483647 : Int32)) ((p0.toInt64) + ((p1 &&& (2147483647 : Int32)).toInt64))), .unset, .unset, .unset, .unset, .unset, .unset, .unset, .unset, .unset, .unset, .unset] [(.int (p3 &&& (2147483647 : Int32))), (.ref b1)])) rfl (by rw [hml]; rfl) (Steps.refl _) (argsL := [(.int (p3 &&& (2147483647 : Int32)))]) (rest := []) (lenOf pd_2 rfl) rfl (by show 2 * 0 + _ ≤ _; exact Nat.le_of_eq rfl) (hb hby at_50) (fun _ _ => ⟨rfl, rfl, (by decide : 1 + 0 ≤ _), (by decide : 1 + 0 ≤ _)⟩)
  dsimp only [Pt.U, Pt.locs, Pt.cells, Pt.slots] at X20 l20 y20 z20 st20 hQ20
  subst l20 y20 z20
  obtain ⟨rfl, N20q, K20, B21⟩ := hQ20
  have N22 := Fr.app N17 N20q
  have B23 := B18.keep K20
  have Z24 : n0 ≤ T20.heap.size := Nat.le_trans Z19 K20.1
  refine own_via (fun k => st20.trans k) ?_
  show own_Go p e below s _ _ (T20.setTop (mkF m 53 #[iv p0, iv p1, iv p2, iv p3, iv (p1 &&& (2147483647 : Int32)), iv (p2 &&& (2147483647 : Int32)), iv (p3 &&& (2147483647 : Int32)), rv b1, iv (own_f3 (p1 &&& (2147483647 : Int32)) (p0.toInt64)), iv (own_f3 (p2 &&& (2147483647 : Int32)) ((p0.toInt64) + ((p1 &&& (2147483647 : Int32)).toInt64))), .unset, .unset, .unset, .unset, .unset, .unset, .unset, .unset, .unset, .unset, .unset] [(.int (own_f3 (p3 &&& (2147483647 : Int32)) (((p0.toInt64) + ((p1 &&& (2147483647 : Int32)).toInt64)) + ((p2 &&& (2147483647 : Int32)).toInt64))))]))
  refine own_via (fun k => XS.istore X20.here hx rfl (hb hby at_53) rfl (l' := #[iv p0, iv p1, iv p2, iv p3, iv (p1 &&& (2147483647 : Int32)), iv (p2 &&& (2147483647 : Int32)), iv (p3 &&& (2147483647 : Int32)), rv b1, iv (own_f3 (p1 &&& (2147483647 : Int32)) (p0.toInt64)), iv (own_f3 (p2 &&& (2147483647 : Int32)) ((p0.toInt64) + ((p1 &&& (2147483647 : Int32)).toInt64))), iv (own_f3 (p3 &&& (2147483647 : Int32)) (((p0.toInt64) + ((p1 &&& (2147483647 : Int32)).toInt64)) + ((p2 &&& (2147483647 : Int32)).toInt64))), .unset, .unset, .unset, .unset, .unset, .unset, .unset, .unset, .unset, .unset]) rfl (XS.iloadN X20.here hx rfl (hb hby at_55) rfl  (XS.i2l X20.here hx rfl (hb hby at_56) rfl (XS.iload X20.here hx rfl (hb hby at_57) rfl  k)))) ?_
  show own_Go p e below s _ _ (T20.setTop (mkF m 59 #[iv p0, iv p1, iv p2, iv p3, iv (p1 &&& (2147483647 : Int32)), iv (p2 &&& (2147483647 : Int32)), iv (p3 &&& (2147483647 : Int32)), rv b1, iv (own_f3 (p1 &&& (2147483647 : Int32)) (p0.toInt64)), iv (own_f3 (p2 &&& (2147483647 : Int32)) ((p0.toInt64) + ((p1 &&& (2147483647 : Int32)).toInt64))), iv (own_f3 (p3 &&& (2147483647 : Int32)) (((p0.toInt64) + ((p1 &&& (2147483647 : Int32)).toInt64)) + ((p2 &&& (2147483647 : Int32)).toInt64))), .unset, .unset, .unset, .unset, .unset, .unset, .unset, .unset, .unset, .unset] [(.int (p1 &&& (2147483647 : Int32))), (.long (p0.toInt64))]))
  refine own_via (fun k => XS.i2l X20.here hx rfl (hb hby at_59) rfl (XS.ladd X20.here hx rfl (hb hby at_60) rfl (XS.lstore X20.here hx rfl (hb hby at_61) rfl (l' := #[iv p0, iv p1, iv p2, iv p3, iv (p1 &&& (2147483647 : Int32)), iv (p2 &&& (2147483647 : Int32)), iv (p3 &&& (2147483647 : Int32)), rv b1, iv (own_f3 (p1 &&& (2147483647 : Int32)) (p0.toInt64)), iv (own_f3 (p2 &&& (2147483647 : Int32)) ((p0.toInt64) + ((p1 &&& (2147483647 : Int32)).toInt64))), iv (own_f3 (p3 &&& (2147483647 : Int32)) (((p0.toInt64) + ((p1 &&& (2147483647 : Int32)).toInt64)) + ((p2 &&& (2147483647 : Int32)).toInt64))), jv ((p0.toInt64) + ((p1 &&& (2147483647 : Int32)).toInt64)), .second, .unset, .unset, .unset, .unset, .unset, .unset, .unset, .unset]) rfl (XS.lload X20.here hx rfl (hb hby at_63) rfl  k)))) ?_
  show own_Go p e below s _ _ (T20.setTop (mkF m 65 #[iv p0, iv p1, iv p2, iv p3, iv (p1 &&& (2147483647 : Int32)), iv (p2 &&& (2147483647 : Int32)), iv (p3 &&& (2147483647 : Int32)), rv b1, iv (own_f3 (p1 &&& (2147483647 : Int32)) (p0.toInt64)), iv (own_f3 (p2 &&& (2147483647 : Int32)) ((p0.toInt64) + ((p1 &&& (2147483647 : Int32)).toInt64))), iv (own_f3 (p3 &&& (2147483647 : Int32)) (((p0.toInt64) + ((p1 &&& (2147483647 : Int32)).toInt64)) + ((p2 &&& (2147483647 : Int32)).toInt64))), jv ((p0.toInt64) + ((p1 &&& (2147483647 : Int32)).toInt64)), .second, .unset, .unset, .unset, .unset, .unset, .unset, .unset, .unset] [(.long ((p0.toInt64) + ((p1 &&& (2147483647 : Int32)).toInt64)))]))
  refine own_via (fun k => XS.iload X20.here hx rfl (hb hby at_65) rfl  (XS.i2l X20.here hx rfl (hb hby at_67) rfl (XS.ladd X20.here hx rfl (hb hby at_68) rfl (XS.lstore X20.here hx rfl (hb hby at_69) rfl (l' := #[iv p0, iv p1, iv p2, iv p3, iv (p1 &&& (2147483647 : Int32)), iv (p2 &&& (2147483647 : Int32)), iv (p3 &&& (2147483647 : Int32)), rv b1, iv (own_f3 (p1 &&& (2147483647 : Int32)) (p0.toInt64)), iv (own_f3 (p2 &&& (2147483647 : Int32)) ((p0.toInt64) + ((p1 &&& (2147483647 : Int32)).toInt64))), iv (own_f3 (p3 &&& (2147483647 : Int32)) (((p0.toInt64) + ((p1 &&& (2147483647 : Int32)).toInt64)) + ((p2 &&& (2147483647 : Int32)).toInt64))), jv ((p0.toInt64) + ((p1 &&& (2147483647 : Int32)).toInt64)), .second, jv (((p0.toInt64) + ((p1 &&& (2147483647 : Int32)).toInt64)) + ((p2 &&& (2147483647 : Int32)).toInt64)), .second, .unset, .unset, .unset, .unset, .unset, .unset]) rfl k)))) ?_
  show own_Go p e below s _ _ (T20.setTop (mkF m 71 #[iv p0, iv p1, iv p2, iv p3, iv (p1 &&& (2147483647 : Int32)), iv (p2 &&& (2147483647 : Int32)), iv (p3 &&& (2147483647 : Int32)), rv b1, iv (own_f3 (p1 &&& (2147483647 : Int32)) (p0.toInt64)), iv (own_f3 (p2 &&& (2147483647 : Int32)) ((p0.toInt64) + ((p1 &&& (2147483647 : Int32)).toInt64))), iv (own_f3 (p3 &&& (2147483647 : Int32)) (((p0.toInt64) + ((p1 &&& (2147483647 : Int32)).toInt64)) + ((p2 &&& (2147483647 : Int32)).toInt64))), jv ((p0.toInt64) + ((p1 &&& (2147483647 : Int32)).toInt64)), .second, jv (((p0.toInt64) + ((p1 &&& (2147483647 : Int32)).toInt64)) + ((p2 &&& (2147483647 : Int32)).toInt64)), .second, .unset, .unset, .unset, .unset, .unset, .unset] []))
  refine own_via (fun k => XS.lload X20.here hx rfl (hb hby at_71) rfl  (XS.iload X20.here hx rfl (hb hby at_73) rfl  (XS.i2l X20.here hx rfl (hb hby at_75) rfl (XS.ladd X20.here hx rfl (hb hby at_76) rfl k)))) ?_
  show own_Go p e below s _ _ (T20.setTop (mkF m 77 #[iv p0, iv p1, iv p2, iv p3, iv (p1 &&& (2147483647 : Int32)), iv (p2 &&& (2147483647 : Int32)), iv (p3 &&& (2147483647 : Int32)), rv b1, iv (own_f3 (p1 &&& (2147483647 : Int32)) (p0.toInt64)), iv (own_f3 (p2 &&& (2147483647 : Int32)) ((p0.toInt64) + ((p1 &&& (2147483647 : Int32)).toInt64))), iv (own_f3 (p3 &&& (2147483647 : Int32)) (((p0.toInt64) + ((p1 &&& (2147483647 : Int32)).toInt64)) + ((p2 &&& (2147483647 : Int32)).toInt64))), jv ((p0.toInt64) + ((p1 &&& (2147483647 : Int32)).toInt64)), .second, jv (((p0.toInt64) + ((p1 &&& (2147483647 : Int32)).toInt64)) + ((p2 &&& (2147483647 : Int32)).toInt64)), .second, .unset, .unset, .unset, .unset, .unset, .unset] [(.long ((((p0.toInt64) + ((p1 &&& (2147483647 : Int32)).toInt64)) + ((p2 &&& (2147483647 : Int32)).toInt64)) + ((p3 &&& (2147483647 : Int32)).toInt64)))]))
  refine own_via (fun k => XS.lstore X20.here hx rfl (hb hby at_77) rfl (l' := #[iv p0, iv p1, iv p2, iv p3, iv (p1 &&& (2147483647 : Int32)), iv (p2 &&& (2147483647 : Int32)), iv (p3 &&& (2147483647 : Int32)), rv b1, iv (own_f3 (p1 &&& (2147483647 : Int32)) (p0.toInt64)), iv (own_f3 (p2 &&& (2147483647 : Int32)) ((p0.toInt64) + ((p1 &&& (2147483647 : Int32)).toInt64))), iv (own_f3 (p3 &&& (2147483647 : Int32)) (((p0.toInt64) + ((p1 &&& (2147483647 : Int32)).toInt64)) + ((p2 &&& (2147483647 : Int32)).toInt64))), jv ((p0.toInt64) + ((p1 &&& (2147483647 : Int32)).toInt64)), .second, jv (((p0.toInt64) + ((p1 &&& (2147483647 : Int32)).toInt64)) + ((p2 &&& (2147483647 : Int32)).toInt64)), .second, jv ((((p0.toInt64) + ((p1 &&& (2147483647 : Int32)).toInt64)) + ((p2 &&& (2147483647 : Int32)).toInt64)) + ((p3 &&& (2147483647 : Int32)).toInt64)), .second, .unset, .unset, .unset, .unset]) rfl (XS.lload X20.here hx rfl (hb hby at_79) rfl  (X20.ldc2Long hx hown (mvT hZ (hw _ (List.mem_of_getElem? (i := 18) rfl))) (g := (mkF m 81 #[iv p0, iv p1, iv p2, iv p3, iv (p1 &&& (2147483647 : Int32)), iv (p2 &&& (2147483647 : Int32)), iv (p3 &&& (2147483647 : Int32)), rv b1, iv (own_f3 (p1 &&& (2147483647 : Int32)) (p0.toInt64)), iv (own_f3 (p2 &&& (2147483647 : Int32)) ((p0.toInt64) + ((p1 &&& (2147483647 : Int32)).toInt64))), iv (own_f3 (p3 &&& (2147483647 : Int32)) (((p0.toInt64) + ((p1 &&& (2147483647 : Int32)).toInt64)) + ((p2 &&& (2147483647 : Int32)).toInt64))), jv ((p0.toInt64) + ((p1 &&& (2147483647 : Int32)).toInt64)), .second, jv (((p0.toInt64) + ((p1 &&& (2147483647 : Int32)).toInt64)) + ((p2 &&& (2147483647 : Int32)).toInt64)), .second, jv ((((p0.toInt64) + ((p1 &&& (2147483647 : Int32)).toInt64)) + ((p2 &&& (2147483647 : Int32)).toInt64)) + ((p3 &&& (2147483647 : Int32)).toInt64)), .second, .unset, .unset, .unset, .unset] [(.long ((p0.toInt64) + ((p1 &&& (2147483647 : Int32)).toInt64)))])) rfl (hb hby at_81) _ (XS.lcmp X20.here hx rfl (hb hby at_84) rfl k)))) ?_
  show own_Go p e below s _ _ (T20.setTop (mkF m 85 #[iv p0, iv p1, iv p2, iv p3, iv (p1 &&& (2147483647 : Int32)), iv (p2 &&& (2147483647 : Int32)), iv (p3 &&& (2147483647 : Int32)), rv b1, iv (own_f3 (p1 &&& (2147483647 : Int32)) (p0.toInt64)), iv (own_f3 (p2 &&& (2147483647 : Int32)) ((p0.toInt64) + ((p1 &&& (2147483647 : Int32)).toInt64))), iv (own_f3 (p3 &&& (2147483647 : Int32)) (((p0.toInt64) + ((p1 &&& (2147483647 : Int32)).toInt64)) + ((p2 &&& (2147483647 : Int32)).toInt64))), jv ((p0.toInt64) + ((p1 &&& (2147483647 : Int32)).toInt64)), .second, jv (((p0.toInt64) + ((p1 &&& (2147483647 : Int32)).toInt64)) + ((p2 &&& (2147483647 : Int32)).toInt64)), .second, jv ((((p0.toInt64) + ((p1 &&& (2147483647 : Int32)).toInt64)) + ((p2 &&& (2147483647 : Int32)).toInt64)) + ((p3 &&& (2147483647 : Int32)).toInt64)), .second, .unset, .unset, .unset, .unset] [(.int (lcmpW ((p0.toInt64) + ((p1 &&& (2147483647 : Int32)).toInt64)) (99999 : Int64)))]))
  have J26 : ∀ (z25 : Int32), z25 = (if (99999 : Int64) < ((p0.toInt64) + ((p1 &&& (2147483647 : Int32)).toInt64)) then (0 : Int32) else (1 : Int32)) → own_Go p e below s (Q0 Z p0 p1 p2 p3 h0 n0) (room_1.cells, room_1.slots) (T20.setTop (mkF m 93 #[iv p0, iv p1, iv p2, iv p3, iv (p1 &&& (2147483647 : Int32)), iv (p2 &&& (2147483647 : Int32)), iv (p3 &&& (2147483647 : Int32)), rv b1, iv (own_f3 (p1 &&& (2147483647 : Int32)) (p0.toInt64)), iv (own_f3 (p2 &&& (2147483647 : Int32)) ((p0.toInt64) + ((p1 &&& (2147483647 : Int32)).toInt64))), iv (own_f3 (p3 &&& (2147483647 : Int32)) (((p0.toInt64) + ((p1 &&& (2147483647 : Int32)).toInt64)) + ((p2 &&& (2147483647 : Int32)).toInt64))), jv ((p0.toInt64) + ((p1 &&& (2147483647 : Int32)).toInt64)), .second, jv (((p0.toInt64) + ((p1 &&& (2147483647 : Int32)).toInt64)) + ((p2 &&& (2147483647 : Int32)).toInt64)), .second, jv ((((p0.toInt64) + ((p1 &&& (2147483647 : Int32)).toInt64)) + ((p2 &&& (2147483647 : Int32)).toInt64)) + ((p3 &&& (2147483647 : Int32)).toInt64)), .second, .unset, .unset, .unset, .unset] [(.int z25)])) := by
    intro z25 hz25
    refine own_via (fun k => XS.istore X20.here hx rfl (hb hby at_93) rfl (l' := #[iv p0, iv p1, iv p2, iv p3, iv (p1 &&& (2147483647 : Int32)), iv (p2 &&& (2147483647 : Int32)), iv (p3 &&& (2147483647 : Int32)), rv b1, iv (own_f3 (p1 &&& (2147483647 : Int32)) (p0.toInt64)), iv (own_f3 (p2 &&& (2147483647 : Int32)) ((p0.toInt64) + ((p1 &&& (2147483647 : Int32)).toInt64))), iv (own_f3 (p3 &&& (2147483647 : Int32)) (((p0.toInt64) + ((p1 &&& (2147483647 : Int32)).toInt64)) + ((p2 &&& (2147483647 : Int32)).toInt64))), jv ((p0.toInt64) + ((p1 &&& (2147483647 : Int32)).toInt64)), .second, jv (((p0.toInt64) + ((p1 &&& (2147483647 : Int32)).toInt64)) + ((p2 &&& (2147483647 : Int32)).toInt64)), .second, jv ((((p0.toInt64) + ((p1 &&& (2147483647 : Int32)).toInt64)) + ((p2 &&& (2147483647 : Int32)).toInt64)) + ((p3 &&& (2147483647 : Int32)).toInt64)), .second, iv z25, .unset, .unset, .unset]) rfl (XS.lload X20.here hx rfl (hb hby at_95) rfl  (X20.ldc2Long hx hown (mvT hZ (hw _ (List.mem_of_getElem? (i := 18) rfl))) (g := (mkF m 97 #[iv p0, iv p1, iv p2, iv p3, iv (p1 &&& (2147483647 : Int32)), iv (p2 &&& (2147483647 : Int32)), iv (p3 &&& (2147483647 : Int32)), rv b1, iv (own_f3 (p1 &&& (2147483647 : Int32)) (p0.toInt64)), iv (own_f3 (p2 &&& (2147483647 : Int32)) ((p0.toInt64) + ((p1 &&& (2147483647 : Int32)).toInt64))), iv (own_f3 (p3 &&& (2147483647 : Int32)) (((p0.toInt64) + ((p1 &&& (2147483647 : Int32)).toInt64)) + ((p2 &&& (2147483647 : Int32)).toInt64))), jv ((p0.toInt64) + ((p1 &&& (2147483647 : Int32)).toInt64)), .second, jv (((p0.toInt64) + ((p1 &&& (2147483647 : Int32)).toInt64)) + ((p2 &&& (2147483647 : Int32)).toInt64)), .second, jv ((((p0.toInt64) + ((p1 &&& (2147483647 : Int32)).toInt64)) + ((p2 &&& (2147483647 : Int32)).toInt64)) + ((p3 &&& (2147483647 : Int32)).toInt64)), .second, iv z25, .unset, .unset, .unset] [(.long (((p0.toInt64) + ((p1 &&& (2147483647 : Int32)).toInt64)) + ((p2 &&& (2147483647 : Int32)).toInt64)))])) rfl (hb hby at_97) _ (XS.lcmp X20.here hx rfl (hb hby at_100) rfl k)))) ?_
    show own_Go p e below s _ _ (T20.setTop (mkF m 101 #[iv p0, iv p1, iv p2, iv p3, iv (p1 &&& (2147483647 : Int32)), iv (p2 &&& (2147483647 : Int32)), iv (p3 &&& (2147483647 : Int32)), rv b1, iv (own_f3 (p1 &&& (2147483647 : Int32)) (p0.toInt64)), iv (own_f3 (p2 &&& (2147483647 : Int32)) ((p0.toInt64) + ((p1 &&& (2147483647 : Int32)).toInt64))), iv (own_f3 (p3 &&& (2147483647 : Int32)) (((p0.toInt64) + ((p1 &&& (2147483647 : Int32)).toInt64)) + ((p2 &&& (2147483647 : Int32)).toInt64))), jv ((p0.toInt64) + ((p1 &&& (2147483647 : Int32)).toInt64)), .second, jv (((p0.toInt64) + ((p1 &&& (2147483647 : Int32)).toInt64)) + ((p2 &&& (2147483647 : Int32)).toInt64)), .second, jv ((((p0.toInt64) + ((p1 &&& (2147483647 : Int32)).toInt64)) + ((p2 &&& (2147483647 : Int32)).toInt64)) + ((p3 &&& (2147483647 : Int32)).toInt64)), .second, iv z25, .unset, .unset, .unset] [(.int (lcmpW (((p0.toInt64) + ((p1 &&& (2147483647 : Int32)).toInt64)) + ((p2 &&& (2147483647 : Int32)).toInt64)) (99999 : Int64)))]))
    have J28 : ∀ (z27 : Int32), z27 = (if (99999 : Int64) < (((p0.toInt64) + ((p1 &&& (2147483647 : Int32)).toInt64)) + ((p2 &&& (2147483647 : Int32)).toInt64)) then (0 : Int32) else (1 : Int32)) → own_Go p e below s (Q0 Z p0 p1 p2 p3 h0 n0) (room_1.cells, room_1.slots) (T20.setTop (mkF m 109 #[iv p0, iv p1, iv p2, iv p3, iv (p1 &&& (2147483647 : Int32)), iv (p2 &&& (2147483647 : Int32)), iv (p3 &&& (2147483647 : Int32)), rv b1, iv (own_f3 (p1 &&& (2147483647 : Int32)) (p0.toInt64)), iv (own_f3 (p2 &&& (2147483647 : Int32)) ((p0.toInt64) + ((p1 &&& (2147483647 : Int32)).toInt64))), iv (own_f3 (p3 &&& (2147483647 : Int32)) (((p0.toInt64) + ((p1 &&& (2147483647 : Int32)).toInt64)) + ((p2 &&& (2147483647 : Int32)).toInt64))), jv ((p0.toInt64) + ((p1 &&& (2147483647 : Int32)).toInt64)), .second, jv (((p0.toInt64) + ((p1 &&& (2147483647 : Int32)).toInt64)) + ((p2 &&& (2147483647 : Int32)).toInt64)), .second, jv ((((p0.toInt64) + ((p1 &&& (2147483647 : Int32)).toInt64)) + ((p2 &&& (2147483647 : Int32)).toInt64)) + ((p3 &&& (2147483647 : Int32)).toInt64)), .second, iv z25, .unset, .unset, .unset] [(.int z27)])) := by
      intro z27 hz27
      refine own_via (fun k => XS.istore X20.here hx rfl (hb hby at_109) rfl (l' := #[iv p0, iv p1, iv p2, iv p3, iv (p1 &&& (2147483647 : Int32)), iv (p2 &&& (2147483647 : Int32)), iv (p3 &&& (2147483647 : Int32)), rv b1, iv (own_f3 (p1 &&& (2147483647 : Int32)) (p0.toInt64)), iv (own_f3 (p2 &&& (2147483647 : Int32)) ((p0.toInt64) + ((p1 &&& (2147483647 : Int32)).toInt64))), iv (own_f3 (p3 &&& (2147483647 : Int32)) (((p0.toInt64) + ((p1 &&& (2147483647 : Int32)).toInt64)) + ((p2 &&& (2147483647 : Int32)).toInt64))), jv ((p0.toInt64) + ((p1 &&& (2147483647 : Int32)).toInt64)), .second, jv (((p0.toInt64) + ((p1 &&& (2147483647 : Int32)).toInt64)) + ((p2 &&& (2147483647 : Int32)).toInt64)), .second, jv ((((p0.toInt64) + ((p1 &&& (2147483647 : Int32)).toInt64)) + ((p2 &&& (2147483647 : Int32)).toInt64)) + ((p3 &&& (2147483647 : Int32)).toInt64)), .second, iv z25, iv z27, .unset, .unset]) rfl (XS.lload X20.here hx rfl (hb hby at_111) rfl  (X20.ldc2Long hx hown (mvT hZ (hw _ (List.mem_of_getElem? (i := 18) rfl))) (g := (mkF m 113 #[iv p0, iv p1, iv p2, iv p3, iv (p1 &&& (2147483647 : Int32)), iv (p2 &&& (2147483647 : Int32)), iv (p3 &&& (2147483647 : Int32)), rv b1, iv (own_f3 (p1 &&& (2147483647 : Int32)) (p0.toInt64)), iv (own_f3 (p2 &&& (2147483647 : Int32)) ((p0.toInt64) + ((p1 &&& (2147483647 : Int32)).toInt64))), iv (own_f3 (p3 &&& (2147483647 : Int32)) (((p0.toInt64) + ((p1 &&& (2147483647 : Int32)).toInt64)) + ((p2 &&& (2147483647 : Int32)).toInt64))), jv ((p0.toInt64) + ((p1 &&& (2147483647 : Int32)).toInt64)), .second, jv (((p0.toInt64) + ((p1 &&& (2147483647 : Int32)).toInt64)) + ((p2 &&& (2147483647 : Int32)).toInt64)), .second, jv ((((p0.toInt64) + ((p1 &&& (2147483647 : Int32)).toInt64)) + ((p2 &&& (2147483647 : Int32)).toInt64)) + ((p3 &&& (2147483647 : Int32)).toInt64)), .second, iv z25, iv z27, .unset, .unset] [(.long ((((p0.toInt64) + ((p1 &&& (2147483647 : Int32)).toInt64)) + ((p2 &&& (2147483647 : Int32)).toInt64)) + ((p3 &&& (2147483647 : Int32)).toInt64)))])) rfl (hb hby at_113) _ (XS.lcmp X20.here hx rfl (hb hby at_116) rfl k)))) ?_
      show own_Go p e below s _ _ (T20.setTop (mkF m 117 #[iv p0, iv p1, iv p2, iv p3, iv (p1 &&& (2147483647 : Int32)), iv (p2 &&& (2147483647 : Int32)), iv (p3 &&& (2147483647 : Int32)), rv b1, iv (own_f3 (p1 &&& (2147483647 : Int32)) (p0.toInt64)), iv (own_f3 (p2 &&& (2147483647 : Int32)) ((p0.toInt64) + ((p1 &&& (2147483647 : Int32)).toInt64))), iv (own_f3 (p3 &&& (2147483647 : Int32)) (((p0.toInt64) + ((p1 &&& (2147483647 : Int32)).toInt64)) + ((p2 &&& (2147483647 : Int32)).toInt64))), jv ((p0.toInt64) + ((p1 &&& (2147483647 : Int32)).toInt64)), .second, jv (((p0.toInt64) + ((p1 &&& (2147483647 : Int32)).toInt64)) + ((p2 &&& (2147483647 : Int32)).toInt64)), .second, jv ((((p0.toInt64) + ((p1 &&& (2147483647 : Int32)).toInt64)) + ((p2 &&& (2147483647 : Int32)).toInt64)) + ((p3 &&& (2147483647 : Int32)).toInt64)), .second, iv z25, iv z27, .unset, .unset] [(.int (lcmpW ((((p0.toInt64) + ((p1 &&& (2147483647 : Int32)).toInt64)) + ((p2 &&& (2147483647 : Int32)).toInt64)) + ((p3 &&& (2147483647 : Int32)).toInt64)) (99999 : Int64)))]))
      have J30 : ∀ (z29 : Int32), z29 = (if (99999 : Int64) < ((((p0.toInt64) + ((p1 &&& (2147483647 : Int32)).toInt64)) + ((p2 &&& (2147483647 : Int32)).toInt64)) + ((p3 &&& (2147483647 : Int32)).toInt64)) then (0 : Int32) else (1 : Int32)) → own_Go p e below s (Q0 Z p0 p1 p2 p3 h0 n0) (room_1.cells, room_1.slots) (T20.setTop (mkF m 125 #[iv p0, iv p1, iv p2, iv p3, iv (p1 &&& (2147483647 : Int32)), iv (p2 &&& (2147483647 : Int32)), iv (p3 &&& (2147483647 : Int32)), rv b1, iv (own_f3 (p1 &&& (2147483647 : Int32)) (p0.toInt64)), iv (own_f3 (p2 &&& (2147483647 : Int32)) ((p0.toInt64) + ((p1 &&& (2147483647 : Int32)).toInt64))), iv (own_f3 (p3 &&& (2147483647 : Int32)) (((p0.toInt64) + ((p1 &&& (2147483647 : Int32)).toInt64)) + ((p2 &&& (2147483647 : Int32)).toInt64))), jv ((p0.toInt64) + ((p1 &&& (2147483647 : Int32)).toInt64)), .second, jv (((p0.toInt64) + ((p1 &&& (2147483647 : Int32)).toInt64)) + ((p2 &&& (2147483647 : Int32)).toInt64)), .second, jv ((((p0.toInt64) + ((p1 &&& (2147483647 : Int32)).toInt64)) + ((p2 &&& (2147483647 : Int32)).toInt64)) + ((p3 &&& (2147483647 : Int32)).toInt64)), .second, iv z25, iv z27, .unset, .unset] [(.int z29)])) := by
        intro z29 hz29
        refine own_via (fun k => XS.istore X20.here hx rfl (hb hby at_125) rfl (l' := #[iv p0, iv p1, iv p2, iv p3, iv (p1 &&& (2147483647 : Int32)), iv (p2 &&& (2147483647 : Int32)), iv (p3 &&& (2147483647 : Int32)), rv b1, iv (own_f3 (p1 &&& (2147483647 : Int32)) (p0.toInt64)), iv (own_f3 (p2 &&& (2147483647 : Int32)) ((p0.toInt64) + ((p1 &&& (2147483647 : Int32)).toInt64))), iv (own_f3 (p3 &&& (2147483647 : Int32)) (((p0.toInt64) + ((p1 &&& (2147483647 : Int32)).toInt64)) + ((p2 &&& (2147483647 : Int32)).toInt64))), jv ((p0.toInt64) + ((p1 &&& (2147483647 : Int32)).toInt64)), .second, jv (((p0.toInt64) + ((p1 &&& (2147483647 : Int32)).toInt64)) + ((p2 &&& (2147483647 : Int32)).toInt64)), .second, jv ((((p0.toInt64) + ((p1 &&& (2147483647 : Int32)).toInt64)) + ((p2 &&& (2147483647 : Int32)).toInt64)) + ((p3 &&& (2147483647 : Int32)).toInt64)), .second, iv z25, iv z27, iv z29, .unset]) rfl (XS.iload X20.here hx rfl (hb hby at_127) rfl  k)) ?_
        show own_Go p e below s _ _ (T20.setTop (mkF m 129 #[iv p0, iv p1, iv p2, iv p3, iv (p1 &&& (2147483647 : Int32)), iv (p2 &&& (2147483647 : Int32)), iv (p3 &&& (2147483647 : Int32)), rv b1, iv (own_f3 (p1 &&& (2147483647 : Int32)) (p0.toInt64)), iv (own_f3 (p2 &&& (2147483647 : Int32)) ((p0.toInt64) + ((p1 &&& (2147483647 : Int32)).toInt64))), iv (own_f3 (p3 &&& (2147483647 : Int32)) (((p0.toInt64) + ((p1 &&& (2147483647 : Int32)).toInt64)) + ((p2 &&& (2147483647 : Int32)).toInt64))), jv ((p0.toInt64) + ((p1 &&& (2147483647 : Int32)).toInt64)), .second, jv (((p0.toInt64) + ((p1 &&& (2147483647 : Int32)).toInt64)) + ((p2 &&& (2147483647 : Int32)).toInt64)), .second, jv ((((p0.toInt64) + ((p1 &&& (2147483647 : Int32)).toInt64)) + ((p2 &&& (2147483647 : Int32)).toInt64)) + ((p3 &&& (2147483647 : Int32)).toInt64)), .second, iv z25, iv z27, iv z29, .unset] [(.int (own_f3 (p1 &&& (2147483647 : Int32)) (p0.toInt64)))]))
        have J32 : ∀ (z31 : Int32), z31 = (if (own_f3 (p1 &&& (2147483647 : Int32)) (p0.toInt64)) = (0 : Int32) then (if (own_f3 (p2 &&& (2147483647 : Int32)) ((p0.toInt64) + ((p1 &&& (2147483647 : Int32)).toInt64))) = (0 : Int32) then (if (own_f3 (p3 &&& (2147483647 : Int32)) (((p0.toInt64) + ((p1 &&& (2147483647 : Int32)).toInt64)) + ((p2 &&& (2147483647 : Int32)).toInt64))) = (0 : Int32) then (1 : Int32) else (0 : Int32)) else (0 : Int32)) else (if (own_f3 (p2 &&& (2147483647 : Int32)) ((p0.toInt64) + ((p1 &&& (2147483647 : Int32)).toInt64))) = (0 : Int32) then (if (own_f3 (p3 &&& (2147483647 : Int32)) (((p0.toInt64) + ((p1 &&& (2147483647 : Int32)).toInt64)) + ((p2 &&& (2147483647 : Int32)).toInt64))) = (0 : Int32) then (1 : Int32) else (0 : Int32)) else (1 : Int32))) → own_Go p e below s (Q0 Z p0 p1 p2 p3 h0 n0) (room_1.cells, room_1.slots) (T20.setTop (mkF m 152 #[iv p0, iv p1, iv p2, iv p3, iv (p1 &&& (2147483647 : Int32)), iv (p2 &&& (2147483647 : Int32)), iv (p3 &&& (2147483647 : Int32)), rv b1, iv (own_f3 (p1 &&& (2147483647 : Int32)) (p0.toInt64)), iv (own_f3 (p2 &&& (2147483647 : Int32)) ((p0.toInt64) + ((p1 &&& (2147483647 : Int32)).toInt64))), iv (own_f3 (p3 &&& (2147483647 : Int32)) (((p0.toInt64) + ((p1 &&& (2147483647 : Int32)).toInt64)) + ((p2 &&& (2147483647 : Int32)).toInt64))), jv ((p0.toInt64) + ((p1 &&& (2147483647 : Int32)).toInt64)), .second, jv (((p0.toInt64) + ((p1 &&& (2147483647 : Int32)).toInt64)) + ((p2 &&& (2147483647 : Int32)).toInt64)), .second, jv ((((p0.toInt64) + ((p1 &&& (2147483647 : Int32)).toInt64)) + ((p2 &&& (2147483647 : Int32)).toInt64)) + ((p3 &&& (2147483647 : Int32)).toInt64)), .second, iv z25, iv z27, iv z29, .unset] [(.int z31)])) := by
          intro z31 hz31
          refine own_via (fun k => XS.istore X20.here hx rfl (hb hby at_152) rfl (l' := #[iv p0, iv p1, iv p2, iv p3, iv (p1 &&& (2147483647 : Int32)), iv (p2 &&& (2147483647 : Int32)), iv (p3 &&& (2147483647 : Int32)), rv b1, iv (own_f3 (p1 &&& (2147483647 : Int32)) (p0.toInt64)), iv (own_f3 (p2 &&& (2147483647 : Int32)) ((p0.toInt64) + ((p1 &&& (2147483647 : Int32)).toInt64))), iv (own_f3 (p3 &&& (2147483647 : Int32)) (((p0.toInt64) + ((p1 &&& (2147483647 : Int32)).toInt64)) + ((p2 &&& (2147483647 : Int32)).toInt64))), jv ((p0.toInt64) + ((p1 &&& (2147483647 : Int32)).toInt64)), .second, jv (((p0.toInt64) + ((p1 &&& (2147483647 : Int32)).toInt64)) + ((p2 &&& (2147483647 : Int32)).toInt64)), .second, jv ((((p0.toInt64) + ((p1 &&& (2147483647 : Int32)).toInt64)) + ((p2 &&& (2147483647 : Int32)).toInt64)) + ((p3 &&& (2147483647 : Int32)).toInt64)), .second, iv z25, iv z27, iv z29, iv z31]) rfl (XS.iload X20.here hx rfl (hb hby at_154) rfl  (XS.iload X20.here hx rfl (hb hby at_156) rfl  k))) ?_
          show own_Go p e below s _ _ (T20.setTop (mkF m 158 #[iv p0, iv p1, iv p2, iv p3, iv (p1 &&& (2147483647 : Int32)), iv (p2 &&& (2147483647 : Int32)), iv (p3 &&& (2147483647 : Int32)), rv b1, iv (own_f3 (p1 &&& (2147483647 : Int32)) (p0.toInt64)), iv (own_f3 (p2 &&& (2147483647 : Int32)) ((p0.toInt64) + ((p1 &&& (2147483647 : Int32)).toInt64))), iv (own_f3 (p3 &&& (2147483647 : Int32)) (((p0.toInt64) + ((p1 &&& (2147483647 : Int32)).toInt64)) + ((p2 &&& (2147483647 : Int32)).toInt64))), jv ((p0.toInt64) + ((p1 &&& (2147483647 : Int32)).toInt64)), .second, jv (((p0.toInt64) + ((p1 &&& (2147483647 : Int32)).toInt64)) + ((p2 &&& (2147483647 : Int32)).toInt64)), .second, jv ((((p0.toInt64) + ((p1 &&& (2147483647 : Int32)).toInt64)) + ((p2 &&& (2147483647 : Int32)).toInt64)) + ((p3 &&& (2147483647 : Int32)).toInt64)), .second, iv z25, iv z27, iv z29, iv z31] [(.int z25), (.int (own_f3 (p1 &&& (2147483647 : Int32)) (p0.toInt64)))]))
          refine own_via (fun k => XS.icmpNo X20.here hx rfl (hb hby at_158) rfl (teq (own_law158 p0 p1 z25 hz25)).2 k) ?_
          show own_Go p e below s _ _ (T20.setTop (mkF m 161 #[iv p0, iv p1, iv p2, iv p3, iv (p1 &&& (2147483647 : Int32)), iv (p2 &&& (2147483647 : Int32)), iv (p3 &&& (2147483647 : Int32)), rv b1, iv (own_f3 (p1 &&& (2147483647 : Int32)) (p0.toInt64)), iv (own_f3 (p2 &&& (2147483647 : Int32)) ((p0.toInt64) + ((p1 &&& (2147483647 : Int32)).toInt64))), iv (own_f3 (p3 &&& (2147483647 : Int32)) (((p0.toInt64) + ((p1 &&& (2147483647 : Int32)).toInt64)) + ((p2 &&& (2147483647 : Int32)).toInt64))), jv ((p0.toInt64) + ((p1 &&& (2147483647 : Int32)).toInt64)), .second, jv (((p0.toInt64) + ((p1 &&& (2147483647 : Int32)).toInt64)) + ((p2 &&& (2147483647 : Int32)).toInt64)), .second, jv ((((p0.toInt64) + ((p1 &&& (2147483647 : Int32)).toInt64)) + ((p2 &&& (2147483647 : Int32)).toInt64)) + ((p3 &&& (2147483647 : Int32)).toInt64)), .second, iv z25, iv z27, iv z29, iv z31] []))
          refine own_via (fun k => XS.iload X20.here hx rfl (hb hby at_161) rfl  (XS.iload X20.here hx rfl (hb hby at_163) rfl  k)) ?_
          show own_Go p e below s _ _ (T20.setTop (mkF m 165 #[iv p0, iv p1, iv p2, iv p3, iv (p1 &&& (2147483647 : Int32)), iv (p2 &&& (2147483647 : Int32)), iv (p3 &&& (2147483647 : Int32)), rv b1, iv (own_f3 (p1 &&& (2147483647 : Int32)) (p0.toInt64)), iv (own_f3 (p2 &&& (2147483647 : Int32)) ((p0.toInt64) + ((p1 &&& (2147483647 : Int32)).toInt64))), iv (own_f3 (p3 &&& (2147483647 : Int32)) (((p0.toInt64) + ((p1 &&& (2147483647 : Int32)).toInt64)) + ((p2 &&& (2147483647 : Int32)).toInt64))), jv ((p0.toInt64) + ((p1 &&& (2147483647 : Int32)).toInt64)), .second, jv (((p0.toInt64) + ((p1 &&& (2147483647 : Int32)).toInt64)) + ((p2 &&& (2147483647 : Int32)).toInt64)), .second, jv ((((p0.toInt64) + ((p1 &&& (2147483647 : Int32)).toInt64)) + ((p2 &&& (2147483647 : Int32)).toInt64)) + ((p3 &&& (2147483647 : Int32)).toInt64)), .second, iv z25, iv z27, iv z29, iv z31] [(.int z27), (.int (own_f3 (p2 &&& (2147483647 : Int32)) ((p0.toInt64) + ((p1 &&& (2147483647 : Int32)).toInt64))))]))
          refine own_via (fun k => XS.icmpNo X20.here hx rfl (hb hby at_165) rfl (teq (own_law165 p0 p1 p2 z27 hz27)).2 k) ?_
          show own_Go p e below s _ _ (T20.setTop (mkF m 168 #[iv p0, iv p1, iv p2, iv p3, iv (p1 &&& (2147483647 : Int32)), iv (p2 &&& (2147483647 : Int32)), iv (p3 &&& (2147483647 : Int32)), rv b1, iv (own_f3 (p1 &&& (2147483647 : Int32)) (p0.toInt64)), iv (own_f3 (p2 &&& (2147483647 : Int32)) ((p0.toInt64) + ((p1 &&& (2147483647 : Int32)).toInt64))), iv (own_f3 (p3 &&& (2147483647 : Int32)) (((p0.toInt64) + ((p1 &&& (2147483647 : Int32)).toInt64)) + ((p2 &&& (2147483647 : Int32)).toInt64))), jv ((p0.toInt64) + ((p1 &&& (2147483647 : Int32)).toInt64)), .second, jv (((p0.toInt64) + ((p1 &&& (2147483647 : Int32)).toInt64)) + ((p2 &&& (2147483647 : Int32)).toInt64)), .second, jv ((((p0.toInt64) + ((p1 &&& (2147483647 : Int32)).toInt64)) + ((p2 &&& (2147483647 : Int32)).toInt64)) + ((p3 &&& (2147483647 : Int32)).toInt64)), .second, iv z25, iv z27, iv z29, iv z31] []))
          refine own_via (fun k => XS.iload X20.here hx rfl (hb hby at_168) rfl  (XS.iload X20.here hx rfl (hb hby at_170) rfl  k)) ?_
          show own_Go p e below s _ _ (T20.setTop (mkF m 172 #[iv p0, iv p1, iv p2, iv p3, iv (p1 &&& (2147483647 : Int32)), iv (p2 &&& (2147483647 : Int32)), iv (p3 &&& (2147483647 : Int32)), rv b1, iv (own_f3 (p1 &&& (2147483647 : Int32)) (p0.toInt64)), iv (own_f3 (p2 &&& (2147483647 : Int32)) ((p0.toInt64) + ((p1 &&& (2147483647 : Int32)).toInt64))), iv (own_f3 (p3 &&& (2147483647 : Int32)) (((p0.toInt64) + ((p1 &&& (2147483647 : Int32)).toInt64)) + ((p2 &&& (2147483647 : Int32)).toInt64))), jv ((p0.toInt64) + ((p1 &&& (2147483647 : Int32)).toInt64)), .second, jv (((p0.toInt64) + ((p1 &&& (2147483647 : Int32)).toInt64)) + ((p2 &&& (2147483647 : Int32)).toInt64)), .second, jv ((((p0.toInt64) + ((p1 &&& (2147483647 : Int32)).toInt64)) + ((p2 &&& (2147483647 : Int32)).toInt64)) + ((p3 &&& (2147483647 : Int32)).toInt64)), .second, iv z25, iv z27, iv z29, iv z31] [(.int z29), (.int (own_f3 (p3 &&& (2147483647 : Int32)) (((p0.toInt64) + ((p1 &&& (2147483647 : Int32)).toInt64)) + ((p2 &&& (2147483647 : Int32)).toInt64))))]))
          refine own_via (fun k => XS.icmpNo X20.here hx rfl (hb hby at_172) rfl (teq (own_law172 p0 p1 p2 p3 z29 hz29)).2 k) ?_
          show own_Go p e below s _ _ (T20.setTop (mkF m 175 #[iv p0, iv p1, iv p2, iv p3, iv (p1 &&& (2147483647 : Int32)), iv (p2 &&& (2147483647 : Int32)), iv (p3 &&& (2147483647 : Int32)), rv b1, iv (own_f3 (p1 &&& (2147483647 : Int32)) (p0.toInt64)), iv (own_f3 (p2 &&& (2147483647 : Int32)) ((p0.toInt64) + ((p1 &&& (2147483647 : Int32)).toInt64))), iv (own_f3 (p3 &&& (2147483647 : Int32)) (((p0.toInt64) + ((p1 &&& (2147483647 : Int32)).toInt64)) + ((p2 &&& (2147483647 : Int32)).toInt64))), jv ((p0.toInt64) + ((p1 &&& (2147483647 : Int32)).toInt64)), .second, jv (((p0.toInt64) + ((p1 &&& (2147483647 : Int32)).toInt64)) + ((p2 &&& (2147483647 : Int32)).toInt64)), .second, jv ((((p0.toInt64) + ((p1 &&& (2147483647 : Int32)).toInt64)) + ((p2 &&& (2147483647 : Int32)).toInt64)) + ((p3 &&& (2147483647 : Int32)).toInt64)), .second, iv z25, iv z27, iv z29, iv z31] []))
          refine own_via (fun k => XS.iload X20.here hx rfl (hb hby at_175) rfl  k) ?_
          show own_Go p e below s _ _ (T20.setTop (mkF m 177 #[iv p0, iv p1, iv p2, iv p3, iv (p1 &&& (2147483647 : Int32)), iv (p2 &&& (2147483647 : Int32)), iv (p3 &&& (2147483647 : Int32)), rv b1, iv (own_f3 (p1 &&& (2147483647 : Int32)) (p0.toInt64)), iv (own_f3 (p2 &&& (2147483647 : Int32)) ((p0.toInt64) + ((p1 &&& (2147483647 : Int32)).toInt64))), iv (own_f3 (p3 &&& (2147483647 : Int32)) (((p0.toInt64) + ((p1 &&& (2147483647 : Int32)).toInt64)) + ((p2 &&& (2147483647 : Int32)).toInt64))), jv ((p0.toInt64) + ((p1 &&& (2147483647 : Int32)).toInt64)), .second, jv (((p0.toInt64) + ((p1 &&& (2147483647 : Int32)).toInt64)) + ((p2 &&& (2147483647 : Int32)).toInt64)), .second, jv ((((p0.toInt64) + ((p1 &&& (2147483647 : Int32)).toInt64)) + ((p2 &&& (2147483647 : Int32)).toInt64)) + ((p3 &&& (2147483647 : Int32)).toInt64)), .second, iv z25, iv z27, iv z29, iv z31] [(.int z31)]))
          refine own_via (fun k => XS.ifNo X20.here hx rfl (hb hby at_177) rfl ((if0 _ _).trans (feq (own_law177 p0 p1 p2 p3 z31 hz31)).1) k) ?_
          show own_Go p e below s _ _ (T20.setTop (mkF m 180 #[iv p0, iv p1, iv p2, iv p3, iv (p1 &&& (2147483647 : Int32)), iv (p2 &&& (2147483647 : Int32)), iv (p3 &&& (2147483647 : Int32)), rv b1, iv (own_f3 (p1 &&& (2147483647 : Int32)) (p0.toInt64)), iv (own_f3 (p2 &&& (2147483647 : Int32)) ((p0.toInt64) + ((p1 &&& (2147483647 : Int32)).toInt64))), iv (own_f3 (p3 &&& (2147483647 : Int32)) (((p0.toInt64) + ((p1 &&& (2147483647 : Int32)).toInt64)) + ((p2 &&& (2147483647 : Int32)).toInt64))), jv ((p0.toInt64) + ((p1 &&& (2147483647 : Int32)).toInt64)), .second, jv (((p0.toInt64) + ((p1 &&& (2147483647 : Int32)).toInt64)) + ((p2 &&& (2147483647 : Int32)).toInt64)), .second, jv ((((p0.toInt64) + ((p1 &&& (2147483647 : Int32)).toInt64)) + ((p2 &&& (2147483647 : Int32)).toInt64)) + ((p3 &&& (2147483647 : Int32)).toInt64)), .second, iv z25, iv z27, iv z29, iv z31] []))
          refine own_via (fun k => XS.iconst X20.here hx rfl (hb hby at_180) (XS.goto X20.here hx rfl (pc0 := 181) (pc' := 185) rfl (hb hby at_181) (by decide) (by decide) k)) ?_
          show own_Go p e below s _ _ (T20.setTop (mkF m 185 #[iv p0, iv p1, iv p2, iv p3, iv (p1 &&& (2147483647 : Int32)), iv (p2 &&& (2147483647 : Int32)), iv (p3 &&& (2147483647 : Int32)), rv b1, iv (own_f3 (p1 &&& (2147483647 : Int32)) (p0.toInt64)), iv (own_f3 (p2 &&& (2147483647 : Int32)) ((p0.toInt64) + ((p1 &&& (2147483647 : Int32)).toInt64))), iv (own_f3 (p3 &&& (2147483647 : Int32)) (((p0.toInt64) + ((p1 &&& (2147483647 : Int32)).toInt64)) + ((p2 &&& (2147483647 : Int32)).toInt64))), jv ((p0.toInt64) + ((p1 &&& (2147483647 : Int32)).toInt64)), .second, jv (((p0.toInt64) + ((p1 &&& (2147483647 : Int32)).toInt64)) + ((p2 &&& (2147483647 : Int32)).toInt64)), .second, jv ((((p0.toInt64) + ((p1 &&& (2147483647 : Int32)).toInt64)) + ((p2 &&& (2147483647 : Int32)).toInt64)) + ((p3 &&& (2147483647 : Int32)).toInt64)), .second, iv z25, iv z27, iv z29, iv z31] [(.int 1)]))
          exact own_retN X20 hx hlk (t := .boolean) Bd.returns (by simp) (hb hby at_185) (Q := (Q0 Z p0 p1 p2 p3 h0 n0)) ⟨rfl, N22⟩ (by decide) (by decide)
        by_cases hc33 : (own_f3 (p1 &&& (2147483647 : Int32)) (p0.toInt64)) = (0 : Int32)
        · refine own_via (fun k => XS.ifNo X20.here hx rfl (hb hby at_129) rfl ((if0 _ _).trans (teq hc33).2) k) ?_
          show own_Go p e below s _ _ (T20.setTop (mkF m 132 #[iv p0, iv p1, iv p2, iv p3, iv (p1 &&& (2147483647 : Int32)), iv (p2 &&& (2147483647 : Int32)), iv (p3 &&& (2147483647 : Int32)), rv b1, iv (own_f3 (p1 &&& (2147483647 : Int32)) (p0.toInt64)), iv (own_f3 (p2 &&& (2147483647 : Int32)) ((p0.toInt64) + ((p1 &&& (2147483647 : Int32)).toInt64))), iv (own_f3 (p3 &&& (2147483647 : Int32)) (((p0.toInt64) + ((p1 &&& (2147483647 : Int32)).toInt64)) + ((p2 &&& (2147483647 : Int32)).toInt64))), jv ((p0.toInt64) + ((p1 &&& (2147483647 : Int32)).toInt64)), .second, jv (((p0.toInt64) + ((p1 &&& (2147483647 : Int32)).toInt64)) + ((p2 &&& (2147483647 : Int32)).toInt64)), .second, jv ((((p0.toInt64) + ((p1 &&& (2147483647 : Int32)).toInt64)) + ((p2 &&& (2147483647 : Int32)).toInt64)) + ((p3 &&& (2147483647 : Int32)).toInt64)), .second, iv z25, iv z27, iv z29, .unset] []))
          refine own_via (fun k => XS.iload X20.here hx rfl (hb hby at_132) rfl  k) ?_
          show own_Go p e below s _ _ (T20.setTop (mkF m 134 #[iv p0, iv p1, iv p2, iv p3, iv (p1 &&& (2147483647 : Int32)), iv (p2 &&& (2147483647 : Int32)), iv (p3 &&& (2147483647 : Int32)), rv b1, iv (own_f3 (p1 &&& (2147483647 : Int32)) (p0.toInt64)), iv (own_f3 (p2 &&& (2147483647 : Int32)) ((p0.toInt64) + ((p1 &&& (2147483647 : Int32)).toInt64))), iv (own_f3 (p3 &&& (2147483647 : Int32)) (((p0.toInt64) + ((p1 &&& (2147483647 : Int32)).toInt64)) + ((p2 &&& (2147483647 : Int32)).toInt64))), jv ((p0.toInt64) + ((p1 &&& (2147483647 : Int32)).toInt64)), .second, jv (((p0.toInt64) + ((p1 &&& (2147483647 : Int32)).toInt64)) + ((p2 &&& (2147483647 : Int32)).toInt64)), .second, jv ((((p0.toInt64) + ((p1 &&& (2147483647 : Int32)).toInt64)) + ((p2 &&& (2147483647 : Int32)).toInt64)) + ((p3 &&& (2147483647 : Int32)).toInt64)), .second, iv z25, iv z27, iv z29, .unset] [(.int (own_f3 (p2 &&& (2147483647 : Int32)) ((p0.toInt64) + ((p1 &&& (2147483647 : Int32)).toInt64))))]))
          by_cases hc34 : (own_f3 (p2 &&& (2147483647 : Int32)) ((p0.toInt64) + ((p1 &&& (2147483647 : Int32)).toInt64))) = (0 : Int32)
          · refine own_via (fun k => XS.ifNo X20.here hx rfl (hb hby at_134) rfl ((if0 _ _).trans (teq hc34).2) k) ?_
            show own_Go p e below s _ _ (T20.setTop (mkF m 137 #[iv p0, iv p1, iv p2, iv p3, iv (p1 &&& (2147483647 : Int32)), iv (p2 &&& (2147483647 : Int32)), iv (p3 &&& (2147483647 : Int32)), rv b1, iv (own_f3 (p1 &&& (2147483647 : Int32)) (p0.toInt64)), iv (own_f3 (p2 &&& (2147483647 : Int32)) ((p0.toInt64) + ((p1 &&& (2147483647 : Int32)).toInt64))), iv (own_f3 (p3 &&& (2147483647 : Int32)) (((p0.toInt64) + ((p1 &&& (2147483647 : Int32)).toInt64)) + ((p2 &&& (2147483647 : Int32)).toInt64))), jv ((p0.toInt64) + ((p1 &&& (2147483647 : Int32)).toInt64)), .second, jv (((p0.toInt64) + ((p1 &&& (2147483647 : Int32)).toInt64)) + ((p2 &&& (2147483647 : Int32)).toInt64)), .second, jv ((((p0.toInt64) + ((p1 &&& (2147483647 : Int32)).toInt64)) + ((p2 &&& (2147483647 : Int32)).toInt64)) + ((p3 &&& (2147483647 : Int32)).toInt64)), .second, iv z25, iv z27, iv z29, .unset] []))
            refine own_via (fun k => XS.iload X20.here hx rfl (hb hby at_137) rfl  k) ?_
            show own_Go p e below s _ _ (T20.setTop (mkF m 139 #[iv p0, iv p1, iv p2, iv p3, iv (p1 &&& (2147483647 : Int32)), iv (p2 &&& (2147483647 : Int32)), iv (p3 &&& (2147483647 : Int32)), rv b1, iv (own_f3 (p1 &&& (2147483647 : Int32)) (p0.toInt64)), iv (own_f3 (p2 &&& (2147483647 : Int32)) ((p0.toInt64) + ((p1 &&& (2147483647 : Int32)).toInt64))), iv (own_f3 (p3 &&& (2147483647 : Int32)) (((p0.toInt64) + ((p1 &&& (2147483647 : Int32)).toInt64)) + ((p2 &&& (2147483647 : Int32)).toInt64))), jv ((p0.toInt64) + ((p1 &&& (2147483647 : Int32)).toInt64)), .second, jv (((p0.toInt64) + ((p1 &&& (2147483647 : Int32)).toInt64)) + ((p2 &&& (2147483647 : Int32)).toInt64)), .second, jv ((((p0.toInt64) + ((p1 &&& (2147483647 : Int32)).toInt64)) + ((p2 &&& (2147483647 : Int32)).toInt64)) + ((p3 &&& (2147483647 : Int32)).toInt64)), .second, iv z25, iv z27, iv z29, .unset] [(.int (own_f3 (p2 &&& (2147483647 : Int32)) ((p0.toInt64) + ((p1 &&& (2147483647 : Int32)).toInt64))))]))
            refine own_via (fun k => XS.ifNo X20.here hx rfl (hb hby at_139) rfl ((if0 _ _).trans (teq hc34).2) k) ?_
            show own_Go p e below s _ _ (T20.setTop (mkF m 142 #[iv p0, iv p1, iv p2, iv p3, iv (p1 &&& (2147483647 : Int32)), iv (p2 &&& (2147483647 : Int32)), iv (p3 &&& (2147483647 : Int32)), rv b1, iv (own_f3 (p1 &&& (2147483647 : Int32)) (p0.toInt64)), iv (own_f3 (p2 &&& (2147483647 : Int32)) ((p0.toInt64) + ((p1 &&& (2147483647 : Int32)).toInt64))), iv (own_f3 (p3 &&& (2147483647 : Int32)) (((p0.toInt64) + ((p1 &&& (2147483647 : Int32)).toInt64)) + ((p2 &&& (2147483647 : Int32)).toInt64))), jv ((p0.toInt64) + ((p1 &&& (2147483647 : Int32)).toInt64)), .second, jv (((p0.toInt64) + ((p1 &&& (2147483647 : Int32)).toInt64)) + ((p2 &&& (2147483647 : Int32)).toInt64)), .second, jv ((((p0.toInt64) + ((p1 &&& (2147483647 : Int32)).toInt64)) + ((p2 &&& (2147483647 : Int32)).toInt64)) + ((p3 &&& (2147483647 : Int32)).toInt64)), .second, iv z25, iv z27, iv z29, .unset] []))
            refine own_via (fun k => XS.iload X20.here hx rfl (hb hby at_142) rfl  k) ?_
            show own_Go p e below s _ _ (T20.setTop (mkF m 144 #[iv p0, iv p1, iv p2, iv p3, iv (p1 &&& (2147483647 : Int32)), iv (p2 &&& (2147483647 : Int32)), iv (p3 &&& (2147483647 : Int32)), rv b1, iv (own_f3 (p1 &&& (2147483647 : Int32)) (p0.toInt64)), iv (own_f3 (p2 &&& (2147483647 : Int32)) ((p0.toInt64) + ((p1 &&& (2147483647 : Int32)).toInt64))), iv (own_f3 (p3 &&& (2147483647 : Int32)) (((p0.toInt64) + ((p1 &&& (2147483647 : Int32)).toInt64)) + ((p2 &&& (2147483647 : Int32)).toInt64))), jv ((p0.toInt64) + ((p1 &&& (2147483647 : Int32)).toInt64)), .second, jv (((p0.toInt64) + ((p1 &&& (2147483647 : Int32)).toInt64)) + ((p2 &&& (2147483647 : Int32)).toInt64)), .second, jv ((((p0.toInt64) + ((p1 &&& (2147483647 : Int32)).toInt64)) + ((p2 &&& (2147483647 : Int32)).toInt64)) + ((p3 &&& (2147483647 : Int32)).toInt64)), .second, iv z25, iv z27, iv z29, .unset] [(.int (own_f3 (p3 &&& (2147483647 : Int32)) (((p0.toInt64) + ((p1 &&& (2147483647 : Int32)).toInt64)) + ((p2 &&& (2147483647 : Int32)).toInt64))))]))
            by_cases hc35 : (own_f3 (p3 &&& (2147483647 : Int32)) (((p0.toInt64) + ((p1 &&& (2147483647 : Int32)).toInt64)) + ((p2 &&& (2147483647 : Int32)).toInt64))) = (0 : Int32)
            · refine own_via (fun k => XS.ifNo X20.here hx rfl (hb hby at_144) rfl ((if0 _ _).trans (teq hc35).2) k) ?_
              show own_Go p e below s _ _ (T20.setTop (mkF m 147 #[iv p0, iv p1, iv p2, iv p3, iv (p1 &&& (2147483647 : Int32)), iv (p2 &&& (2147483647 : Int32)), iv (p3 &&& (2147483647 : Int32)), rv b1, iv (own_f3 (p1 &&& (2147483647 : Int32)) (p0.toInt64)), iv (own_f3 (p2 &&& (2147483647 : Int32)) ((p0.toInt64) + ((p1 &&& (2147483647 : Int32)).toInt64))), iv (own_f3 (p3 &&& (2147483647 : Int32)) (((p0.toInt64) + ((p1 &&& (2147483647 : Int32)).toInt64)) + ((p2 &&& (2147483647 : Int32)).toInt64))), jv ((p0.toInt64) + ((p1 &&& (2147483647 : Int32)).toInt64)), .second, jv (((p0.toInt64) + ((p1 &&& (2147483647 : Int32)).toInt64)) + ((p2 &&& (2147483647 : Int32)).toInt64)), .second, jv ((((p0.toInt64) + ((p1 &&& (2147483647 : Int32)).toInt64)) + ((p2 &&& (2147483647 : Int32)).toInt64)) + ((p3 &&& (2147483647 : Int32)).toInt64)), .second, iv z25, iv z27, iv z29, .unset] []))
              refine own_via (fun k => XS.iconst X20.here hx rfl (hb hby at_147) (XS.goto X20.here hx rfl (pc0 := 148) (pc' := 152) rfl (hb hby at_148) (by decide) (by decide) k)) ?_
              show own_Go p e below s _ _ (T20.setTop (mkF m 152 #[iv p0, iv p1, iv p2, iv p3, iv (p1 &&& (2147483647 : Int32)), iv (p2 &&& (2147483647 : Int32)), iv (p3 &&& (2147483647 : Int32)), rv b1, iv (own_f3 (p1 &&& (2147483647 : Int32)) (p0.toInt64)), iv (own_f3 (p2 &&& (2147483647 : Int32)) ((p0.toInt64) + ((p1 &&& (2147483647 : Int32)).toInt64))), iv (own_f3 (p3 &&& (2147483647 : Int32)) (((p0.toInt64) + ((p1 &&& (2147483647 : Int32)).toInt64)) + ((p2 &&& (2147483647 : Int32)).toInt64))), jv ((p0.toInt64) + ((p1 &&& (2147483647 : Int32)).toInt64)), .second, jv (((p0.toInt64) + ((p1 &&& (2147483647 : Int32)).toInt64)) + ((p2 &&& (2147483647 : Int32)).toInt64)), .second, jv ((((p0.toInt64) + ((p1 &&& (2147483647 : Int32)).toInt64)) + ((p2 &&& (2147483647 : Int32)).toInt64)) + ((p3 &&& (2147483647 : Int32)).toInt64)), .second, iv z25, iv z27, iv z29, .unset] [(.int 1)]))
              exact J32 (1 : Int32) (((if_pos hc33).trans ((if_pos hc34).trans ((if_pos hc35).trans rfl)))).symm
            · refine own_via (fun k => XS.ifYes X20.here hx rfl (pc0 := 144) (pc' := 151) rfl (hb hby at_144) rfl ((if0 _ _).trans (feq hc35).2) (by decide) (by decide) k) ?_
              show own_Go p e below s _ _ (T20.setTop (mkF m 151 #[iv p0, iv p1, iv p2, iv p3, iv (p1 &&& (2147483647 : Int32)), iv (p2 &&& (2147483647 : Int32)), iv (p3 &&& (2147483647 : Int32)), rv b1, iv (own_f3 (p1 &&& (2147483647 : Int32)) (p0.toInt64)), iv (own_f3 (p2 &&& (2147483647 : Int32)) ((p0.toInt64) + ((p1 &&& (2147483647 : Int32)).toInt64))), iv (own_f3 (p3 &&& (2147483647 : Int32)) (((p0.toInt64) + ((p1 &&& (2147483647 : Int32)).toInt64)) + ((p2 &&& (2147483647 : Int32)).toInt64))), jv ((p0.toInt64) + ((p1 &&& (2147483647 : Int32)).toInt64)), .second, jv (((p0.toInt64) + ((p1 &&& (2147483647 : Int32)).toInt64)) + ((p2 &&& (2147483647 : Int32)).toInt64)), .second, jv ((((p0.toInt64) + ((p1 &&& (2147483647 : Int32)).toInt64)) + ((p2 &&& (2147483647 : Int32)).toInt64)) + ((p3 &&& (2147483647 : Int32)).toInt64)), .second, iv z25, iv z27, iv z29, .unset] []))
              refine own_via (fun k => XS.iconst X20.here hx rfl (hb hby at_151) k) ?_
              show own_Go p e below s _ _ (T20.setTop (mkF m 152 #[iv p0, iv p1, iv p2, iv p3, iv (p1 &&& (2147483647 : Int32)), iv (p2 &&& (2147483647 : Int32)), iv (p3 &&& (2147483647 : Int32)), rv b1, iv (own_f3 (p1 &&& (2147483647 : Int32)) (p0.toInt64)), iv (own_f3 (p2 &&& (2147483647 : Int32)) ((p0.toInt64) + ((p1 &&& (2147483647 : Int32)).toInt64))), iv (own_f3 (p3 &&& (2147483647 : Int32)) (((p0.toInt64) + ((p1 &&& (2147483647 : Int32)).toInt64)) + ((p2 &&& (2147483647 : Int32)).toInt64))), jv ((p0.toInt64) + ((p1 &&& (2147483647 : Int32)).toInt64)), .second, jv (((p0.toInt64) + ((p1 &&& (2147483647 : Int32)).toInt64)) + ((p2 &&& (2147483647 : Int32)).toInt64)), .second, jv ((((p0.toInt64) + ((p1 &&& (2147483647 : Int32)).toInt64)) + ((p2 &&& (2147483647 : Int32)).toInt64)) + ((p3 &&& (2147483647 : Int32)).toInt64)), .second, iv z25, iv z27, iv z29, .unset] [(.int 0)]))
              exact J32 (0 : Int32) (((if_pos hc33).trans ((if_pos hc34).trans ((if_neg hc35).trans rfl)))).symm
          · refine own_via (fun k => XS.ifYes X20.here hx rfl (pc0 := 134) (pc' := 151) rfl (hb hby at_134) rfl ((if0 _ _).trans (feq hc34).2) (by decide) (by decide) k) ?_
            show own_Go p e below s _ _ (T20.setTop (mkF m 151 #[iv p0, iv p1, iv p2, iv p3, iv (p1 &&& (2147483647 : Int32)), iv (p2 &&& (2147483647 : Int32)), iv (p3 &&& (2147483647 : Int32)), rv b1, iv (own_f3 (p1 &&& (2147483647 : Int32)) (p0.toInt64)), iv (own_f3 (p2 &&& (2147483647 : Int32)) ((p0.toInt64) + ((p1 &&& (2147483647 : Int32)).toInt64))), iv (own_f3 (p3 &&& (2147483647 : Int32)) (((p0.toInt64) + ((p1 &&& (2147483647 : Int32)).toInt64)) + ((p2 &&& (2147483647 : Int32)).toInt64))), jv ((p0.toInt64) + ((p1 &&& (2147483647 : Int32)).toInt64)), .second, jv (((p0.toInt64) + ((p1 &&& (2147483647 : Int32)).toInt64)) + ((p2 &&& (2147483647 : Int32)).toInt64)), .second, jv ((((p0.toInt64) + ((p1 &&& (2147483647 : Int32)).toInt64)) + ((p2 &&& (2147483647 : Int32)).toInt64)) + ((p3 &&& (2147483647 : Int32)).toInt64)), .second, iv z25, iv z27, iv z29, .unset] []))
            refine own_via (fun k => XS.iconst X20.here hx rfl (hb hby at_151) k) ?_
            show own_Go p e below s _ _ (T20.setTop (mkF m 152 #[iv p0, iv p1, iv p2, iv p3, iv (p1 &&& (2147483647 : Int32)), iv (p2 &&& (2147483647 : Int32)), iv (p3 &&& (2147483647 : Int32)), rv b1, iv (own_f3 (p1 &&& (2147483647 : Int32)) (p0.toInt64)), iv (own_f3 (p2 &&& (2147483647 : Int32)) ((p0.toInt64) + ((p1 &&& (2147483647 : Int32)).toInt64))), iv (own_f3 (p3 &&& (2147483647 : Int32)) (((p0.toInt64) + ((p1 &&& (2147483647 : Int32)).toInt64)) + ((p2 &&& (2147483647 : Int32)).toInt64))), jv ((p0.toInt64) + ((p1 &&& (2147483647 : Int32)).toInt64)), .second, jv (((p0.toInt64) + ((p1 &&& (2147483647 : Int32)).toInt64)) + ((p2 &&& (2147483647 : Int32)).toInt64)), .second, jv ((((p0.toInt64) + ((p1 &&& (2147483647 : Int32)).toInt64)) + ((p2 &&& (2147483647 : Int32)).toInt64)) + ((p3 &&& (2147483647 : Int32)).toInt64)), .second, iv z25, iv z27, iv z29, .unset] [(.int 0)]))
            exact J32 (0 : Int32) (((if_pos hc33).trans ((if_neg hc34).trans rfl))).symm
        · refine own_via (fun k => XS.ifYes X20.here hx rfl (pc0 := 129) (pc' := 137) rfl (hb hby at_129) rfl ((if0 _ _).trans (feq hc33).2) (by decide) (by decide) k) ?_
          show own_Go p e below s _ _ (T20.setTop (mkF m 137 #[iv p0, iv p1, iv p2, iv p3, iv (p1 &&& (2147483647 : Int32)), iv (p2 &&& (2147483647 : Int32)), iv (p3 &&& (2147483647 : Int32)), rv b1, iv (own_f3 (p1 &&& (2147483647 : Int32)) (p0.toInt64)), iv (own_f3 (p2 &&& (2147483647 : Int32)) ((p0.toInt64) + ((p1 &&& (2147483647 : Int32)).toInt64))), iv (own_f3 (p3 &&& (2147483647 : Int32)) (((p0.toInt64) + ((p1 &&& (2147483647 : Int32)).toInt64)) + ((p2 &&& (2147483647 : Int32)).toInt64))), jv ((p0.toInt64) + ((p1 &&& (2147483647 : Int32)).toInt64)), .second, jv (((p0.toInt64) + ((p1 &&& (2147483647 : Int32)).toInt64)) + ((p2 &&& (2147483647 : Int32)).toInt64)), .second, jv ((((p0.toInt64) + ((p1 &&& (2147483647 : Int32)).toInt64)) + ((p2 &&& (2147483647 : Int32)).toInt64)) + ((p3 &&& (2147483647 : Int32)).toInt64)), .second, iv z25, iv z27, iv z29, .unset] []))
          refine own_via (fun k => XS.iload X20.here hx rfl (hb hby at_137) rfl  k) ?_
          show own_Go p e below s _ _ (T20.setTop (mkF m 139 #[iv p0, iv p1, iv p2, iv p3, iv (p1 &&& (2147483647 : Int32)), iv (p2 &&& (2147483647 : Int32)), iv (p3 &&& (2147483647 : Int32)), rv b1, iv (own_f3 (p1 &&& (2147483647 : Int32)) (p0.toInt64)), iv (own_f3 (p2 &&& (2147483647 : Int32)) ((p0.toInt64) + ((p1 &&& (2147483647 : Int32)).toInt64))), iv (own_f3 (p3 &&& (2147483647 : Int32)) (((p0.toInt64) + ((p1 &&& (2147483647 : Int32)).toInt64)) + ((p2 &&& (2147483647 : Int32)).toInt64))), jv ((p0.toInt64) + ((p1 &&& (2147483647 : Int32)).toInt64)), .second, jv (((p0.toInt64) + ((p1 &&& (2147483647 : Int32)).toInt64)) + ((p2 &&& (2147483647 : Int32)).toInt64)), .second, jv ((((p0.toInt64) + ((p1 &&& (2147483647 : Int32)).toInt64)) + ((p2 &&& (2147483647 : Int32)).toInt64)) + ((p3 &&& (2147483647 : Int32)).toInt64)), .second, iv z25, iv z27, iv z29, .unset] [(.int (own_f3 (p2 &&& (2147483647 : Int32)) ((p0.toInt64) + ((p1 &&& (2147483647 : Int32)).toInt64))))]))
          by_cases hc36 : (own_f3 (p2 &&& (2147483647 : Int32)) ((p0.toInt64) + ((p1 &&& (2147483647 : Int32)).toInt64))) = (0 : Int32)
          · refine own_via (fun k => XS.ifNo X20.here hx rfl (hb hby at_139) rfl ((if0 _ _).trans (teq hc36).2) k) ?_
            show own_Go p e below s _ _ (T20.setTop (mkF m 142 #[iv p0, iv p1, iv p2, iv p3, iv (p1 &&& (2147483647 : Int32)), iv (p2 &&& (2147483647 : Int32)), iv (p3 &&& (2147483647 : Int32)), rv b1, iv (own_f3 (p1 &&& (2147483647 : Int32)) (p0.toInt64)), iv (own_f3 (p2 &&& (2147483647 : Int32)) ((p0.toInt64) + ((p1 &&& (2147483647 : Int32)).toInt64))), iv (own_f3 (p3 &&& (2147483647 : Int32)) (((p0.toInt64) + ((p1 &&& (2147483647 : Int32)).toInt64)) + ((p2 &&& (2147483647 : Int32)).toInt64))), jv ((p0.toInt64) + ((p1 &&& (2147483647 : Int32)).toInt64)), .second, jv (((p0.toInt64) + ((p1 &&& (2147483647 : Int32)).toInt64)) + ((p2 &&& (2147483647 : Int32)).toInt64)), .second, jv ((((p0.toInt64) + ((p1 &&& (2147483647 : Int32)).toInt64)) + ((p2 &&& (2147483647 : Int32)).toInt64)) + ((p3 &&& (2147483647 : Int32)).toInt64)), .second, iv z25, iv z27, iv z29, .unset] []))
            refine own_via (fun k => XS.iload X20.here hx rfl (hb hby at_142) rfl  k) ?_
            show own_Go p e below s _ _ (T20.setTop (mkF m 144 #[iv p0, iv p1, iv p2, iv p3, iv (p1 &&& (2147483647 : Int32)), iv (p2 &&& (2147483647 : Int32)), iv (p3 &&& (2147483647 : Int32)), rv b1, iv (own_f3 (p1 &&& (2147483647 : Int32)) (p0.toInt64)), iv (own_f3 (p2 &&& (2147483647 : Int32)) ((p0.toInt64) + ((p1 &&& (2147483647 : Int32)).toInt64))), iv (own_f3 (p3 &&& (2147483647 : Int32)) (((p0.toInt64) + ((p1 &&& (2147483647 : Int32)).toInt64)) + ((p2 &&& (2147483647 : Int32)).toInt64))), jv ((p0.toInt64) + ((p1 &&& (2147483647 : Int32)).toInt64)), .second, jv (((p0.toInt64) + ((p1 &&& (2147483647 : Int32)).toInt64)) + ((p2 &&& (2147483647 : Int32)).toInt64)), .second, jv ((((p0.toInt64) + ((p1 &&& (2147483647 : Int32)).toInt64)) + ((p2 &&& (2147483647 : Int32)).toInt64)) + ((p3 &&& (2147483647 : Int32)).toInt64)), .second, iv z25, iv z27, iv z29, .unset] [(.int (own_f3 (p3 &&& (2147483647 : Int32)) (((p0.toInt64) + ((p1 &&& (2147483647 : Int32)).toInt64)) + ((p2 &&& (2147483647 : Int32)).toInt64))))]))
            by_cases hc37 : (own_f3 (p3 &&& (2147483647 : Int32)) (((p0.toInt64) + ((p1 &&& (2147483647 : Int32)).toInt64)) + ((p2 &&& (2147483647 : Int32)).toInt64))) = (0 : Int32)
            · refine own_via (fun k => XS.ifNo X20.here hx rfl (hb hby at_144) rfl ((if0 _ _).trans (teq hc37).2) k) ?_
              show own_Go p e below s _ _ (T20.setTop (mkF m 147 #[iv p0, iv p1, iv p2, iv p3, iv (p1 &&& (2147483647 : Int32)), iv (p2 &&& (2147483647 : Int32)), iv (p3 &&& (2147483647 : Int32)), rv b1, iv (own_f3 (p1 &&& (2147483647 : Int32)) (p0.toInt64)), iv (own_f3 (p2 &&& (2147483647 : Int32)) ((p0.toInt64) + ((p1 &&& (2147483647 : Int32)).toInt64))), iv (own_f3 (p3 &&& (2147483647 : Int32)) (((p0.toInt64) + ((p1 &&& (2147483647 : Int32)).toInt64)) + ((p2 &&& (2147483647 : Int32)).toInt64))), jv ((p0.toInt64) + ((p1 &&& (2147483647 : Int32)).toInt64)), .second, jv (((p0.toInt64) + ((p1 &&& (2147483647 : Int32)).toInt64)) + ((p2 &&& (2147483647 : Int32)).toInt64)), .second, jv ((((p0.toInt64) + ((p1 &&& (2147483647 : Int32)).toInt64)) + ((p2 &&& (2147483647 : Int32)).toInt64)) + ((p3 &&& (2147483647 : Int32)).toInt64)), .second, iv z25, iv z27, iv z29, .unset] []))
              refine own_via (fun k => XS.iconst X20.here hx rfl (hb hby at_147) (XS.goto X20.here hx rfl (pc0 := 148) (pc' := 152) rfl (hb hby at_148) (by decide) (by decide) k)) ?_
              show own_Go p e below s _ _ (T20.setTop (mkF m 152 #[iv p0, iv p1, iv p2, iv p3, iv (p1 &&& (2147483647 : Int32)), iv (p2 &&& (2147483647 : Int32)), iv (p3 &&& (2147483647 : Int32)), rv b1, iv (own_f3 (p1 &&& (2147483647 : Int32)) (p0.toInt64)), iv (own_f3 (p2 &&& (2147483647 : Int32)) ((p0.toInt64) + ((p1 &&& (2147483647 : Int32)).toInt64))), iv (own_f3 (p3 &&& (2147483647 : Int32)) (((p0.toInt64) + ((p1 &&& (2147483647 : Int32)).toInt64)) + ((p2 &&& (2147483647 : Int32)).toInt64))), jv ((p0.toInt64) + ((p1 &&& (2147483647 : Int32)).toInt64)), .second, jv (((p0.toInt64) + ((p1 &&& (2147483647 : Int32)).toInt64)) + ((p2 &&& (2147483647 : Int32)).toInt64)), .second, jv ((((p0.toInt64) + ((p1 &&& (2147483647 : Int32)).toInt64)) + ((p2 &&& (2147483647 : Int32)).toInt64)) + ((p3 &&& (2147483647 : Int32)).toInt64)), .second, iv z25, iv z27, iv z29, .unset] [(.int 1)]))
              exact J32 (1 : Int32) (((if_neg hc33).trans ((if_pos hc36).trans ((if_pos hc37).trans rfl)))).symm
            · refine own_via (fun k => XS.ifYes X20.here hx rfl (pc0 := 144) (pc' := 151) rfl (hb hby at_144) rfl ((if0 _ _).trans (feq hc37).2) (by decide) (by decide) k) ?_
              show own_Go p e below s _ _ (T20.setTop (mkF m 151 #[iv p0, iv p1, iv p2, iv p3, iv (p1 &&& (2147483647 : Int32)), iv (p2 &&& (2147483647 : Int32)), iv (p3 &&& (2147483647 : Int32)), rv b1, iv (own_f3 (p1 &&& (2147483647 : Int32)) (p0.toInt64)), iv (own_f3 (p2 &&& (2147483647 : Int32)) ((p0.toInt64) + ((p1 &&& (2147483647 : Int32)).toInt64))), iv (own_f3 (p3 &&& (2147483647 : Int32)) (((p0.toInt64) + ((p1 &&& (2147483647 : Int32)).toInt64)) + ((p2 &&& (2147483647 : Int32)).toInt64))), jv ((p0.toInt64) + ((p1 &&& (2147483647 : Int32)).toInt64)), .second, jv (((p0.toInt64) + ((p1 &&& (2147483647 : Int32)).toInt64)) + ((p2 &&& (2147483647 : Int32)).toInt64)), .second, jv ((((p0.toInt64) + ((p1 &&& (2147483647 : Int32)).toInt64)) + ((p2 &&& (2147483647 : Int32)).toInt64)) + ((p3 &&& (2147483647 : Int32)).toInt64)), .second, iv z25, iv z27, iv z29, .unset] []))
              refine own_via (fun k => XS.iconst X20.here hx rfl (hb hby at_151) k) ?_
              show own_Go p e below s _ _ (T20.setTop (mkF m 152 #[iv p0, iv p1, iv p2, iv p3, iv (p1 &&& (2147483647 : Int32)), iv (p2 &&& (2147483647 : Int32)), iv (p3 &&& (2147483647 : Int32)), rv b1, iv (own_f3 (p1 &&& (2147483647 : Int32)) (p0.toInt64)), iv (own_f3 (p2 &&& (2147483647 : Int32)) ((p0.toInt64) + ((p1 &&& (2147483647 : Int32)).toInt64))), iv (own_f3 (p3 &&& (2147483647 : Int32)) (((p0.toInt64) + ((p1 &&& (2147483647 : Int32)).toInt64)) + ((p2 &&& (2147483647 : Int32)).toInt64))), jv ((p0.toInt64) + ((p1 &&& (2147483647 : Int32)).toInt64)), .second, jv (((p0.toInt64) + ((p1 &&& (2147483647 : Int32)).toInt64)) + ((p2 &&& (2147483647 : Int32)).toInt64)), .second, jv ((((p0.toInt64) + ((p1 &&& (2147483647 : Int32)).toInt64)) + ((p2 &&& (2147483647 : Int32)).toInt64)) + ((p3 &&& (2147483647 : Int32)).toInt64)), .second, iv z25, iv z27, iv z29, .unset] [(.int 0)]))
              exact J32 (0 : Int32) (((if_neg hc33).trans ((if_pos hc36).trans ((if_neg hc37).trans rfl)))).symm
          · refine own_via (fun k => XS.ifYes X20.here hx rfl (pc0 := 139) (pc' := 147) rfl (hb hby at_139) rfl ((if0 _ _).trans (feq hc36).2) (by decide) (by decide) k) ?_
            show own_Go p e below s _ _ (T20.setTop (mkF m 147 #[iv p0, iv p1, iv p2, iv p3, iv (p1 &&& (2147483647 : Int32)), iv (p2 &&& (2147483647 : Int32)), iv (p3 &&& (2147483647 : Int32)), rv b1, iv (own_f3 (p1 &&& (2147483647 : Int32)) (p0.toInt64)), iv (own_f3 (p2 &&& (2147483647 : Int32)) ((p0.toInt64) + ((p1 &&& (2147483647 : Int32)).toInt64))), iv (own_f3 (p3 &&& (2147483647 : Int32)) (((p0.toInt64) + ((p1 &&& (2147483647 : Int32)).toInt64)) + ((p2 &&& (2147483647 : Int32)).toInt64))), jv ((p0.toInt64) + ((p1 &&& (2147483647 : Int32)).toInt64)), .second, jv (((p0.toInt64) + ((p1 &&& (2147483647 : Int32)).toInt64)) + ((p2 &&& (2147483647 : Int32)).toInt64)), .second, jv ((((p0.toInt64) + ((p1 &&& (2147483647 : Int32)).toInt64)) + ((p2 &&& (2147483647 : Int32)).toInt64)) + ((p3 &&& (2147483647 : Int32)).toInt64)), .second, iv z25, iv z27, iv z29, .unset] []))
            refine own_via (fun k => XS.iconst X20.here hx rfl (hb hby at_147) (XS.goto X20.here hx rfl (pc0 := 148) (pc' := 152) rfl (hb hby at_148) (by decide) (by decide) k)) ?_
            show own_Go p e below s _ _ (T20.setTop (mkF m 152 #[iv p0, iv p1, iv p2, iv p3, iv (p1 &&& (2147483647 : Int32)), iv (p2 &&& (2147483647 : Int32)), iv (p3 &&& (2147483647 : Int32)), rv b1, iv (own_f3 (p1 &&& (2147483647 : Int32)) (p0.toInt64)), iv (own_f3 (p2 &&& (2147483647 : Int32)) ((p0.toInt64) + ((p1 &&& (2147483647 : Int32)).toInt64))), iv (own_f3 (p3 &&& (2147483647 : Int32)) (((p0.toInt64) + ((p1 &&& (2147483647 : Int32)).toInt64)) + ((p2 &&& (2147483647 : Int32)).toInt64))), jv ((p0.toInt64) + ((p1 &&& (2147483647 : Int32)).toInt64)), .second, jv (((p0.toInt64) + ((p1 &&& (2147483647 : Int32)).toInt64)) + ((p2 &&& (2147483647 : Int32)).toInt64)), .second, jv ((((p0.toInt64) + ((p1 &&& (2147483647 : Int32)).toInt64)) + ((p2 &&& (2147483647 : Int32)).toInt64)) + ((p3 &&& (2147483647 : Int32)).toInt64)), .second, iv z25, iv z27, iv z29, .unset] [(.int 1)]))
            exact J32 (1 : Int32) (((if_neg hc33).trans ((if_neg hc36).trans rfl))).symm
      by_cases hc38 : (99999 : Int64) < ((((p0.toInt64) + ((p1 &&& (2147483647 : Int32)).toInt64)) + ((p2 &&& (2147483647 : Int32)).toInt64)) + ((p3 &&& (2147483647 : Int32)).toInt64))
      · refine own_via (fun k => XS.ifYes X20.here hx rfl (pc0 := 117) (pc' := 124) rfl (hb hby at_117) rfl ((if0 _ _).trans (tlt ((lw_gt _ _).mpr hc38)).2.2.1) (by decide) (by decide) k) ?_
        show own_Go p e below s _ _ (T20.setTop (mkF m 124 #[iv p0, iv p1, iv p2, iv p3, iv (p1 &&& (2147483647 : Int32)), iv (p2 &&& (2147483647 : Int32)), iv (p3 &&& (2147483647 : Int32)), rv b1, iv (own_f3 (p1 &&& (2147483647 : Int32)) (p0.toInt64)), iv (own_f3 (p2 &&& (2147483647 : Int32)) ((p0.toInt64) + ((p1 &&& (2147483647 : Int32)).toInt64))), iv (own_f3 (p3 &&& (2147483647 : Int32)) (((p0.toInt64) + ((p1 &&& (2147483647 : Int32)).toInt64)) + ((p2 &&& (2147483647 : Int32)).toInt64))), jv ((p0.toInt64) + ((p1 &&& (2147483647 : Int32)).toInt64)), .second, jv (((p0.toInt64) + ((p1 &&& (2147483647 : Int32)).toInt64)) + ((p2 &&& (2147483647 : Int32)).toInt64)), .second, jv ((((p0.toInt64) + ((p1 &&& (2147483647 : Int32)).toInt64)) + ((p2 &&& (2147483647 : Int32)).toInt64)) + ((p3 &&& (2147483647 : Int32)).toInt64)), .second, iv z25, iv z27, .unset, .unset] []))
        refine own_via (fun k => XS.iconst X20.here hx rfl (hb hby at_124) k) ?_
        show own_Go p e below s _ _ (T20.setTop (mkF m 125 #[iv p0, iv p1, iv p2, iv p3, iv (p1 &&& (2147483647 : Int32)), iv (p2 &&& (2147483647 : Int32)), iv (p3 &&& (2147483647 : Int32)), rv b1, iv (own_f3 (p1 &&& (2147483647 : Int32)) (p0.toInt64)), iv (own_f3 (p2 &&& (2147483647 : Int32)) ((p0.toInt64) + ((p1 &&& (2147483647 : Int32)).toInt64))), iv (own_f3 (p3 &&& (2147483647 : Int32)) (((p0.toInt64) + ((p1 &&& (2147483647 : Int32)).toInt64)) + ((p2 &&& (2147483647 : Int32)).toInt64))), jv ((p0.toInt64) + ((p1 &&& (2147483647 : Int32)).toInt64)), .second, jv (((p0.toInt64) + ((p1 &&& (2147483647 : Int32)).toInt64)) + ((p2 &&& (2147483647 : Int32)).toInt64)), .second, jv ((((p0.toInt64) + ((p1 &&& (2147483647 : Int32)).toInt64)) + ((p2 &&& (2147483647 : Int32)).toInt64)) + ((p3 &&& (2147483647 : Int32)).toInt64)), .second, iv z25, iv z27, .unset, .unset] [(.int 0)]))
        exact J30 (0 : Int32) (((if_pos hc38).trans rfl)).symm
      · refine own_via (fun k => XS.ifNo X20.here hx rfl (hb hby at_117) rfl ((if0 _ _).trans (flt (mt (lw_gt _ _).mp hc38)).2.2.1) k) ?_
        show own_Go p e below s _ _ (T20.setTop (mkF m 120 #[iv p0, iv p1, iv p2, iv p3, iv (p1 &&& (2147483647 : Int32)), iv (p2 &&& (2147483647 : Int32)), iv (p3 &&& (2147483647 : Int32)), rv b1, iv (own_f3 (p1 &&& (2147483647 : Int32)) (p0.toInt64)), iv (own_f3 (p2 &&& (2147483647 : Int32)) ((p0.toInt64) + ((p1 &&& (2147483647 : Int32)).toInt64))), iv (own_f3 (p3 &&& (2147483647 : Int32)) (((p0.toInt64) + ((p1 &&& (2147483647 : Int32)).toInt64)) + ((p2 &&& (2147483647 : Int32)).toInt64))), jv ((p0.toInt64) + ((p1 &&& (2147483647 : Int32)).toInt64)), .second, jv (((p0.toInt64) + ((p1 &&& (2147483647 : Int32)).toInt64)) + ((p2 &&& (2147483647 : Int32)).toInt64)), .second, jv ((((p0.toInt64) + ((p1 &&& (2147483647 : Int32)).toInt64)) + ((p2 &&& (2147483647 : Int32)).toInt64)) + ((p3 &&& (2147483647 : Int32)).toInt64)), .second, iv z25, iv z27, .unset, .unset] []))
        refine own_via (fun k => XS.iconst X20.here hx rfl (hb hby at_120) (XS.goto X20.here hx rfl (pc0 := 121) (pc' := 125) rfl (hb hby at_121) (by decide) (by decide) k)) ?_
        show own_Go p e below s _ _ (T20.setTop (mkF m 125 #[iv p0, iv p1, iv p2, iv p3, iv (p1 &&& (2147483647 : Int32)), iv (p2 &&& (2147483647 : Int32)), iv (p3 &&& (2147483647 : Int32)), rv b1, iv (own_f3 (p1 &&& (2147483647 : Int32)) (p0.toInt64)), iv (own_f3 (p2 &&& (2147483647 : Int32)) ((p0.toInt64) + ((p1 &&& (2147483647 : Int32)).toInt64))), iv (own_f3 (p3 &&& (2147483647 : Int32)) (((p0.toInt64) + ((p1 &&& (2147483647 : Int32)).toInt64)) + ((p2 &&& (2147483647 : Int32)).toInt64))), jv ((p0.toInt64) + ((p1 &&& (2147483647 : Int32)).toInt64)), .second, jv (((p0.toInt64) + ((p1 &&& (2147483647 : Int32)).toInt64)) + ((p2 &&& (2147483647 : Int32)).toInt64)), .second, jv ((((p0.toInt64) + ((p1 &&& (2147483647 : Int32)).toInt64)) + ((p2 &&& (2147483647 : Int32)).toInt64)) + ((p3 &&& (2147483647 : Int32)).toInt64)), .second, iv z25, iv z27, .unset, .unset] [(.int 1)]))
        exact J30 (1 : Int32) (((if_neg hc38).trans rfl)).symm
    by_cases hc39 : (99999 : Int64) < (((p0.toInt64) + ((p1 &&& (2147483647 : Int32)).toInt64)) + ((p2 &&& (2147483647 : Int32)).toInt64))
    · refine own_via (fun k => XS.ifYes X20.here hx rfl (pc0 := 101) (pc' := 108) rfl (hb hby at_101) rfl ((if0 _ _).trans (tlt ((lw_gt _ _).mpr hc39)).2.2.1) (by decide) (by decide) k) ?_
      show own_Go p e below s _ _ (T20.setTop (mkF m 108 #[iv p0, iv p1, iv p2, iv p3, iv (p1 &&& (2147483647 : Int32)), iv (p2 &&& (2147483647 : Int32)), iv (p3 &&& (2147483647 : Int32)), rv b1, iv (own_f3 (p1 &&& (2147483647 : Int32)) (p0.toInt64)), iv (own_f3 (p2 &&& (2147483647 : Int32)) ((p0.toInt64) + ((p1 &&& (2147483647 : Int32)).toInt64))), iv (own_f3 (p3 &&& (2147483647 : Int32)) (((p0.toInt64) + ((p1 &&& (2147483647 : Int32)).toInt64)) + ((p2 &&& (2147483647 : Int32)).toInt64))), jv ((p0.toInt64) + ((p1 &&& (2147483647 : Int32)).toInt64)), .second, jv (((p0.toInt64) + ((p1 &&& (2147483647 : Int32)).toInt64)) + ((p2 &&& (2147483647 : Int32)).toInt64)), .second, jv ((((p0.toInt64) + ((p1 &&& (2147483647 : Int32)).toInt64)) + ((p2 &&& (2147483647 : Int32)).toInt64)) + ((p3 &&& (2147483647 : Int32)).toInt64)), .second, iv z25, .unset, .unset, .unset] []))
      refine own_via (fun k => XS.iconst X20.here hx rfl (hb hby at_108) k) ?_
      show own_Go p e below s _ _ (T20.setTop (mkF m 109 #[iv p0, iv p1, iv p2, iv p3, iv (p1 &&& (2147483647 : Int32)), iv (p2 &&& (2147483647 : Int32)), iv (p3 &&& (2147483647 : Int32)), rv b1, iv (own_f3 (p1 &&& (2147483647 : Int32)) (p0.toInt64)), iv (own_f3 (p2 &&& (2147483647 : Int32)) ((p0.toInt64) + ((p1 &&& (2147483647 : Int32)).toInt64))), iv (own_f3 (p3 &&& (2147483647 : Int32)) (((p0.toInt64) + ((p1 &&& (2147483647 : Int32)).toInt64)) + ((p2 &&& (2147483647 : Int32)).toInt64))), jv ((p0.toInt64) + ((p1 &&& (2147483647 : Int32)).toInt64)), .second, jv (((p0.toInt64) + ((p1 &&& (2147483647 : Int32)).toInt64)) + ((p2 &&& (2147483647 : Int32)).toInt64)), .second, jv ((((p0.toInt64) + ((p1 &&& (2147483647 : Int32)).toInt64)) + ((p2 &&& (2147483647 : Int32)).toInt64)) + ((p3 &&& (2147483647 : Int32)).toInt64)), .second, iv z25, .unset, .unset, .unset] [(.int 0)]))
      exact J28 (0 : Int32) (((if_pos hc39).trans rfl)).symm
    · refine own_via (fun k => XS.ifNo X20.here hx rfl (hb hby at_101) rfl ((if0 _ _).trans (flt (mt (lw_gt _ _).mp hc39)).2.2.1) k) ?_
      show own_Go p e below s _ _ (T20.setTop (mkF m 104 #[iv p0, iv p1, iv p2, iv p3, iv (p1 &&& (2147483647 : Int32)), iv (p2 &&& (2147483647 : Int32)), iv (p3 &&& (2147483647 : Int32)), rv b1, iv (own_f3 (p1 &&& (2147483647 : Int32)) (p0.toInt64)), iv (own_f3 (p2 &&& (2147483647 : Int32)) ((p0.toInt64) + ((p1 &&& (2147483647 : Int32)).toInt64))), iv (own_f3 (p3 &&& (2147483647 : Int32)) (((p0.toInt64) + ((p1 &&& (2147483647 : Int32)).toInt64)) + ((p2 &&& (2147483647 : Int32)).toInt64))), jv ((p0.toInt64) + ((p1 &&& (2147483647 : Int32)).toInt64)), .second, jv (((p0.toInt64) + ((p1 &&& (2147483647 : Int32)).toInt64)) + ((p2 &&& (2147483647 : Int32)).toInt64)), .second, jv ((((p0.toInt64) + ((p1 &&& (2147483647 : Int32)).toInt64)) + ((p2 &&& (2147483647 : Int32)).toInt64)) + ((p3 &&& (2147483647 : Int32)).toInt64)), .second, iv z25, .unset, .unset, .unset] []))
      refine own_via (fun k => XS.iconst X20.here hx rfl (hb hby at_104) (XS.goto X20.here hx rfl (pc0 := 105) (pc' := 109) rfl (hb hby at_105) (by decide) (by decide) k)) ?_
      show own_Go p e below s _ _ (T20.setTop (mkF m 109 #[iv p0, iv p1, iv p2, iv p3, iv (p1 &&& (2147483647 : Int32)), iv (p2 &&& (2147483647 : Int32)), iv (p3 &&& (2147483647 : Int32)), rv b1, iv (own_f3 (p1 &&& (2147483647 : Int32)) (p0.toInt64)), iv (own_f3 (p2 &&& (2147483647 : Int32)) ((p0.toInt64) + ((p1 &&& (2147483647 : Int32)).toInt64))), iv (own_f3 (p3 &&& (2147483647 : Int32)) (((p0.toInt64) + ((p1 &&& (2147483647 : Int32)).toInt64)) + ((p2 &&& (2147483647 : Int32)).toInt64))), jv ((p0.toInt64) + ((p1 &&& (2147483647 : Int32)).toInt64)), .second, jv (((p0.toInt64) + ((p1 &&& (2147483647 : Int32)).toInt64)) + ((p2 &&& (2147483647 : Int32)).toInt64)), .second, jv ((((p0.toInt64) + ((p1 &&& (2147483647 : Int32)).toInt64)) + ((p2 &&& (2147483647 : Int32)).toInt64)) + ((p3 &&& (2147483647 : Int32)).toInt64)), .second, iv z25, .unset, .unset, .unset] [(.int 1)]))
      exact J28 (1 : Int32) (((if_neg hc39).trans rfl)).symm
  by_cases hc40 : (99999 : Int64) < ((p0.toInt64) + ((p1 &&& (2147483647 : Int32)).toInt64))
  · refine own_via (fun k => XS.ifYes X20.here hx rfl (pc0 := 85) (pc' := 92) rfl (hb hby at_85) rfl ((if0 _ _).trans (tlt ((lw_gt _ _).mpr hc40)).2.2.1) (by decide) (by decide) k) ?_
    show own_Go p e below s _ _ (T20.setTop (mkF m 92 #[iv p0, iv p1, iv p2, iv p3, iv (p1 &&& (2147483647 : Int32)), iv (p2 &&& (2147483647 : Int32)), iv (p3 &&& (2147483647 : Int32)), rv b1, iv (own_f3 (p1 &&& (2147483647 : Int32)) (p0.toInt64)), iv (own_f3 (p2 &&& (2147483647 : Int32)) ((p0.toInt64) + ((p1 &&& (2147483647 : Int32)).toInt64))), iv (own_f3 (p3 &&& (2147483647 : Int32)) (((p0.toInt64) + ((p1 &&& (2147483647 : Int32)).toInt64)) + ((p2 &&& (2147483647 : Int32)).toInt64))), jv ((p0.toInt64) + ((p1 &&& (2147483647 : Int32)).toInt64)), .second, jv (((p0.toInt64) + ((p1 &&& (2147483647 : Int32)).toInt64)) + ((p2 &&& (2147483647 : Int32)).toInt64)), .second, jv ((((p0.toInt64) + ((p1 &&& (2147483647 : Int32)).toInt64)) + ((p2 &&& (2147483647 : Int32)).toInt64)) + ((p3 &&& (2147483647 : Int32)).toInt64)), .second, .unset, .unset, .unset, .unset] []))
    refine own_via (fun k => XS.iconst X20.here hx rfl (hb hby at_92) k) ?_
    show own_Go p e below s _ _ (T20.setTop (mkF m 93 #[iv p0, iv p1, iv p2, iv p3, iv (p1 &&& (2147483647 : Int32)), iv (p2 &&& (2147483647 : Int32)), iv (p3 &&& (2147483647 : Int32)), rv b1, iv (own_f3 (p1 &&& (2147483647 : Int32)) (p0.toInt64)), iv (own_f3 (p2 &&& (2147483647 : Int32)) ((p0.toInt64) + ((p1 &&& (2147483647 : Int32)).toInt64))), iv (own_f3 (p3 &&& (2147483647 : Int32)) (((p0.toInt64) + ((p1 &&& (2147483647 : Int32)).toInt64)) + ((p2 &&& (2147483647 : Int32)).toInt64))), jv ((p0.toInt64) + ((p1 &&& (2147483647 : Int32)).toInt64)), .second, jv (((p0.toInt64) + ((p1 &&& (2147483647 : Int32)).toInt64)) + ((p2 &&& (2147483647 : Int32)).toInt64)), .second, jv ((((p0.toInt64) + ((p1 &&& (2147483647 : Int32)).toInt64)) + ((p2 &&& (2147483647 : Int32)).toInt64)) + ((p3 &&& (2147483647 : Int32)).toInt64)), .second, .unset, .unset, .unset, .unset] [(.int 0)]))
    exact J26 (0 : Int32) (((if_pos hc40).trans rfl)).symm
  · refine own_via (fun k => XS.ifNo X20.here hx rfl (hb hby at_85) rfl ((if0 _ _).trans (flt (mt (lw_gt _ _).mp hc40)).2.2.1) k) ?_
    show own_Go p e below s _ _ (T20.setTop (mkF m 88 #[iv p0, iv p1, iv p2, iv p3, iv (p1 &&& (2147483647 : Int32)), iv (p2 &&& (2147483647 : Int32)), iv (p3 &&& (2147483647 : Int32)), rv b1, iv (own_f3 (p1 &&& (2147483647 : Int32)) (p0.toInt64)), iv (own_f3 (p2 &&& (2147483647 : Int32)) ((p0.toInt64) + ((p1 &&& (2147483647 : Int32)).toInt64))), iv (own_f3 (p3 &&& (2147483647 : Int32)) (((p0.toInt64) + ((p1 &&& (2147483647 : Int32)).toInt64)) + ((p2 &&& (2147483647 : Int32)).toInt64))), jv ((p0.toInt64) + ((p1 &&& (2147483647 : Int32)).toInt64)), .second, jv (((p0.toInt64) + ((p1 &&& (2147483647 : Int32)).toInt64)) + ((p2 &&& (2147483647 : Int32)).toInt64)), .second, jv ((((p0.toInt64) + ((p1 &&& (2147483647 : Int32)).toInt64)) + ((p2 &&& (2147483647 : Int32)).toInt64)) + ((p3 &&& (2147483647 : Int32)).toInt64)), .second, .unset, .unset, .unset, .unset] []))
    refine own_via (fun k => XS.iconst X20.here hx rfl (hb hby at_88) (XS.goto X20.here hx rfl (pc0 := 89) (pc' := 93) rfl (hb hby at_89) (by decide) (by decide) k)) ?_
    show own_Go p e below s _ _ (T20.setTop (mkF m 93 #[iv p0, iv p1, iv p2, iv p3, iv (p1 &&& (2147483647 : Int32)), iv (p2 &&& (2147483647 : Int32)), iv (p3 &&& (2147483647 : Int32)), rv b1, iv (own_f3 (p1 &&& (2147483647 : Int32)) (p0.toInt64)), iv (own_f3 (p2 &&& (2147483647 : Int32)) ((p0.toInt64) + ((p1 &&& (2147483647 : Int32)).toInt64))), iv (own_f3 (p3 &&& (2147483647 : Int32)) (((p0.toInt64) + ((p1 &&& (2147483647 : Int32)).toInt64)) + ((p2 &&& (2147483647 : Int32)).toInt64))), jv ((p0.toInt64) + ((p1 &&& (2147483647 : Int32)).toInt64)), .second, jv (((p0.toInt64) + ((p1 &&& (2147483647 : Int32)).toInt64)) + ((p2 &&& (2147483647 : Int32)).toInt64)), .second, jv ((((p0.toInt64) + ((p1 &&& (2147483647 : Int32)).toInt64)) + ((p2 &&& (2147483647 : Int32)).toInt64)) + ((p3 &&& (2147483647 : Int32)).toInt64)), .second, .unset, .unset, .unset, .unset] [(.int 1)]))
    exact J26 (1 : Int32) (((if_neg hc40).trans rfl)).symm
set_option maxRecDepth 65536 in
set_option maxHeartbeats 40000000 in
theorem comes_1 {Post : Tables → Env → Array Value → State → Outcome → State → Prop} (hpost : ∀ tb e args s v u, (limb_1_1.after args s (.returned v) u = true ∧ limb_1_2.after args s (.returned v) u = true ∧ True) → FrameEnd s (.returned v) u (Jvm.fieldLocs frame_1_writes args s ++ Jvm.arrayLocs frame_1_arrays args s ++ Jvm.staticLocs frame_1_statics s) 16 128 → Post tb e args s (.returned v) u) :
    ArmFor flags0 classFile x code maxLocals ret World_1 tables_1 room_1 Calls_1 rest_1 Pre_1 Post := by
  intro l hfl _ _ p e ha hc hk s m args below hf hA hF happ hP
  obtain ⟨hcalls, hrest, hpre⟩ := hP
  obtain ⟨-, -, -, hnamed, -, -, -, hat⟩ := (Spec.applies_iff hf).mp happ
  obtain ⟨hg, hn⟩ := and_e (Cond.before_iff.mp (show (Jvm.Cond.and given_1 narrow_1).before args s = true from hpre))
  obtain ⟨g1, g2⟩ := and_e hg
  obtain ⟨g3, g4⟩ := and_e g2
  obtain ⟨g5, g6⟩ := and_e g4
  obtain ⟨g7, g8⟩ := and_e g6
  obtain ⟨w0, w1, w2, w3, rfl⟩ : ∃ w0 w1 w2 w3 : Value, args = #[w0, w1, w2, w3] := by
    have hs : args.size = 4 := by simpa [Cond.value, given_1] using g1
    obtain ⟨L⟩ := args
    match L, hs with
    | [w0, w1, w2, w3], _ => exact ⟨w0, w1, w2, w3, rfl⟩
  have hw := fun d (hd : d ∈ tables_1) => atoms_spec (ws := Jvm.Cond.code x code maxLocals ret :: tables_1) hat d (List.mem_cons_of_mem _ hd)
  obtain ⟨i0, ei0⟩ := is_v g3
  obtain rfl : w0 = (.int i0) := Option.some.inj ei0
  obtain ⟨i1, ei1⟩ := is_v g5
  obtain rfl : w1 = (.int i1) := Option.some.inj ei1
  obtain ⟨i2, ei2⟩ := is_v g7
  obtain rfl : w2 = (.int i2) := Option.some.inj ei2
  obtain ⟨i3, ei3⟩ := is_v g8
  obtain rfl : w3 = (.int i3) := Option.some.inj ei3
  obtain ⟨n, o, h1, h2, h3, _, L, rfl, ⟨rfl, N⟩, hq⟩ := rm0 l s _ hw tables_1 i0 i1 i2 i3 s.heap s.heap.size (Nat.le_refl _) p e ha hc hk s m _ below hf ((Spec.applies_iff_loose hf).mp happ).1 ⟨rfl, State.Warmed39.refl s, rfl⟩ trivial
  refine ⟨n, _, h1, h2, h3, hpost _ _ _ _ _ _ ⟨Cond.after_iff.mpr rfl, Cond.after_iff.mpr (eq_i res_at (Term.int_eval (1)) rfl), trivial⟩ ⟨hq.1, hq.2.1, (hq.2.2.sift fun y hy => Or.inr (N y hy)).mono (by decide) (by decide)⟩⟩
theorem main_1_1 : Claimed_1_1 := comes_1 fun _ _ _ _ _ _ h hF => ⟨h.1, hF⟩
theorem main_1_2 : Claimed_1_2 := comes_1 fun _ _ _ _ _ _ h hF => ⟨h.2.1, hF⟩
end Jvm.Pilot.@@N@@
namespace Jvm.Pilot.@@N@@
open Jvm Jvm.ClassFile Sem Op Lib Jvm.Free Jvm.Stand Jvm.Pilot.@@N@@.Jvm.D
/-! MADE BY PROGRAM (witnessworld.py) out of the Statement's table words and the real class files: 9 classes; the members and pool entries that the words name. The judged class is class 1, her method 1. -/
namespace start1
open Jvm.ClassFile
def u (s : String) : CpInfo := .utf8 (stringToUtf16 s)
/-- a pool by its gaps: so many unusable entries, then the entry; so many at the end -/
def gap : Nat → List CpInfo → List CpInfo
  | 0, r => r
  | n + 1, r => .unusable :: gap n r
def poolList (es : List (Nat × CpInfo)) (last : Nat) : List CpInfo := es.foldr (fun e r => gap e.1 (e.2 :: r)) (gap last [])
def pool (es : List (Nat × CpInfo)) (last : Nat) : Array CpInfo := ⟨poolList es last⟩
def fileOf (pool : Array CpInfo) (this : Nat) (attrs : Array Attribute := #[]) (ms : Array MethodInfo := #[]) (fl : Nat := 33) (sup : Nat := 0) (ifs : Array Nat := #[]) (fds : Array FieldInfo := #[]) : ClassFile where
  minorVersion := 0
  majorVersion := 65
  constantPool := pool
  accessFlags := fl
  thisClass := this
  superClass := sup
  interfaces := ifs
  fields := fds
  methods := ms
  attributes := attrs
def plain (name : String) (sup : Option ClassId) : Class where
  name := name
  kind := .ordinary
  loader := none
  accessFlags := 33
  super := sup
  interfaces := #[]
  cf := none
  fields := #[]
  methods := #[]
  instanceTypes := #[]
  staticTypes := #[]
  resolved := #[]
  callSites := []
  init := .initialized
  statics := none
  mirror := none

def pool0 : Array CpInfo := pool [(5, u "<init>"), (0, u "()V"), (1, .class_ 10), (1, u "java/lang/Object")] 113

def k0c0 : Code := { maxStack := 0, maxLocals := 1, code := object_method_1_code, exceptionTable := #[], attributes := #[] }
def k0m0 : Method := { name := "<init>", desc := "()V", sig := { parameters := [], returnType := none }, accessFlags := 1, code := some k0c0 }
/-- java/lang/Object -/
def k0 : Class := { plain "java/lang/Object" none with
  accessFlags := 33
  interfaces := #[]
  cf := some (fileOf pool0 8 #[] #[{ accessFlags := 1, nameIndex := 5, descriptorIndex := 6, attributes := #[] }] 33 0 #[] #[])
  fields := #[]
  methods := #[k0m0]
  instanceTypes := #[]
  staticTypes := #[]
  resolved := Array.replicate 124 none
  statics := none }

def pool1 : Array CpInfo := pool [(2, .class_ 4), (1, u "java/lang/Object"), (0, u "<init>"), (0, u "()V"), (0, .integer 2147483647), (0, .class_ 9), (0, u "organico/records/RecordRoom"), (0, .methodref 8 11), (0, .nameAndType 5 12), (0, u "(I)V"), (0, .methodref 8 14), (0, .nameAndType 15 16), (0, u "take"), (0, u "(I)Z"), (0, .long 99999), (1, .class_ 20), (0, u "organico/records/RecordRoomTakePinLaw"), (2, u "law"), (0, u "(IIII)Z")] 3

def k1m0 : Method := { name := "<init>", desc := "()V", sig := { parameters := [], returnType := none }, accessFlags := 2, code := none }
def k1c1 : Code := { maxStack := 4, maxLocals := 21, code := code, exceptionTable := #[], attributes := #[] }
def k1m1 : Method := { name := "law", desc := "(IIII)Z", sig := { parameters := [.int, .int, .int, .int], returnType := some .boolean }, accessFlags := 9, code := some k1c1 }
/-- organico/records/RecordRoomTakePinLaw -/
def k1 : Class := { plain "organico/records/RecordRoomTakePinLaw" (some 0) with
  accessFlags := 49
  interfaces := #[]
  cf := some (fileOf pool1 19 #[] #[{ accessFlags := 2, nameIndex := 5, descriptorIndex := 6, attributes := #[] }, { accessFlags := 9, nameIndex := 23, descriptorIndex := 24, attributes := #[] }] 49 2 #[] #[])
  fields := #[]
  methods := #[k1m0, k1m1]
  instanceTypes := #[]
  staticTypes := #[]
  resolved := Array.replicate 28 none
  statics := none }

def pool2 : Array CpInfo := pool [(1, .methodref 2 3), (0, .class_ 4), (0, .nameAndType 5 6), (0, u "java/lang/Object"), (0, u "<init>"), (0, u "()V"), (0, .fieldref 8 9), (0, .class_ 10), (0, .nameAndType 11 12), (0, u "organico/records/RecordRoom"), (0, u "taken"), (0, u "J"), (2, .long 99999), (1, u "(I)V"), (2, u "take"), (0, u "(I)Z")] 3

def k2c0 : Code := { maxStack := 3, maxLocals := 2, code := prog_84_method_1_code, exceptionTable := #[], attributes := #[] }
def k2m0 : Method := { name := "<init>", desc := "(I)V", sig := { parameters := [.int], returnType := none }, accessFlags := 0, code := some k2c0 }
def k2c1 : Code := { maxStack := 5, maxLocals := 2, code := prog_84_method_2_code, exceptionTable := #[], attributes := #[] }
def k2m1 : Method := { name := "take", desc := "(I)Z", sig := { parameters := [.int], returnType := some .boolean }, accessFlags := 0, code := some k2c1 }
/-- organico/records/RecordRoom -/
def k2 : Class := { plain "organico/records/RecordRoom" (some 0) with
  accessFlags := 48
  interfaces := #[]
  cf := some (fileOf pool2 8 #[] #[{ accessFlags := 0, nameIndex := 5, descriptorIndex := 17, attributes := #[] }, { accessFlags := 0, nameIndex := 20, descriptorIndex := 21, attributes := #[] }] 48 2 #[] #[{ accessFlags := 2, nameIndex := 11, descriptorIndex := 12, attributes := #[] }])
  fields := #[{ name := "taken", type := .long, accessFlags := 2, slot := 0, constantValue := 0 }]
  methods := #[k2m0, k2m1]
  instanceTypes := #[.long]
  staticTypes := #[]
  resolved := Array.replicate 25 none
  statics := none }

def pool3 : Array CpInfo := pool [(1, u "java/lang/Cloneable"), (0, .class_ 1), (0, u "java/lang/Object"), (0, .class_ 3)] 3

/-- java/lang/Cloneable -/
def k3 : Class := { plain "java/lang/Cloneable" (some 0) with
  accessFlags := 1537
  interfaces := #[]
  cf := some (fileOf pool3 2 #[] #[] 1537 4 #[] #[])
  fields := #[]
  methods := #[]
  instanceTypes := #[]
  staticTypes := #[]
  resolved := Array.replicate 8 none
  statics := none }

def pool4 : Array CpInfo := pool [(1, u "java/io/Serializable"), (0, .class_ 1), (0, u "java/lang/Object"), (0, .class_ 3)] 3

/-- java/io/Serializable -/
def k4 : Class := { plain "java/io/Serializable" (some 0) with
  accessFlags := 1537
  interfaces := #[]
  cf := some (fileOf pool4 2 #[] #[] 1537 4 #[] #[])
  fields := #[]
  methods := #[]
  instanceTypes := #[]
  staticTypes := #[]
  resolved := Array.replicate 8 none
  statics := none }

/-- the primitive byte -/
def k5 : Class := { plain "byte" none with kind := .primitive 'B', accessFlags := 0x411 }
/-- [B -/
def k6 : Class := { plain "[B" (some 0) with kind := .array 5 .byte, interfaces := #[3, 4], accessFlags := 1041 }

/-- the primitive int -/
def k7 : Class := { plain "int" none with kind := .primitive 'I', accessFlags := 0x411 }
/-- [I -/
def k8 : Class := { plain "[I" (some 0) with kind := .array 7 .int, interfaces := #[3, 4], accessFlags := 1041 }

def heap : Heap := #[]
def classes : Array Class := #[k0, k1, k2, k3, k4, k5, k6, k7, k8]
def interned : List (Array UInt16 × Addr) := []
def slotsUsed : Nat := 0
def theMethod : MethodId := ⟨1, 1⟩
def args0 : Array Value := #[.int 5, .int 9, .int 3, .int 1]
def aboutOver (below : List Frame) : State where
  vm := { classes := classes, interned := interned.toArray }
  heap := heap
  slotsUsed := slotsUsed
  threads := #[{ frames := .invoking theMethod args0 :: below }]
def below0 : List Frame := [.native { method := ⟨0, 0⟩, args := #[] }]
def about1 : State := aboutOver below0
def p0 : Program := .bare "" "" ""
def e0 : Env := launch0.env 0 0 0
theorem w_frames : about1.frames = Frame.invoking theMethod args0 :: below0 := rfl
set_option maxRecDepth 65536 in
theorem w_args : argsFit about1.vm theMethod args0 = true := by decide +kernel
set_option maxRecDepth 65536 in
theorem w_heap : heapFits about1 = true := by decide +kernel
set_option maxRecDepth 65536 in
theorem w_runnable : about1.curStatus? = some .runnable := by decide +kernel
set_option maxRecDepth 65536 in
theorem w_alone : about1.alone = true := by decide +kernel
set_option maxRecDepth 65536 in
theorem w_named : about1.methodNamed? x = some theMethod := by decide +kernel
set_option maxRecDepth 65536 in
theorem w_hears : about1.hears theMethod below0 = true := by decide +kernel
set_option maxRecDepth 65536 in
theorem w_ripe : about1.ripe theMethod args0 below0 = true := by decide +kernel
theorem w_running : about1.status = .running := rfl
set_option maxRecDepth 65536 in
theorem w_room : about1.hasRoom e0.platform room_1 = true :=
  launch0.hasRoom_least _ room_1 (by decide +kernel) (by decide +kernel) (by decide +kernel) (by decide +kernel) (by decide +kernel) (by decide +kernel)
theorem allAtoms_all (ts : List Jvm.Cond) (a : Array Jvm.Value) (st : Jvm.State) : (allAtoms ts).before a st = ts.all (fun c => c.before a st) := by
  induction ts with
  | nil => rfl
  | cons c t ih =>
    show (Jvm.Cond.and c (allAtoms t)).before a st = _
    rw [Jvm.Cond.before_and, ih, List.all_cons]
def words1 : List Jvm.Cond := Jvm.Cond.code x code maxLocals ret :: tables_1
/-- a 'code' word, met by the world's own term for the bytes: nothing is compared byte by byte -/
theorem code_word {y : MethodName} {bytes : ByteArray} {mx : Nat} {rt : Option FieldType} {a : Array Value} {s : State} {m : MethodId} {meth : Method} {c : Code} (h1 : s.methodNamed? y = some m) (h2 : s.vm.method? m = some meth) (h3 : meth.code = some c) (h4 : c.code = bytes)
    (h5 : (c.maxLocals == mx && c.exceptionTable.isEmpty && decide (c.maxStack ≤ mostOperands) && decide (meth.sig.returnType = rt) && !meth.locks && decide (parseMethodDescriptor y.desc = some meth.sig)) = true) : (Jvm.Cond.code y bytes mx rt).before a s = true := by
  simp only [Bool.and_eq_true, beq_iff_eq, Bool.not_eq_true', decide_eq_true_eq] at h5
  obtain ⟨⟨⟨⟨⟨g1, g2⟩, g3⟩, g4⟩, g5⟩, g6⟩ := h5
  simp [Cond.before, Cond.holds, Cond.value, h1, h2, h3, h4, g1, g2, g3, g4, g5, g6]
def isCode : Jvm.Cond → Bool
  | .code _ _ _ _ => true
  | _ => false
theorem all_split {L : List Jvm.Cond} {P : Jvm.Cond → Bool} (h1 : L.all (fun c => isCode c || P c) = true) (h2 : ∀ c ∈ L.filter isCode, P c = true) : L.all P = true := by
  refine List.all_eq_true.mpr fun c hc => ?_
  have h := List.all_eq_true.mp h1 c hc
  rcases Bool.eq_false_or_eq_true (isCode c) with hi | hi
  · exact h2 c (List.mem_filter.mpr ⟨hc, hi⟩)
  · simpa [hi] using h
set_option maxRecDepth 65536 in
theorem w_c0 : (Jvm.Cond.code x code maxLocals ret).before args0 about1 = true := code_word (m := ⟨1, 1⟩) (meth := k1m1) (c := k1c1) (by decide +kernel) rfl rfl rfl (by decide +kernel)
set_option maxRecDepth 65536 in
theorem w_c1 : (Jvm.Cond.code ({ cls := "organico/records/RecordRoom", name := "<init>", desc := "(I)V" } : Jvm.MethodName) prog_84_method_1_code (2 : Nat) (Option.none : Option Jvm.ClassFile.FieldType)).before args0 about1 = true := code_word (m := ⟨2, 0⟩) (meth := k2m0) (c := k2c0) (by decide +kernel) rfl rfl rfl (by decide +kernel)
set_option maxRecDepth 65536 in
theorem w_c2 : (Jvm.Cond.code ({ cls := "java/lang/Object", name := "<init>", desc := "()V" } : Jvm.MethodName) object_method_1_code (1 : Nat) (Option.none : Option Jvm.ClassFile.FieldType)).before args0 about1 = true := code_word (m := ⟨0, 0⟩) (meth := k0m0) (c := k0c0) (by decide +kernel) rfl rfl rfl (by decide +kernel)
set_option maxRecDepth 65536 in
theorem w_c3 : (Jvm.Cond.code ({ cls := "organico/records/RecordRoom", name := "take", desc := "(I)Z" } : Jvm.MethodName) prog_84_method_2_code (2 : Nat) (Option.some Jvm.ClassFile.FieldType.boolean)).before args0 about1 = true := code_word (m := ⟨2, 1⟩) (meth := k2m1) (c := k2c1) (by decide +kernel) rfl rfl rfl (by decide +kernel)
def codes1 : List Jvm.Cond := [Jvm.Cond.code x code maxLocals ret, Jvm.Cond.code ({ cls := "organico/records/RecordRoom", name := "<init>", desc := "(I)V" } : Jvm.MethodName) prog_84_method_1_code (2 : Nat) (Option.none : Option Jvm.ClassFile.FieldType), Jvm.Cond.code ({ cls := "java/lang/Object", name := "<init>", desc := "()V" } : Jvm.MethodName) object_method_1_code (1 : Nat) (Option.none : Option Jvm.ClassFile.FieldType), Jvm.Cond.code ({ cls := "organico/records/RecordRoom", name := "take", desc := "(I)Z" } : Jvm.MethodName) prog_84_method_2_code (2 : Nat) (Option.some Jvm.ClassFile.FieldType.boolean)]
set_option maxRecDepth 65536 in
theorem codes_eq : words1.filter isCode = codes1 := rfl
theorem w_codes : ∀ c ∈ words1.filter isCode, c.before args0 about1 = true := by
  rw [codes_eq]
  intro c hc
  simp only [codes1, List.mem_cons, List.not_mem_nil, or_false] at hc
  rcases hc with rfl | rfl | rfl | rfl
  · exact w_c0
  · exact w_c1
  · exact w_c2
  · exact w_c3
set_option maxRecDepth 65536 in
theorem w_t1 : words1.all (fun c => isCode c || c.before args0 about1) = true := by decide +kernel
theorem w_tables : (allAtoms (Jvm.Cond.code x code maxLocals ret :: tables_1)).before args0 about1 = true := by
  rw [allAtoms_all]
  show words1.all (fun c => c.before args0 about1) = true
  refine all_split ?_ w_codes
  rw [w_t1]
set_option maxRecDepth 65536 in
theorem w_case : (Jvm.Cond.and given_1 narrow_1).before args0 about1 = true := by decide +kernel
theorem w_applies : (headSpec (Jvm.Cond.code x code maxLocals ret :: tables_1) room_1).applies x e0.platform about1 = true :=
  (Spec.applies_iff w_frames).mpr ⟨w_running, w_runnable, w_alone, w_named, w_hears, w_ripe, w_room, w_tables⟩
theorem atStart : AtStart classFile x code maxLocals ret World_1 tables_1 room_1 Calls_1 rest_1 Pre_1 launch0 p0 e0 about1 theMethod args0 below0 :=
  ⟨lists_1, trivial, launch0.admits_env _ _ _, launch0.least_env, fairChoices_fair.cas, fairChoices_fair.clock, w_frames, w_args, w_heap, w_applies, trivial, trivial, w_case⟩
end start1
theorem witness_1 : WitnessClaimed_1 := ⟨start1.p0, start1.e0, start1.about1, start1.theMethod, start1.args0, start1.below0, start1.atStart⟩
end Jvm.Pilot.@@N@@
