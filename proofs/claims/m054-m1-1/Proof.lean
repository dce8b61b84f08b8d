import JvmDerived
import JvmDerived.Pilot.@@N@@Statement
import JvmDerived.Pilot.@@N@@Code
set_option linter.unusedVariables false
set_option linter.unusedSimpArgs false
namespace Jvm.RoadKit
open Sem ClassFile Op Lib Jvm.Stand Jvm.Free Jvm.LawKit
section New
variable {p : Program} {l : Launch} {e : Env} {R : Room} {s : State} {m : MethodId} {args : Array Value} {below : List Frame} {meth : Method} {c : Code} {T : State} {locs : List Loc} {cells slots : Nat}
theorem retI (X : Stand p l e R s m args below meth c T locs cells slots) (hx : p.tables.exec = Jvm.exec) {pc : Nat} {Ls : Array Slot} {z : Int32} {rest : List Value} (hret : meth.sig.returnType = some .int) (hd : decode c.code pc = .ok (.ireturn, 1)) {fs : List Frame}
    (hl : ∀ (f : JFrame) (acts : List Action), f.method = m → f.locked = none → f.entered = [] → (doReturn e (T.setTop f) acts (some (.int z))).1 = T.setFrames fs) : Steps p.tables e below (T.setTop (mkF m pc Ls (.int z :: rest))) (T.setFrames fs) := by
  have hm' : T.vm.method? m = some meth := X.method'
  have hn : narrow .int (.int z) = .int z := rfl
  show Steps p.tables e below (T.setTop { method := m, pc := pc, locals := Ls, stack := _ :: rest, locked := none }) _
  jvm_step X.here [X.here.top, hx, hd, hm', hret, hn]
  first | (intro acts; rw [hl _ acts rfl rfl rfl]) | rw [hl _ _ rfl rfl rfl]
  exact Steps.refl _
abbrev jv (x : Int64) : Slot := .val (.long x)
/-- from the state st the run ends as Q says -/
def own_Go (p : Program) (e : Env) (below : List Frame) (s : State) (Q : Option Value → Heap → List Loc → Prop) (CS : Nat × Nat) (st : State) : Prop :=
  ∃ s₂ o, Steps p.tables e below st s₂ ∧ s₂.status = .running ∧ Ended s₂ below o ∧ ∃ v L, o = .returned v ∧ Q v s₂.heap L ∧ FrameEnd s o s₂ L CS.1 CS.2
variable {Q : Option Value → Heap → List Loc → Prop} {CS : Nat × Nat} {st st' : State}
theorem own_via (h : ∀ {t}, Steps p.tables e below st t → Steps p.tables e below st' t) (g : own_Go p e below s Q CS st) : own_Go p e below s Q CS st' := by
  obtain ⟨s₂, o, h1, h2⟩ := g
  exact ⟨s₂, o, h h1, h2⟩
theorem own_start {g g' : JFrame} (q : g = g') (h : own_Go p e below s Q CS (T.setTop g')) : ∃ s₂ o, Steps p.tables e below (T.setTop g) s₂ ∧ s₂.status = .running ∧ Ended s₂ below o ∧ ∃ v L, o = .returned v ∧ Q v s₂.heap L ∧ FrameEnd s o s₂ L CS.1 CS.2 := q ▸ h
theorem own_retN (X : Stand p l e R s m args below meth c T locs cells slots) (hx : p.tables.exec = Jvm.exec) (hlk : meth.locks = false) {pc : Nat} {Ls : Array Slot} {z : Int32} {t : FieldType} {rest : List Value} (hret : meth.sig.returnType = some t) (ht : t = .boolean ∨ t = .byte ∨ t = .char ∨ t = .short)
    (hd : decode c.code pc = .ok (.ireturn, 1)) (hq : Q (some (.int (nar t z))) T.heap locs) (hc : cells ≤ CS.1) (hs : slots ≤ CS.2) : own_Go p e below s Q CS (T.setTop (mkF m pc Ls (.int z :: rest))) := by
  obtain ⟨fs, hr, hrun, hended, hW, hsame⟩ := X.leave (v := some (.int (nar t z))) (fun h => by rw [hret] at h; cases h) hlk
  exact ⟨_, _, retN X hx hret ht hd hr, hrun, hended, _, _, rfl, hq, ⟨_, rfl⟩, hW, hsame.mono hc hs⟩
theorem own_retI (X : Stand p l e R s m args below meth c T locs cells slots) (hx : p.tables.exec = Jvm.exec) (hlk : meth.locks = false) {pc : Nat} {Ls : Array Slot} {z : Int32} {rest : List Value} (hret : meth.sig.returnType = some .int)
    (hd : decode c.code pc = .ok (.ireturn, 1)) (hq : Q (some (.int z)) T.heap locs) (hc : cells ≤ CS.1) (hs : slots ≤ CS.2) : own_Go p e below s Q CS (T.setTop (mkF m pc Ls (.int z :: rest))) := by
  obtain ⟨fs, hr, hrun, hended, hW, hsame⟩ := X.leave (v := some (.int z)) (fun h => by rw [hret] at h; cases h) hlk
  exact ⟨_, _, retI X hx hret hd hr, hrun, hended, _, _, rfl, hq, ⟨_, rfl⟩, hW, hsame.mono hc hs⟩
theorem own_retL (X : Stand p l e R s m args below meth c T locs cells slots) (hx : p.tables.exec = Jvm.exec) (hlk : meth.locks = false) {pc : Nat} {Ls : Array Slot} {z : Int64} (hret : meth.sig.returnType = some .long)
    (hd : decode c.code pc = .ok (.lreturn, 1)) (hq : Q (some (.long z)) T.heap locs) (hc : cells ≤ CS.1) (hs : slots ≤ CS.2) : own_Go p e below s Q CS (T.setTop (mkF m pc Ls [.long z])) := by
  obtain ⟨fs, hr, hrun, hended, hW, hsame⟩ := X.leave (v := some (.long z)) (fun h => by rw [hret] at h; cases h) hlk
  exact ⟨_, _, X.lreturnOut hx hret hd hr, hrun, hended, _, _, rfl, hq, ⟨_, rfl⟩, hW, hsame.mono hc hs⟩
theorem own_retA (X : Stand p l e R s m args below meth c T locs cells slots) (hx : p.tables.exec = Jvm.exec) (hlk : meth.locks = false) {pc : Nat} {Ls : Array Slot} {w : Value} (hw : w.isRef = true) {t : FieldType} (hret : meth.sig.returnType = some t) (ht : t.isReference = true)
    (hd : decode c.code pc = .ok (.areturn, 1)) (hq : Q (some w) T.heap locs) (hc : cells ≤ CS.1) (hs : slots ≤ CS.2) : own_Go p e below s Q CS (T.setTop (mkF m pc Ls [w])) := by
  obtain ⟨fs, hr, hrun, hended, hW, hsame⟩ := X.leave (v := some w) (fun h => by rw [hret] at h; cases h) hlk
  exact ⟨_, _, X.areturnOut hx hw hret ht hd hr, hrun, hended, _, _, rfl, hq, ⟨_, rfl⟩, hW, hsame.mono hc hs⟩
theorem own_ret0 (X : Stand p l e R s m args below meth c T locs cells slots) (hx : p.tables.exec = Jvm.exec) (hlk : meth.locks = false) {pc : Nat} {Ls : Array Slot} (hret : meth.sig.returnType = none)
    (hd : decode c.code pc = .ok (.return_, 1)) (hq : Q none T.heap locs) (hc : cells ≤ CS.1) (hs : slots ≤ CS.2) : own_Go p e below s Q CS (T.setTop (mkF m pc Ls [])) := by
  obtain ⟨fs, hr, hrun, hended, hW, hsame⟩ := X.leave (v := none) (fun _ => rfl) hlk
  exact ⟨_, _, X.returnOut hx hret hd hr, hrun, hended, _, _, rfl, hq, ⟨_, rfl⟩, hW, hsame.mono hc hs⟩
theorem own_fldI {Z : State} {h : Heap} {a : Addr} {C n d : String} {v w : Int32} (q : v = w) (F : Fld Z h a C n d (.int v)) : Fld Z h a C n d (.int w) := q ▸ F
theorem own_fldJ {Z : State} {h : Heap} {a : Addr} {C n d : String} {v w : Int64} (q : v = w) (F : Fld Z h a C n d (.long v)) : Fld Z h a C n d (.long w) := q ▸ F
theorem own_arv {Z : State} {h : Heap} {a : Addr} {k : ClassId} {ty : FieldType} {n : Int32} {vs vs' : List Value} {d : Value} (q : vs = vs') (F : Arv Z h a k ty n vs d) : Arv Z h a k ty n vs' d := q ▸ F
theorem own_fits {t : FieldType} {v w : Int32} (q : v = w) (F : fits t (.int v) = true) : fits t (.int w) = true := q ▸ F
end New
end Jvm.RoadKit
namespace Jvm.Pilot.@@N@@
open Jvm Jvm.ClassFile Sem Op Lib Jvm.Free Jvm.Stand Jvm.LawKit Jvm.RoadKit Bundle Jvm.Pilot.@@N@@.Jvm.D
theorem own_l32 {x y : Int32} : x < y ↔ x.toInt < y.toInt := Int32.lt_iff_toInt_lt
theorem own_e32 {x y : Int32} : x = y ↔ x.toInt = y.toInt := Int32.toInt_inj.symm
theorem own_l64 {x y : Int64} : x < y ↔ x.toInt < y.toInt := Int64.lt_iff_toInt_lt
theorem own_e64 {x y : Int64} : x = y ↔ x.toInt = y.toInt := Int64.toInt_inj.symm
theorem own_all8 {P : Int8 → Prop} (h : ∀ n : Fin 256, P (Int8.ofBitVec (BitVec.ofFin n))) (i : Int8) : P i := h i.toBitVec.toFin
theorem d1_0 : decode prog_33_method_2_code 0 = .ok (.aload_n 0, 1) := by decide +kernel
theorem d1_1 : decode prog_33_method_2_code 1 = .ok (.arraylength, 1) := by decide +kernel
theorem d1_2 : decode prog_33_method_2_code 2 = .ok (.iconst 3, 1) := by decide +kernel
theorem d1_3 : decode prog_33_method_2_code 3 = .ok (.if_icmp .lt 46, 3) := by decide +kernel
theorem d1_49 : decode prog_33_method_2_code 49 = .ok (.iconst 0, 1) := by decide +kernel
theorem d1_50 : decode prog_33_method_2_code 50 = .ok (.istore_n 1, 1) := by decide +kernel
theorem d1_51 : decode prog_33_method_2_code 51 = .ok (.iload_n 1, 1) := by decide +kernel
theorem d1_52 : decode prog_33_method_2_code 52 = .ok (.ifCond .eq 7, 3) := by decide +kernel
theorem d1_59 : decode prog_33_method_2_code 59 = .ok (.iconst 0, 1) := by decide +kernel
theorem d1_60 : decode prog_33_method_2_code 60 = .ok (.ireturn, 1) := by decide +kernel
theorem pn_1 : plainName "com/example/dani/dani/formats/DecodingReader" = true := by first | (simp [plainName, overriddenIn]; done) | decide +kernel
theorem ef_1_0 (m : MethodId) (x0 : Addr) : entryFrame m #[(.ref x0)] 2 = mkF m 0 #[rv x0, .unset] [] := by first | (simp [entryFrame, mkF, argsToLocals, Value.category]; done) | rfl
def own_f1_0  : Int32 := (0 : Int32)
def Q1_0 (Z : State) (a0 : Addr) (k : ClassId) (h0 : Heap) (n0 : Nat) (v : Option Value) (h : Heap) (L : List Loc) : Prop := v = some (.int own_f1_0) ∧ Fr n0 L ∧ h = h0
set_option maxRecDepth 65536 in
set_option maxHeartbeats 40000000 in
theorem rm1_0 (l : Launch) (Z : State) (aw : Array Value) (hw : ∀ d ∈ tables_1, d.before aw Z = true) (ws : List Jvm.Cond) (a0 : Addr) (k : ClassId) (h0 : Heap) (n0 : Nat) (Z0 : n0 ≤ h0.size) (P0 : Arv Z h0 a0 k .byte (0 : Int32) [] (.int 0)) :
    MetFree l (⟨"com/example/dani/dani/formats/DecodingReader", "utf8ByteOrderMark", "([B)I"⟩ : MethodName) (head1 (Jvm.Cond.code (⟨"com/example/dani/dani/formats/DecodingReader", "utf8ByteOrderMark", "([B)I"⟩ : MethodName) prog_33_method_2_code 2 (some .int) :: ws) ({ frames := 0, cells := 0, slots := 0, locals := 0 } : Room)) (fun a U => a = #[(.ref a0)] ∧ Z.Warmed39 U.vm ∧ U.heap = h0) (fun _ _ _ _ _ => True) (fun _ U o U' => ∃ v L, o = .returned v ∧ Q1_0 Z a0 k h0 n0 v U'.heap L ∧ FrameEnd U o U' L ({ frames := 0, cells := 0, slots := 0, locals := 0 } : Room).cells ({ frames := 0, cells := 0, slots := 0, locals := 0 } : Room).slots) := by
  refine MetFree.of_bodySF (plainFor_of_name pn_1) hisR ?_
  intro p e s m args below meth c s₁ Bd hml0 hP hK
  obtain ⟨rfl, hZ, hh⟩ := hP
  have hx := Bd.exec
  have hby := Bd.bytes
  have hml : c.maxLocals = 2 := hml0
  have hown : s.vm.findClass "com/example/dani/dani/formats/DecodingReader" = some m.cls := findClass_of_methodNamed Bd.named
  have hnm := (name_of_methodNamed Bd.named Bd.method).1
  have hlk : meth.locks = false := by first | exact BodyLoose.notSynchronized (by assumption) | exact Body.notSynchronized (by assumption)
  have X0 : Stand p l e ({ frames := 0, cells := 0, slots := 0, locals := 0 } : Room) s m #[(.ref a0)] below meth c s₁ [] 0 0 := Stand.of_body Bd
  have e0 : s₁.heap = h0 := by rw [← hh, Bd.state]; rfl
  have N0 := Fr.nil n0
  have K0 : Keep h0 h0 [] := Keep.refl _ _
  refine own_start (CS := (0, 0)) (Q := (Q1_0 Z a0 k h0 n0)) (ef_1_0 m a0) ?_
  show own_Go p e below s _ _ (s₁.setTop (mkF m 0 #[rv a0, .unset] []))
  refine own_via (fun k => XS.aloadN X0.here hx rfl (hb hby d1_0) rfl rfl  k) ?_
  show own_Go p e below s _ _ (s₁.setTop (mkF m 1 #[rv a0, .unset] [(.ref a0)]))
  obtain ⟨cl1, Ar1, -, S1, NN1, -, -⟩ := id P0
  refine own_via (fun k => X0.arraylength hx (by rw [e0]; exact Ar1.1) (State.isArrayOf_alike hZ.alike Ar1.2.1) (g := (mkF m 1 #[rv a0, .unset] [(.ref a0)])) rfl rfl (hb hby d1_1) _ k) ?_
  rw [len_of S1 NN1]
  show own_Go p e below s _ _ (s₁.setTop (mkF m 2 #[rv a0, .unset] [(.int 0)]))
  refine own_via (fun k => XS.iconst X0.here hx rfl (hb hby d1_2) k) ?_
  show own_Go p e below s _ _ (s₁.setTop (mkF m 3 #[rv a0, .unset] [(.int 3), (.int 0)]))
  refine own_via (fun k => XS.icmpYes X0.here hx rfl (pc0 := 3) (pc' := 49) rfl (hb hby d1_3) rfl (by decide) (by decide) (by decide) k) ?_
  show own_Go p e below s _ _ (s₁.setTop (mkF m 49 #[rv a0, .unset] []))
  refine own_via (fun k => XS.iconst X0.here hx rfl (hb hby d1_49) (XS.istoreN X0.here hx rfl (hb hby d1_50) rfl (l' := #[rv a0, iv 0]) rfl (XS.iloadN X0.here hx rfl (hb hby d1_51) rfl  k))) ?_
  show own_Go p e below s _ _ (s₁.setTop (mkF m 52 #[rv a0, iv 0] [(.int 0)]))
  refine own_via (fun k => XS.ifYes X0.here hx rfl (pc0 := 52) (pc' := 59) rfl (hb hby d1_52) rfl (by decide) (by decide) (by decide) k) ?_
  show own_Go p e below s _ _ (s₁.setTop (mkF m 59 #[rv a0, iv 0] []))
  refine own_via (fun k => XS.iconst X0.here hx rfl (hb hby d1_59) k) ?_
  show own_Go p e below s _ _ (s₁.setTop (mkF m 60 #[rv a0, iv 0] [(.int 0)]))
  exact own_retI X0 hx hlk Bd.returns (hb hby d1_60) (Q := (Q1_0 Z a0 k h0 n0)) ⟨(congrArg (fun z => some (Value.int z)) (show (0 : Int32) = own_f1_0 from rfl)), N0, e0⟩ (by decide) (by decide)
theorem ef_1_1 (m : MethodId) (x0 : Addr) : entryFrame m #[(.ref x0)] 2 = mkF m 0 #[rv x0, .unset] [] := by first | (simp [entryFrame, mkF, argsToLocals, Value.category]; done) | rfl
def own_f1_1  : Int32 := (0 : Int32)
def Q1_1 (Z : State) (a0 : Addr) (k : ClassId) (w0 : Int32) (h0 : Heap) (n0 : Nat) (v : Option Value) (h : Heap) (L : List Loc) : Prop := v = some (.int own_f1_1) ∧ Fr n0 L ∧ h = h0
set_option maxRecDepth 65536 in
set_option maxHeartbeats 40000000 in
theorem rm1_1 (l : Launch) (Z : State) (aw : Array Value) (hw : ∀ d ∈ tables_1, d.before aw Z = true) (ws : List Jvm.Cond) (a0 : Addr) (k : ClassId) (w0 : Int32) (h0 : Heap) (n0 : Nat) (Z0 : n0 ≤ h0.size) (P0 : Arv Z h0 a0 k .byte (1 : Int32) [(.int w0)] (.int 0)) :
    MetFree l (⟨"com/example/dani/dani/formats/DecodingReader", "utf8ByteOrderMark", "([B)I"⟩ : MethodName) (head1 (Jvm.Cond.code (⟨"com/example/dani/dani/formats/DecodingReader", "utf8ByteOrderMark", "([B)I"⟩ : MethodName) prog_33_method_2_code 2 (some .int) :: ws) ({ frames := 0, cells := 0, slots := 0, locals := 0 } : Room)) (fun a U => a = #[(.ref a0)] ∧ Z.Warmed39 U.vm ∧ U.heap = h0) (fun _ _ _ _ _ => True) (fun _ U o U' => ∃ v L, o = .returned v ∧ Q1_1 Z a0 k w0 h0 n0 v U'.heap L ∧ FrameEnd U o U' L ({ frames := 0, cells := 0, slots := 0, locals := 0 } : Room).cells ({ frames := 0, cells := 0, slots := 0, locals := 0 } : Room).slots) := by
  refine MetFree.of_bodySF (plainFor_of_name pn_1) hisR ?_
  intro p e s m args below meth c s₁ Bd hml0 hP hK
  obtain ⟨rfl, hZ, hh⟩ := hP
  have hx := Bd.exec
  have hby := Bd.bytes
  have hml : c.maxLocals = 2 := hml0
  have hown : s.vm.findClass "com/example/dani/dani/formats/DecodingReader" = some m.cls := findClass_of_methodNamed Bd.named
  have hnm := (name_of_methodNamed Bd.named Bd.method).1
  have hlk : meth.locks = false := by first | exact BodyLoose.notSynchronized (by assumption) | exact Body.notSynchronized (by assumption)
  have X0 : Stand p l e ({ frames := 0, cells := 0, slots := 0, locals := 0 } : Room) s m #[(.ref a0)] below meth c s₁ [] 0 0 := Stand.of_body Bd
  have e0 : s₁.heap = h0 := by rw [← hh, Bd.state]; rfl
  have N0 := Fr.nil n0
  have K0 : Keep h0 h0 [] := Keep.refl _ _
  refine own_start (CS := (0, 0)) (Q := (Q1_1 Z a0 k w0 h0 n0)) (ef_1_1 m a0) ?_
  show own_Go p e below s _ _ (s₁.setTop (mkF m 0 #[rv a0, .unset] []))
  refine own_via (fun k => XS.aloadN X0.here hx rfl (hb hby d1_0) rfl rfl  k) ?_
  show own_Go p e below s _ _ (s₁.setTop (mkF m 1 #[rv a0, .unset] [(.ref a0)]))
  obtain ⟨cl1, Ar1, -, S1, NN1, -, -⟩ := id P0
  refine own_via (fun k => X0.arraylength hx (by rw [e0]; exact Ar1.1) (State.isArrayOf_alike hZ.alike Ar1.2.1) (g := (mkF m 1 #[rv a0, .unset] [(.ref a0)])) rfl rfl (hb hby d1_1) _ k) ?_
  rw [len_of S1 NN1]
  show own_Go p e below s _ _ (s₁.setTop (mkF m 2 #[rv a0, .unset] [(.int 1)]))
  refine own_via (fun k => XS.iconst X0.here hx rfl (hb hby d1_2) k) ?_
  show own_Go p e below s _ _ (s₁.setTop (mkF m 3 #[rv a0, .unset] [(.int 3), (.int 1)]))
  refine own_via (fun k => XS.icmpYes X0.here hx rfl (pc0 := 3) (pc' := 49) rfl (hb hby d1_3) rfl (by decide) (by decide) (by decide) k) ?_
  show own_Go p e below s _ _ (s₁.setTop (mkF m 49 #[rv a0, .unset] []))
  refine own_via (fun k => XS.iconst X0.here hx rfl (hb hby d1_49) (XS.istoreN X0.here hx rfl (hb hby d1_50) rfl (l' := #[rv a0, iv 0]) rfl (XS.iloadN X0.here hx rfl (hb hby d1_51) rfl  k))) ?_
  show own_Go p e below s _ _ (s₁.setTop (mkF m 52 #[rv a0, iv 0] [(.int 0)]))
  refine own_via (fun k => XS.ifYes X0.here hx rfl (pc0 := 52) (pc' := 59) rfl (hb hby d1_52) rfl (by decide) (by decide) (by decide) k) ?_
  show own_Go p e below s _ _ (s₁.setTop (mkF m 59 #[rv a0, iv 0] []))
  refine own_via (fun k => XS.iconst X0.here hx rfl (hb hby d1_59) k) ?_
  show own_Go p e below s _ _ (s₁.setTop (mkF m 60 #[rv a0, iv 0] [(.int 0)]))
  exact own_retI X0 hx hlk Bd.returns (hb hby d1_60) (Q := (Q1_1 Z a0 k w0 h0 n0)) ⟨(congrArg (fun z => some (Value.int z)) (show (0 : Int32) = own_f1_1 from rfl)), N0, e0⟩ (by decide) (by decide)
theorem ef_1_2 (m : MethodId) (x0 : Addr) : entryFrame m #[(.ref x0)] 2 = mkF m 0 #[rv x0, .unset] [] := by first | (simp [entryFrame, mkF, argsToLocals, Value.category]; done) | rfl
def own_f1_2  : Int32 := (0 : Int32)
def Q1_2 (Z : State) (a0 : Addr) (k : ClassId) (w0 : Int32) (w1 : Int32) (h0 : Heap) (n0 : Nat) (v : Option Value) (h : Heap) (L : List Loc) : Prop := v = some (.int own_f1_2) ∧ Fr n0 L ∧ h = h0
set_option maxRecDepth 65536 in
set_option maxHeartbeats 40000000 in
theorem rm1_2 (l : Launch) (Z : State) (aw : Array Value) (hw : ∀ d ∈ tables_1, d.before aw Z = true) (ws : List Jvm.Cond) (a0 : Addr) (k : ClassId) (w0 : Int32) (w1 : Int32) (h0 : Heap) (n0 : Nat) (Z0 : n0 ≤ h0.size) (P0 : Arv Z h0 a0 k .byte (2 : Int32) [(.int w0), (.int w1)] (.int 0)) :
    MetFree l (⟨"com/example/dani/dani/formats/DecodingReader", "utf8ByteOrderMark", "([B)I"⟩ : MethodName) (head1 (Jvm.Cond.code (⟨"com/example/dani/dani/formats/DecodingReader", "utf8ByteOrderMark", "([B)I"⟩ : MethodName) prog_33_method_2_code 2 (some .int) :: ws) ({ frames := 0, cells := 0, slots := 0, locals := 0 } : Room)) (fun a U => a = #[(.ref a0)] ∧ Z.Warmed39 U.vm ∧ U.heap = h0) (fun _ _ _ _ _ => True) (fun _ U o U' => ∃ v L, o = .returned v ∧ Q1_2 Z a0 k w0 w1 h0 n0 v U'.heap L ∧ FrameEnd U o U' L ({ frames := 0, cells := 0, slots := 0, locals := 0 } : Room).cells ({ frames := 0, cells := 0, slots := 0, locals := 0 } : Room).slots) := by
  refine MetFree.of_bodySF (plainFor_of_name pn_1) hisR ?_
  intro p e s m args below meth c s₁ Bd hml0 hP hK
  obtain ⟨rfl, hZ, hh⟩ := hP
  have hx := Bd.exec
  have hby := Bd.bytes
  have hml : c.maxLocals = 2 := hml0
  have hown : s.vm.findClass "com/example/dani/dani/formats/DecodingReader" = some m.cls := findClass_of_methodNamed Bd.named
  have hnm := (name_of_methodNamed Bd.named Bd.method).1
  have hlk : meth.locks = false := by first | exact BodyLoose.notSynchronized (by assumption) | exact Body.notSynchronized (by assumption)
  have X0 : Stand p l e ({ frames := 0, cells := 0, slots := 0, locals := 0 } : Room) s m #[(.ref a0)] below meth c s₁ [] 0 0 := Stand.of_body Bd
  have e0 : s₁.heap = h0 := by rw [← hh, Bd.state]; rfl
  have N0 := Fr.nil n0
  have K0 : Keep h0 h0 [] := Keep.refl _ _
  refine own_start (CS := (0, 0)) (Q := (Q1_2 Z a0 k w0 w1 h0 n0)) (ef_1_2 m a0) ?_
  show own_Go p e below s _ _ (s₁.setTop (mkF m 0 #[rv a0, .unset] []))
  refine own_via (fun k => XS.aloadN X0.here hx rfl (hb hby d1_0) rfl rfl  k) ?_
  show own_Go p e below s _ _ (s₁.setTop (mkF m 1 #[rv a0, .unset] [(.ref a0)]))
  obtain ⟨cl1, Ar1, -, S1, NN1, -, -⟩ := id P0
  refine own_via (fun k => X0.arraylength hx (by rw [e0]; exact Ar1.1) (State.isArrayOf_alike hZ.alike Ar1.2.1) (g := (mkF m 1 #[rv a0, .unset] [(.ref a0)])) rfl rfl (hb hby d1_1) _ k) ?_
  rw [len_of S1 NN1]
  show own_Go p e below s _ _ (s₁.setTop (mkF m 2 #[rv a0, .unset] [(.int 2)]))
  refine own_via (fun k => XS.iconst X0.here hx rfl (hb hby d1_2) k) ?_
  show own_Go p e below s _ _ (s₁.setTop (mkF m 3 #[rv a0, .unset] [(.int 3), (.int 2)]))
  refine own_via (fun k => XS.icmpYes X0.here hx rfl (pc0 := 3) (pc' := 49) rfl (hb hby d1_3) rfl (by decide) (by decide) (by decide) k) ?_
  show own_Go p e below s _ _ (s₁.setTop (mkF m 49 #[rv a0, .unset] []))
  refine own_via (fun k => XS.iconst X0.here hx rfl (hb hby d1_49) (XS.istoreN X0.here hx rfl (hb hby d1_50) rfl (l' := #[rv a0, iv 0]) rfl (XS.iloadN X0.here hx rfl (hb hby d1_51) rfl  k))) ?_
  show own_Go p e below s _ _ (s₁.setTop (mkF m 52 #[rv a0, iv 0] [(.int 0)]))
  refine own_via (fun k => XS.ifYes X0.here hx rfl (pc0 := 52) (pc' := 59) rfl (hb hby d1_52) rfl (by decide) (by decide) (by decide) k) ?_
  show own_Go p e below s _ _ (s₁.setTop (mkF m 59 #[rv a0, iv 0] []))
  refine own_via (fun k => XS.iconst X0.here hx rfl (hb hby d1_59) k) ?_
  show own_Go p e below s _ _ (s₁.setTop (mkF m 60 #[rv a0, iv 0] [(.int 0)]))
  exact own_retI X0 hx hlk Bd.returns (hb hby d1_60) (Q := (Q1_2 Z a0 k w0 w1 h0 n0)) ⟨(congrArg (fun z => some (Value.int z)) (show (0 : Int32) = own_f1_2 from rfl)), N0, e0⟩ (by decide) (by decide)
theorem d1_6 : decode prog_33_method_2_code 6 = .ok (.aload_n 0, 1) := by decide +kernel
theorem d1_7 : decode prog_33_method_2_code 7 = .ok (.iconst 0, 1) := by decide +kernel
theorem d1_8 : decode prog_33_method_2_code 8 = .ok (.baload, 1) := by decide +kernel
theorem d1_9 : decode prog_33_method_2_code 9 = .ok (.sipush 255, 3) := by decide +kernel
theorem d1_12 : decode prog_33_method_2_code 12 = .ok (.iand, 1) := by decide +kernel
theorem d1_13 : decode prog_33_method_2_code 13 = .ok (.sipush 239, 3) := by decide +kernel
theorem d1_16 : decode prog_33_method_2_code 16 = .ok (.if_icmp .ne 33, 3) := by decide +kernel
theorem d1_19 : decode prog_33_method_2_code 19 = .ok (.aload_n 0, 1) := by decide +kernel
theorem d1_20 : decode prog_33_method_2_code 20 = .ok (.iconst 1, 1) := by decide +kernel
theorem d1_21 : decode prog_33_method_2_code 21 = .ok (.baload, 1) := by decide +kernel
theorem d1_22 : decode prog_33_method_2_code 22 = .ok (.sipush 255, 3) := by decide +kernel
theorem d1_25 : decode prog_33_method_2_code 25 = .ok (.iand, 1) := by decide +kernel
theorem d1_26 : decode prog_33_method_2_code 26 = .ok (.sipush 187, 3) := by decide +kernel
theorem d1_29 : decode prog_33_method_2_code 29 = .ok (.if_icmp .ne 20, 3) := by decide +kernel
theorem d1_32 : decode prog_33_method_2_code 32 = .ok (.aload_n 0, 1) := by decide +kernel
theorem d1_33 : decode prog_33_method_2_code 33 = .ok (.iconst 2, 1) := by decide +kernel
theorem d1_34 : decode prog_33_method_2_code 34 = .ok (.baload, 1) := by decide +kernel
theorem d1_35 : decode prog_33_method_2_code 35 = .ok (.sipush 255, 3) := by decide +kernel
theorem d1_38 : decode prog_33_method_2_code 38 = .ok (.iand, 1) := by decide +kernel
theorem d1_39 : decode prog_33_method_2_code 39 = .ok (.sipush 191, 3) := by decide +kernel
theorem d1_42 : decode prog_33_method_2_code 42 = .ok (.if_icmp .ne 7, 3) := by decide +kernel
theorem d1_45 : decode prog_33_method_2_code 45 = .ok (.iconst 1, 1) := by decide +kernel
theorem d1_46 : decode prog_33_method_2_code 46 = .ok (.goto 4, 3) := by decide +kernel
theorem d1_55 : decode prog_33_method_2_code 55 = .ok (.iconst 3, 1) := by decide +kernel
theorem d1_56 : decode prog_33_method_2_code 56 = .ok (.goto 4, 3) := by decide +kernel
theorem ef_1_3 (m : MethodId) (x0 : Addr) : entryFrame m #[(.ref x0)] 2 = mkF m 0 #[rv x0, .unset] [] := by first | (simp [entryFrame, mkF, argsToLocals, Value.category]; done) | rfl
def own_f1_3 (w0 : Int32) (w1 : Int32) (w2 : Int32) : Int32 := (let z5 : Int32 := (if (w0 &&& (255 : Int32)) = (239 : Int32) then (if (w1 &&& (255 : Int32)) = (187 : Int32) then (if (w2 &&& (255 : Int32)) = (191 : Int32) then (1 : Int32) else (0 : Int32)) else (0 : Int32)) else (0 : Int32)); (if z5 = (0 : Int32) then (0 : Int32) else (3 : Int32)))
def Q1_3 (Z : State) (a0 : Addr) (k : ClassId) (w0 : Int32) (w1 : Int32) (w2 : Int32) (h0 : Heap) (n0 : Nat) (v : Option Value) (h : Heap) (L : List Loc) : Prop := v = some (.int (own_f1_3 w0 w1 w2)) ∧ Fr n0 L ∧ h = h0
set_option maxRecDepth 65536 in
set_option maxHeartbeats 40000000 in
theorem rm1_3 (l : Launch) (Z : State) (aw : Array Value) (hw : ∀ d ∈ tables_1, d.before aw Z = true) (ws : List Jvm.Cond) (a0 : Addr) (k : ClassId) (w0 : Int32) (w1 : Int32) (w2 : Int32) (h0 : Heap) (n0 : Nat) (Z0 : n0 ≤ h0.size) (P0 : Arv Z h0 a0 k .byte (3 : Int32) [(.int w0), (.int w1), (.int w2)] (.int 0)) :
    MetFree l (⟨"com/example/dani/dani/formats/DecodingReader", "utf8ByteOrderMark", "([B)I"⟩ : MethodName) (head1 (Jvm.Cond.code (⟨"com/example/dani/dani/formats/DecodingReader", "utf8ByteOrderMark", "([B)I"⟩ : MethodName) prog_33_method_2_code 2 (some .int) :: ws) ({ frames := 0, cells := 0, slots := 0, locals := 0 } : Room)) (fun a U => a = #[(.ref a0)] ∧ Z.Warmed39 U.vm ∧ U.heap = h0) (fun _ _ _ _ _ => True) (fun _ U o U' => ∃ v L, o = .returned v ∧ Q1_3 Z a0 k w0 w1 w2 h0 n0 v U'.heap L ∧ FrameEnd U o U' L ({ frames := 0, cells := 0, slots := 0, locals := 0 } : Room).cells ({ frames := 0, cells := 0, slots := 0, locals := 0 } : Room).slots) := by
  refine MetFree.of_bodySF (plainFor_of_name pn_1) hisR ?_
  intro p e s m args below meth c s₁ Bd hml0 hP hK
  obtain ⟨rfl, hZ, hh⟩ := hP
  have hx := Bd.exec
  have hby := Bd.bytes
  have hml : c.maxLocals = 2 := hml0
  have hown : s.vm.findClass "com/example/dani/dani/formats/DecodingReader" = some m.cls := findClass_of_methodNamed Bd.named
  have hnm := (name_of_methodNamed Bd.named Bd.method).1
  have hlk : meth.locks = false := by first | exact BodyLoose.notSynchronized (by assumption) | exact Body.notSynchronized (by assumption)
  have X0 : Stand p l e ({ frames := 0, cells := 0, slots := 0, locals := 0 } : Room) s m #[(.ref a0)] below meth c s₁ [] 0 0 := Stand.of_body Bd
  have e0 : s₁.heap = h0 := by rw [← hh, Bd.state]; rfl
  have N0 := Fr.nil n0
  have K0 : Keep h0 h0 [] := Keep.refl _ _
  refine own_start (CS := (0, 0)) (Q := (Q1_3 Z a0 k w0 w1 w2 h0 n0)) (ef_1_3 m a0) ?_
  show own_Go p e below s _ _ (s₁.setTop (mkF m 0 #[rv a0, .unset] []))
  refine own_via (fun k => XS.aloadN X0.here hx rfl (hb hby d1_0) rfl rfl  k) ?_
  show own_Go p e below s _ _ (s₁.setTop (mkF m 1 #[rv a0, .unset] [(.ref a0)]))
  obtain ⟨cl1, Ar1, -, S1, NN1, -, -⟩ := id P0
  refine own_via (fun k => X0.arraylength hx (by rw [e0]; exact Ar1.1) (State.isArrayOf_alike hZ.alike Ar1.2.1) (g := (mkF m 1 #[rv a0, .unset] [(.ref a0)])) rfl rfl (hb hby d1_1) _ k) ?_
  rw [len_of S1 NN1]
  show own_Go p e below s _ _ (s₁.setTop (mkF m 2 #[rv a0, .unset] [(.int 3)]))
  refine own_via (fun k => XS.iconst X0.here hx rfl (hb hby d1_2) k) ?_
  show own_Go p e below s _ _ (s₁.setTop (mkF m 3 #[rv a0, .unset] [(.int 3), (.int 3)]))
  refine own_via (fun k => XS.icmpNo X0.here hx rfl (hb hby d1_3) rfl (by decide) k) ?_
  show own_Go p e below s _ _ (s₁.setTop (mkF m 6 #[rv a0, .unset] []))
  refine own_via (fun k => XS.aloadN X0.here hx rfl (hb hby d1_6) rfl rfl  (XS.iconst X0.here hx rfl (hb hby d1_7) k)) ?_
  show own_Go p e below s _ _ (s₁.setTop (mkF m 8 #[rv a0, .unset] [(.int 0), (.ref a0)]))
  obtain ⟨cl2, Ar2, q2, S2, NN2, H2, G2⟩ := id P0
  have hin2 : ¬ ((0 : Int32) < 0 ∨ cl2.slots.size ≤ ((0 : Int32)).toNatClampNeg) := inb_of S2 ⟨by decide, by decide⟩
  have hat2 : cl2.slots[((0 : Int32)).toNatClampNeg]? = some (.int w0) := H2.at hin2 rfl
  refine own_via (fun k => X0.baloadBytes hx (j := (0 : Int32)) (v := (.int w0)) (by rw [e0]; exact Ar2.1) (State.isArrayOf_alike hZ.alike Ar2.2.1) Ar2.2.2 hin2 hat2 (g := (mkF m 8 #[rv a0, .unset] [(.int 0), (.ref a0)])) rfl rfl (hb hby d1_8) _ k) ?_
  show own_Go p e below s _ _ (s₁.setTop (mkF m 9 #[rv a0, .unset] [(.int w0)]))
  refine own_via (fun k => XS.sipush X0.here hx rfl (hb hby d1_9) (XS.iand X0.here hx rfl (hb hby d1_12) rfl (XS.sipush X0.here hx rfl (hb hby d1_13) k))) ?_
  show own_Go p e below s _ _ (s₁.setTop (mkF m 16 #[rv a0, .unset] [(.int 239), (.int (w0 &&& (255 : Int32)))]))
  have J6 : ∀ (T6 : State) (lo6 : List Loc), Stand p l e ({ frames := 0, cells := 0, slots := 0, locals := 0 } : Room) s m #[(.ref a0)] below meth c T6 lo6 0 0 → Fr n0 lo6 → T6.heap = h0 → ∀ (z5 : Int32), z5 = (if (w0 &&& (255 : Int32)) = (239 : Int32) then (if (w1 &&& (255 : Int32)) = (187 : Int32) then (if (w2 &&& (255 : Int32)) = (191 : Int32) then (1 : Int32) else (0 : Int32)) else (0 : Int32)) else (0 : Int32)) → own_Go p e below s (Q1_3 Z a0 k w0 w1 w2 h0 n0) (0, 0) (T6.setTop (mkF m 50 #[rv a0, .unset] [(.int z5)])) := by
    intro T6 lo6 X6 N6 e6 z5 hz5
    refine own_via (fun k => XS.istoreN X6.here hx rfl (hb hby d1_50) rfl (l' := #[rv a0, iv z5]) rfl (XS.iloadN X6.here hx rfl (hb hby d1_51) rfl  k)) ?_
    show own_Go p e below s _ _ (T6.setTop (mkF m 52 #[rv a0, iv z5] [(.int z5)]))
    by_cases hc7 : z5 = (0 : Int32)
    · refine own_via (fun k => XS.ifYes X6.here hx rfl (pc0 := 52) (pc' := 59) rfl (hb hby d1_52) rfl ((if0 _ _).trans (teq hc7).1) (by decide) (by decide) k) ?_
      show own_Go p e below s _ _ (T6.setTop (mkF m 59 #[rv a0, iv z5] []))
      refine own_via (fun k => XS.iconst X6.here hx rfl (hb hby d1_59) k) ?_
      show own_Go p e below s _ _ (T6.setTop (mkF m 60 #[rv a0, iv z5] [(.int 0)]))
      exact own_retI X6 hx hlk Bd.returns (hb hby d1_60) (Q := (Q1_3 Z a0 k w0 w1 w2 h0 n0)) ⟨(congrArg (fun z => some (Value.int z)) (show (0 : Int32) = (own_f1_3 w0 w1 w2) from (by subst hz5; unfold own_f1_3; exact ((if_pos hc7).trans rfl).symm))), N6, e6⟩ (by decide) (by decide)
    · refine own_via (fun k => XS.ifNo X6.here hx rfl (hb hby d1_52) rfl ((if0 _ _).trans (feq hc7).1) k) ?_
      show own_Go p e below s _ _ (T6.setTop (mkF m 55 #[rv a0, iv z5] []))
      refine own_via (fun k => XS.iconst X6.here hx rfl (hb hby d1_55) (XS.goto X6.here hx rfl (pc0 := 56) (pc' := 60) rfl (hb hby d1_56) (by decide) (by decide) k)) ?_
      show own_Go p e below s _ _ (T6.setTop (mkF m 60 #[rv a0, iv z5] [(.int 3)]))
      exact own_retI X6 hx hlk Bd.returns (hb hby d1_60) (Q := (Q1_3 Z a0 k w0 w1 w2 h0 n0)) ⟨(congrArg (fun z => some (Value.int z)) (show (3 : Int32) = (own_f1_3 w0 w1 w2) from (by subst hz5; unfold own_f1_3; exact ((if_neg hc7).trans rfl).symm))), N6, e6⟩ (by decide) (by decide)
  by_cases hc8 : (w0 &&& (255 : Int32)) = (239 : Int32)
  · refine own_via (fun k => XS.icmpNo X0.here hx rfl (hb hby d1_16) rfl (teq hc8).2 k) ?_
    show own_Go p e below s _ _ (s₁.setTop (mkF m 19 #[rv a0, .unset] []))
    refine own_via (fun k => XS.aloadN X0.here hx rfl (hb hby d1_19) rfl rfl  (XS.iconst X0.here hx rfl (hb hby d1_20) k)) ?_
    show own_Go p e below s _ _ (s₁.setTop (mkF m 21 #[rv a0, .unset] [(.int 1), (.ref a0)]))
    obtain ⟨cl9, Ar9, q9, S9, NN9, H9, G9⟩ := id P0
    have hin9 : ¬ ((1 : Int32) < 0 ∨ cl9.slots.size ≤ ((1 : Int32)).toNatClampNeg) := inb_of S9 ⟨by decide, by decide⟩
    have hat9 : cl9.slots[((1 : Int32)).toNatClampNeg]? = some (.int w1) := H9.at hin9 rfl
    refine own_via (fun k => X0.baloadBytes hx (j := (1 : Int32)) (v := (.int w1)) (by rw [e0]; exact Ar9.1) (State.isArrayOf_alike hZ.alike Ar9.2.1) Ar9.2.2 hin9 hat9 (g := (mkF m 21 #[rv a0, .unset] [(.int 1), (.ref a0)])) rfl rfl (hb hby d1_21) _ k) ?_
    show own_Go p e below s _ _ (s₁.setTop (mkF m 22 #[rv a0, .unset] [(.int w1)]))
    refine own_via (fun k => XS.sipush X0.here hx rfl (hb hby d1_22) (XS.iand X0.here hx rfl (hb hby d1_25) rfl (XS.sipush X0.here hx rfl (hb hby d1_26) k))) ?_
    show own_Go p e below s _ _ (s₁.setTop (mkF m 29 #[rv a0, .unset] [(.int 187), (.int (w1 &&& (255 : Int32)))]))
    by_cases hc10 : (w1 &&& (255 : Int32)) = (187 : Int32)
    · refine own_via (fun k => XS.icmpNo X0.here hx rfl (hb hby d1_29) rfl (teq hc10).2 k) ?_
      show own_Go p e below s _ _ (s₁.setTop (mkF m 32 #[rv a0, .unset] []))
      refine own_via (fun k => XS.aloadN X0.here hx rfl (hb hby d1_32) rfl rfl  (XS.iconst X0.here hx rfl (hb hby d1_33) k)) ?_
      show own_Go p e below s _ _ (s₁.setTop (mkF m 34 #[rv a0, .unset] [(.int 2), (.ref a0)]))
      obtain ⟨cl11, Ar11, q11, S11, NN11, H11, G11⟩ := id P0
      have hin11 : ¬ ((2 : Int32) < 0 ∨ cl11.slots.size ≤ ((2 : Int32)).toNatClampNeg) := inb_of S11 ⟨by decide, by decide⟩
      have hat11 : cl11.slots[((2 : Int32)).toNatClampNeg]? = some (.int w2) := H11.at hin11 rfl
      refine own_via (fun k => X0.baloadBytes hx (j := (2 : Int32)) (v := (.int w2)) (by rw [e0]; exact Ar11.1) (State.isArrayOf_alike hZ.alike Ar11.2.1) Ar11.2.2 hin11 hat11 (g := (mkF m 34 #[rv a0, .unset] [(.int 2), (.ref a0)])) rfl rfl (hb hby d1_34) _ k) ?_
      show own_Go p e below s _ _ (s₁.setTop (mkF m 35 #[rv a0, .unset] [(.int w2)]))
      refine own_via (fun k => XS.sipush X0.here hx rfl (hb hby d1_35) (XS.iand X0.here hx rfl (hb hby d1_38) rfl (XS.sipush X0.here hx rfl (hb hby d1_39) k))) ?_
      show own_Go p e below s _ _ (s₁.setTop (mkF m 42 #[rv a0, .unset] [(.int 191), (.int (w2 &&& (255 : Int32)))]))
      by_cases hc12 : (w2 &&& (255 : Int32)) = (191 : Int32)
      · refine own_via (fun k => XS.icmpNo X0.here hx rfl (hb hby d1_42) rfl (teq hc12).2 k) ?_
        show own_Go p e below s _ _ (s₁.setTop (mkF m 45 #[rv a0, .unset] []))
        refine own_via (fun k => XS.iconst X0.here hx rfl (hb hby d1_45) (XS.goto X0.here hx rfl (pc0 := 46) (pc' := 50) rfl (hb hby d1_46) (by decide) (by decide) k)) ?_
        show own_Go p e below s _ _ (s₁.setTop (mkF m 50 #[rv a0, .unset] [(.int 1)]))
        exact J6 _ _ X0 N0 e0 (1 : Int32) (((if_pos hc8).trans ((if_pos hc10).trans ((if_pos hc12).trans rfl)))).symm
      · refine own_via (fun k => XS.icmpYes X0.here hx rfl (pc0 := 42) (pc' := 49) rfl (hb hby d1_42) rfl (feq hc12).2 (by decide) (by decide) k) ?_
        show own_Go p e below s _ _ (s₁.setTop (mkF m 49 #[rv a0, .unset] []))
        refine own_via (fun k => XS.iconst X0.here hx rfl (hb hby d1_49) k) ?_
        show own_Go p e below s _ _ (s₁.setTop (mkF m 50 #[rv a0, .unset] [(.int 0)]))
        exact J6 _ _ X0 N0 e0 (0 : Int32) (((if_pos hc8).trans ((if_pos hc10).trans ((if_neg hc12).trans rfl)))).symm
    · refine own_via (fun k => XS.icmpYes X0.here hx rfl (pc0 := 29) (pc' := 49) rfl (hb hby d1_29) rfl (feq hc10).2 (by decide) (by decide) k) ?_
      show own_Go p e below s _ _ (s₁.setTop (mkF m 49 #[rv a0, .unset] []))
      refine own_via (fun k => XS.iconst X0.here hx rfl (hb hby d1_49) k) ?_
      show own_Go p e below s _ _ (s₁.setTop (mkF m 50 #[rv a0, .unset] [(.int 0)]))
      exact J6 _ _ X0 N0 e0 (0 : Int32) (((if_pos hc8).trans ((if_neg hc10).trans rfl))).symm
  · refine own_via (fun k => XS.icmpYes X0.here hx rfl (pc0 := 16) (pc' := 49) rfl (hb hby d1_16) rfl (feq hc8).2 (by decide) (by decide) k) ?_
    show own_Go p e below s _ _ (s₁.setTop (mkF m 49 #[rv a0, .unset] []))
    refine own_via (fun k => XS.iconst X0.here hx rfl (hb hby d1_49) k) ?_
    show own_Go p e below s _ _ (s₁.setTop (mkF m 50 #[rv a0, .unset] [(.int 0)]))
    exact J6 _ _ X0 N0 e0 (0 : Int32) (((if_neg hc8).trans rfl)).symm
theorem ef_1_4 (m : MethodId) (x0 : Addr) : entryFrame m #[(.ref x0)] 2 = mkF m 0 #[rv x0, .unset] [] := by first | (simp [entryFrame, mkF, argsToLocals, Value.category]; done) | rfl
def own_f1_4 (w0 : Int32) (w1 : Int32) (w2 : Int32) : Int32 := (let z5 : Int32 := (if (w0 &&& (255 : Int32)) = (239 : Int32) then (if (w1 &&& (255 : Int32)) = (187 : Int32) then (if (w2 &&& (255 : Int32)) = (191 : Int32) then (1 : Int32) else (0 : Int32)) else (0 : Int32)) else (0 : Int32)); (if z5 = (0 : Int32) then (0 : Int32) else (3 : Int32)))
def Q1_4 (Z : State) (a0 : Addr) (k : ClassId) (w0 : Int32) (w1 : Int32) (w2 : Int32) (w3 : Int32) (h0 : Heap) (n0 : Nat) (v : Option Value) (h : Heap) (L : List Loc) : Prop := v = some (.int (own_f1_4 w0 w1 w2)) ∧ Fr n0 L ∧ h = h0
set_option maxRecDepth 65536 in
set_option maxHeartbeats 40000000 in
theorem rm1_4 (l : Launch) (Z : State) (aw : Array Value) (hw : ∀ d ∈ tables_1, d.before aw Z = true) (ws : List Jvm.Cond) (a0 : Addr) (k : ClassId) (w0 : Int32) (w1 : Int32) (w2 : Int32) (w3 : Int32) (h0 : Heap) (n0 : Nat) (Z0 : n0 ≤ h0.size) (P0 : Arv Z h0 a0 k .byte (4 : Int32) [(.int w0), (.int w1), (.int w2), (.int w3)] (.int 0)) :
    MetFree l (⟨"com/example/dani/dani/formats/DecodingReader", "utf8ByteOrderMark", "([B)I"⟩ : MethodName) (head1 (Jvm.Cond.code (⟨"com/example/dani/dani/formats/DecodingReader", "utf8ByteOrderMark", "([B)I"⟩ : MethodName) prog_33_method_2_code 2 (some .int) :: ws) ({ frames := 0, cells := 0, slots := 0, locals := 0 } : Room)) (fun a U => a = #[(.ref a0)] ∧ Z.Warmed39 U.vm ∧ U.heap = h0) (fun _ _ _ _ _ => True) (fun _ U o U' => ∃ v L, o = .returned v ∧ Q1_4 Z a0 k w0 w1 w2 w3 h0 n0 v U'.heap L ∧ FrameEnd U o U' L ({ frames := 0, cells := 0, slots := 0, locals := 0 } : Room).cells ({ frames := 0, cells := 0, slots := 0, locals := 0 } : Room).slots) := by
  refine MetFree.of_bodySF (plainFor_of_name pn_1) hisR ?_
  intro p e s m args below meth c s₁ Bd hml0 hP hK
  obtain ⟨rfl, hZ, hh⟩ := hP
  have hx := Bd.exec
  have hby := Bd.bytes
  have hml : c.maxLocals = 2 := hml0
  have hown : s.vm.findClass "com/example/dani/dani/formats/DecodingReader" = some m.cls := findClass_of_methodNamed Bd.named
  have hnm := (name_of_methodNamed Bd.named Bd.method).1
  have hlk : meth.locks = false := by first | exact BodyLoose.notSynchronized (by assumption) | exact Body.notSynchronized (by assumption)
  have X0 : Stand p l e ({ frames := 0, cells := 0, slots := 0, locals := 0 } : Room) s m #[(.ref a0)] below meth c s₁ [] 0 0 := Stand.of_body Bd
  have e0 : s₁.heap = h0 := by rw [← hh, Bd.state]; rfl
  have N0 := Fr.nil n0
  have K0 : Keep h0 h0 [] := Keep.refl _ _
  refine own_start (CS := (0, 0)) (Q := (Q1_4 Z a0 k w0 w1 w2 w3 h0 n0)) (ef_1_4 m a0) ?_
  show own_Go p e below s _ _ (s₁.setTop (mkF m 0 #[rv a0, .unset] []))
  refine own_via (fun k => XS.aloadN X0.here hx rfl (hb hby d1_0) rfl rfl  k) ?_
  show own_Go p e below s _ _ (s₁.setTop (mkF m 1 #[rv a0, .unset] [(.ref a0)]))
  obtain ⟨cl1, Ar1, -, S1, NN1, -, -⟩ := id P0
  refine own_via (fun k => X0.arraylength hx (by rw [e0]; exact Ar1.1) (State.isArrayOf_alike hZ.alike Ar1.2.1) (g := (mkF m 1 #[rv a0, .unset] [(.ref a0)])) rfl rfl (hb hby d1_1) _ k) ?_
  rw [len_of S1 NN1]
  show own_Go p e below s _ _ (s₁.setTop (mkF m 2 #[rv a0, .unset] [(.int 4)]))
  refine own_via (fun k => XS.iconst X0.here hx rfl (hb hby d1_2) k) ?_
  show own_Go p e below s _ _ (s₁.setTop (mkF m 3 #[rv a0, .unset] [(.int 3), (.int 4)]))
  refine own_via (fun k => XS.icmpNo X0.here hx rfl (hb hby d1_3) rfl (by decide) k) ?_
  show own_Go p e below s _ _ (s₁.setTop (mkF m 6 #[rv a0, .unset] []))
  refine own_via (fun k => XS.aloadN X0.here hx rfl (hb hby d1_6) rfl rfl  (XS.iconst X0.here hx rfl (hb hby d1_7) k)) ?_
  show own_Go p e below s _ _ (s₁.setTop (mkF m 8 #[rv a0, .unset] [(.int 0), (.ref a0)]))
  obtain ⟨cl2, Ar2, q2, S2, NN2, H2, G2⟩ := id P0
  have hin2 : ¬ ((0 : Int32) < 0 ∨ cl2.slots.size ≤ ((0 : Int32)).toNatClampNeg) := inb_of S2 ⟨by decide, by decide⟩
  have hat2 : cl2.slots[((0 : Int32)).toNatClampNeg]? = some (.int w0) := H2.at hin2 rfl
  refine own_via (fun k => X0.baloadBytes hx (j := (0 : Int32)) (v := (.int w0)) (by rw [e0]; exact Ar2.1) (State.isArrayOf_alike hZ.alike Ar2.2.1) Ar2.2.2 hin2 hat2 (g := (mkF m 8 #[rv a0, .unset] [(.int 0), (.ref a0)])) rfl rfl (hb hby d1_8) _ k) ?_
  show own_Go p e below s _ _ (s₁.setTop (mkF m 9 #[rv a0, .unset] [(.int w0)]))
  refine own_via (fun k => XS.sipush X0.here hx rfl (hb hby d1_9) (XS.iand X0.here hx rfl (hb hby d1_12) rfl (XS.sipush X0.here hx rfl (hb hby d1_13) k))) ?_
  show own_Go p e below s _ _ (s₁.setTop (mkF m 16 #[rv a0, .unset] [(.int 239), (.int (w0 &&& (255 : Int32)))]))
  have J6 : ∀ (T6 : State) (lo6 : List Loc), Stand p l e ({ frames := 0, cells := 0, slots := 0, locals := 0 } : Room) s m #[(.ref a0)] below meth c T6 lo6 0 0 → Fr n0 lo6 → T6.heap = h0 → ∀ (z5 : Int32), z5 = (if (w0 &&& (255 : Int32)) = (239 : Int32) then (if (w1 &&& (255 : Int32)) = (187 : Int32) then (if (w2 &&& (255 : Int32)) = (191 : Int32) then (1 : Int32) else (0 : Int32)) else (0 : Int32)) else (0 : Int32)) → own_Go p e below s (Q1_4 Z a0 k w0 w1 w2 w3 h0 n0) (0, 0) (T6.setTop (mkF m 50 #[rv a0, .unset] [(.int z5)])) := by
    intro T6 lo6 X6 N6 e6 z5 hz5
    refine own_via (fun k => XS.istoreN X6.here hx rfl (hb hby d1_50) rfl (l' := #[rv a0, iv z5]) rfl (XS.iloadN X6.here hx rfl (hb hby d1_51) rfl  k)) ?_
    show own_Go p e below s _ _ (T6.setTop (mkF m 52 #[rv a0, iv z5] [(.int z5)]))
    by_cases hc7 : z5 = (0 : Int32)
    · refine own_via (fun k => XS.ifYes X6.here hx rfl (pc0 := 52) (pc' := 59) rfl (hb hby d1_52) rfl ((if0 _ _).trans (teq hc7).1) (by decide) (by decide) k) ?_
      show own_Go p e below s _ _ (T6.setTop (mkF m 59 #[rv a0, iv z5] []))
      refine own_via (fun k => XS.iconst X6.here hx rfl (hb hby d1_59) k) ?_
      show own_Go p e below s _ _ (T6.setTop (mkF m 60 #[rv a0, iv z5] [(.int 0)]))
      exact own_retI X6 hx hlk Bd.returns (hb hby d1_60) (Q := (Q1_4 Z a0 k w0 w1 w2 w3 h0 n0)) ⟨(congrArg (fun z => some (Value.int z)) (show (0 : Int32) = (own_f1_4 w0 w1 w2) from (by subst hz5; unfold own_f1_4; exact ((if_pos hc7).trans rfl).symm))), N6, e6⟩ (by decide) (by decide)
    · refine own_via (fun k => XS.ifNo X6.here hx rfl (hb hby d1_52) rfl ((if0 _ _).trans (feq hc7).1) k) ?_
      show own_Go p e below s _ _ (T6.setTop (mkF m 55 #[rv a0, iv z5] []))
      refine own_via (fun k => XS.iconst X6.here hx rfl (hb hby d1_55) (XS.goto X6.here hx rfl (pc0 := 56) (pc' := 60) rfl (hb hby d1_56) (by decide) (by decide) k)) ?_
      show own_Go p e below s _ _ (T6.setTop (mkF m 60 #[rv a0, iv z5] [(.int 3)]))
      exact own_retI X6 hx hlk Bd.returns (hb hby d1_60) (Q := (Q1_4 Z a0 k w0 w1 w2 w3 h0 n0)) ⟨(congrArg (fun z => some (Value.int z)) (show (3 : Int32) = (own_f1_4 w0 w1 w2) from (by subst hz5; unfold own_f1_4; exact ((if_neg hc7).trans rfl).symm))), N6, e6⟩ (by decide) (by decide)
  by_cases hc8 : (w0 &&& (255 : Int32)) = (239 : Int32)
  · refine own_via (fun k => XS.icmpNo X0.here hx rfl (hb hby d1_16) rfl (teq hc8).2 k) ?_
    show own_Go p e below s _ _ (s₁.setTop (mkF m 19 #[rv a0, .unset] []))
    refine own_via (fun k => XS.aloadN X0.here hx rfl (hb hby d1_19) rfl rfl  (XS.iconst X0.here hx rfl (hb hby d1_20) k)) ?_
    show own_Go p e below s _ _ (s₁.setTop (mkF m 21 #[rv a0, .unset] [(.int 1), (.ref a0)]))
    obtain ⟨cl9, Ar9, q9, S9, NN9, H9, G9⟩ := id P0
    have hin9 : ¬ ((1 : Int32) < 0 ∨ cl9.slots.size ≤ ((1 : Int32)).toNatClampNeg) := inb_of S9 ⟨by decide, by decide⟩
    have hat9 : cl9.slots[((1 : Int32)).toNatClampNeg]? = some (.int w1) := H9.at hin9 rfl
    refine own_via (fun k => X0.baloadBytes hx (j := (1 : Int32)) (v := (.int w1)) (by rw [e0]; exact Ar9.1) (State.isArrayOf_alike hZ.alike Ar9.2.1) Ar9.2.2 hin9 hat9 (g := (mkF m 21 #[rv a0, .unset] [(.int 1), (.ref a0)])) rfl rfl (hb hby d1_21) _ k) ?_
    show own_Go p e below s _ _ (s₁.setTop (mkF m 22 #[rv a0, .unset] [(.int w1)]))
    refine own_via (fun k => XS.sipush X0.here hx rfl (hb hby d1_22) (XS.iand X0.here hx rfl (hb hby d1_25) rfl (XS.sipush X0.here hx rfl (hb hby d1_26) k))) ?_
    show own_Go p e below s _ _ (s₁.setTop (mkF m 29 #[rv a0, .unset] [(.int 187), (.int (w1 &&& (255 : Int32)))]))
    by_cases hc10 : (w1 &&& (255 : Int32)) = (187 : Int32)
    · refine own_via (fun k => XS.icmpNo X0.here hx rfl (hb hby d1_29) rfl (teq hc10).2 k) ?_
      show own_Go p e below s _ _ (s₁.setTop (mkF m 32 #[rv a0, .unset] []))
      refine own_via (fun k => XS.aloadN X0.here hx rfl (hb hby d1_32) rfl rfl  (XS.iconst X0.here hx rfl (hb hby d1_33) k)) ?_
      show own_Go p e below s _ _ (s₁.setTop (mkF m 34 #[rv a0, .unset] [(.int 2), (.ref a0)]))
      obtain ⟨cl11, Ar11, q11, S11, NN11, H11, G11⟩ := id P0
      have hin11 : ¬ ((2 : Int32) < 0 ∨ cl11.slots.size ≤ ((2 : Int32)).toNatClampNeg) := inb_of S11 ⟨by decide, by decide⟩
      have hat11 : cl11.slots[((2 : Int32)).toNatClampNeg]? = some (.int w2) := H11.at hin11 rfl
      refine own_via (fun k => X0.baloadBytes hx (j := (2 : Int32)) (v := (.int w2)) (by rw [e0]; exact Ar11.1) (State.isArrayOf_alike hZ.alike Ar11.2.1) Ar11.2.2 hin11 hat11 (g := (mkF m 34 #[rv a0, .unset] [(.int 2), (.ref a0)])) rfl rfl (hb hby d1_34) _ k) ?_
      show own_Go p e below s _ _ (s₁.setTop (mkF m 35 #[rv a0, .unset] [(.int w2)]))
      refine own_via (fun k => XS.sipush X0.here hx rfl (hb hby d1_35) (XS.iand X0.here hx rfl (hb hby d1_38) rfl (XS.sipush X0.here hx rfl (hb hby d1_39) k))) ?_
      show own_Go p e below s _ _ (s₁.setTop (mkF m 42 #[rv a0, .unset] [(.int 191), (.int (w2 &&& (255 : Int32)))]))
      by_cases hc12 : (w2 &&& (255 : Int32)) = (191 : Int32)
      · refine own_via (fun k => XS.icmpNo X0.here hx rfl (hb hby d1_42) rfl (teq hc12).2 k) ?_
        show own_Go p e below s _ _ (s₁.setTop (mkF m 45 #[rv a0, .unset] []))
        refine own_via (fun k => XS.iconst X0.here hx rfl (hb hby d1_45) (XS.goto X0.here hx rfl (pc0 := 46) (pc' := 50) rfl (hb hby d1_46) (by decide) (by decide) k)) ?_
        show own_Go p e below s _ _ (s₁.setTop (mkF m 50 #[rv a0, .unset] [(.int 1)]))
        exact J6 _ _ X0 N0 e0 (1 : Int32) (((if_pos hc8).trans ((if_pos hc10).trans ((if_pos hc12).trans rfl)))).symm
      · refine own_via (fun k => XS.icmpYes X0.here hx rfl (pc0 := 42) (pc' := 49) rfl (hb hby d1_42) rfl (feq hc12).2 (by decide) (by decide) k) ?_
        show own_Go p e below s _ _ (s₁.setTop (mkF m 49 #[rv a0, .unset] []))
        refine own_via (fun k => XS.iconst X0.here hx rfl (hb hby d1_49) k) ?_
        show own_Go p e below s _ _ (s₁.setTop (mkF m 50 #[rv a0, .unset] [(.int 0)]))
        exact J6 _ _ X0 N0 e0 (0 : Int32) (((if_pos hc8).trans ((if_pos hc10).trans ((if_neg hc12).trans rfl)))).symm
    · refine own_via (fun k => XS.icmpYes X0.here hx rfl (pc0 := 29) (pc' := 49) rfl (hb hby d1_29) rfl (feq hc10).2 (by decide) (by decide) k) ?_
      show own_Go p e below s _ _ (s₁.setTop (mkF m 49 #[rv a0, .unset] []))
      refine own_via (fun k => XS.iconst X0.here hx rfl (hb hby d1_49) k) ?_
      show own_Go p e below s _ _ (s₁.setTop (mkF m 50 #[rv a0, .unset] [(.int 0)]))
      exact J6 _ _ X0 N0 e0 (0 : Int32) (((if_pos hc8).trans ((if_neg hc10).trans rfl))).symm
  · refine own_via (fun k => XS.icmpYes X0.here hx rfl (pc0 := 16) (pc' := 49) rfl (hb hby d1_16) rfl (feq hc8).2 (by decide) (by decide) k) ?_
    show own_Go p e below s _ _ (s₁.setTop (mkF m 49 #[rv a0, .unset] []))
    refine own_via (fun k => XS.iconst X0.here hx rfl (hb hby d1_49) k) ?_
    show own_Go p e below s _ _ (s₁.setTop (mkF m 50 #[rv a0, .unset] [(.int 0)]))
    exact J6 _ _ X0 N0 e0 (0 : Int32) (((if_neg hc8).trans rfl)).symm
theorem ef_1_5 (m : MethodId) (x0 : Addr) : entryFrame m #[(.ref x0)] 2 = mkF m 0 #[rv x0, .unset] [] := by first | (simp [entryFrame, mkF, argsToLocals, Value.category]; done) | rfl
def own_f1_5 (w0 : Int32) (w1 : Int32) (w2 : Int32) : Int32 := (let z5 : Int32 := (if (w0 &&& (255 : Int32)) = (239 : Int32) then (if (w1 &&& (255 : Int32)) = (187 : Int32) then (if (w2 &&& (255 : Int32)) = (191 : Int32) then (1 : Int32) else (0 : Int32)) else (0 : Int32)) else (0 : Int32)); (if z5 = (0 : Int32) then (0 : Int32) else (3 : Int32)))
def Q1_5 (Z : State) (a0 : Addr) (k : ClassId) (w0 : Int32) (w1 : Int32) (w2 : Int32) (w3 : Int32) (w4 : Int32) (h0 : Heap) (n0 : Nat) (v : Option Value) (h : Heap) (L : List Loc) : Prop := v = some (.int (own_f1_5 w0 w1 w2)) ∧ Fr n0 L ∧ h = h0
set_option maxRecDepth 65536 in
set_option maxHeartbeats 40000000 in
theorem rm1_5 (l : Launch) (Z : State) (aw : Array Value) (hw : ∀ d ∈ tables_1, d.before aw Z = true) (ws : List Jvm.Cond) (a0 : Addr) (k : ClassId) (w0 : Int32) (w1 : Int32) (w2 : Int32) (w3 : Int32) (w4 : Int32) (h0 : Heap) (n0 : Nat) (Z0 : n0 ≤ h0.size) (P0 : Arv Z h0 a0 k .byte (5 : Int32) [(.int w0), (.int w1), (.int w2), (.int w3), (.int w4)] (.int 0)) :
    MetFree l (⟨"com/example/dani/dani/formats/DecodingReader", "utf8ByteOrderMark", "([B)I"⟩ : MethodName) (head1 (Jvm.Cond.code (⟨"com/example/dani/dani/formats/DecodingReader", "utf8ByteOrderMark", "([B)I"⟩ : MethodName) prog_33_method_2_code 2 (some .int) :: ws) ({ frames := 0, cells := 0, slots := 0, locals := 0 } : Room)) (fun a U => a = #[(.ref a0)] ∧ Z.Warmed39 U.vm ∧ U.heap = h0) (fun _ _ _ _ _ => True) (fun _ U o U' => ∃ v L, o = .returned v ∧ Q1_5 Z a0 k w0 w1 w2 w3 w4 h0 n0 v U'.heap L ∧ FrameEnd U o U' L ({ frames := 0, cells := 0, slots := 0, locals := 0 } : Room).cells ({ frames := 0, cells := 0, slots := 0, locals := 0 } : Room).slots) := by
  refine MetFree.of_bodySF (plainFor_of_name pn_1) hisR ?_
  intro p e s m args below meth c s₁ Bd hml0 hP hK
  obtain ⟨rfl, hZ, hh⟩ := hP
  have hx := Bd.exec
  have hby := Bd.bytes
  have hml : c.maxLocals = 2 := hml0
  have hown : s.vm.findClass "com/example/dani/dani/formats/DecodingReader" = some m.cls := findClass_of_methodNamed Bd.named
  have hnm := (name_of_methodNamed Bd.named Bd.method).1
  have hlk : meth.locks = false := by first | exact BodyLoose.notSynchronized (by assumption) | exact Body.notSynchronized (by assumption)
  have X0 : Stand p l e ({ frames := 0, cells := 0, slots := 0, locals := 0 } : Room) s m #[(.ref a0)] below meth c s₁ [] 0 0 := Stand.of_body Bd
  have e0 : s₁.heap = h0 := by rw [← hh, Bd.state]; rfl
  have N0 := Fr.nil n0
  have K0 : Keep h0 h0 [] := Keep.refl _ _
  refine own_start (CS := (0, 0)) (Q := (Q1_5 Z a0 k w0 w1 w2 w3 w4 h0 n0)) (ef_1_5 m a0) ?_
  show own_Go p e below s _ _ (s₁.setTop (mkF m 0 #[rv a0, .unset] []))
  refine own_via (fun k => XS.aloadN X0.here hx rfl (hb hby d1_0) rfl rfl  k) ?_
  show own_Go p e below s _ _ (s₁.setTop (mkF m 1 #[rv a0, .unset] [(.ref a0)]))
  obtain ⟨cl1, Ar1, -, S1, NN1, -, -⟩ := id P0
  refine own_via (fun k => X0.arraylength hx (by rw [e0]; exact Ar1.1) (State.isArrayOf_alike hZ.alike Ar1.2.1) (g := (mkF m 1 #[rv a0, .unset] [(.ref a0)])) rfl rfl (hb hby d1_1) _ k) ?_
  rw [len_of S1 NN1]
  show own_Go p e below s _ _ (s₁.setTop (mkF m 2 #[rv a0, .unset] [(.int 5)]))
  refine own_via (fun k => XS.iconst X0.here hx rfl (hb hby d1_2) k) ?_
  show own_Go p e below s _ _ (s₁.setTop (mkF m 3 #[rv a0, .unset] [(.int 3), (.int 5)]))
  refine own_via (fun k => XS.icmpNo X0.here hx rfl (hb hby d1_3) rfl (by decide) k) ?_
  show own_Go p e below s _ _ (s₁.setTop (mkF m 6 #[rv a0, .unset] []))
  refine own_via (fun k => XS.aloadN X0.here hx rfl (hb hby d1_6) rfl rfl  (XS.iconst X0.here hx rfl (hb hby d1_7) k)) ?_
  show own_Go p e below s _ _ (s₁.setTop (mkF m 8 #[rv a0, .unset] [(.int 0), (.ref a0)]))
  obtain ⟨cl2, Ar2, q2, S2, NN2, H2, G2⟩ := id P0
  have hin2 : ¬ ((0 : Int32) < 0 ∨ cl2.slots.size ≤ ((0 : Int32)).toNatClampNeg) := inb_of S2 ⟨by decide, by decide⟩
  have hat2 : cl2.slots[((0 : Int32)).toNatClampNeg]? = some (.int w0) := H2.at hin2 rfl
  refine own_via (fun k => X0.baloadBytes hx (j := (0 : Int32)) (v := (.int w0)) (by rw [e0]; exact Ar2.1) (State.isArrayOf_alike hZ.alike Ar2.2.1) Ar2.2.2 hin2 hat2 (g := (mkF m 8 #[rv a0, .unset] [(.int 0), (.ref a0)])) rfl rfl (hb hby d1_8) _ k) ?_
  show own_Go p e below s _ _ (s₁.setTop (mkF m 9 #[rv a0, .unset] [(.int w0)]))
  refine own_via (fun k => XS.sipush X0.here hx rfl (hb hby d1_9) (XS.iand X0.here hx rfl (hb hby d1_12) rfl (XS.sipush X0.here hx rfl (hb hby d1_13) k))) ?_
  show own_Go p e below s _ _ (s₁.setTop (mkF m 16 #[rv a0, .unset] [(.int 239), (.int (w0 &&& (255 : Int32)))]))
  have J6 : ∀ (T6 : State) (lo6 : List Loc), Stand p l e ({ frames := 0, cells := 0, slots := 0, locals := 0 } : Room) s m #[(.ref a0)] below meth c T6 lo6 0 0 → Fr n0 lo6 → T6.heap = h0 → ∀ (z5 : Int32), z5 = (if (w0 &&& (255 : Int32)) = (239 : Int32) then (if (w1 &&& (255 : Int32)) = (187 : Int32) then (if (w2 &&& (255 : Int32)) = (191 : Int32) then (1 : Int32) else (0 : Int32)) else (0 : Int32)) else (0 : Int32)) → own_Go p e below s (Q1_5 Z a0 k w0 w1 w2 w3 w4 h0 n0) (0, 0) (T6.setTop (mkF m 50 #[rv a0, .unset] [(.int z5)])) := by
    intro T6 lo6 X6 N6 e6 z5 hz5
    refine own_via (fun k => XS.istoreN X6.here hx rfl (hb hby d1_50) rfl (l' := #[rv a0, iv z5]) rfl (XS.iloadN X6.here hx rfl (hb hby d1_51) rfl  k)) ?_
    show own_Go p e below s _ _ (T6.setTop (mkF m 52 #[rv a0, iv z5] [(.int z5)]))
    by_cases hc7 : z5 = (0 : Int32)
    · refine own_via (fun k => XS.ifYes X6.here hx rfl (pc0 := 52) (pc' := 59) rfl (hb hby d1_52) rfl ((if0 _ _).trans (teq hc7).1) (by decide) (by decide) k) ?_
      show own_Go p e below s _ _ (T6.setTop (mkF m 59 #[rv a0, iv z5] []))
      refine own_via (fun k => XS.iconst X6.here hx rfl (hb hby d1_59) k) ?_
      show own_Go p e below s _ _ (T6.setTop (mkF m 60 #[rv a0, iv z5] [(.int 0)]))
      exact own_retI X6 hx hlk Bd.returns (hb hby d1_60) (Q := (Q1_5 Z a0 k w0 w1 w2 w3 w4 h0 n0)) ⟨(congrArg (fun z => some (Value.int z)) (show (0 : Int32) = (own_f1_5 w0 w1 w2) from (by subst hz5; unfold own_f1_5; exact ((if_pos hc7).trans rfl).symm))), N6, e6⟩ (by decide) (by decide)
    · refine own_via (fun k => XS.ifNo X6.here hx rfl (hb hby d1_52) rfl ((if0 _ _).trans (feq hc7).1) k) ?_
      show own_Go p e below s _ _ (T6.setTop (mkF m 55 #[rv a0, iv z5] []))
      refine own_via (fun k => XS.iconst X6.here hx rfl (hb hby d1_55) (XS.goto X6.here hx rfl (pc0 := 56) (pc' := 60) rfl (hb hby d1_56) (by decide) (by decide) k)) ?_
      show own_Go p e below s _ _ (T6.setTop (mkF m 60 #[rv a0, iv z5] [(.int 3)]))
      exact own_retI X6 hx hlk Bd.returns (hb hby d1_60) (Q := (Q1_5 Z a0 k w0 w1 w2 w3 w4 h0 n0)) ⟨(congrArg (fun z => some (Value.int z)) (show (3 : Int32) = (own_f1_5 w0 w1 w2) from (by subst hz5; unfold own_f1_5; exact ((if_neg hc7).trans rfl).symm))), N6, e6⟩ (by decide) (by decide)
  by_cases hc8 : (w0 &&& (255 : Int32)) = (239 : Int32)
  · refine own_via (fun k => XS.icmpNo X0.here hx rfl (hb hby d1_16) rfl (teq hc8).2 k) ?_
    show own_Go p e below s _ _ (s₁.setTop (mkF m 19 #[rv a0, .unset] []))
    refine own_via (fun k => XS.aloadN X0.here hx rfl (hb hby d1_19) rfl rfl  (XS.iconst X0.here hx rfl (hb hby d1_20) k)) ?_
    show own_Go p e below s _ _ (s₁.setTop (mkF m 21 #[rv a0, .unset] [(.int 1), (.ref a0)]))
    obtain ⟨cl9, Ar9, q9, S9, NN9, H9, G9⟩ := id P0
    have hin9 : ¬ ((1 : Int32) < 0 ∨ cl9.slots.size ≤ ((1 : Int32)).toNatClampNeg) := inb_of S9 ⟨by decide, by decide⟩
    have hat9 : cl9.slots[((1 : Int32)).toNatClampNeg]? = some (.int w1) := H9.at hin9 rfl
    refine own_via (fun k => X0.baloadBytes hx (j := (1 : Int32)) (v := (.int w1)) (by rw [e0]; exact Ar9.1) (State.isArrayOf_alike hZ.alike Ar9.2.1) Ar9.2.2 hin9 hat9 (g := (mkF m 21 #[rv a0, .unset] [(.int 1), (.ref a0)])) rfl rfl (hb hby d1_21) _ k) ?_
    show own_Go p e below s _ _ (s₁.setTop (mkF m 22 #[rv a0, .unset] [(.int w1)]))
    refine own_via (fun k => XS.sipush X0.here hx rfl (hb hby d1_22) (XS.iand X0.here hx rfl (hb hby d1_25) rfl (XS.sipush X0.here hx rfl (hb hby d1_26) k))) ?_
    show own_Go p e below s _ _ (s₁.setTop (mkF m 29 #[rv a0, .unset] [(.int 187), (.int (w1 &&& (255 : Int32)))]))
    by_cases hc10 : (w1 &&& (255 : Int32)) = (187 : Int32)
    · refine own_via (fun k => XS.icmpNo X0.here hx rfl (hb hby d1_29) rfl (teq hc10).2 k) ?_
      show own_Go p e below s _ _ (s₁.setTop (mkF m 32 #[rv a0, .unset] []))
      refine own_via (fun k => XS.aloadN X0.here hx rfl (hb hby d1_32) rfl rfl  (XS.iconst X0.here hx rfl (hb hby d1_33) k)) ?_
      show own_Go p e below s _ _ (s₁.setTop (mkF m 34 #[rv a0, .unset] [(.int 2), (.ref a0)]))
      obtain ⟨cl11, Ar11, q11, S11, NN11, H11, G11⟩ := id P0
      have hin11 : ¬ ((2 : Int32) < 0 ∨ cl11.slots.size ≤ ((2 : Int32)).toNatClampNeg) := inb_of S11 ⟨by decide, by decide⟩
      have hat11 : cl11.slots[((2 : Int32)).toNatClampNeg]? = some (.int w2) := H11.at hin11 rfl
      refine own_via (fun k => X0.baloadBytes hx (j := (2 : Int32)) (v := (.int w2)) (by rw [e0]; exact Ar11.1) (State.isArrayOf_alike hZ.alike Ar11.2.1) Ar11.2.2 hin11 hat11 (g := (mkF m 34 #[rv a0, .unset] [(.int 2), (.ref a0)])) rfl rfl (hb hby d1_34) _ k) ?_
      show own_Go p e below s _ _ (s₁.setTop (mkF m 35 #[rv a0, .unset] [(.int w2)]))
      refine own_via (fun k => XS.sipush X0.here hx rfl (hb hby d1_35) (XS.iand X0.here hx rfl (hb hby d1_38) rfl (XS.sipush X0.here hx rfl (hb hby d1_39) k))) ?_
      show own_Go p e below s _ _ (s₁.setTop (mkF m 42 #[rv a0, .unset] [(.int 191), (.int (w2 &&& (255 : Int32)))]))
      by_cases hc12 : (w2 &&& (255 : Int32)) = (191 : Int32)
      · refine own_via (fun k => XS.icmpNo X0.here hx rfl (hb hby d1_42) rfl (teq hc12).2 k) ?_
        show own_Go p e below s _ _ (s₁.setTop (mkF m 45 #[rv a0, .unset] []))
        refine own_via (fun k => XS.iconst X0.here hx rfl (hb hby d1_45) (XS.goto X0.here hx rfl (pc0 := 46) (pc' := 50) rfl (hb hby d1_46) (by decide) (by decide) k)) ?_
        show own_Go p e below s _ _ (s₁.setTop (mkF m 50 #[rv a0, .unset] [(.int 1)]))
        exact J6 _ _ X0 N0 e0 (1 : Int32) (((if_pos hc8).trans ((if_pos hc10).trans ((if_pos hc12).trans rfl)))).symm
      · refine own_via (fun k => XS.icmpYes X0.here hx rfl (pc0 := 42) (pc' := 49) rfl (hb hby d1_42) rfl (feq hc12).2 (by decide) (by decide) k) ?_
        show own_Go p e below s _ _ (s₁.setTop (mkF m 49 #[rv a0, .unset] []))
        refine own_via (fun k => XS.iconst X0.here hx rfl (hb hby d1_49) k) ?_
        show own_Go p e below s _ _ (s₁.setTop (mkF m 50 #[rv a0, .unset] [(.int 0)]))
        exact J6 _ _ X0 N0 e0 (0 : Int32) (((if_pos hc8).trans ((if_pos hc10).trans ((if_neg hc12).trans rfl)))).symm
    · refine own_via (fun k => XS.icmpYes X0.here hx rfl (pc0 := 29) (pc' := 49) rfl (hb hby d1_29) rfl (feq hc10).2 (by decide) (by decide) k) ?_
      show own_Go p e below s _ _ (s₁.setTop (mkF m 49 #[rv a0, .unset] []))
      refine own_via (fun k => XS.iconst X0.here hx rfl (hb hby d1_49) k) ?_
      show own_Go p e below s _ _ (s₁.setTop (mkF m 50 #[rv a0, .unset] [(.int 0)]))
      exact J6 _ _ X0 N0 e0 (0 : Int32) (((if_pos hc8).trans ((if_neg hc10).trans rfl))).symm
  · refine own_via (fun k => XS.icmpYes X0.here hx rfl (pc0 := 16) (pc' := 49) rfl (hb hby d1_16) rfl (feq hc8).2 (by decide) (by decide) k) ?_
    show own_Go p e below s _ _ (s₁.setTop (mkF m 49 #[rv a0, .unset] []))
    refine own_via (fun k => XS.iconst X0.here hx rfl (hb hby d1_49) k) ?_
    show own_Go p e below s _ _ (s₁.setTop (mkF m 50 #[rv a0, .unset] [(.int 0)]))
    exact J6 _ _ X0 N0 e0 (0 : Int32) (((if_neg hc8).trans rfl)).symm
theorem pn_0 : plainName "com/example/dani/dani/formats/DecodingReaderUtf8ByteOrderMarkPinLaw" = true := by first | (simp [plainName, overriddenIn]; done) | decide +kernel
theorem pd_0 : parseMethodDescriptor "([B)I" = some ⟨[(.array .byte)], some .int⟩ := by decide +kernel
theorem ef_0 (m : MethodId) (x0 : Int32) (x1 : Int32) (x2 : Int32) : entryFrame m #[(.int x0), (.int x1), (.int x2)] maxLocals = mkF m 0 #[iv x0, iv x1, iv x2, .unset, .unset, .unset, .unset, .unset, .unset, .unset, .unset, .unset, .unset] [] := by first | (simp [entryFrame, mkF, argsToLocals, Value.category, maxLocals]; done) | rfl
theorem own_k17 (i : Int8) : ((nar .byte i.toInt32) &&& (255 : Int32) = (239 : Int32)) ↔ (i.toInt32 = (-17 : Int32)) := own_all8 (P := fun i => ((nar .byte i.toInt32) &&& (255 : Int32) = (239 : Int32)) ↔ (i.toInt32 = (-17 : Int32))) (by decide +kernel) i
theorem own_k69 (i : Int8) : ((nar .byte i.toInt32) &&& (255 : Int32) = (187 : Int32)) ↔ (i.toInt32 = (-69 : Int32)) := own_all8 (P := fun i => ((nar .byte i.toInt32) &&& (255 : Int32) = (187 : Int32)) ↔ (i.toInt32 = (-69 : Int32))) (by decide +kernel) i
theorem own_k65 (i : Int8) : ((nar .byte i.toInt32) &&& (255 : Int32) = (191 : Int32)) ↔ (i.toInt32 = (-65 : Int32)) := own_all8 (P := fun i => ((nar .byte i.toInt32) &&& (255 : Int32) = (191 : Int32)) ↔ (i.toInt32 = (-65 : Int32))) (by decide +kernel) i
theorem own_bb {c : Prop} [Decidable c] {z : Int32} {a b : Int8} (h : z = if c then a.toInt32 else b.toInt32) : ∃ i : Int8, z = i.toInt32 := by
  rw [h]; split
  · exact ⟨_, rfl⟩
  · exact ⟨_, rfl⟩
theorem own_len (p0 : Int32) : ((p0 &&& (2147483647 : Int32)) % (6 : Int32)) = (0 : Int32) ∨ ((p0 &&& (2147483647 : Int32)) % (6 : Int32)) = (1 : Int32) ∨ ((p0 &&& (2147483647 : Int32)) % (6 : Int32)) = (2 : Int32) ∨ ((p0 &&& (2147483647 : Int32)) % (6 : Int32)) = (3 : Int32) ∨ ((p0 &&& (2147483647 : Int32)) % (6 : Int32)) = (4 : Int32) ∨ ((p0 &&& (2147483647 : Int32)) % (6 : Int32)) = (5 : Int32) := by
  have e32_0 : (0 : Int32).toInt = 0 := by decide
  have e32_1 : (1 : Int32).toInt = 1 := by decide
  have e32_2 : (2 : Int32).toInt = 2 := by decide
  have e32_3 : (3 : Int32).toInt = 3 := by decide
  have e32_4 : (4 : Int32).toInt = 4 := by decide
  have e32_5 : (5 : Int32).toInt = 5 := by decide
  have e32_6 : (6 : Int32).toInt = 6 := by decide
  have e32_2147483647 : (2147483647 : Int32).toInt = 2147483647 := by decide
  have m := c_mask p0 2147483647 31 (by decide) (by decide)
  have r := (c_irem (p0 &&& (2147483647 : Int32)) 6 6 (by decide)).1 (by omega)
  simp only [own_e32]; omega
theorem own_law0 (p0 : Int32) (hl7 : ((p0 &&& (2147483647 : Int32)) % (6 : Int32)) = (0 : Int32)) : own_f1_0 = (0 : Int32) := rfl
theorem own_law1 (p0 : Int32) (hl7 : ((p0 &&& (2147483647 : Int32)) % (6 : Int32)) = (1 : Int32)) : own_f1_1 = (0 : Int32) := rfl
theorem own_law2 (p0 : Int32) (hl7 : ((p0 &&& (2147483647 : Int32)) % (6 : Int32)) = (2 : Int32)) : own_f1_2 = (0 : Int32) := rfl
theorem own_law3 (p0 : Int32) (p1 : Int32) (z1 : Int32) (hz1 : z1 = (if ((p0 >>> ((3 : Int32) &&& 31)) &&& (1 : Int32)) = (0 : Int32) then (p1.toInt8.toInt32) else (-17 : Int32))) (z3 : Int32) (hz3 : z3 = (if ((p0 >>> ((4 : Int32) &&& 31)) &&& (1 : Int32)) = (0 : Int32) then ((p1 >>> ((8 : Int32) &&& 31)).toInt8.toInt32) else (-69 : Int32))) (z5 : Int32) (hz5 : z5 = (if ((p0 >>> ((5 : Int32) &&& 31)) &&& (1 : Int32)) = (0 : Int32) then ((p1 >>> ((16 : Int32) &&& 31)).toInt8.toInt32) else (-65 : Int32))) (z54 : Int32) (hz54 : z54 = (if z1 = (-17 : Int32) then (if z3 = (-69 : Int32) then (if z5 = (-65 : Int32) then (1 : Int32) else (0 : Int32)) else (0 : Int32)) else (0 : Int32))) (z56 : Int32) (hz56 : z56 = (if z54 = (0 : Int32) then (0 : Int32) else (3 : Int32))) (hl7 : ((p0 &&& (2147483647 : Int32)) % (6 : Int32)) = (3 : Int32)) : (own_f1_3 (nar .byte z1) (nar .byte z3) (nar .byte z5)) = z56 := by
  subst hz56 hz54
  obtain ⟨i, e1⟩ : ∃ i : Int8, z1 = i.toInt32 := own_bb (b := -17) hz1
  obtain ⟨j, e2⟩ : ∃ i : Int8, z3 = i.toInt32 := own_bb (b := -69) hz3
  obtain ⟨k, e3⟩ : ∃ i : Int8, z5 = i.toInt32 := own_bb (b := -65) hz5
  clear hz1 hz3 hz5
  subst e1 e2 e3
  simp only [own_f1_3, own_k17, own_k69, own_k65]
theorem own_law4 (p0 : Int32) (p1 : Int32) (z1 : Int32) (hz1 : z1 = (if ((p0 >>> ((3 : Int32) &&& 31)) &&& (1 : Int32)) = (0 : Int32) then (p1.toInt8.toInt32) else (-17 : Int32))) (z3 : Int32) (hz3 : z3 = (if ((p0 >>> ((4 : Int32) &&& 31)) &&& (1 : Int32)) = (0 : Int32) then ((p1 >>> ((8 : Int32) &&& 31)).toInt8.toInt32) else (-69 : Int32))) (z5 : Int32) (hz5 : z5 = (if ((p0 >>> ((5 : Int32) &&& 31)) &&& (1 : Int32)) = (0 : Int32) then ((p1 >>> ((16 : Int32) &&& 31)).toInt8.toInt32) else (-65 : Int32))) (z84 : Int32) (hz84 : z84 = (if z1 = (-17 : Int32) then (if z3 = (-69 : Int32) then (if z5 = (-65 : Int32) then (1 : Int32) else (0 : Int32)) else (0 : Int32)) else (0 : Int32))) (z86 : Int32) (hz86 : z86 = (if z84 = (0 : Int32) then (0 : Int32) else (3 : Int32))) (hl7 : ((p0 &&& (2147483647 : Int32)) % (6 : Int32)) = (4 : Int32)) : (own_f1_4 (nar .byte z1) (nar .byte z3) (nar .byte z5)) = z86 := by
  subst hz86 hz84
  obtain ⟨i, e1⟩ : ∃ i : Int8, z1 = i.toInt32 := own_bb (b := -17) hz1
  obtain ⟨j, e2⟩ : ∃ i : Int8, z3 = i.toInt32 := own_bb (b := -69) hz3
  obtain ⟨k, e3⟩ : ∃ i : Int8, z5 = i.toInt32 := own_bb (b := -65) hz5
  clear hz1 hz3 hz5
  subst e1 e2 e3
  simp only [own_f1_4, own_k17, own_k69, own_k65]
theorem own_law5 (p0 : Int32) (p1 : Int32) (z1 : Int32) (hz1 : z1 = (if ((p0 >>> ((3 : Int32) &&& 31)) &&& (1 : Int32)) = (0 : Int32) then (p1.toInt8.toInt32) else (-17 : Int32))) (z3 : Int32) (hz3 : z3 = (if ((p0 >>> ((4 : Int32) &&& 31)) &&& (1 : Int32)) = (0 : Int32) then ((p1 >>> ((8 : Int32) &&& 31)).toInt8.toInt32) else (-69 : Int32))) (z5 : Int32) (hz5 : z5 = (if ((p0 >>> ((5 : Int32) &&& 31)) &&& (1 : Int32)) = (0 : Int32) then ((p1 >>> ((16 : Int32) &&& 31)).toInt8.toInt32) else (-65 : Int32))) (z118 : Int32) (hz118 : z118 = (if z1 = (-17 : Int32) then (if z3 = (-69 : Int32) then (if z5 = (-65 : Int32) then (1 : Int32) else (0 : Int32)) else (0 : Int32)) else (0 : Int32))) (z120 : Int32) (hz120 : z120 = (if z118 = (0 : Int32) then (0 : Int32) else (3 : Int32))) (hl7 : ((p0 &&& (2147483647 : Int32)) % (6 : Int32)) = (5 : Int32)) : (own_f1_5 (nar .byte z1) (nar .byte z3) (nar .byte z5)) = z120 := by
  subst hz120 hz118
  obtain ⟨i, e1⟩ : ∃ i : Int8, z1 = i.toInt32 := own_bb (b := -17) hz1
  obtain ⟨j, e2⟩ : ∃ i : Int8, z3 = i.toInt32 := own_bb (b := -69) hz3
  obtain ⟨k, e3⟩ : ∃ i : Int8, z5 = i.toInt32 := own_bb (b := -65) hz5
  clear hz1 hz3 hz5
  subst e1 e2 e3
  simp only [own_f1_5, own_k17, own_k69, own_k65]
def Q0 (Z : State) (p0 : Int32) (p1 : Int32) (p2 : Int32) (h0 : Heap) (n0 : Nat) (v : Option Value) (h : Heap) (L : List Loc) : Prop := v = some (.int 1) ∧ Fr n0 L
set_option maxRecDepth 65536 in
set_option maxHeartbeats 40000000 in
theorem rm0 (l : Launch) (Z : State) (aw : Array Value) (hw : ∀ d ∈ tables_1, d.before aw Z = true) (ws : List Jvm.Cond) (p0 : Int32) (p1 : Int32) (p2 : Int32) (h0 : Heap) (n0 : Nat) (Z0 : n0 ≤ h0.size)  :
    MetFree l x (head1 (Jvm.Cond.code x code maxLocals ret :: ws) room_1) (fun a U => a = #[(.int p0), (.int p1), (.int p2)] ∧ Z.Warmed39 U.vm ∧ U.heap = h0) (fun _ _ _ _ _ => True) (fun _ U o U' => ∃ v L, o = .returned v ∧ Q0 Z p0 p1 p2 h0 n0 v U'.heap L ∧ FrameEnd U o U' L room_1.cells room_1.slots) := by
  refine MetFree.of_bodySF (plainFor_of_name pn_0) hisR ?_
  intro p e s m args below meth c s₁ Bd hml0 hP hK
  obtain ⟨rfl, hZ, hh⟩ := hP
  have hx := Bd.exec
  have hby := Bd.bytes
  have hml : c.maxLocals = 13 := hml0
  have hown : s.vm.findClass "com/example/dani/dani/formats/DecodingReaderUtf8ByteOrderMarkPinLaw" = some m.cls := findClass_of_methodNamed Bd.named
  have hnm := (name_of_methodNamed Bd.named Bd.method).1
  have hlk : meth.locks = false := by first | exact BodyLoose.notSynchronized (by assumption) | exact Body.notSynchronized (by assumption)
  have X0 : Stand p l e room_1 s m #[(.int p0), (.int p1), (.int p2)] below meth c s₁ [] 0 0 := Stand.of_body Bd
  have e0 : s₁.heap = h0 := by rw [← hh, Bd.state]; rfl
  have N0 := Fr.nil n0
  refine own_start (CS := (room_1.cells, room_1.slots)) (Q := (Q0 Z p0 p1 p2 h0 n0)) (ef_0 m p0 p1 p2) ?_
  show own_Go p e below s _ _ (s₁.setTop (mkF m 0 #[iv p0, iv p1, iv p2, .unset, .unset, .unset, .unset, .unset, .unset, .unset, .unset, .unset, .unset] []))
  refine own_via (fun k => XS.iloadN X0.here hx rfl (hb hby at_0) rfl  (X0.ldcInt hx hown (mvT hZ (hw _ (List.mem_of_getElem? (i := 0) rfl))) (g := (mkF m 1 #[iv p0, iv p1, iv p2, .unset, .unset, .unset, .unset, .unset, .unset, .unset, .unset, .unset, .unset] [(.int p0)])) rfl (hb hby at_1) _ (XS.iand X0.here hx rfl (hb hby at_3) rfl (XS.bipush X0.here hx rfl (hb hby at_4) k)))) ?_
  show own_Go p e below s _ _ (s₁.setTop (mkF m 6 #[iv p0, iv p1, iv p2, .unset, .unset, .unset, .unset, .unset, .unset, .unset, .unset, .unset, .unset] [(.int 6), (.int (p0 &&& (2147483647 : Int32)))]))
  refine own_via (fun k => Jvm.RoadKit.iremM X0 hx rfl (hb hby at_6) rfl (by decide) (XS.istoreN X0.here hx rfl (hb hby at_7) rfl (l' := #[iv p0, iv p1, iv p2, iv ((p0 &&& (2147483647 : Int32)) % (6 : Int32)), .unset, .unset, .unset, .unset, .unset, .unset, .unset, .unset, .unset]) rfl (XS.iloadN X0.here hx rfl (hb hby at_8) rfl  (XS.iconst X0.here hx rfl (hb hby at_9) k)))) ?_
  show own_Go p e below s _ _ (s₁.setTop (mkF m 10 #[iv p0, iv p1, iv p2, iv ((p0 &&& (2147483647 : Int32)) % (6 : Int32)), .unset, .unset, .unset, .unset, .unset, .unset, .unset, .unset, .unset] [(.int 3), (.int p0)]))
  refine own_via (fun k => XS.ishr X0.here hx rfl (hb hby at_10) rfl (XS.iconst X0.here hx rfl (hb hby at_11) (XS.iand X0.here hx rfl (hb hby at_12) rfl k))) ?_
  show own_Go p e below s _ _ (s₁.setTop (mkF m 13 #[iv p0, iv p1, iv p2, iv ((p0 &&& (2147483647 : Int32)) % (6 : Int32)), .unset, .unset, .unset, .unset, .unset, .unset, .unset, .unset, .unset] [(.int ((p0 >>> ((3 : Int32) &&& 31)) &&& (1 : Int32)))]))
  have J2 : ∀ (z1 : Int32), z1 = (if ((p0 >>> ((3 : Int32) &&& 31)) &&& (1 : Int32)) = (0 : Int32) then (p1.toInt8.toInt32) else (-17 : Int32)) → own_Go p e below s (Q0 Z p0 p1 p2 h0 n0) (room_1.cells, room_1.slots) (s₁.setTop (mkF m 23 #[iv p0, iv p1, iv p2, iv ((p0 &&& (2147483647 : Int32)) % (6 : Int32)), .unset, .unset, .unset, .unset, .unset, .unset, .unset, .unset, .unset] [(.int z1)])) := by
    intro z1 hz1
    refine own_via (fun k => XS.istore X0.here hx rfl (hb hby at_23) rfl (l' := #[iv p0, iv p1, iv p2, iv ((p0 &&& (2147483647 : Int32)) % (6 : Int32)), iv z1, .unset, .unset, .unset, .unset, .unset, .unset, .unset, .unset]) rfl (XS.iloadN X0.here hx rfl (hb hby at_25) rfl  (XS.iconst X0.here hx rfl (hb hby at_26) (XS.ishr X0.here hx rfl (hb hby at_27) rfl k)))) ?_
    show own_Go p e below s _ _ (s₁.setTop (mkF m 28 #[iv p0, iv p1, iv p2, iv ((p0 &&& (2147483647 : Int32)) % (6 : Int32)), iv z1, .unset, .unset, .unset, .unset, .unset, .unset, .unset, .unset] [(.int (p0 >>> ((4 : Int32) &&& 31)))]))
    refine own_via (fun k => XS.iconst X0.here hx rfl (hb hby at_28) (XS.iand X0.here hx rfl (hb hby at_29) rfl k)) ?_
    show own_Go p e below s _ _ (s₁.setTop (mkF m 30 #[iv p0, iv p1, iv p2, iv ((p0 &&& (2147483647 : Int32)) % (6 : Int32)), iv z1, .unset, .unset, .unset, .unset, .unset, .unset, .unset, .unset] [(.int ((p0 >>> ((4 : Int32) &&& 31)) &&& (1 : Int32)))]))
    have J4 : ∀ (z3 : Int32), z3 = (if ((p0 >>> ((4 : Int32) &&& 31)) &&& (1 : Int32)) = (0 : Int32) then ((p1 >>> ((8 : Int32) &&& 31)).toInt8.toInt32) else (-69 : Int32)) → own_Go p e below s (Q0 Z p0 p1 p2 h0 n0) (room_1.cells, room_1.slots) (s₁.setTop (mkF m 43 #[iv p0, iv p1, iv p2, iv ((p0 &&& (2147483647 : Int32)) % (6 : Int32)), iv z1, .unset, .unset, .unset, .unset, .unset, .unset, .unset, .unset] [(.int z3)])) := by
      intro z3 hz3
      refine own_via (fun k => XS.istore X0.here hx rfl (hb hby at_43) rfl (l' := #[iv p0, iv p1, iv p2, iv ((p0 &&& (2147483647 : Int32)) % (6 : Int32)), iv z1, iv z3, .unset, .unset, .unset, .unset, .unset, .unset, .unset]) rfl (XS.iloadN X0.here hx rfl (hb hby at_45) rfl  (XS.iconst X0.here hx rfl (hb hby at_46) (XS.ishr X0.here hx rfl (hb hby at_47) rfl k)))) ?_
      show own_Go p e below s _ _ (s₁.setTop (mkF m 48 #[iv p0, iv p1, iv p2, iv ((p0 &&& (2147483647 : Int32)) % (6 : Int32)), iv z1, iv z3, .unset, .unset, .unset, .unset, .unset, .unset, .unset] [(.int (p0 >>> ((5 : Int32) &&& 31)))]))
      refine own_via (fun k => XS.iconst X0.here hx rfl (hb hby at_48) (XS.iand X0.here hx rfl (hb hby at_49) rfl k)) ?_
      show own_Go p e below s _ _ (s₁.setTop (mkF m 50 #[iv p0, iv p1, iv p2, iv ((p0 &&& (2147483647 : Int32)) % (6 : Int32)), iv z1, iv z3, .unset, .unset, .unset, .unset, .unset, .unset, .unset] [(.int ((p0 >>> ((5 : Int32) &&& 31)) &&& (1 : Int32)))]))
      have J6 : ∀ (z5 : Int32), z5 = (if ((p0 >>> ((5 : Int32) &&& 31)) &&& (1 : Int32)) = (0 : Int32) then ((p1 >>> ((16 : Int32) &&& 31)).toInt8.toInt32) else (-65 : Int32)) → own_Go p e below s (Q0 Z p0 p1 p2 h0 n0) (room_1.cells, room_1.slots) (s₁.setTop (mkF m 63 #[iv p0, iv p1, iv p2, iv ((p0 &&& (2147483647 : Int32)) % (6 : Int32)), iv z1, iv z3, .unset, .unset, .unset, .unset, .unset, .unset, .unset] [(.int z5)])) := by
        intro z5 hz5
        refine own_via (fun k => XS.istore X0.here hx rfl (hb hby at_63) rfl (l' := #[iv p0, iv p1, iv p2, iv ((p0 &&& (2147483647 : Int32)) % (6 : Int32)), iv z1, iv z3, iv z5, .unset, .unset, .unset, .unset, .unset, .unset]) rfl (XS.iloadN X0.here hx rfl (hb hby at_65) rfl  (XS.bipush X0.here hx rfl (hb hby at_66) (XS.ishr X0.here hx rfl (hb hby at_68) rfl k)))) ?_
        show own_Go p e below s _ _ (s₁.setTop (mkF m 69 #[iv p0, iv p1, iv p2, iv ((p0 &&& (2147483647 : Int32)) % (6 : Int32)), iv z1, iv z3, iv z5, .unset, .unset, .unset, .unset, .unset, .unset] [(.int (p1 >>> ((24 : Int32) &&& 31)))]))
        refine own_via (fun k => XS.i2b X0.here hx rfl (hb hby at_69) rfl (XS.istore X0.here hx rfl (hb hby at_70) rfl (l' := #[iv p0, iv p1, iv p2, iv ((p0 &&& (2147483647 : Int32)) % (6 : Int32)), iv z1, iv z3, iv z5, iv ((p1 >>> ((24 : Int32) &&& 31)).toInt8.toInt32), .unset, .unset, .unset, .unset, .unset]) rfl (XS.iloadN X0.here hx rfl (hb hby at_72) rfl  (XS.i2b X0.here hx rfl (hb hby at_73) rfl k)))) ?_
        show own_Go p e below s _ _ (s₁.setTop (mkF m 74 #[iv p0, iv p1, iv p2, iv ((p0 &&& (2147483647 : Int32)) % (6 : Int32)), iv z1, iv z3, iv z5, iv ((p1 >>> ((24 : Int32) &&& 31)).toInt8.toInt32), .unset, .unset, .unset, .unset, .unset] [(.int (p2.toInt8.toInt32))]))
        refine own_via (fun k => XS.istore X0.here hx rfl (hb hby at_74) rfl (l' := #[iv p0, iv p1, iv p2, iv ((p0 &&& (2147483647 : Int32)) % (6 : Int32)), iv z1, iv z3, iv z5, iv ((p1 >>> ((24 : Int32) &&& 31)).toInt8.toInt32), iv (p2.toInt8.toInt32), .unset, .unset, .unset, .unset]) rfl (XS.iloadN X0.here hx rfl (hb hby at_76) rfl  k)) ?_
        show own_Go p e below s _ _ (s₁.setTop (mkF m 77 #[iv p0, iv p1, iv p2, iv ((p0 &&& (2147483647 : Int32)) % (6 : Int32)), iv z1, iv z3, iv z5, iv ((p1 >>> ((24 : Int32) &&& 31)).toInt8.toInt32), iv (p2.toInt8.toInt32), .unset, .unset, .unset, .unset] [(.int ((p0 &&& (2147483647 : Int32)) % (6 : Int32)))]))
        rcases ((own_len p0) : ((p0 &&& (2147483647 : Int32)) % (6 : Int32)) = (0 : Int32) ∨ ((p0 &&& (2147483647 : Int32)) % (6 : Int32)) = (1 : Int32) ∨ ((p0 &&& (2147483647 : Int32)) % (6 : Int32)) = (2 : Int32) ∨ ((p0 &&& (2147483647 : Int32)) % (6 : Int32)) = (3 : Int32) ∨ ((p0 &&& (2147483647 : Int32)) % (6 : Int32)) = (4 : Int32) ∨ ((p0 &&& (2147483647 : Int32)) % (6 : Int32)) = (5 : Int32)) with hl7 | hl7 | hl7 | hl7 | hl7 | hl7
        · rw [hl7]
          show own_Go p e below s _ _ (s₁.setTop (mkF m 77 #[iv p0, iv p1, iv p2, iv 0, iv z1, iv z3, iv z5, iv ((p1 >>> ((24 : Int32) &&& 31)).toInt8.toInt32), iv (p2.toInt8.toInt32), .unset, .unset, .unset, .unset] [(.int 0)]))
          obtain ⟨T8, h8, k8, X8, e8, E8, A8, st8⟩ := newP X0 hx hZ (hw _ (List.mem_of_getElem? (i := 1) rfl)) e0 (g := (mkF m 77 #[iv p0, iv p1, iv p2, iv 0, iv z1, iv z3, iv z5, iv ((p1 >>> ((24 : Int32) &&& 31)).toInt8.toInt32), iv (p2.toInt8.toInt32), .unset, .unset, .unset, .unset] [(.int 0)])) rfl (hb hby at_77) rfl (by decide) (cap := 0) (by decide) (by decide) (by decide) (by decide)
          obtain ⟨b8, g8⟩ : ∃ z, z = h0.size := ⟨_, rfl⟩
          rw [← g8] at A8 st8
          refine own_via (fun k => st8 _ k) ?_
          show own_Go p e below s _ _ (T8.setTop (mkF m 79 #[iv p0, iv p1, iv p2, iv 0, iv z1, iv z3, iv z5, iv ((p1 >>> ((24 : Int32) &&& 31)).toInt8.toInt32), iv (p2.toInt8.toInt32), .unset, .unset, .unset, .unset] [(.ref b8)]))
          have g9 : n0 ≤ b8 := Nat.le_trans Z0 (Nat.le_of_eq g8.symm)
          have Z10 : n0 ≤ h8.size := Nat.le_trans Z0 E8.1
          have B11 : Arv Z h8 b8 k8 .byte (0 : Int32) [] (.int 0) := (Arv.new A8 (by decide)).pad (pad_rep [] (.int 0) 0)
          refine own_via (fun k => XS.astore X8.here hx rfl (hb hby at_79) rfl rfl (l' := #[iv p0, iv p1, iv p2, iv 0, iv z1, iv z3, iv z5, iv ((p1 >>> ((24 : Int32) &&& 31)).toInt8.toInt32), iv (p2.toInt8.toInt32), rv b8, .unset, .unset, .unset]) rfl (XS.iloadN X8.here hx rfl (hb hby at_81) rfl  k)) ?_
          show own_Go p e below s _ _ (T8.setTop (mkF m 82 #[iv p0, iv p1, iv p2, iv 0, iv z1, iv z3, iv z5, iv ((p1 >>> ((24 : Int32) &&& 31)).toInt8.toInt32), iv (p2.toInt8.toInt32), rv b8, .unset, .unset, .unset] [(.int 0)]))
          refine own_via (fun k => XS.ifYes X8.here hx rfl (pc0 := 82) (pc' := 91) rfl (hb hby at_82) rfl (by decide) (by decide) (by decide) k) ?_
          show own_Go p e below s _ _ (T8.setTop (mkF m 91 #[iv p0, iv p1, iv p2, iv 0, iv z1, iv z3, iv z5, iv ((p1 >>> ((24 : Int32) &&& 31)).toInt8.toInt32), iv (p2.toInt8.toInt32), rv b8, .unset, .unset, .unset] []))
          refine own_via (fun k => XS.iloadN X8.here hx rfl (hb hby at_91) rfl  (XS.iconst X8.here hx rfl (hb hby at_92) k)) ?_
          show own_Go p e below s _ _ (T8.setTop (mkF m 93 #[iv p0, iv p1, iv p2, iv 0, iv z1, iv z3, iv z5, iv ((p1 >>> ((24 : Int32) &&& 31)).toInt8.toInt32), iv (p2.toInt8.toInt32), rv b8, .unset, .unset, .unset] [(.int 1), (.int 0)]))
          refine own_via (fun k => XS.icmpYes X8.here hx rfl (pc0 := 93) (pc' := 102) rfl (hb hby at_93) rfl (by decide) (by decide) (by decide) k) ?_
          show own_Go p e below s _ _ (T8.setTop (mkF m 102 #[iv p0, iv p1, iv p2, iv 0, iv z1, iv z3, iv z5, iv ((p1 >>> ((24 : Int32) &&& 31)).toInt8.toInt32), iv (p2.toInt8.toInt32), rv b8, .unset, .unset, .unset] []))
          refine own_via (fun k => XS.iloadN X8.here hx rfl (hb hby at_102) rfl  (XS.iconst X8.here hx rfl (hb hby at_103) k)) ?_
          show own_Go p e below s _ _ (T8.setTop (mkF m 104 #[iv p0, iv p1, iv p2, iv 0, iv z1, iv z3, iv z5, iv ((p1 >>> ((24 : Int32) &&& 31)).toInt8.toInt32), iv (p2.toInt8.toInt32), rv b8, .unset, .unset, .unset] [(.int 2), (.int 0)]))
          refine own_via (fun k => XS.icmpYes X8.here hx rfl (pc0 := 104) (pc' := 113) rfl (hb hby at_104) rfl (by decide) (by decide) (by decide) k) ?_
          show own_Go p e below s _ _ (T8.setTop (mkF m 113 #[iv p0, iv p1, iv p2, iv 0, iv z1, iv z3, iv z5, iv ((p1 >>> ((24 : Int32) &&& 31)).toInt8.toInt32), iv (p2.toInt8.toInt32), rv b8, .unset, .unset, .unset] []))
          refine own_via (fun k => XS.iloadN X8.here hx rfl (hb hby at_113) rfl  (XS.iconst X8.here hx rfl (hb hby at_114) k)) ?_
          show own_Go p e below s _ _ (T8.setTop (mkF m 115 #[iv p0, iv p1, iv p2, iv 0, iv z1, iv z3, iv z5, iv ((p1 >>> ((24 : Int32) &&& 31)).toInt8.toInt32), iv (p2.toInt8.toInt32), rv b8, .unset, .unset, .unset] [(.int 3), (.int 0)]))
          refine own_via (fun k => XS.icmpYes X8.here hx rfl (pc0 := 115) (pc' := 124) rfl (hb hby at_115) rfl (by decide) (by decide) (by decide) k) ?_
          show own_Go p e below s _ _ (T8.setTop (mkF m 124 #[iv p0, iv p1, iv p2, iv 0, iv z1, iv z3, iv z5, iv ((p1 >>> ((24 : Int32) &&& 31)).toInt8.toInt32), iv (p2.toInt8.toInt32), rv b8, .unset, .unset, .unset] []))
          refine own_via (fun k => XS.iloadN X8.here hx rfl (hb hby at_124) rfl  (XS.iconst X8.here hx rfl (hb hby at_125) k)) ?_
          show own_Go p e below s _ _ (T8.setTop (mkF m 126 #[iv p0, iv p1, iv p2, iv 0, iv z1, iv z3, iv z5, iv ((p1 >>> ((24 : Int32) &&& 31)).toInt8.toInt32), iv (p2.toInt8.toInt32), rv b8, .unset, .unset, .unset] [(.int 4), (.int 0)]))
          refine own_via (fun k => XS.icmpYes X8.here hx rfl (pc0 := 126) (pc' := 135) rfl (hb hby at_126) rfl (by decide) (by decide) (by decide) k) ?_
          show own_Go p e below s _ _ (T8.setTop (mkF m 135 #[iv p0, iv p1, iv p2, iv 0, iv z1, iv z3, iv z5, iv ((p1 >>> ((24 : Int32) &&& 31)).toInt8.toInt32), iv (p2.toInt8.toInt32), rv b8, .unset, .unset, .unset] []))
          refine own_via (fun k => XS.iloadN X8.here hx rfl (hb hby at_135) rfl  (XS.iconst X8.here hx rfl (hb hby at_136) k)) ?_
          show own_Go p e below s _ _ (T8.setTop (mkF m 137 #[iv p0, iv p1, iv p2, iv 0, iv z1, iv z3, iv z5, iv ((p1 >>> ((24 : Int32) &&& 31)).toInt8.toInt32), iv (p2.toInt8.toInt32), rv b8, .unset, .unset, .unset] [(.int 3), (.int 0)]))
          refine own_via (fun k => XS.icmpYes X8.here hx rfl (pc0 := 137) (pc' := 165) rfl (hb hby at_137) rfl (by decide) (by decide) (by decide) k) ?_
          show own_Go p e below s _ _ (T8.setTop (mkF m 165 #[iv p0, iv p1, iv p2, iv 0, iv z1, iv z3, iv z5, iv ((p1 >>> ((24 : Int32) &&& 31)).toInt8.toInt32), iv (p2.toInt8.toInt32), rv b8, .unset, .unset, .unset] []))
          refine own_via (fun k => XS.iconst X8.here hx rfl (hb hby at_165) (XS.istore X8.here hx rfl (hb hby at_166) rfl (l' := #[iv p0, iv p1, iv p2, iv 0, iv z1, iv z3, iv z5, iv ((p1 >>> ((24 : Int32) &&& 31)).toInt8.toInt32), iv (p2.toInt8.toInt32), rv b8, iv 0, .unset, .unset]) rfl (XS.iload X8.here hx rfl (hb hby at_168) rfl  k))) ?_
          show own_Go p e below s _ _ (T8.setTop (mkF m 170 #[iv p0, iv p1, iv p2, iv 0, iv z1, iv z3, iv z5, iv ((p1 >>> ((24 : Int32) &&& 31)).toInt8.toInt32), iv (p2.toInt8.toInt32), rv b8, iv 0, .unset, .unset] [(.int 0)]))
          refine own_via (fun k => XS.ifYes X8.here hx rfl (pc0 := 170) (pc' := 177) rfl (hb hby at_170) rfl (by decide) (by decide) (by decide) k) ?_
          show own_Go p e below s _ _ (T8.setTop (mkF m 177 #[iv p0, iv p1, iv p2, iv 0, iv z1, iv z3, iv z5, iv ((p1 >>> ((24 : Int32) &&& 31)).toInt8.toInt32), iv (p2.toInt8.toInt32), rv b8, iv 0, .unset, .unset] []))
          refine own_via (fun k => XS.iconst X8.here hx rfl (hb hby at_177) (XS.istore X8.here hx rfl (hb hby at_178) rfl (l' := #[iv p0, iv p1, iv p2, iv 0, iv z1, iv z3, iv z5, iv ((p1 >>> ((24 : Int32) &&& 31)).toInt8.toInt32), iv (p2.toInt8.toInt32), rv b8, iv 0, iv 0, .unset]) rfl (XS.aload X8.here hx rfl (hb hby at_180) rfl rfl  k))) ?_
          show own_Go p e below s _ _ (T8.setTop (mkF m 182 #[iv p0, iv p1, iv p2, iv 0, iv z1, iv z3, iv z5, iv ((p1 >>> ((24 : Int32) &&& 31)).toInt8.toInt32), iv (p2.toInt8.toInt32), rv b8, iv 0, iv 0, .unset] [(.ref b8)]))
          obtain ⟨_, _, ⟨T12, L12, k12, n12⟩, -, X12, ⟨Lc12, hQ12, l12, y12, z12⟩, st12⟩ := Jvm.LawKit.callS X8 hx (y := (⟨"com/example/dani/dani/formats/DecodingReader", "utf8ByteOrderMark", "([B)I"⟩ : MethodName)) hown (mvT hZ (hw _ (List.mem_of_getElem? (i := 2) rfl))) (mvT hZ (hw _ (List.mem_of_getElem? (i := 3) rfl))) (mvT hZ (hw _ (List.mem_of_getElem? (i := 4) rfl))) (mvT hZ (hw _ (List.mem_of_getElem? (i := 5) rfl))) (by decide) (backOf (W := 0) (rm1_0 l Z aw hw [] b8 k8 h8 n0 Z10 B11) hZ (hw _ (List.mem_of_getElem? (i := 5) rfl)) (hw _ (List.mem_of_getElem? (i := 4) rfl)) (by decide) (by decide)) (g := (mkF m 182 #[iv p0, iv p1, iv p2, iv 0, iv z1, iv z3, iv z5, iv ((p1 >>> ((24 : Int32) &&& 31)).toInt8.toInt32), iv (p2.toInt8.toInt32), rv b8, iv 0, iv 0, .unset] [(.ref b8)])) rfl (by rw [hml]; rfl) (argsL := [(.ref b8)]) (rest := []) (lenOf pd_0 rfl) rfl (by show 2 * 0 + _ ≤ _; exact Nat.le_of_eq rfl) (hb hby at_182) (fun _ _ => ⟨rfl, e8, (by decide : 1 + 0 ≤ _), (by decide : 0 + 0 ≤ _)⟩)
          dsimp only [Pt.U, Pt.locs, Pt.cells, Pt.slots] at X12 l12 y12 z12 st12 hQ12
          subst l12 y12 z12
          obtain ⟨rfl, N12q, eh12⟩ := hQ12
          have N13 := Fr.app N0 N12q
          refine own_via (fun k => st12 _ k) ?_
          show own_Go p e below s _ _ (T12.setTop (mkF m 185 #[iv p0, iv p1, iv p2, iv 0, iv z1, iv z3, iv z5, iv ((p1 >>> ((24 : Int32) &&& 31)).toInt8.toInt32), iv (p2.toInt8.toInt32), rv b8, iv 0, iv 0, .unset] [(.int own_f1_0)]))
          refine own_via (fun k => XS.istore X12.here hx rfl (hb hby at_185) rfl (l' := #[iv p0, iv p1, iv p2, iv 0, iv z1, iv z3, iv z5, iv ((p1 >>> ((24 : Int32) &&& 31)).toInt8.toInt32), iv (p2.toInt8.toInt32), rv b8, iv 0, iv 0, iv own_f1_0]) rfl (XS.iload X12.here hx rfl (hb hby at_187) rfl  (XS.iload X12.here hx rfl (hb hby at_189) rfl  k))) ?_
          show own_Go p e below s _ _ (T12.setTop (mkF m 191 #[iv p0, iv p1, iv p2, iv 0, iv z1, iv z3, iv z5, iv ((p1 >>> ((24 : Int32) &&& 31)).toInt8.toInt32), iv (p2.toInt8.toInt32), rv b8, iv 0, iv 0, iv own_f1_0] [(.int 0), (.int own_f1_0)]))
          refine own_via (fun k => XS.icmpNo X12.here hx rfl (hb hby at_191) rfl (teq (own_law0 p0 hl7)).2 k) ?_
          show own_Go p e below s _ _ (T12.setTop (mkF m 194 #[iv p0, iv p1, iv p2, iv 0, iv z1, iv z3, iv z5, iv ((p1 >>> ((24 : Int32) &&& 31)).toInt8.toInt32), iv (p2.toInt8.toInt32), rv b8, iv 0, iv 0, iv own_f1_0] []))
          refine own_via (fun k => XS.iconst X12.here hx rfl (hb hby at_194) (XS.goto X12.here hx rfl (pc0 := 195) (pc' := 199) rfl (hb hby at_195) (by decide) (by decide) k)) ?_
          show own_Go p e below s _ _ (T12.setTop (mkF m 199 #[iv p0, iv p1, iv p2, iv 0, iv z1, iv z3, iv z5, iv ((p1 >>> ((24 : Int32) &&& 31)).toInt8.toInt32), iv (p2.toInt8.toInt32), rv b8, iv 0, iv 0, iv own_f1_0] [(.int 1)]))
          exact own_retN X12 hx hlk (t := .boolean) Bd.returns (by simp) (hb hby at_199) (Q := (Q0 Z p0 p1 p2 h0 n0)) ⟨rfl, N13⟩ (by decide) (by decide)
        · rw [hl7]
          show own_Go p e below s _ _ (s₁.setTop (mkF m 77 #[iv p0, iv p1, iv p2, iv 1, iv z1, iv z3, iv z5, iv ((p1 >>> ((24 : Int32) &&& 31)).toInt8.toInt32), iv (p2.toInt8.toInt32), .unset, .unset, .unset, .unset] [(.int 1)]))
          obtain ⟨T14, h14, k14, X14, e14, E14, A14, st14⟩ := newP X0 hx hZ (hw _ (List.mem_of_getElem? (i := 1) rfl)) e0 (g := (mkF m 77 #[iv p0, iv p1, iv p2, iv 1, iv z1, iv z3, iv z5, iv ((p1 >>> ((24 : Int32) &&& 31)).toInt8.toInt32), iv (p2.toInt8.toInt32), .unset, .unset, .unset, .unset] [(.int 1)])) rfl (hb hby at_77) rfl (by decide) (cap := 1) (by decide) (by decide) (by decide) (by decide)
          obtain ⟨b14, g14⟩ : ∃ z, z = h0.size := ⟨_, rfl⟩
          rw [← g14] at A14 st14
          refine own_via (fun k => st14 _ k) ?_
          show own_Go p e below s _ _ (T14.setTop (mkF m 79 #[iv p0, iv p1, iv p2, iv 1, iv z1, iv z3, iv z5, iv ((p1 >>> ((24 : Int32) &&& 31)).toInt8.toInt32), iv (p2.toInt8.toInt32), .unset, .unset, .unset, .unset] [(.ref b14)]))
          have g15 : n0 ≤ b14 := Nat.le_trans Z0 (Nat.le_of_eq g14.symm)
          have Z16 : n0 ≤ h14.size := Nat.le_trans Z0 E14.1
          have B17 : Arv Z h14 b14 k14 .byte (1 : Int32) [(.int 0)] (.int 0) := (Arv.new A14 (by decide)).pad (pad_rep [] (.int 0) 1)
          refine own_via (fun k => XS.astore X14.here hx rfl (hb hby at_79) rfl rfl (l' := #[iv p0, iv p1, iv p2, iv 1, iv z1, iv z3, iv z5, iv ((p1 >>> ((24 : Int32) &&& 31)).toInt8.toInt32), iv (p2.toInt8.toInt32), rv b14, .unset, .unset, .unset]) rfl (XS.iloadN X14.here hx rfl (hb hby at_81) rfl  k)) ?_
          show own_Go p e below s _ _ (T14.setTop (mkF m 82 #[iv p0, iv p1, iv p2, iv 1, iv z1, iv z3, iv z5, iv ((p1 >>> ((24 : Int32) &&& 31)).toInt8.toInt32), iv (p2.toInt8.toInt32), rv b14, .unset, .unset, .unset] [(.int 1)]))
          refine own_via (fun k => XS.ifNo X14.here hx rfl (hb hby at_82) rfl (by decide) k) ?_
          show own_Go p e below s _ _ (T14.setTop (mkF m 85 #[iv p0, iv p1, iv p2, iv 1, iv z1, iv z3, iv z5, iv ((p1 >>> ((24 : Int32) &&& 31)).toInt8.toInt32), iv (p2.toInt8.toInt32), rv b14, .unset, .unset, .unset] []))
          refine own_via (fun k => XS.aload X14.here hx rfl (hb hby at_85) rfl rfl  (XS.iconst X14.here hx rfl (hb hby at_87) (XS.iload X14.here hx rfl (hb hby at_88) rfl  k))) ?_
          show own_Go p e below s _ _ (T14.setTop (mkF m 90 #[iv p0, iv p1, iv p2, iv 1, iv z1, iv z3, iv z5, iv ((p1 >>> ((24 : Int32) &&& 31)).toInt8.toInt32), iv (p2.toInt8.toInt32), rv b14, .unset, .unset, .unset] [(.int z1), (.int 0), (.ref b14)]))
          obtain ⟨cl18, Ar18, q18, S18, NN18, H18, G18⟩ := id B17
          have hin18 : ¬ ((0 : Int32) < 0 ∨ cl18.slots.size ≤ ((0 : Int32)).toNatClampNeg) := inb_of S18 ⟨by decide, by decide⟩
          obtain ⟨T18, h18, X18, e18, W18, st18⟩ := stB X14 hx hZ e14 Ar18 (j := (0 : Int32)) hin18 (g := (mkF m 90 #[iv p0, iv p1, iv p2, iv 1, iv z1, iv z3, iv z5, iv ((p1 >>> ((24 : Int32) &&& 31)).toInt8.toInt32), iv (p2.toInt8.toInt32), rv b14, .unset, .unset, .unset] [(.int z1), (.int 0), (.ref b14)])) rfl rfl (hb hby at_90)
          refine own_via (fun k => st18 _ k) ?_
          show own_Go p e below s _ _ (T18.setTop (mkF m 91 #[iv p0, iv p1, iv p2, iv 1, iv z1, iv z3, iv z5, iv ((p1 >>> ((24 : Int32) &&& 31)).toInt8.toInt32), iv (p2.toInt8.toInt32), rv b14, .unset, .unset, .unset] []))
          have B19 : Arv Z h18 b14 k14 .byte (1 : Int32) [(.int (nar .byte z1))] (.int 0) := Arv.set Ar18 q18 S18 NN18 H18 G18 (fits_nar_byte _) W18 0 rfl (Nat.le_of_ble_eq_true rfl)
          have N20 := Fr.snoc X18 N0 g15
          have Z21 : n0 ≤ h18.size := Nat.le_trans Z16 (Keep.of_wr W18).1
          refine own_via (fun k => XS.iloadN X18.here hx rfl (hb hby at_91) rfl  (XS.iconst X18.here hx rfl (hb hby at_92) k)) ?_
          show own_Go p e below s _ _ (T18.setTop (mkF m 93 #[iv p0, iv p1, iv p2, iv 1, iv z1, iv z3, iv z5, iv ((p1 >>> ((24 : Int32) &&& 31)).toInt8.toInt32), iv (p2.toInt8.toInt32), rv b14, .unset, .unset, .unset] [(.int 1), (.int 1)]))
          refine own_via (fun k => XS.icmpYes X18.here hx rfl (pc0 := 93) (pc' := 102) rfl (hb hby at_93) rfl (by decide) (by decide) (by decide) k) ?_
          show own_Go p e below s _ _ (T18.setTop (mkF m 102 #[iv p0, iv p1, iv p2, iv 1, iv z1, iv z3, iv z5, iv ((p1 >>> ((24 : Int32) &&& 31)).toInt8.toInt32), iv (p2.toInt8.toInt32), rv b14, .unset, .unset, .unset] []))
          refine own_via (fun k => XS.iloadN X18.here hx rfl (hb hby at_102) rfl  (XS.iconst X18.here hx rfl (hb hby at_103) k)) ?_
          show own_Go p e below s _ _ (T18.setTop (mkF m 104 #[iv p0, iv p1, iv p2, iv 1, iv z1, iv z3, iv z5, iv ((p1 >>> ((24 : Int32) &&& 31)).toInt8.toInt32), iv (p2.toInt8.toInt32), rv b14, .unset, .unset, .unset] [(.int 2), (.int 1)]))
          refine own_via (fun k => XS.icmpYes X18.here hx rfl (pc0 := 104) (pc' := 113) rfl (hb hby at_104) rfl (by decide) (by decide) (by decide) k) ?_
          show own_Go p e below s _ _ (T18.setTop (mkF m 113 #[iv p0, iv p1, iv p2, iv 1, iv z1, iv z3, iv z5, iv ((p1 >>> ((24 : Int32) &&& 31)).toInt8.toInt32), iv (p2.toInt8.toInt32), rv b14, .unset, .unset, .unset] []))
          refine own_via (fun k => XS.iloadN X18.here hx rfl (hb hby at_113) rfl  (XS.iconst X18.here hx rfl (hb hby at_114) k)) ?_
          show own_Go p e below s _ _ (T18.setTop (mkF m 115 #[iv p0, iv p1, iv p2, iv 1, iv z1, iv z3, iv z5, iv ((p1 >>> ((24 : Int32) &&& 31)).toInt8.toInt32), iv (p2.toInt8.toInt32), rv b14, .unset, .unset, .unset] [(.int 3), (.int 1)]))
          refine own_via (fun k => XS.icmpYes X18.here hx rfl (pc0 := 115) (pc' := 124) rfl (hb hby at_115) rfl (by decide) (by decide) (by decide) k) ?_
          show own_Go p e below s _ _ (T18.setTop (mkF m 124 #[iv p0, iv p1, iv p2, iv 1, iv z1, iv z3, iv z5, iv ((p1 >>> ((24 : Int32) &&& 31)).toInt8.toInt32), iv (p2.toInt8.toInt32), rv b14, .unset, .unset, .unset] []))
          refine own_via (fun k => XS.iloadN X18.here hx rfl (hb hby at_124) rfl  (XS.iconst X18.here hx rfl (hb hby at_125) k)) ?_
          show own_Go p e below s _ _ (T18.setTop (mkF m 126 #[iv p0, iv p1, iv p2, iv 1, iv z1, iv z3, iv z5, iv ((p1 >>> ((24 : Int32) &&& 31)).toInt8.toInt32), iv (p2.toInt8.toInt32), rv b14, .unset, .unset, .unset] [(.int 4), (.int 1)]))
          refine own_via (fun k => XS.icmpYes X18.here hx rfl (pc0 := 126) (pc' := 135) rfl (hb hby at_126) rfl (by decide) (by decide) (by decide) k) ?_
          show own_Go p e below s _ _ (T18.setTop (mkF m 135 #[iv p0, iv p1, iv p2, iv 1, iv z1, iv z3, iv z5, iv ((p1 >>> ((24 : Int32) &&& 31)).toInt8.toInt32), iv (p2.toInt8.toInt32), rv b14, .unset, .unset, .unset] []))
          refine own_via (fun k => XS.iloadN X18.here hx rfl (hb hby at_135) rfl  (XS.iconst X18.here hx rfl (hb hby at_136) k)) ?_
          show own_Go p e below s _ _ (T18.setTop (mkF m 137 #[iv p0, iv p1, iv p2, iv 1, iv z1, iv z3, iv z5, iv ((p1 >>> ((24 : Int32) &&& 31)).toInt8.toInt32), iv (p2.toInt8.toInt32), rv b14, .unset, .unset, .unset] [(.int 3), (.int 1)]))
          refine own_via (fun k => XS.icmpYes X18.here hx rfl (pc0 := 137) (pc' := 165) rfl (hb hby at_137) rfl (by decide) (by decide) (by decide) k) ?_
          show own_Go p e below s _ _ (T18.setTop (mkF m 165 #[iv p0, iv p1, iv p2, iv 1, iv z1, iv z3, iv z5, iv ((p1 >>> ((24 : Int32) &&& 31)).toInt8.toInt32), iv (p2.toInt8.toInt32), rv b14, .unset, .unset, .unset] []))
          refine own_via (fun k => XS.iconst X18.here hx rfl (hb hby at_165) (XS.istore X18.here hx rfl (hb hby at_166) rfl (l' := #[iv p0, iv p1, iv p2, iv 1, iv z1, iv z3, iv z5, iv ((p1 >>> ((24 : Int32) &&& 31)).toInt8.toInt32), iv (p2.toInt8.toInt32), rv b14, iv 0, .unset, .unset]) rfl (XS.iload X18.here hx rfl (hb hby at_168) rfl  k))) ?_
          show own_Go p e below s _ _ (T18.setTop (mkF m 170 #[iv p0, iv p1, iv p2, iv 1, iv z1, iv z3, iv z5, iv ((p1 >>> ((24 : Int32) &&& 31)).toInt8.toInt32), iv (p2.toInt8.toInt32), rv b14, iv 0, .unset, .unset] [(.int 0)]))
          refine own_via (fun k => XS.ifYes X18.here hx rfl (pc0 := 170) (pc' := 177) rfl (hb hby at_170) rfl (by decide) (by decide) (by decide) k) ?_
          show own_Go p e below s _ _ (T18.setTop (mkF m 177 #[iv p0, iv p1, iv p2, iv 1, iv z1, iv z3, iv z5, iv ((p1 >>> ((24 : Int32) &&& 31)).toInt8.toInt32), iv (p2.toInt8.toInt32), rv b14, iv 0, .unset, .unset] []))
          refine own_via (fun k => XS.iconst X18.here hx rfl (hb hby at_177) (XS.istore X18.here hx rfl (hb hby at_178) rfl (l' := #[iv p0, iv p1, iv p2, iv 1, iv z1, iv z3, iv z5, iv ((p1 >>> ((24 : Int32) &&& 31)).toInt8.toInt32), iv (p2.toInt8.toInt32), rv b14, iv 0, iv 0, .unset]) rfl (XS.aload X18.here hx rfl (hb hby at_180) rfl rfl  k))) ?_
          show own_Go p e below s _ _ (T18.setTop (mkF m 182 #[iv p0, iv p1, iv p2, iv 1, iv z1, iv z3, iv z5, iv ((p1 >>> ((24 : Int32) &&& 31)).toInt8.toInt32), iv (p2.toInt8.toInt32), rv b14, iv 0, iv 0, .unset] [(.ref b14)]))
          obtain ⟨_, _, ⟨T22, L22, k22, n22⟩, -, X22, ⟨Lc22, hQ22, l22, y22, z22⟩, st22⟩ := Jvm.LawKit.callS X18 hx (y := (⟨"com/example/dani/dani/formats/DecodingReader", "utf8ByteOrderMark", "([B)I"⟩ : MethodName)) hown (mvT hZ (hw _ (List.mem_of_getElem? (i := 2) rfl))) (mvT hZ (hw _ (List.mem_of_getElem? (i := 3) rfl))) (mvT hZ (hw _ (List.mem_of_getElem? (i := 4) rfl))) (mvT hZ (hw _ (List.mem_of_getElem? (i := 5) rfl))) (by decide) (backOf (W := 0) (rm1_1 l Z aw hw [] b14 k14 (nar .byte z1) h18 n0 Z21 B19) hZ (hw _ (List.mem_of_getElem? (i := 5) rfl)) (hw _ (List.mem_of_getElem? (i := 4) rfl)) (by decide) (by decide)) (g := (mkF m 182 #[iv p0, iv p1, iv p2, iv 1, iv z1, iv z3, iv z5, iv ((p1 >>> ((24 : Int32) &&& 31)).toInt8.toInt32), iv (p2.toInt8.toInt32), rv b14, iv 0, iv 0, .unset] [(.ref b14)])) rfl (by rw [hml]; rfl) (argsL := [(.ref b14)]) (rest := []) (lenOf pd_0 rfl) rfl (by show 2 * 0 + _ ≤ _; exact Nat.le_of_eq rfl) (hb hby at_182) (fun _ _ => ⟨rfl, e18, (by decide : 1 + 0 ≤ _), (by decide : 1 + 0 ≤ _)⟩)
          dsimp only [Pt.U, Pt.locs, Pt.cells, Pt.slots] at X22 l22 y22 z22 st22 hQ22
          subst l22 y22 z22
          obtain ⟨rfl, N22q, eh22⟩ := hQ22
          have N23 := Fr.app N20 N22q
          refine own_via (fun k => st22 _ k) ?_
          show own_Go p e below s _ _ (T22.setTop (mkF m 185 #[iv p0, iv p1, iv p2, iv 1, iv z1, iv z3, iv z5, iv ((p1 >>> ((24 : Int32) &&& 31)).toInt8.toInt32), iv (p2.toInt8.toInt32), rv b14, iv 0, iv 0, .unset] [(.int own_f1_1)]))
          refine own_via (fun k => XS.istore X22.here hx rfl (hb hby at_185) rfl (l' := #[iv p0, iv p1, iv p2, iv 1, iv z1, iv z3, iv z5, iv ((p1 >>> ((24 : Int32) &&& 31)).toInt8.toInt32), iv (p2.toInt8.toInt32), rv b14, iv 0, iv 0, iv own_f1_1]) rfl (XS.iload X22.here hx rfl (hb hby at_187) rfl  (XS.iload X22.here hx rfl (hb hby at_189) rfl  k))) ?_
          show own_Go p e below s _ _ (T22.setTop (mkF m 191 #[iv p0, iv p1, iv p2, iv 1, iv z1, iv z3, iv z5, iv ((p1 >>> ((24 : Int32) &&& 31)).toInt8.toInt32), iv (p2.toInt8.toInt32), rv b14, iv 0, iv 0, iv own_f1_1] [(.int 0), (.int own_f1_1)]))
          refine own_via (fun k => XS.icmpNo X22.here hx rfl (hb hby at_191) rfl (teq (own_law1 p0 hl7)).2 k) ?_
          show own_Go p e below s _ _ (T22.setTop (mkF m 194 #[iv p0, iv p1, iv p2, iv 1, iv z1, iv z3, iv z5, iv ((p1 >>> ((24 : Int32) &&& 31)).toInt8.toInt32), iv (p2.toInt8.toInt32), rv b14, iv 0, iv 0, iv own_f1_1] []))
          refine own_via (fun k => XS.iconst X22.here hx rfl (hb hby at_194) (XS.goto X22.here hx rfl (pc0 := 195) (pc' := 199) rfl (hb hby at_195) (by decide) (by decide) k)) ?_
          show own_Go p e below s _ _ (T22.setTop (mkF m 199 #[iv p0, iv p1, iv p2, iv 1, iv z1, iv z3, iv z5, iv ((p1 >>> ((24 : Int32) &&& 31)).toInt8.toInt32), iv (p2.toInt8.toInt32), rv b14, iv 0, iv 0, iv own_f1_1] [(.int 1)]))
          exact own_retN X22 hx hlk (t := .boolean) Bd.returns (by simp) (hb hby at_199) (Q := (Q0 Z p0 p1 p2 h0 n0)) ⟨rfl, N23⟩ (by decide) (by decide)
        · rw [hl7]
          show own_Go p e below s _ _ (s₁.setTop (mkF m 77 #[iv p0, iv p1, iv p2, iv 2, iv z1, iv z3, iv z5, iv ((p1 >>> ((24 : Int32) &&& 31)).toInt8.toInt32), iv (p2.toInt8.toInt32), .unset, .unset, .unset, .unset] [(.int 2)]))
          obtain ⟨T24, h24, k24, X24, e24, E24, A24, st24⟩ := newP X0 hx hZ (hw _ (List.mem_of_getElem? (i := 1) rfl)) e0 (g := (mkF m 77 #[iv p0, iv p1, iv p2, iv 2, iv z1, iv z3, iv z5, iv ((p1 >>> ((24 : Int32) &&& 31)).toInt8.toInt32), iv (p2.toInt8.toInt32), .unset, .unset, .unset, .unset] [(.int 2)])) rfl (hb hby at_77) rfl (by decide) (cap := 2) (by decide) (by decide) (by decide) (by decide)
          obtain ⟨b24, g24⟩ : ∃ z, z = h0.size := ⟨_, rfl⟩
          rw [← g24] at A24 st24
          refine own_via (fun k => st24 _ k) ?_
          show own_Go p e below s _ _ (T24.setTop (mkF m 79 #[iv p0, iv p1, iv p2, iv 2, iv z1, iv z3, iv z5, iv ((p1 >>> ((24 : Int32) &&& 31)).toInt8.toInt32), iv (p2.toInt8.toInt32), .unset, .unset, .unset, .unset] [(.ref b24)]))
          have g25 : n0 ≤ b24 := Nat.le_trans Z0 (Nat.le_of_eq g24.symm)
          have Z26 : n0 ≤ h24.size := Nat.le_trans Z0 E24.1
          have B27 : Arv Z h24 b24 k24 .byte (2 : Int32) [(.int 0), (.int 0)] (.int 0) := (Arv.new A24 (by decide)).pad (pad_rep [] (.int 0) 2)
          refine own_via (fun k => XS.astore X24.here hx rfl (hb hby at_79) rfl rfl (l' := #[iv p0, iv p1, iv p2, iv 2, iv z1, iv z3, iv z5, iv ((p1 >>> ((24 : Int32) &&& 31)).toInt8.toInt32), iv (p2.toInt8.toInt32), rv b24, .unset, .unset, .unset]) rfl (XS.iloadN X24.here hx rfl (hb hby at_81) rfl  k)) ?_
          show own_Go p e below s _ _ (T24.setTop (mkF m 82 #[iv p0, iv p1, iv p2, iv 2, iv z1, iv z3, iv z5, iv ((p1 >>> ((24 : Int32) &&& 31)).toInt8.toInt32), iv (p2.toInt8.toInt32), rv b24, .unset, .unset, .unset] [(.int 2)]))
          refine own_via (fun k => XS.ifNo X24.here hx rfl (hb hby at_82) rfl (by decide) k) ?_
          show own_Go p e below s _ _ (T24.setTop (mkF m 85 #[iv p0, iv p1, iv p2, iv 2, iv z1, iv z3, iv z5, iv ((p1 >>> ((24 : Int32) &&& 31)).toInt8.toInt32), iv (p2.toInt8.toInt32), rv b24, .unset, .unset, .unset] []))
          refine own_via (fun k => XS.aload X24.here hx rfl (hb hby at_85) rfl rfl  (XS.iconst X24.here hx rfl (hb hby at_87) (XS.iload X24.here hx rfl (hb hby at_88) rfl  k))) ?_
          show own_Go p e below s _ _ (T24.setTop (mkF m 90 #[iv p0, iv p1, iv p2, iv 2, iv z1, iv z3, iv z5, iv ((p1 >>> ((24 : Int32) &&& 31)).toInt8.toInt32), iv (p2.toInt8.toInt32), rv b24, .unset, .unset, .unset] [(.int z1), (.int 0), (.ref b24)]))
          obtain ⟨cl28, Ar28, q28, S28, NN28, H28, G28⟩ := id B27
          have hin28 : ¬ ((0 : Int32) < 0 ∨ cl28.slots.size ≤ ((0 : Int32)).toNatClampNeg) := inb_of S28 ⟨by decide, by decide⟩
          obtain ⟨T28, h28, X28, e28, W28, st28⟩ := stB X24 hx hZ e24 Ar28 (j := (0 : Int32)) hin28 (g := (mkF m 90 #[iv p0, iv p1, iv p2, iv 2, iv z1, iv z3, iv z5, iv ((p1 >>> ((24 : Int32) &&& 31)).toInt8.toInt32), iv (p2.toInt8.toInt32), rv b24, .unset, .unset, .unset] [(.int z1), (.int 0), (.ref b24)])) rfl rfl (hb hby at_90)
          refine own_via (fun k => st28 _ k) ?_
          show own_Go p e below s _ _ (T28.setTop (mkF m 91 #[iv p0, iv p1, iv p2, iv 2, iv z1, iv z3, iv z5, iv ((p1 >>> ((24 : Int32) &&& 31)).toInt8.toInt32), iv (p2.toInt8.toInt32), rv b24, .unset, .unset, .unset] []))
          have B29 : Arv Z h28 b24 k24 .byte (2 : Int32) [(.int (nar .byte z1)), (.int 0)] (.int 0) := Arv.set Ar28 q28 S28 NN28 H28 G28 (fits_nar_byte _) W28 0 rfl (Nat.le_of_ble_eq_true rfl)
          have N30 := Fr.snoc X28 N0 g25
          have Z31 : n0 ≤ h28.size := Nat.le_trans Z26 (Keep.of_wr W28).1
          refine own_via (fun k => XS.iloadN X28.here hx rfl (hb hby at_91) rfl  (XS.iconst X28.here hx rfl (hb hby at_92) k)) ?_
          show own_Go p e below s _ _ (T28.setTop (mkF m 93 #[iv p0, iv p1, iv p2, iv 2, iv z1, iv z3, iv z5, iv ((p1 >>> ((24 : Int32) &&& 31)).toInt8.toInt32), iv (p2.toInt8.toInt32), rv b24, .unset, .unset, .unset] [(.int 1), (.int 2)]))
          refine own_via (fun k => XS.icmpNo X28.here hx rfl (hb hby at_93) rfl (by decide) k) ?_
          show own_Go p e below s _ _ (T28.setTop (mkF m 96 #[iv p0, iv p1, iv p2, iv 2, iv z1, iv z3, iv z5, iv ((p1 >>> ((24 : Int32) &&& 31)).toInt8.toInt32), iv (p2.toInt8.toInt32), rv b24, .unset, .unset, .unset] []))
          refine own_via (fun k => XS.aload X28.here hx rfl (hb hby at_96) rfl rfl  (XS.iconst X28.here hx rfl (hb hby at_98) (XS.iload X28.here hx rfl (hb hby at_99) rfl  k))) ?_
          show own_Go p e below s _ _ (T28.setTop (mkF m 101 #[iv p0, iv p1, iv p2, iv 2, iv z1, iv z3, iv z5, iv ((p1 >>> ((24 : Int32) &&& 31)).toInt8.toInt32), iv (p2.toInt8.toInt32), rv b24, .unset, .unset, .unset] [(.int z3), (.int 1), (.ref b24)]))
          obtain ⟨cl32, Ar32, q32, S32, NN32, H32, G32⟩ := id B29
          have hin32 : ¬ ((1 : Int32) < 0 ∨ cl32.slots.size ≤ ((1 : Int32)).toNatClampNeg) := inb_of S32 ⟨by decide, by decide⟩
          obtain ⟨T32, h32, X32, e32, W32, st32⟩ := stB X28 hx hZ e28 Ar32 (j := (1 : Int32)) hin32 (g := (mkF m 101 #[iv p0, iv p1, iv p2, iv 2, iv z1, iv z3, iv z5, iv ((p1 >>> ((24 : Int32) &&& 31)).toInt8.toInt32), iv (p2.toInt8.toInt32), rv b24, .unset, .unset, .unset] [(.int z3), (.int 1), (.ref b24)])) rfl rfl (hb hby at_101)
          refine own_via (fun k => st32 _ k) ?_
          show own_Go p e below s _ _ (T32.setTop (mkF m 102 #[iv p0, iv p1, iv p2, iv 2, iv z1, iv z3, iv z5, iv ((p1 >>> ((24 : Int32) &&& 31)).toInt8.toInt32), iv (p2.toInt8.toInt32), rv b24, .unset, .unset, .unset] []))
          have B33 : Arv Z h32 b24 k24 .byte (2 : Int32) [(.int (nar .byte z1)), (.int (nar .byte z3))] (.int 0) := Arv.set Ar32 q32 S32 NN32 H32 G32 (fits_nar_byte _) W32 1 rfl (Nat.le_of_ble_eq_true rfl)
          have N34 := Fr.snoc X32 N30 g25
          have Z35 : n0 ≤ h32.size := Nat.le_trans Z31 (Keep.of_wr W32).1
          refine own_via (fun k => XS.iloadN X32.here hx rfl (hb hby at_102) rfl  (XS.iconst X32.here hx rfl (hb hby at_103) k)) ?_
          show own_Go p e below s _ _ (T32.setTop (mkF m 104 #[iv p0, iv p1, iv p2, iv 2, iv z1, iv z3, iv z5, iv ((p1 >>> ((24 : Int32) &&& 31)).toInt8.toInt32), iv (p2.toInt8.toInt32), rv b24, .unset, .unset, .unset] [(.int 2), (.int 2)]))
          refine own_via (fun k => XS.icmpYes X32.here hx rfl (pc0 := 104) (pc' := 113) rfl (hb hby at_104) rfl (by decide) (by decide) (by decide) k) ?_
          show own_Go p e below s _ _ (T32.setTop (mkF m 113 #[iv p0, iv p1, iv p2, iv 2, iv z1, iv z3, iv z5, iv ((p1 >>> ((24 : Int32) &&& 31)).toInt8.toInt32), iv (p2.toInt8.toInt32), rv b24, .unset, .unset, .unset] []))
          refine own_via (fun k => XS.iloadN X32.here hx rfl (hb hby at_113) rfl  (XS.iconst X32.here hx rfl (hb hby at_114) k)) ?_
          show own_Go p e below s _ _ (T32.setTop (mkF m 115 #[iv p0, iv p1, iv p2, iv 2, iv z1, iv z3, iv z5, iv ((p1 >>> ((24 : Int32) &&& 31)).toInt8.toInt32), iv (p2.toInt8.toInt32), rv b24, .unset, .unset, .unset] [(.int 3), (.int 2)]))
          refine own_via (fun k => XS.icmpYes X32.here hx rfl (pc0 := 115) (pc' := 124) rfl (hb hby at_115) rfl (by decide) (by decide) (by decide) k) ?_
          show own_Go p e below s _ _ (T32.setTop (mkF m 124 #[iv p0, iv p1, iv p2, iv 2, iv z1, iv z3, iv z5, iv ((p1 >>> ((24 : Int32) &&& 31)).toInt8.toInt32), iv (p2.toInt8.toInt32), rv b24, .unset, .unset, .unset] []))
          refine own_via (fun k => XS.iloadN X32.here hx rfl (hb hby at_124) rfl  (XS.iconst X32.here hx rfl (hb hby at_125) k)) ?_
          show own_Go p e below s _ _ (T32.setTop (mkF m 126 #[iv p0, iv p1, iv p2, iv 2, iv z1, iv z3, iv z5, iv ((p1 >>> ((24 : Int32) &&& 31)).toInt8.toInt32), iv (p2.toInt8.toInt32), rv b24, .unset, .unset, .unset] [(.int 4), (.int 2)]))
          refine own_via (fun k => XS.icmpYes X32.here hx rfl (pc0 := 126) (pc' := 135) rfl (hb hby at_126) rfl (by decide) (by decide) (by decide) k) ?_
          show own_Go p e below s _ _ (T32.setTop (mkF m 135 #[iv p0, iv p1, iv p2, iv 2, iv z1, iv z3, iv z5, iv ((p1 >>> ((24 : Int32) &&& 31)).toInt8.toInt32), iv (p2.toInt8.toInt32), rv b24, .unset, .unset, .unset] []))
          refine own_via (fun k => XS.iloadN X32.here hx rfl (hb hby at_135) rfl  (XS.iconst X32.here hx rfl (hb hby at_136) k)) ?_
          show own_Go p e below s _ _ (T32.setTop (mkF m 137 #[iv p0, iv p1, iv p2, iv 2, iv z1, iv z3, iv z5, iv ((p1 >>> ((24 : Int32) &&& 31)).toInt8.toInt32), iv (p2.toInt8.toInt32), rv b24, .unset, .unset, .unset] [(.int 3), (.int 2)]))
          refine own_via (fun k => XS.icmpYes X32.here hx rfl (pc0 := 137) (pc' := 165) rfl (hb hby at_137) rfl (by decide) (by decide) (by decide) k) ?_
          show own_Go p e below s _ _ (T32.setTop (mkF m 165 #[iv p0, iv p1, iv p2, iv 2, iv z1, iv z3, iv z5, iv ((p1 >>> ((24 : Int32) &&& 31)).toInt8.toInt32), iv (p2.toInt8.toInt32), rv b24, .unset, .unset, .unset] []))
          refine own_via (fun k => XS.iconst X32.here hx rfl (hb hby at_165) (XS.istore X32.here hx rfl (hb hby at_166) rfl (l' := #[iv p0, iv p1, iv p2, iv 2, iv z1, iv z3, iv z5, iv ((p1 >>> ((24 : Int32) &&& 31)).toInt8.toInt32), iv (p2.toInt8.toInt32), rv b24, iv 0, .unset, .unset]) rfl (XS.iload X32.here hx rfl (hb hby at_168) rfl  k))) ?_
          show own_Go p e below s _ _ (T32.setTop (mkF m 170 #[iv p0, iv p1, iv p2, iv 2, iv z1, iv z3, iv z5, iv ((p1 >>> ((24 : Int32) &&& 31)).toInt8.toInt32), iv (p2.toInt8.toInt32), rv b24, iv 0, .unset, .unset] [(.int 0)]))
          refine own_via (fun k => XS.ifYes X32.here hx rfl (pc0 := 170) (pc' := 177) rfl (hb hby at_170) rfl (by decide) (by decide) (by decide) k) ?_
          show own_Go p e below s _ _ (T32.setTop (mkF m 177 #[iv p0, iv p1, iv p2, iv 2, iv z1, iv z3, iv z5, iv ((p1 >>> ((24 : Int32) &&& 31)).toInt8.toInt32), iv (p2.toInt8.toInt32), rv b24, iv 0, .unset, .unset] []))
          refine own_via (fun k => XS.iconst X32.here hx rfl (hb hby at_177) (XS.istore X32.here hx rfl (hb hby at_178) rfl (l' := #[iv p0, iv p1, iv p2, iv 2, iv z1, iv z3, iv z5, iv ((p1 >>> ((24 : Int32) &&& 31)).toInt8.toInt32), iv (p2.toInt8.toInt32), rv b24, iv 0, iv 0, .unset]) rfl (XS.aload X32.here hx rfl (hb hby at_180) rfl rfl  k))) ?_
          show own_Go p e below s _ _ (T32.setTop (mkF m 182 #[iv p0, iv p1, iv p2, iv 2, iv z1, iv z3, iv z5, iv ((p1 >>> ((24 : Int32) &&& 31)).toInt8.toInt32), iv (p2.toInt8.toInt32), rv b24, iv 0, iv 0, .unset] [(.ref b24)]))
          obtain ⟨_, _, ⟨T36, L36, k36, n36⟩, -, X36, ⟨Lc36, hQ36, l36, y36, z36⟩, st36⟩ := Jvm.LawKit.callS X32 hx (y := (⟨"com/example/dani/dani/formats/DecodingReader", "utf8ByteOrderMark", "([B)I"⟩ : MethodName)) hown (mvT hZ (hw _ (List.mem_of_getElem? (i := 2) rfl))) (mvT hZ (hw _ (List.mem_of_getElem? (i := 3) rfl))) (mvT hZ (hw _ (List.mem_of_getElem? (i := 4) rfl))) (mvT hZ (hw _ (List.mem_of_getElem? (i := 5) rfl))) (by decide) (backOf (W := 0) (rm1_2 l Z aw hw [] b24 k24 (nar .byte z1) (nar .byte z3) h32 n0 Z35 B33) hZ (hw _ (List.mem_of_getElem? (i := 5) rfl)) (hw _ (List.mem_of_getElem? (i := 4) rfl)) (by decide) (by decide)) (g := (mkF m 182 #[iv p0, iv p1, iv p2, iv 2, iv z1, iv z3, iv z5, iv ((p1 >>> ((24 : Int32) &&& 31)).toInt8.toInt32), iv (p2.toInt8.toInt32), rv b24, iv 0, iv 0, .unset] [(.ref b24)])) rfl (by rw [hml]; rfl) (argsL := [(.ref b24)]) (rest := []) (lenOf pd_0 rfl) rfl (by show 2 * 0 + _ ≤ _; exact Nat.le_of_eq rfl) (hb hby at_182) (fun _ _ => ⟨rfl, e32, (by decide : 1 + 0 ≤ _), (by decide : 2 + 0 ≤ _)⟩)
          dsimp only [Pt.U, Pt.locs, Pt.cells, Pt.slots] at X36 l36 y36 z36 st36 hQ36
          subst l36 y36 z36
          obtain ⟨rfl, N36q, eh36⟩ := hQ36
          have N37 := Fr.app N34 N36q
          refine own_via (fun k => st36 _ k) ?_
          show own_Go p e below s _ _ (T36.setTop (mkF m 185 #[iv p0, iv p1, iv p2, iv 2, iv z1, iv z3, iv z5, iv ((p1 >>> ((24 : Int32) &&& 31)).toInt8.toInt32), iv (p2.toInt8.toInt32), rv b24, iv 0, iv 0, .unset] [(.int own_f1_2)]))
          refine own_via (fun k => XS.istore X36.here hx rfl (hb hby at_185) rfl (l' := #[iv p0, iv p1, iv p2, iv 2, iv z1, iv z3, iv z5, iv ((p1 >>> ((24 : Int32) &&& 31)).toInt8.toInt32), iv (p2.toInt8.toInt32), rv b24, iv 0, iv 0, iv own_f1_2]) rfl (XS.iload X36.here hx rfl (hb hby at_187) rfl  (XS.iload X36.here hx rfl (hb hby at_189) rfl  k))) ?_
          show own_Go p e below s _ _ (T36.setTop (mkF m 191 #[iv p0, iv p1, iv p2, iv 2, iv z1, iv z3, iv z5, iv ((p1 >>> ((24 : Int32) &&& 31)).toInt8.toInt32), iv (p2.toInt8.toInt32), rv b24, iv 0, iv 0, iv own_f1_2] [(.int 0), (.int own_f1_2)]))
          refine own_via (fun k => XS.icmpNo X36.here hx rfl (hb hby at_191) rfl (teq (own_law2 p0 hl7)).2 k) ?_
          show own_Go p e below s _ _ (T36.setTop (mkF m 194 #[iv p0, iv p1, iv p2, iv 2, iv z1, iv z3, iv z5, iv ((p1 >>> ((24 : Int32) &&& 31)).toInt8.toInt32), iv (p2.toInt8.toInt32), rv b24, iv 0, iv 0, iv own_f1_2] []))
          refine own_via (fun k => XS.iconst X36.here hx rfl (hb hby at_194) (XS.goto X36.here hx rfl (pc0 := 195) (pc' := 199) rfl (hb hby at_195) (by decide) (by decide) k)) ?_
          show own_Go p e below s _ _ (T36.setTop (mkF m 199 #[iv p0, iv p1, iv p2, iv 2, iv z1, iv z3, iv z5, iv ((p1 >>> ((24 : Int32) &&& 31)).toInt8.toInt32), iv (p2.toInt8.toInt32), rv b24, iv 0, iv 0, iv own_f1_2] [(.int 1)]))
          exact own_retN X36 hx hlk (t := .boolean) Bd.returns (by simp) (hb hby at_199) (Q := (Q0 Z p0 p1 p2 h0 n0)) ⟨rfl, N37⟩ (by decide) (by decide)
        · rw [hl7]
          show own_Go p e below s _ _ (s₁.setTop (mkF m 77 #[iv p0, iv p1, iv p2, iv 3, iv z1, iv z3, iv z5, iv ((p1 >>> ((24 : Int32) &&& 31)).toInt8.toInt32), iv (p2.toInt8.toInt32), .unset, .unset, .unset, .unset] [(.int 3)]))
          obtain ⟨T38, h38, k38, X38, e38, E38, A38, st38⟩ := newP X0 hx hZ (hw _ (List.mem_of_getElem? (i := 1) rfl)) e0 (g := (mkF m 77 #[iv p0, iv p1, iv p2, iv 3, iv z1, iv z3, iv z5, iv ((p1 >>> ((24 : Int32) &&& 31)).toInt8.toInt32), iv (p2.toInt8.toInt32), .unset, .unset, .unset, .unset] [(.int 3)])) rfl (hb hby at_77) rfl (by decide) (cap := 3) (by decide) (by decide) (by decide) (by decide)
          obtain ⟨b38, g38⟩ : ∃ z, z = h0.size := ⟨_, rfl⟩
          rw [← g38] at A38 st38
          refine own_via (fun k => st38 _ k) ?_
          show own_Go p e below s _ _ (T38.setTop (mkF m 79 #[iv p0, iv p1, iv p2, iv 3, iv z1, iv z3, iv z5, iv ((p1 >>> ((24 : Int32) &&& 31)).toInt8.toInt32), iv (p2.toInt8.toInt32), .unset, .unset, .unset, .unset] [(.ref b38)]))
          have g39 : n0 ≤ b38 := Nat.le_trans Z0 (Nat.le_of_eq g38.symm)
          have Z40 : n0 ≤ h38.size := Nat.le_trans Z0 E38.1
          have B41 : Arv Z h38 b38 k38 .byte (3 : Int32) [(.int 0), (.int 0), (.int 0)] (.int 0) := (Arv.new A38 (by decide)).pad (pad_rep [] (.int 0) 3)
          refine own_via (fun k => XS.astore X38.here hx rfl (hb hby at_79) rfl rfl (l' := #[iv p0, iv p1, iv p2, iv 3, iv z1, iv z3, iv z5, iv ((p1 >>> ((24 : Int32) &&& 31)).toInt8.toInt32), iv (p2.toInt8.toInt32), rv b38, .unset, .unset, .unset]) rfl (XS.iloadN X38.here hx rfl (hb hby at_81) rfl  k)) ?_
          show own_Go p e below s _ _ (T38.setTop (mkF m 82 #[iv p0, iv p1, iv p2, iv 3, iv z1, iv z3, iv z5, iv ((p1 >>> ((24 : Int32) &&& 31)).toInt8.toInt32), iv (p2.toInt8.toInt32), rv b38, .unset, .unset, .unset] [(.int 3)]))
          refine own_via (fun k => XS.ifNo X38.here hx rfl (hb hby at_82) rfl (by decide) k) ?_
          show own_Go p e below s _ _ (T38.setTop (mkF m 85 #[iv p0, iv p1, iv p2, iv 3, iv z1, iv z3, iv z5, iv ((p1 >>> ((24 : Int32) &&& 31)).toInt8.toInt32), iv (p2.toInt8.toInt32), rv b38, .unset, .unset, .unset] []))
          refine own_via (fun k => XS.aload X38.here hx rfl (hb hby at_85) rfl rfl  (XS.iconst X38.here hx rfl (hb hby at_87) (XS.iload X38.here hx rfl (hb hby at_88) rfl  k))) ?_
          show own_Go p e below s _ _ (T38.setTop (mkF m 90 #[iv p0, iv p1, iv p2, iv 3, iv z1, iv z3, iv z5, iv ((p1 >>> ((24 : Int32) &&& 31)).toInt8.toInt32), iv (p2.toInt8.toInt32), rv b38, .unset, .unset, .unset] [(.int z1), (.int 0), (.ref b38)]))
          obtain ⟨cl42, Ar42, q42, S42, NN42, H42, G42⟩ := id B41
          have hin42 : ¬ ((0 : Int32) < 0 ∨ cl42.slots.size ≤ ((0 : Int32)).toNatClampNeg) := inb_of S42 ⟨by decide, by decide⟩
          obtain ⟨T42, h42, X42, e42, W42, st42⟩ := stB X38 hx hZ e38 Ar42 (j := (0 : Int32)) hin42 (g := (mkF m 90 #[iv p0, iv p1, iv p2, iv 3, iv z1, iv z3, iv z5, iv ((p1 >>> ((24 : Int32) &&& 31)).toInt8.toInt32), iv (p2.toInt8.toInt32), rv b38, .unset, .unset, .unset] [(.int z1), (.int 0), (.ref b38)])) rfl rfl (hb hby at_90)
          refine own_via (fun k => st42 _ k) ?_
          show own_Go p e below s _ _ (T42.setTop (mkF m 91 #[iv p0, iv p1, iv p2, iv 3, iv z1, iv z3, iv z5, iv ((p1 >>> ((24 : Int32) &&& 31)).toInt8.toInt32), iv (p2.toInt8.toInt32), rv b38, .unset, .unset, .unset] []))
          have B43 : Arv Z h42 b38 k38 .byte (3 : Int32) [(.int (nar .byte z1)), (.int 0), (.int 0)] (.int 0) := Arv.set Ar42 q42 S42 NN42 H42 G42 (fits_nar_byte _) W42 0 rfl (Nat.le_of_ble_eq_true rfl)
          have N44 := Fr.snoc X42 N0 g39
          have Z45 : n0 ≤ h42.size := Nat.le_trans Z40 (Keep.of_wr W42).1
          refine own_via (fun k => XS.iloadN X42.here hx rfl (hb hby at_91) rfl  (XS.iconst X42.here hx rfl (hb hby at_92) k)) ?_
          show own_Go p e below s _ _ (T42.setTop (mkF m 93 #[iv p0, iv p1, iv p2, iv 3, iv z1, iv z3, iv z5, iv ((p1 >>> ((24 : Int32) &&& 31)).toInt8.toInt32), iv (p2.toInt8.toInt32), rv b38, .unset, .unset, .unset] [(.int 1), (.int 3)]))
          refine own_via (fun k => XS.icmpNo X42.here hx rfl (hb hby at_93) rfl (by decide) k) ?_
          show own_Go p e below s _ _ (T42.setTop (mkF m 96 #[iv p0, iv p1, iv p2, iv 3, iv z1, iv z3, iv z5, iv ((p1 >>> ((24 : Int32) &&& 31)).toInt8.toInt32), iv (p2.toInt8.toInt32), rv b38, .unset, .unset, .unset] []))
          refine own_via (fun k => XS.aload X42.here hx rfl (hb hby at_96) rfl rfl  (XS.iconst X42.here hx rfl (hb hby at_98) (XS.iload X42.here hx rfl (hb hby at_99) rfl  k))) ?_
          show own_Go p e below s _ _ (T42.setTop (mkF m 101 #[iv p0, iv p1, iv p2, iv 3, iv z1, iv z3, iv z5, iv ((p1 >>> ((24 : Int32) &&& 31)).toInt8.toInt32), iv (p2.toInt8.toInt32), rv b38, .unset, .unset, .unset] [(.int z3), (.int 1), (.ref b38)]))
          obtain ⟨cl46, Ar46, q46, S46, NN46, H46, G46⟩ := id B43
          have hin46 : ¬ ((1 : Int32) < 0 ∨ cl46.slots.size ≤ ((1 : Int32)).toNatClampNeg) := inb_of S46 ⟨by decide, by decide⟩
          obtain ⟨T46, h46, X46, e46, W46, st46⟩ := stB X42 hx hZ e42 Ar46 (j := (1 : Int32)) hin46 (g := (mkF m 101 #[iv p0, iv p1, iv p2, iv 3, iv z1, iv z3, iv z5, iv ((p1 >>> ((24 : Int32) &&& 31)).toInt8.toInt32), iv (p2.toInt8.toInt32), rv b38, .unset, .unset, .unset] [(.int z3), (.int 1), (.ref b38)])) rfl rfl (hb hby at_101)
          refine own_via (fun k => st46 _ k) ?_
          show own_Go p e below s _ _ (T46.setTop (mkF m 102 #[iv p0, iv p1, iv p2, iv 3, iv z1, iv z3, iv z5, iv ((p1 >>> ((24 : Int32) &&& 31)).toInt8.toInt32), iv (p2.toInt8.toInt32), rv b38, .unset, .unset, .unset] []))
          have B47 : Arv Z h46 b38 k38 .byte (3 : Int32) [(.int (nar .byte z1)), (.int (nar .byte z3)), (.int 0)] (.int 0) := Arv.set Ar46 q46 S46 NN46 H46 G46 (fits_nar_byte _) W46 1 rfl (Nat.le_of_ble_eq_true rfl)
          have N48 := Fr.snoc X46 N44 g39
          have Z49 : n0 ≤ h46.size := Nat.le_trans Z45 (Keep.of_wr W46).1
          refine own_via (fun k => XS.iloadN X46.here hx rfl (hb hby at_102) rfl  (XS.iconst X46.here hx rfl (hb hby at_103) k)) ?_
          show own_Go p e below s _ _ (T46.setTop (mkF m 104 #[iv p0, iv p1, iv p2, iv 3, iv z1, iv z3, iv z5, iv ((p1 >>> ((24 : Int32) &&& 31)).toInt8.toInt32), iv (p2.toInt8.toInt32), rv b38, .unset, .unset, .unset] [(.int 2), (.int 3)]))
          refine own_via (fun k => XS.icmpNo X46.here hx rfl (hb hby at_104) rfl (by decide) k) ?_
          show own_Go p e below s _ _ (T46.setTop (mkF m 107 #[iv p0, iv p1, iv p2, iv 3, iv z1, iv z3, iv z5, iv ((p1 >>> ((24 : Int32) &&& 31)).toInt8.toInt32), iv (p2.toInt8.toInt32), rv b38, .unset, .unset, .unset] []))
          refine own_via (fun k => XS.aload X46.here hx rfl (hb hby at_107) rfl rfl  (XS.iconst X46.here hx rfl (hb hby at_109) (XS.iload X46.here hx rfl (hb hby at_110) rfl  k))) ?_
          show own_Go p e below s _ _ (T46.setTop (mkF m 112 #[iv p0, iv p1, iv p2, iv 3, iv z1, iv z3, iv z5, iv ((p1 >>> ((24 : Int32) &&& 31)).toInt8.toInt32), iv (p2.toInt8.toInt32), rv b38, .unset, .unset, .unset] [(.int z5), (.int 2), (.ref b38)]))
          obtain ⟨cl50, Ar50, q50, S50, NN50, H50, G50⟩ := id B47
          have hin50 : ¬ ((2 : Int32) < 0 ∨ cl50.slots.size ≤ ((2 : Int32)).toNatClampNeg) := inb_of S50 ⟨by decide, by decide⟩
          obtain ⟨T50, h50, X50, e50, W50, st50⟩ := stB X46 hx hZ e46 Ar50 (j := (2 : Int32)) hin50 (g := (mkF m 112 #[iv p0, iv p1, iv p2, iv 3, iv z1, iv z3, iv z5, iv ((p1 >>> ((24 : Int32) &&& 31)).toInt8.toInt32), iv (p2.toInt8.toInt32), rv b38, .unset, .unset, .unset] [(.int z5), (.int 2), (.ref b38)])) rfl rfl (hb hby at_112)
          refine own_via (fun k => st50 _ k) ?_
          show own_Go p e below s _ _ (T50.setTop (mkF m 113 #[iv p0, iv p1, iv p2, iv 3, iv z1, iv z3, iv z5, iv ((p1 >>> ((24 : Int32) &&& 31)).toInt8.toInt32), iv (p2.toInt8.toInt32), rv b38, .unset, .unset, .unset] []))
          have B51 : Arv Z h50 b38 k38 .byte (3 : Int32) [(.int (nar .byte z1)), (.int (nar .byte z3)), (.int (nar .byte z5))] (.int 0) := Arv.set Ar50 q50 S50 NN50 H50 G50 (fits_nar_byte _) W50 2 rfl (Nat.le_of_ble_eq_true rfl)
          have N52 := Fr.snoc X50 N48 g39
          have Z53 : n0 ≤ h50.size := Nat.le_trans Z49 (Keep.of_wr W50).1
          refine own_via (fun k => XS.iloadN X50.here hx rfl (hb hby at_113) rfl  (XS.iconst X50.here hx rfl (hb hby at_114) k)) ?_
          show own_Go p e below s _ _ (T50.setTop (mkF m 115 #[iv p0, iv p1, iv p2, iv 3, iv z1, iv z3, iv z5, iv ((p1 >>> ((24 : Int32) &&& 31)).toInt8.toInt32), iv (p2.toInt8.toInt32), rv b38, .unset, .unset, .unset] [(.int 3), (.int 3)]))
          refine own_via (fun k => XS.icmpYes X50.here hx rfl (pc0 := 115) (pc' := 124) rfl (hb hby at_115) rfl (by decide) (by decide) (by decide) k) ?_
          show own_Go p e below s _ _ (T50.setTop (mkF m 124 #[iv p0, iv p1, iv p2, iv 3, iv z1, iv z3, iv z5, iv ((p1 >>> ((24 : Int32) &&& 31)).toInt8.toInt32), iv (p2.toInt8.toInt32), rv b38, .unset, .unset, .unset] []))
          refine own_via (fun k => XS.iloadN X50.here hx rfl (hb hby at_124) rfl  (XS.iconst X50.here hx rfl (hb hby at_125) k)) ?_
          show own_Go p e below s _ _ (T50.setTop (mkF m 126 #[iv p0, iv p1, iv p2, iv 3, iv z1, iv z3, iv z5, iv ((p1 >>> ((24 : Int32) &&& 31)).toInt8.toInt32), iv (p2.toInt8.toInt32), rv b38, .unset, .unset, .unset] [(.int 4), (.int 3)]))
          refine own_via (fun k => XS.icmpYes X50.here hx rfl (pc0 := 126) (pc' := 135) rfl (hb hby at_126) rfl (by decide) (by decide) (by decide) k) ?_
          show own_Go p e below s _ _ (T50.setTop (mkF m 135 #[iv p0, iv p1, iv p2, iv 3, iv z1, iv z3, iv z5, iv ((p1 >>> ((24 : Int32) &&& 31)).toInt8.toInt32), iv (p2.toInt8.toInt32), rv b38, .unset, .unset, .unset] []))
          refine own_via (fun k => XS.iloadN X50.here hx rfl (hb hby at_135) rfl  (XS.iconst X50.here hx rfl (hb hby at_136) k)) ?_
          show own_Go p e below s _ _ (T50.setTop (mkF m 137 #[iv p0, iv p1, iv p2, iv 3, iv z1, iv z3, iv z5, iv ((p1 >>> ((24 : Int32) &&& 31)).toInt8.toInt32), iv (p2.toInt8.toInt32), rv b38, .unset, .unset, .unset] [(.int 3), (.int 3)]))
          refine own_via (fun k => XS.icmpNo X50.here hx rfl (hb hby at_137) rfl (by decide) k) ?_
          show own_Go p e below s _ _ (T50.setTop (mkF m 140 #[iv p0, iv p1, iv p2, iv 3, iv z1, iv z3, iv z5, iv ((p1 >>> ((24 : Int32) &&& 31)).toInt8.toInt32), iv (p2.toInt8.toInt32), rv b38, .unset, .unset, .unset] []))
          refine own_via (fun k => XS.iload X50.here hx rfl (hb hby at_140) rfl  (XS.bipush X50.here hx rfl (hb hby at_142) k)) ?_
          show own_Go p e below s _ _ (T50.setTop (mkF m 144 #[iv p0, iv p1, iv p2, iv 3, iv z1, iv z3, iv z5, iv ((p1 >>> ((24 : Int32) &&& 31)).toInt8.toInt32), iv (p2.toInt8.toInt32), rv b38, .unset, .unset, .unset] [(.int (-17)), (.int z1)]))
          have J55 : ∀ (z54 : Int32), z54 = (if z1 = (-17 : Int32) then (if z3 = (-69 : Int32) then (if z5 = (-65 : Int32) then (1 : Int32) else (0 : Int32)) else (0 : Int32)) else (0 : Int32)) → own_Go p e below s (Q0 Z p0 p1 p2 h0 n0) (room_1.cells, room_1.slots) (T50.setTop (mkF m 166 #[iv p0, iv p1, iv p2, iv 3, iv z1, iv z3, iv z5, iv ((p1 >>> ((24 : Int32) &&& 31)).toInt8.toInt32), iv (p2.toInt8.toInt32), rv b38, .unset, .unset, .unset] [(.int z54)])) := by
            intro z54 hz54
            refine own_via (fun k => XS.istore X50.here hx rfl (hb hby at_166) rfl (l' := #[iv p0, iv p1, iv p2, iv 3, iv z1, iv z3, iv z5, iv ((p1 >>> ((24 : Int32) &&& 31)).toInt8.toInt32), iv (p2.toInt8.toInt32), rv b38, iv z54, .unset, .unset]) rfl (XS.iload X50.here hx rfl (hb hby at_168) rfl  k)) ?_
            show own_Go p e below s _ _ (T50.setTop (mkF m 170 #[iv p0, iv p1, iv p2, iv 3, iv z1, iv z3, iv z5, iv ((p1 >>> ((24 : Int32) &&& 31)).toInt8.toInt32), iv (p2.toInt8.toInt32), rv b38, iv z54, .unset, .unset] [(.int z54)]))
            have J57 : ∀ (z56 : Int32), z56 = (if z54 = (0 : Int32) then (0 : Int32) else (3 : Int32)) → own_Go p e below s (Q0 Z p0 p1 p2 h0 n0) (room_1.cells, room_1.slots) (T50.setTop (mkF m 178 #[iv p0, iv p1, iv p2, iv 3, iv z1, iv z3, iv z5, iv ((p1 >>> ((24 : Int32) &&& 31)).toInt8.toInt32), iv (p2.toInt8.toInt32), rv b38, iv z54, .unset, .unset] [(.int z56)])) := by
              intro z56 hz56
              refine own_via (fun k => XS.istore X50.here hx rfl (hb hby at_178) rfl (l' := #[iv p0, iv p1, iv p2, iv 3, iv z1, iv z3, iv z5, iv ((p1 >>> ((24 : Int32) &&& 31)).toInt8.toInt32), iv (p2.toInt8.toInt32), rv b38, iv z54, iv z56, .unset]) rfl (XS.aload X50.here hx rfl (hb hby at_180) rfl rfl  k)) ?_
              show own_Go p e below s _ _ (T50.setTop (mkF m 182 #[iv p0, iv p1, iv p2, iv 3, iv z1, iv z3, iv z5, iv ((p1 >>> ((24 : Int32) &&& 31)).toInt8.toInt32), iv (p2.toInt8.toInt32), rv b38, iv z54, iv z56, .unset] [(.ref b38)]))
              obtain ⟨_, _, ⟨T58, L58, k58, n58⟩, -, X58, ⟨Lc58, hQ58, l58, y58, z58⟩, st58⟩ := Jvm.LawKit.callS X50 hx (y := (⟨"com/example/dani/dani/formats/DecodingReader", "utf8ByteOrderMark", "([B)I"⟩ : MethodName)) hown (mvT hZ (hw _ (List.mem_of_getElem? (i := 2) rfl))) (mvT hZ (hw _ (List.mem_of_getElem? (i := 3) rfl))) (mvT hZ (hw _ (List.mem_of_getElem? (i := 4) rfl))) (mvT hZ (hw _ (List.mem_of_getElem? (i := 5) rfl))) (by decide) (backOf (W := 0) (rm1_3 l Z aw hw [] b38 k38 (nar .byte z1) (nar .byte z3) (nar .byte z5) h50 n0 Z53 B51) hZ (hw _ (List.mem_of_getElem? (i := 5) rfl)) (hw _ (List.mem_of_getElem? (i := 4) rfl)) (by decide) (by decide)) (g := (mkF m 182 #[iv p0, iv p1, iv p2, iv 3, iv z1, iv z3, iv z5, iv ((p1 >>> ((24 : Int32) &&& 31)).toInt8.toInt32), iv (p2.toInt8.toInt32), rv b38, iv z54, iv z56, .unset] [(.ref b38)])) rfl (by rw [hml]; rfl) (argsL := [(.ref b38)]) (rest := []) (lenOf pd_0 rfl) rfl (by show 2 * 0 + _ ≤ _; exact Nat.le_of_eq rfl) (hb hby at_182) (fun _ _ => ⟨rfl, e50, (by decide : 1 + 0 ≤ _), (by decide : 3 + 0 ≤ _)⟩)
              dsimp only [Pt.U, Pt.locs, Pt.cells, Pt.slots] at X58 l58 y58 z58 st58 hQ58
              subst l58 y58 z58
              obtain ⟨rfl, N58q, eh58⟩ := hQ58
              have N59 := Fr.app N52 N58q
              refine own_via (fun k => st58 _ k) ?_
              show own_Go p e below s _ _ (T58.setTop (mkF m 185 #[iv p0, iv p1, iv p2, iv 3, iv z1, iv z3, iv z5, iv ((p1 >>> ((24 : Int32) &&& 31)).toInt8.toInt32), iv (p2.toInt8.toInt32), rv b38, iv z54, iv z56, .unset] [(.int (own_f1_3 (nar .byte z1) (nar .byte z3) (nar .byte z5)))]))
              refine own_via (fun k => XS.istore X58.here hx rfl (hb hby at_185) rfl (l' := #[iv p0, iv p1, iv p2, iv 3, iv z1, iv z3, iv z5, iv ((p1 >>> ((24 : Int32) &&& 31)).toInt8.toInt32), iv (p2.toInt8.toInt32), rv b38, iv z54, iv z56, iv (own_f1_3 (nar .byte z1) (nar .byte z3) (nar .byte z5))]) rfl (XS.iload X58.here hx rfl (hb hby at_187) rfl  (XS.iload X58.here hx rfl (hb hby at_189) rfl  k))) ?_
              show own_Go p e below s _ _ (T58.setTop (mkF m 191 #[iv p0, iv p1, iv p2, iv 3, iv z1, iv z3, iv z5, iv ((p1 >>> ((24 : Int32) &&& 31)).toInt8.toInt32), iv (p2.toInt8.toInt32), rv b38, iv z54, iv z56, iv (own_f1_3 (nar .byte z1) (nar .byte z3) (nar .byte z5))] [(.int z56), (.int (own_f1_3 (nar .byte z1) (nar .byte z3) (nar .byte z5)))]))
              refine own_via (fun k => XS.icmpNo X58.here hx rfl (hb hby at_191) rfl (teq (own_law3 p0 p1 z1 hz1 z3 hz3 z5 hz5 z54 hz54 z56 hz56 hl7)).2 k) ?_
              show own_Go p e below s _ _ (T58.setTop (mkF m 194 #[iv p0, iv p1, iv p2, iv 3, iv z1, iv z3, iv z5, iv ((p1 >>> ((24 : Int32) &&& 31)).toInt8.toInt32), iv (p2.toInt8.toInt32), rv b38, iv z54, iv z56, iv (own_f1_3 (nar .byte z1) (nar .byte z3) (nar .byte z5))] []))
              refine own_via (fun k => XS.iconst X58.here hx rfl (hb hby at_194) (XS.goto X58.here hx rfl (pc0 := 195) (pc' := 199) rfl (hb hby at_195) (by decide) (by decide) k)) ?_
              show own_Go p e below s _ _ (T58.setTop (mkF m 199 #[iv p0, iv p1, iv p2, iv 3, iv z1, iv z3, iv z5, iv ((p1 >>> ((24 : Int32) &&& 31)).toInt8.toInt32), iv (p2.toInt8.toInt32), rv b38, iv z54, iv z56, iv (own_f1_3 (nar .byte z1) (nar .byte z3) (nar .byte z5))] [(.int 1)]))
              exact own_retN X58 hx hlk (t := .boolean) Bd.returns (by simp) (hb hby at_199) (Q := (Q0 Z p0 p1 p2 h0 n0)) ⟨rfl, N59⟩ (by decide) (by decide)
            by_cases hc60 : z54 = (0 : Int32)
            · refine own_via (fun k => XS.ifYes X50.here hx rfl (pc0 := 170) (pc' := 177) rfl (hb hby at_170) rfl ((if0 _ _).trans (teq hc60).1) (by decide) (by decide) k) ?_
              show own_Go p e below s _ _ (T50.setTop (mkF m 177 #[iv p0, iv p1, iv p2, iv 3, iv z1, iv z3, iv z5, iv ((p1 >>> ((24 : Int32) &&& 31)).toInt8.toInt32), iv (p2.toInt8.toInt32), rv b38, iv z54, .unset, .unset] []))
              refine own_via (fun k => XS.iconst X50.here hx rfl (hb hby at_177) k) ?_
              show own_Go p e below s _ _ (T50.setTop (mkF m 178 #[iv p0, iv p1, iv p2, iv 3, iv z1, iv z3, iv z5, iv ((p1 >>> ((24 : Int32) &&& 31)).toInt8.toInt32), iv (p2.toInt8.toInt32), rv b38, iv z54, .unset, .unset] [(.int 0)]))
              exact J57 (0 : Int32) (((if_pos hc60).trans rfl)).symm
            · refine own_via (fun k => XS.ifNo X50.here hx rfl (hb hby at_170) rfl ((if0 _ _).trans (feq hc60).1) k) ?_
              show own_Go p e below s _ _ (T50.setTop (mkF m 173 #[iv p0, iv p1, iv p2, iv 3, iv z1, iv z3, iv z5, iv ((p1 >>> ((24 : Int32) &&& 31)).toInt8.toInt32), iv (p2.toInt8.toInt32), rv b38, iv z54, .unset, .unset] []))
              refine own_via (fun k => XS.iconst X50.here hx rfl (hb hby at_173) (XS.goto X50.here hx rfl (pc0 := 174) (pc' := 178) rfl (hb hby at_174) (by decide) (by decide) k)) ?_
              show own_Go p e below s _ _ (T50.setTop (mkF m 178 #[iv p0, iv p1, iv p2, iv 3, iv z1, iv z3, iv z5, iv ((p1 >>> ((24 : Int32) &&& 31)).toInt8.toInt32), iv (p2.toInt8.toInt32), rv b38, iv z54, .unset, .unset] [(.int 3)]))
              exact J57 (3 : Int32) (((if_neg hc60).trans rfl)).symm
          by_cases hc61 : z1 = (-17 : Int32)
          · refine own_via (fun k => XS.icmpNo X50.here hx rfl (hb hby at_144) rfl (teq hc61).2 k) ?_
            show own_Go p e below s _ _ (T50.setTop (mkF m 147 #[iv p0, iv p1, iv p2, iv 3, iv z1, iv z3, iv z5, iv ((p1 >>> ((24 : Int32) &&& 31)).toInt8.toInt32), iv (p2.toInt8.toInt32), rv b38, .unset, .unset, .unset] []))
            refine own_via (fun k => XS.iload X50.here hx rfl (hb hby at_147) rfl  (XS.bipush X50.here hx rfl (hb hby at_149) k)) ?_
            show own_Go p e below s _ _ (T50.setTop (mkF m 151 #[iv p0, iv p1, iv p2, iv 3, iv z1, iv z3, iv z5, iv ((p1 >>> ((24 : Int32) &&& 31)).toInt8.toInt32), iv (p2.toInt8.toInt32), rv b38, .unset, .unset, .unset] [(.int (-69)), (.int z3)]))
            by_cases hc62 : z3 = (-69 : Int32)
            · refine own_via (fun k => XS.icmpNo X50.here hx rfl (hb hby at_151) rfl (teq hc62).2 k) ?_
              show own_Go p e below s _ _ (T50.setTop (mkF m 154 #[iv p0, iv p1, iv p2, iv 3, iv z1, iv z3, iv z5, iv ((p1 >>> ((24 : Int32) &&& 31)).toInt8.toInt32), iv (p2.toInt8.toInt32), rv b38, .unset, .unset, .unset] []))
              refine own_via (fun k => XS.iload X50.here hx rfl (hb hby at_154) rfl  (XS.bipush X50.here hx rfl (hb hby at_156) k)) ?_
              show own_Go p e below s _ _ (T50.setTop (mkF m 158 #[iv p0, iv p1, iv p2, iv 3, iv z1, iv z3, iv z5, iv ((p1 >>> ((24 : Int32) &&& 31)).toInt8.toInt32), iv (p2.toInt8.toInt32), rv b38, .unset, .unset, .unset] [(.int (-65)), (.int z5)]))
              by_cases hc63 : z5 = (-65 : Int32)
              · refine own_via (fun k => XS.icmpNo X50.here hx rfl (hb hby at_158) rfl (teq hc63).2 k) ?_
                show own_Go p e below s _ _ (T50.setTop (mkF m 161 #[iv p0, iv p1, iv p2, iv 3, iv z1, iv z3, iv z5, iv ((p1 >>> ((24 : Int32) &&& 31)).toInt8.toInt32), iv (p2.toInt8.toInt32), rv b38, .unset, .unset, .unset] []))
                refine own_via (fun k => XS.iconst X50.here hx rfl (hb hby at_161) (XS.goto X50.here hx rfl (pc0 := 162) (pc' := 166) rfl (hb hby at_162) (by decide) (by decide) k)) ?_
                show own_Go p e below s _ _ (T50.setTop (mkF m 166 #[iv p0, iv p1, iv p2, iv 3, iv z1, iv z3, iv z5, iv ((p1 >>> ((24 : Int32) &&& 31)).toInt8.toInt32), iv (p2.toInt8.toInt32), rv b38, .unset, .unset, .unset] [(.int 1)]))
                exact J55 (1 : Int32) (((if_pos hc61).trans ((if_pos hc62).trans ((if_pos hc63).trans rfl)))).symm
              · refine own_via (fun k => XS.icmpYes X50.here hx rfl (pc0 := 158) (pc' := 165) rfl (hb hby at_158) rfl (feq hc63).2 (by decide) (by decide) k) ?_
                show own_Go p e below s _ _ (T50.setTop (mkF m 165 #[iv p0, iv p1, iv p2, iv 3, iv z1, iv z3, iv z5, iv ((p1 >>> ((24 : Int32) &&& 31)).toInt8.toInt32), iv (p2.toInt8.toInt32), rv b38, .unset, .unset, .unset] []))
                refine own_via (fun k => XS.iconst X50.here hx rfl (hb hby at_165) k) ?_
                show own_Go p e below s _ _ (T50.setTop (mkF m 166 #[iv p0, iv p1, iv p2, iv 3, iv z1, iv z3, iv z5, iv ((p1 >>> ((24 : Int32) &&& 31)).toInt8.toInt32), iv (p2.toInt8.toInt32), rv b38, .unset, .unset, .unset] [(.int 0)]))
                exact J55 (0 : Int32) (((if_pos hc61).trans ((if_pos hc62).trans ((if_neg hc63).trans rfl)))).symm
            · refine own_via (fun k => XS.icmpYes X50.here hx rfl (pc0 := 151) (pc' := 165) rfl (hb hby at_151) rfl (feq hc62).2 (by decide) (by decide) k) ?_
              show own_Go p e below s _ _ (T50.setTop (mkF m 165 #[iv p0, iv p1, iv p2, iv 3, iv z1, iv z3, iv z5, iv ((p1 >>> ((24 : Int32) &&& 31)).toInt8.toInt32), iv (p2.toInt8.toInt32), rv b38, .unset, .unset, .unset] []))
              refine own_via (fun k => XS.iconst X50.here hx rfl (hb hby at_165) k) ?_
              show own_Go p e below s _ _ (T50.setTop (mkF m 166 #[iv p0, iv p1, iv p2, iv 3, iv z1, iv z3, iv z5, iv ((p1 >>> ((24 : Int32) &&& 31)).toInt8.toInt32), iv (p2.toInt8.toInt32), rv b38, .unset, .unset, .unset] [(.int 0)]))
              exact J55 (0 : Int32) (((if_pos hc61).trans ((if_neg hc62).trans rfl))).symm
          · refine own_via (fun k => XS.icmpYes X50.here hx rfl (pc0 := 144) (pc' := 165) rfl (hb hby at_144) rfl (feq hc61).2 (by decide) (by decide) k) ?_
            show own_Go p e below s _ _ (T50.setTop (mkF m 165 #[iv p0, iv p1, iv p2, iv 3, iv z1, iv z3, iv z5, iv ((p1 >>> ((24 : Int32) &&& 31)).toInt8.toInt32), iv (p2.toInt8.toInt32), rv b38, .unset, .unset, .unset] []))
            refine own_via (fun k => XS.iconst X50.here hx rfl (hb hby at_165) k) ?_
            show own_Go p e below s _ _ (T50.setTop (mkF m 166 #[iv p0, iv p1, iv p2, iv 3, iv z1, iv z3, iv z5, iv ((p1 >>> ((24 : Int32) &&& 31)).toInt8.toInt32), iv (p2.toInt8.toInt32), rv b38, .unset, .unset, .unset] [(.int 0)]))
            exact J55 (0 : Int32) (((if_neg hc61).trans rfl)).symm
        · rw [hl7]
          show own_Go p e below s _ _ (s₁.setTop (mkF m 77 #[iv p0, iv p1, iv p2, iv 4, iv z1, iv z3, iv z5, iv ((p1 >>> ((24 : Int32) &&& 31)).toInt8.toInt32), iv (p2.toInt8.toInt32), .unset, .unset, .unset, .unset] [(.int 4)]))
          obtain ⟨T64, h64, k64, X64, e64, E64, A64, st64⟩ := newP X0 hx hZ (hw _ (List.mem_of_getElem? (i := 1) rfl)) e0 (g := (mkF m 77 #[iv p0, iv p1, iv p2, iv 4, iv z1, iv z3, iv z5, iv ((p1 >>> ((24 : Int32) &&& 31)).toInt8.toInt32), iv (p2.toInt8.toInt32), .unset, .unset, .unset, .unset] [(.int 4)])) rfl (hb hby at_77) rfl (by decide) (cap := 4) (by decide) (by decide) (by decide) (by decide)
          obtain ⟨b64, g64⟩ : ∃ z, z = h0.size := ⟨_, rfl⟩
          rw [← g64] at A64 st64
          refine own_via (fun k => st64 _ k) ?_
          show own_Go p e below s _ _ (T64.setTop (mkF m 79 #[iv p0, iv p1, iv p2, iv 4, iv z1, iv z3, iv z5, iv ((p1 >>> ((24 : Int32) &&& 31)).toInt8.toInt32), iv (p2.toInt8.toInt32), .unset, .unset, .unset, .unset] [(.ref b64)]))
          have g65 : n0 ≤ b64 := Nat.le_trans Z0 (Nat.le_of_eq g64.symm)
          have Z66 : n0 ≤ h64.size := Nat.le_trans Z0 E64.1
          have B67 : Arv Z h64 b64 k64 .byte (4 : Int32) [(.int 0), (.int 0), (.int 0), (.int 0)] (.int 0) := (Arv.new A64 (by decide)).pad (pad_rep [] (.int 0) 4)
          refine own_via (fun k => XS.astore X64.here hx rfl (hb hby at_79) rfl rfl (l' := #[iv p0, iv p1, iv p2, iv 4, iv z1, iv z3, iv z5, iv ((p1 >>> ((24 : Int32) &&& 31)).toInt8.toInt32), iv (p2.toInt8.toInt32), rv b64, .unset, .unset, .unset]) rfl (XS.iloadN X64.here hx rfl (hb hby at_81) rfl  k)) ?_
          show own_Go p e below s _ _ (T64.setTop (mkF m 82 #[iv p0, iv p1, iv p2, iv 4, iv z1, iv z3, iv z5, iv ((p1 >>> ((24 : Int32) &&& 31)).toInt8.toInt32), iv (p2.toInt8.toInt32), rv b64, .unset, .unset, .unset] [(.int 4)]))
          refine own_via (fun k => XS.ifNo X64.here hx rfl (hb hby at_82) rfl (by decide) k) ?_
          show own_Go p e below s _ _ (T64.setTop (mkF m 85 #[iv p0, iv p1, iv p2, iv 4, iv z1, iv z3, iv z5, iv ((p1 >>> ((24 : Int32) &&& 31)).toInt8.toInt32), iv (p2.toInt8.toInt32), rv b64, .unset, .unset, .unset] []))
          refine own_via (fun k => XS.aload X64.here hx rfl (hb hby at_85) rfl rfl  (XS.iconst X64.here hx rfl (hb hby at_87) (XS.iload X64.here hx rfl (hb hby at_88) rfl  k))) ?_
          show own_Go p e below s _ _ (T64.setTop (mkF m 90 #[iv p0, iv p1, iv p2, iv 4, iv z1, iv z3, iv z5, iv ((p1 >>> ((24 : Int32) &&& 31)).toInt8.toInt32), iv (p2.toInt8.toInt32), rv b64, .unset, .unset, .unset] [(.int z1), (.int 0), (.ref b64)]))
          obtain ⟨cl68, Ar68, q68, S68, NN68, H68, G68⟩ := id B67
          have hin68 : ¬ ((0 : Int32) < 0 ∨ cl68.slots.size ≤ ((0 : Int32)).toNatClampNeg) := inb_of S68 ⟨by decide, by decide⟩
          obtain ⟨T68, h68, X68, e68, W68, st68⟩ := stB X64 hx hZ e64 Ar68 (j := (0 : Int32)) hin68 (g := (mkF m 90 #[iv p0, iv p1, iv p2, iv 4, iv z1, iv z3, iv z5, iv ((p1 >>> ((24 : Int32) &&& 31)).toInt8.toInt32), iv (p2.toInt8.toInt32), rv b64, .unset, .unset, .unset] [(.int z1), (.int 0), (.ref b64)])) rfl rfl (hb hby at_90)
          refine own_via (fun k => st68 _ k) ?_
          show own_Go p e below s _ _ (T68.setTop (mkF m 91 #[iv p0, iv p1, iv p2, iv 4, iv z1, iv z3, iv z5, iv ((p1 >>> ((24 : Int32) &&& 31)).toInt8.toInt32), iv (p2.toInt8.toInt32), rv b64, .unset, .unset, .unset] []))
          have B69 : Arv Z h68 b64 k64 .byte (4 : Int32) [(.int (nar .byte z1)), (.int 0), (.int 0), (.int 0)] (.int 0) := Arv.set Ar68 q68 S68 NN68 H68 G68 (fits_nar_byte _) W68 0 rfl (Nat.le_of_ble_eq_true rfl)
          have N70 := Fr.snoc X68 N0 g65
          have Z71 : n0 ≤ h68.size := Nat.le_trans Z66 (Keep.of_wr W68).1
          refine own_via (fun k => XS.iloadN X68.here hx rfl (hb hby at_91) rfl  (XS.iconst X68.here hx rfl (hb hby at_92) k)) ?_
          show own_Go p e below s _ _ (T68.setTop (mkF m 93 #[iv p0, iv p1, iv p2, iv 4, iv z1, iv z3, iv z5, iv ((p1 >>> ((24 : Int32) &&& 31)).toInt8.toInt32), iv (p2.toInt8.toInt32), rv b64, .unset, .unset, .unset] [(.int 1), (.int 4)]))
          refine own_via (fun k => XS.icmpNo X68.here hx rfl (hb hby at_93) rfl (by decide) k) ?_
          show own_Go p e below s _ _ (T68.setTop (mkF m 96 #[iv p0, iv p1, iv p2, iv 4, iv z1, iv z3, iv z5, iv ((p1 >>> ((24 : Int32) &&& 31)).toInt8.toInt32), iv (p2.toInt8.toInt32), rv b64, .unset, .unset, .unset] []))
          refine own_via (fun k => XS.aload X68.here hx rfl (hb hby at_96) rfl rfl  (XS.iconst X68.here hx rfl (hb hby at_98) (XS.iload X68.here hx rfl (hb hby at_99) rfl  k))) ?_
          show own_Go p e below s _ _ (T68.setTop (mkF m 101 #[iv p0, iv p1, iv p2, iv 4, iv z1, iv z3, iv z5, iv ((p1 >>> ((24 : Int32) &&& 31)).toInt8.toInt32), iv (p2.toInt8.toInt32), rv b64, .unset, .unset, .unset] [(.int z3), (.int 1), (.ref b64)]))
          obtain ⟨cl72, Ar72, q72, S72, NN72, H72, G72⟩ := id B69
          have hin72 : ¬ ((1 : Int32) < 0 ∨ cl72.slots.size ≤ ((1 : Int32)).toNatClampNeg) := inb_of S72 ⟨by decide, by decide⟩
          obtain ⟨T72, h72, X72, e72, W72, st72⟩ := stB X68 hx hZ e68 Ar72 (j := (1 : Int32)) hin72 (g := (mkF m 101 #[iv p0, iv p1, iv p2, iv 4, iv z1, iv z3, iv z5, iv ((p1 >>> ((24 : Int32) &&& 31)).toInt8.toInt32), iv (p2.toInt8.toInt32), rv b64, .unset, .unset, .unset] [(.int z3), (.int 1), (.ref b64)])) rfl rfl (hb hby at_101)
          refine own_via (fun k => st72 _ k) ?_
          show own_Go p e below s _ _ (T72.setTop (mkF m 102 #[iv p0, iv p1, iv p2, iv 4, iv z1, iv z3, iv z5, iv ((p1 >>> ((24 : Int32) &&& 31)).toInt8.toInt32), iv (p2.toInt8.toInt32), rv b64, .unset, .unset, .unset] []))
          have B73 : Arv Z h72 b64 k64 .byte (4 : Int32) [(.int (nar .byte z1)), (.int (nar .byte z3)), (.int 0), (.int 0)] (.int 0) := Arv.set Ar72 q72 S72 NN72 H72 G72 (fits_nar_byte _) W72 1 rfl (Nat.le_of_ble_eq_true rfl)
          have N74 := Fr.snoc X72 N70 g65
          have Z75 : n0 ≤ h72.size := Nat.le_trans Z71 (Keep.of_wr W72).1
          refine own_via (fun k => XS.iloadN X72.here hx rfl (hb hby at_102) rfl  (XS.iconst X72.here hx rfl (hb hby at_103) k)) ?_
          show own_Go p e below s _ _ (T72.setTop (mkF m 104 #[iv p0, iv p1, iv p2, iv 4, iv z1, iv z3, iv z5, iv ((p1 >>> ((24 : Int32) &&& 31)).toInt8.toInt32), iv (p2.toInt8.toInt32), rv b64, .unset, .unset, .unset] [(.int 2), (.int 4)]))
          refine own_via (fun k => XS.icmpNo X72.here hx rfl (hb hby at_104) rfl (by decide) k) ?_
          show own_Go p e below s _ _ (T72.setTop (mkF m 107 #[iv p0, iv p1, iv p2, iv 4, iv z1, iv z3, iv z5, iv ((p1 >>> ((24 : Int32) &&& 31)).toInt8.toInt32), iv (p2.toInt8.toInt32), rv b64, .unset, .unset, .unset] []))
          refine own_via (fun k => XS.aload X72.here hx rfl (hb hby at_107) rfl rfl  (XS.iconst X72.here hx rfl (hb hby at_109) (XS.iload X72.here hx rfl (hb hby at_110) rfl  k))) ?_
          show own_Go p e below s _ _ (T72.setTop (mkF m 112 #[iv p0, iv p1, iv p2, iv 4, iv z1, iv z3, iv z5, iv ((p1 >>> ((24 : Int32) &&& 31)).toInt8.toInt32), iv (p2.toInt8.toInt32), rv b64, .unset, .unset, .unset] [(.int z5), (.int 2), (.ref b64)]))
          obtain ⟨cl76, Ar76, q76, S76, NN76, H76, G76⟩ := id B73
          have hin76 : ¬ ((2 : Int32) < 0 ∨ cl76.slots.size ≤ ((2 : Int32)).toNatClampNeg) := inb_of S76 ⟨by decide, by decide⟩
          obtain ⟨T76, h76, X76, e76, W76, st76⟩ := stB X72 hx hZ e72 Ar76 (j := (2 : Int32)) hin76 (g := (mkF m 112 #[iv p0, iv p1, iv p2, iv 4, iv z1, iv z3, iv z5, iv ((p1 >>> ((24 : Int32) &&& 31)).toInt8.toInt32), iv (p2.toInt8.toInt32), rv b64, .unset, .unset, .unset] [(.int z5), (.int 2), (.ref b64)])) rfl rfl (hb hby at_112)
          refine own_via (fun k => st76 _ k) ?_
          show own_Go p e below s _ _ (T76.setTop (mkF m 113 #[iv p0, iv p1, iv p2, iv 4, iv z1, iv z3, iv z5, iv ((p1 >>> ((24 : Int32) &&& 31)).toInt8.toInt32), iv (p2.toInt8.toInt32), rv b64, .unset, .unset, .unset] []))
          have B77 : Arv Z h76 b64 k64 .byte (4 : Int32) [(.int (nar .byte z1)), (.int (nar .byte z3)), (.int (nar .byte z5)), (.int 0)] (.int 0) := Arv.set Ar76 q76 S76 NN76 H76 G76 (fits_nar_byte _) W76 2 rfl (Nat.le_of_ble_eq_true rfl)
          have N78 := Fr.snoc X76 N74 g65
          have Z79 : n0 ≤ h76.size := Nat.le_trans Z75 (Keep.of_wr W76).1
          refine own_via (fun k => XS.iloadN X76.here hx rfl (hb hby at_113) rfl  (XS.iconst X76.here hx rfl (hb hby at_114) k)) ?_
          show own_Go p e below s _ _ (T76.setTop (mkF m 115 #[iv p0, iv p1, iv p2, iv 4, iv z1, iv z3, iv z5, iv ((p1 >>> ((24 : Int32) &&& 31)).toInt8.toInt32), iv (p2.toInt8.toInt32), rv b64, .unset, .unset, .unset] [(.int 3), (.int 4)]))
          refine own_via (fun k => XS.icmpNo X76.here hx rfl (hb hby at_115) rfl (by decide) k) ?_
          show own_Go p e below s _ _ (T76.setTop (mkF m 118 #[iv p0, iv p1, iv p2, iv 4, iv z1, iv z3, iv z5, iv ((p1 >>> ((24 : Int32) &&& 31)).toInt8.toInt32), iv (p2.toInt8.toInt32), rv b64, .unset, .unset, .unset] []))
          refine own_via (fun k => XS.aload X76.here hx rfl (hb hby at_118) rfl rfl  (XS.iconst X76.here hx rfl (hb hby at_120) (XS.iload X76.here hx rfl (hb hby at_121) rfl  k))) ?_
          show own_Go p e below s _ _ (T76.setTop (mkF m 123 #[iv p0, iv p1, iv p2, iv 4, iv z1, iv z3, iv z5, iv ((p1 >>> ((24 : Int32) &&& 31)).toInt8.toInt32), iv (p2.toInt8.toInt32), rv b64, .unset, .unset, .unset] [(.int ((p1 >>> ((24 : Int32) &&& 31)).toInt8.toInt32)), (.int 3), (.ref b64)]))
          obtain ⟨cl80, Ar80, q80, S80, NN80, H80, G80⟩ := id B77
          have hin80 : ¬ ((3 : Int32) < 0 ∨ cl80.slots.size ≤ ((3 : Int32)).toNatClampNeg) := inb_of S80 ⟨by decide, by decide⟩
          obtain ⟨T80, h80, X80, e80, W80, st80⟩ := stB X76 hx hZ e76 Ar80 (j := (3 : Int32)) hin80 (g := (mkF m 123 #[iv p0, iv p1, iv p2, iv 4, iv z1, iv z3, iv z5, iv ((p1 >>> ((24 : Int32) &&& 31)).toInt8.toInt32), iv (p2.toInt8.toInt32), rv b64, .unset, .unset, .unset] [(.int ((p1 >>> ((24 : Int32) &&& 31)).toInt8.toInt32)), (.int 3), (.ref b64)])) rfl rfl (hb hby at_123)
          refine own_via (fun k => st80 _ k) ?_
          show own_Go p e below s _ _ (T80.setTop (mkF m 124 #[iv p0, iv p1, iv p2, iv 4, iv z1, iv z3, iv z5, iv ((p1 >>> ((24 : Int32) &&& 31)).toInt8.toInt32), iv (p2.toInt8.toInt32), rv b64, .unset, .unset, .unset] []))
          have B81 : Arv Z h80 b64 k64 .byte (4 : Int32) [(.int (nar .byte z1)), (.int (nar .byte z3)), (.int (nar .byte z5)), (.int (nar .byte ((p1 >>> ((24 : Int32) &&& 31)).toInt8.toInt32)))] (.int 0) := Arv.set Ar80 q80 S80 NN80 H80 G80 (fits_nar_byte _) W80 3 rfl (Nat.le_of_ble_eq_true rfl)
          have N82 := Fr.snoc X80 N78 g65
          have Z83 : n0 ≤ h80.size := Nat.le_trans Z79 (Keep.of_wr W80).1
          refine own_via (fun k => XS.iloadN X80.here hx rfl (hb hby at_124) rfl  (XS.iconst X80.here hx rfl (hb hby at_125) k)) ?_
          show own_Go p e below s _ _ (T80.setTop (mkF m 126 #[iv p0, iv p1, iv p2, iv 4, iv z1, iv z3, iv z5, iv ((p1 >>> ((24 : Int32) &&& 31)).toInt8.toInt32), iv (p2.toInt8.toInt32), rv b64, .unset, .unset, .unset] [(.int 4), (.int 4)]))
          refine own_via (fun k => XS.icmpYes X80.here hx rfl (pc0 := 126) (pc' := 135) rfl (hb hby at_126) rfl (by decide) (by decide) (by decide) k) ?_
          show own_Go p e below s _ _ (T80.setTop (mkF m 135 #[iv p0, iv p1, iv p2, iv 4, iv z1, iv z3, iv z5, iv ((p1 >>> ((24 : Int32) &&& 31)).toInt8.toInt32), iv (p2.toInt8.toInt32), rv b64, .unset, .unset, .unset] []))
          refine own_via (fun k => XS.iloadN X80.here hx rfl (hb hby at_135) rfl  (XS.iconst X80.here hx rfl (hb hby at_136) k)) ?_
          show own_Go p e below s _ _ (T80.setTop (mkF m 137 #[iv p0, iv p1, iv p2, iv 4, iv z1, iv z3, iv z5, iv ((p1 >>> ((24 : Int32) &&& 31)).toInt8.toInt32), iv (p2.toInt8.toInt32), rv b64, .unset, .unset, .unset] [(.int 3), (.int 4)]))
          refine own_via (fun k => XS.icmpNo X80.here hx rfl (hb hby at_137) rfl (by decide) k) ?_
          show own_Go p e below s _ _ (T80.setTop (mkF m 140 #[iv p0, iv p1, iv p2, iv 4, iv z1, iv z3, iv z5, iv ((p1 >>> ((24 : Int32) &&& 31)).toInt8.toInt32), iv (p2.toInt8.toInt32), rv b64, .unset, .unset, .unset] []))
          refine own_via (fun k => XS.iload X80.here hx rfl (hb hby at_140) rfl  (XS.bipush X80.here hx rfl (hb hby at_142) k)) ?_
          show own_Go p e below s _ _ (T80.setTop (mkF m 144 #[iv p0, iv p1, iv p2, iv 4, iv z1, iv z3, iv z5, iv ((p1 >>> ((24 : Int32) &&& 31)).toInt8.toInt32), iv (p2.toInt8.toInt32), rv b64, .unset, .unset, .unset] [(.int (-17)), (.int z1)]))
          have J85 : ∀ (z84 : Int32), z84 = (if z1 = (-17 : Int32) then (if z3 = (-69 : Int32) then (if z5 = (-65 : Int32) then (1 : Int32) else (0 : Int32)) else (0 : Int32)) else (0 : Int32)) → own_Go p e below s (Q0 Z p0 p1 p2 h0 n0) (room_1.cells, room_1.slots) (T80.setTop (mkF m 166 #[iv p0, iv p1, iv p2, iv 4, iv z1, iv z3, iv z5, iv ((p1 >>> ((24 : Int32) &&& 31)).toInt8.toInt32), iv (p2.toInt8.toInt32), rv b64, .unset, .unset, .unset] [(.int z84)])) := by
            intro z84 hz84
            refine own_via (fun k => XS.istore X80.here hx rfl (hb hby at_166) rfl (l' := #[iv p0, iv p1, iv p2, iv 4, iv z1, iv z3, iv z5, iv ((p1 >>> ((24 : Int32) &&& 31)).toInt8.toInt32), iv (p2.toInt8.toInt32), rv b64, iv z84, .unset, .unset]) rfl (XS.iload X80.here hx rfl (hb hby at_168) rfl  k)) ?_
            show own_Go p e below s _ _ (T80.setTop (mkF m 170 #[iv p0, iv p1, iv p2, iv 4, iv z1, iv z3, iv z5, iv ((p1 >>> ((24 : Int32) &&& 31)).toInt8.toInt32), iv (p2.toInt8.toInt32), rv b64, iv z84, .unset, .unset] [(.int z84)]))
            have J87 : ∀ (z86 : Int32), z86 = (if z84 = (0 : Int32) then (0 : Int32) else (3 : Int32)) → own_Go p e below s (Q0 Z p0 p1 p2 h0 n0) (room_1.cells, room_1.slots) (T80.setTop (mkF m 178 #[iv p0, iv p1, iv p2, iv 4, iv z1, iv z3, iv z5, iv ((p1 >>> ((24 : Int32) &&& 31)).toInt8.toInt32), iv (p2.toInt8.toInt32), rv b64, iv z84, .unset, .unset] [(.int z86)])) := by
              intro z86 hz86
              refine own_via (fun k => XS.istore X80.here hx rfl (hb hby at_178) rfl (l' := #[iv p0, iv p1, iv p2, iv 4, iv z1, iv z3, iv z5, iv ((p1 >>> ((24 : Int32) &&& 31)).toInt8.toInt32), iv (p2.toInt8.toInt32), rv b64, iv z84, iv z86, .unset]) rfl (XS.aload X80.here hx rfl (hb hby at_180) rfl rfl  k)) ?_
              show own_Go p e below s _ _ (T80.setTop (mkF m 182 #[iv p0, iv p1, iv p2, iv 4, iv z1, iv z3, iv z5, iv ((p1 >>> ((24 : Int32) &&& 31)).toInt8.toInt32), iv (p2.toInt8.toInt32), rv b64, iv z84, iv z86, .unset] [(.ref b64)]))
              obtain ⟨_, _, ⟨T88, L88, k88, n88⟩, -, X88, ⟨Lc88, hQ88, l88, y88, z88⟩, st88⟩ := Jvm.LawKit.callS X80 hx (y := (⟨"com/example/dani/dani/formats/DecodingReader", "utf8ByteOrderMark", "([B)I"⟩ : MethodName)) hown (mvT hZ (hw _ (List.mem_of_getElem? (i := 2) rfl))) (mvT hZ (hw _ (List.mem_of_getElem? (i := 3) rfl))) (mvT hZ (hw _ (List.mem_of_getElem? (i := 4) rfl))) (mvT hZ (hw _ (List.mem_of_getElem? (i := 5) rfl))) (by decide) (backOf (W := 0) (rm1_4 l Z aw hw [] b64 k64 (nar .byte z1) (nar .byte z3) (nar .byte z5) (nar .byte ((p1 >>> ((24 : Int32) &&& 31)).toInt8.toInt32)) h80 n0 Z83 B81) hZ (hw _ (List.mem_of_getElem? (i := 5) rfl)) (hw _ (List.mem_of_getElem? (i := 4) rfl)) (by decide) (by decide)) (g := (mkF m 182 #[iv p0, iv p1, iv p2, iv 4, iv z1, iv z3, iv z5, iv ((p1 >>> ((24 : Int32) &&& 31)).toInt8.toInt32), iv (p2.toInt8.toInt32), rv b64, iv z84, iv z86, .unset] [(.ref b64)])) rfl (by rw [hml]; rfl) (argsL := [(.ref b64)]) (rest := []) (lenOf pd_0 rfl) rfl (by show 2 * 0 + _ ≤ _; exact Nat.le_of_eq rfl) (hb hby at_182) (fun _ _ => ⟨rfl, e80, (by decide : 1 + 0 ≤ _), (by decide : 4 + 0 ≤ _)⟩)
              dsimp only [Pt.U, Pt.locs, Pt.cells, Pt.slots] at X88 l88 y88 z88 st88 hQ88
              subst l88 y88 z88
              obtain ⟨rfl, N88q, eh88⟩ := hQ88
              have N89 := Fr.app N82 N88q
              refine own_via (fun k => st88 _ k) ?_
              show own_Go p e below s _ _ (T88.setTop (mkF m 185 #[iv p0, iv p1, iv p2, iv 4, iv z1, iv z3, iv z5, iv ((p1 >>> ((24 : Int32) &&& 31)).toInt8.toInt32), iv (p2.toInt8.toInt32), rv b64, iv z84, iv z86, .unset] [(.int (own_f1_4 (nar .byte z1) (nar .byte z3) (nar .byte z5)))]))
              refine own_via (fun k => XS.istore X88.here hx rfl (hb hby at_185) rfl (l' := #[iv p0, iv p1, iv p2, iv 4, iv z1, iv z3, iv z5, iv ((p1 >>> ((24 : Int32) &&& 31)).toInt8.toInt32), iv (p2.toInt8.toInt32), rv b64, iv z84, iv z86, iv (own_f1_4 (nar .byte z1) (nar .byte z3) (nar .byte z5))]) rfl (XS.iload X88.here hx rfl (hb hby at_187) rfl  (XS.iload X88.here hx rfl (hb hby at_189) rfl  k))) ?_
              show own_Go p e below s _ _ (T88.setTop (mkF m 191 #[iv p0, iv p1, iv p2, iv 4, iv z1, iv z3, iv z5, iv ((p1 >>> ((24 : Int32) &&& 31)).toInt8.toInt32), iv (p2.toInt8.toInt32), rv b64, iv z84, iv z86, iv (own_f1_4 (nar .byte z1) (nar .byte z3) (nar .byte z5))] [(.int z86), (.int (own_f1_4 (nar .byte z1) (nar .byte z3) (nar .byte z5)))]))
              refine own_via (fun k => XS.icmpNo X88.here hx rfl (hb hby at_191) rfl (teq (own_law4 p0 p1 z1 hz1 z3 hz3 z5 hz5 z84 hz84 z86 hz86 hl7)).2 k) ?_
              show own_Go p e below s _ _ (T88.setTop (mkF m 194 #[iv p0, iv p1, iv p2, iv 4, iv z1, iv z3, iv z5, iv ((p1 >>> ((24 : Int32) &&& 31)).toInt8.toInt32), iv (p2.toInt8.toInt32), rv b64, iv z84, iv z86, iv (own_f1_4 (nar .byte z1) (nar .byte z3) (nar .byte z5))] []))
              refine own_via (fun k => XS.iconst X88.here hx rfl (hb hby at_194) (XS.goto X88.here hx rfl (pc0 := 195) (pc' := 199) rfl (hb hby at_195) (by decide) (by decide) k)) ?_
              show own_Go p e below s _ _ (T88.setTop (mkF m 199 #[iv p0, iv p1, iv p2, iv 4, iv z1, iv z3, iv z5, iv ((p1 >>> ((24 : Int32) &&& 31)).toInt8.toInt32), iv (p2.toInt8.toInt32), rv b64, iv z84, iv z86, iv (own_f1_4 (nar .byte z1) (nar .byte z3) (nar .byte z5))] [(.int 1)]))
              exact own_retN X88 hx hlk (t := .boolean) Bd.returns (by simp) (hb hby at_199) (Q := (Q0 Z p0 p1 p2 h0 n0)) ⟨rfl, N89⟩ (by decide) (by decide)
            by_cases hc90 : z84 = (0 : Int32)
            · refine own_via (fun k => XS.ifYes X80.here hx rfl (pc0 := 170) (pc' := 177) rfl (hb hby at_170) rfl ((if0 _ _).trans (teq hc90).1) (by decide) (by decide) k) ?_
              show own_Go p e below s _ _ (T80.setTop (mkF m 177 #[iv p0, iv p1, iv p2, iv 4, iv z1, iv z3, iv z5, iv ((p1 >>> ((24 : Int32) &&& 31)).toInt8.toInt32), iv (p2.toInt8.toInt32), rv b64, iv z84, .unset, .unset] []))
              refine own_via (fun k => XS.iconst X80.here hx rfl (hb hby at_177) k) ?_
              show own_Go p e below s _ _ (T80.setTop (mkF m 178 #[iv p0, iv p1, iv p2, iv 4, iv z1, iv z3, iv z5, iv ((p1 >>> ((24 : Int32) &&& 31)).toInt8.toInt32), iv (p2.toInt8.toInt32), rv b64, iv z84, .unset, .unset] [(.int 0)]))
              exact J87 (0 : Int32) (((if_pos hc90).trans rfl)).symm
            · refine own_via (fun k => XS.ifNo X80.here hx rfl (hb hby at_170) rfl ((if0 _ _).trans (feq hc90).1) k) ?_
              show own_Go p e below s _ _ (T80.setTop (mkF m 173 #[iv p0, iv p1, iv p2, iv 4, iv z1, iv z3, iv z5, iv ((p1 >>> ((24 : Int32) &&& 31)).toInt8.toInt32), iv (p2.toInt8.toInt32), rv b64, iv z84, .unset, .unset] []))
              refine own_via (fun k => XS.iconst X80.here hx rfl (hb hby at_173) (XS.goto X80.here hx rfl (pc0 := 174) (pc' := 178) rfl (hb hby at_174) (by decide) (by decide) k)) ?_
              show own_Go p e below s _ _ (T80.setTop (mkF m 178 #[iv p0, iv p1, iv p2, iv 4, iv z1, iv z3, iv z5, iv ((p1 >>> ((24 : Int32) &&& 31)).toInt8.toInt32), iv (p2.toInt8.toInt32), rv b64, iv z84, .unset, .unset] [(.int 3)]))
              exact J87 (3 : Int32) (((if_neg hc90).trans rfl)).symm
          by_cases hc91 : z1 = (-17 : Int32)
          · refine own_via (fun k => XS.icmpNo X80.here hx rfl (hb hby at_144) rfl (teq hc91).2 k) ?_
            show own_Go p e below s _ _ (T80.setTop (mkF m 147 #[iv p0, iv p1, iv p2, iv 4, iv z1, iv z3, iv z5, iv ((p1 >>> ((24 : Int32) &&& 31)).toInt8.toInt32), iv (p2.toInt8.toInt32), rv b64, .unset, .unset, .unset] []))
            refine own_via (fun k => XS.iload X80.here hx rfl (hb hby at_147) rfl  (XS.bipush X80.here hx rfl (hb hby at_149) k)) ?_
            show own_Go p e below s _ _ (T80.setTop (mkF m 151 #[iv p0, iv p1, iv p2, iv 4, iv z1, iv z3, iv z5, iv ((p1 >>> ((24 : Int32) &&& 31)).toInt8.toInt32), iv (p2.toInt8.toInt32), rv b64, .unset, .unset, .unset] [(.int (-69)), (.int z3)]))
            by_cases hc92 : z3 = (-69 : Int32)
            · refine own_via (fun k => XS.icmpNo X80.here hx rfl (hb hby at_151) rfl (teq hc92).2 k) ?_
              show own_Go p e below s _ _ (T80.setTop (mkF m 154 #[iv p0, iv p1, iv p2, iv 4, iv z1, iv z3, iv z5, iv ((p1 >>> ((24 : Int32) &&& 31)).toInt8.toInt32), iv (p2.toInt8.toInt32), rv b64, .unset, .unset, .unset] []))
              refine own_via (fun k => XS.iload X80.here hx rfl (hb hby at_154) rfl  (XS.bipush X80.here hx rfl (hb hby at_156) k)) ?_
              show own_Go p e below s _ _ (T80.setTop (mkF m 158 #[iv p0, iv p1, iv p2, iv 4, iv z1, iv z3, iv z5, iv ((p1 >>> ((24 : Int32) &&& 31)).toInt8.toInt32), iv (p2.toInt8.toInt32), rv b64, .unset, .unset, .unset] [(.int (-65)), (.int z5)]))
              by_cases hc93 : z5 = (-65 : Int32)
              · refine own_via (fun k => XS.icmpNo X80.here hx rfl (hb hby at_158) rfl (teq hc93).2 k) ?_
                show own_Go p e below s _ _ (T80.setTop (mkF m 161 #[iv p0, iv p1, iv p2, iv 4, iv z1, iv z3, iv z5, iv ((p1 >>> ((24 : Int32) &&& 31)).toInt8.toInt32), iv (p2.toInt8.toInt32), rv b64, .unset, .unset, .unset] []))
                refine own_via (fun k => XS.iconst X80.here hx rfl (hb hby at_161) (XS.goto X80.here hx rfl (pc0 := 162) (pc' := 166) rfl (hb hby at_162) (by decide) (by decide) k)) ?_
                show own_Go p e below s _ _ (T80.setTop (mkF m 166 #[iv p0, iv p1, iv p2, iv 4, iv z1, iv z3, iv z5, iv ((p1 >>> ((24 : Int32) &&& 31)).toInt8.toInt32), iv (p2.toInt8.toInt32), rv b64, .unset, .unset, .unset] [(.int 1)]))
                exact J85 (1 : Int32) (((if_pos hc91).trans ((if_pos hc92).trans ((if_pos hc93).trans rfl)))).symm
              · refine own_via (fun k => XS.icmpYes X80.here hx rfl (pc0 := 158) (pc' := 165) rfl (hb hby at_158) rfl (feq hc93).2 (by decide) (by decide) k) ?_
                show own_Go p e below s _ _ (T80.setTop (mkF m 165 #[iv p0, iv p1, iv p2, iv 4, iv z1, iv z3, iv z5, iv ((p1 >>> ((24 : Int32) &&& 31)).toInt8.toInt32), iv (p2.toInt8.toInt32), rv b64, .unset, .unset, .unset] []))
                refine own_via (fun k => XS.iconst X80.here hx rfl (hb hby at_165) k) ?_
                show own_Go p e below s _ _ (T80.setTop (mkF m 166 #[iv p0, iv p1, iv p2, iv 4, iv z1, iv z3, iv z5, iv ((p1 >>> ((24 : Int32) &&& 31)).toInt8.toInt32), iv (p2.toInt8.toInt32), rv b64, .unset, .unset, .unset] [(.int 0)]))
                exact J85 (0 : Int32) (((if_pos hc91).trans ((if_pos hc92).trans ((if_neg hc93).trans rfl)))).symm
            · refine own_via (fun k => XS.icmpYes X80.here hx rfl (pc0 := 151) (pc' := 165) rfl (hb hby at_151) rfl (feq hc92).2 (by decide) (by decide) k) ?_
              show own_Go p e below s _ _ (T80.setTop (mkF m 165 #[iv p0, iv p1, iv p2, iv 4, iv z1, iv z3, iv z5, iv ((p1 >>> ((24 : Int32) &&& 31)).toInt8.toInt32), iv (p2.toInt8.toInt32), rv b64, .unset, .unset, .unset] []))
              refine own_via (fun k => XS.iconst X80.here hx rfl (hb hby at_165) k) ?_
              show own_Go p e below s _ _ (T80.setTop (mkF m 166 #[iv p0, iv p1, iv p2, iv 4, iv z1, iv z3, iv z5, iv ((p1 >>> ((24 : Int32) &&& 31)).toInt8.toInt32), iv (p2.toInt8.toInt32), rv b64, .unset, .unset, .unset] [(.int 0)]))
              exact J85 (0 : Int32) (((if_pos hc91).trans ((if_neg hc92).trans rfl))).symm
          · refine own_via (fun k => XS.icmpYes X80.here hx rfl (pc0 := 144) (pc' := 165) rfl (hb hby at_144) rfl (feq hc91).2 (by decide) (by decide) k) ?_
            show own_Go p e below s _ _ (T80.setTop (mkF m 165 #[iv p0, iv p1, iv p2, iv 4, iv z1, iv z3, iv z5, iv ((p1 >>> ((24 : Int32) &&& 31)).toInt8.toInt32), iv (p2.toInt8.toInt32), rv b64, .unset, .unset, .unset] []))
            refine own_via (fun k => XS.iconst X80.here hx rfl (hb hby at_165) k) ?_
            show own_Go p e below s _ _ (T80.setTop (mkF m 166 #[iv p0, iv p1, iv p2, iv 4, iv z1, iv z3, iv z5, iv ((p1 >>> ((24 : Int32) &&& 31)).toInt8.toInt32), iv (p2.toInt8.toInt32), rv b64, .unset, .unset, .unset] [(.int 0)]))
            exact J85 (0 : Int32) (((if_neg hc91).trans rfl)).symm
        · rw [hl7]
          show own_Go p e below s _ _ (s₁.setTop (mkF m 77 #[iv p0, iv p1, iv p2, iv 5, iv z1, iv z3, iv z5, iv ((p1 >>> ((24 : Int32) &&& 31)).toInt8.toInt32), iv (p2.toInt8.toInt32), .unset, .unset, .unset, .unset] [(.int 5)]))
          obtain ⟨T94, h94, k94, X94, e94, E94, A94, st94⟩ := newP X0 hx hZ (hw _ (List.mem_of_getElem? (i := 1) rfl)) e0 (g := (mkF m 77 #[iv p0, iv p1, iv p2, iv 5, iv z1, iv z3, iv z5, iv ((p1 >>> ((24 : Int32) &&& 31)).toInt8.toInt32), iv (p2.toInt8.toInt32), .unset, .unset, .unset, .unset] [(.int 5)])) rfl (hb hby at_77) rfl (by decide) (cap := 5) (by decide) (by decide) (by decide) (by decide)
          obtain ⟨b94, g94⟩ : ∃ z, z = h0.size := ⟨_, rfl⟩
          rw [← g94] at A94 st94
          refine own_via (fun k => st94 _ k) ?_
          show own_Go p e below s _ _ (T94.setTop (mkF m 79 #[iv p0, iv p1, iv p2, iv 5, iv z1, iv z3, iv z5, iv ((p1 >>> ((24 : Int32) &&& 31)).toInt8.toInt32), iv (p2.toInt8.toInt32), .unset, .unset, .unset, .unset] [(.ref b94)]))
          have g95 : n0 ≤ b94 := Nat.le_trans Z0 (Nat.le_of_eq g94.symm)
          have Z96 : n0 ≤ h94.size := Nat.le_trans Z0 E94.1
          have B97 : Arv Z h94 b94 k94 .byte (5 : Int32) [(.int 0), (.int 0), (.int 0), (.int 0), (.int 0)] (.int 0) := (Arv.new A94 (by decide)).pad (pad_rep [] (.int 0) 5)
          refine own_via (fun k => XS.astore X94.here hx rfl (hb hby at_79) rfl rfl (l' := #[iv p0, iv p1, iv p2, iv 5, iv z1, iv z3, iv z5, iv ((p1 >>> ((24 : Int32) &&& 31)).toInt8.toInt32), iv (p2.toInt8.toInt32), rv b94, .unset, .unset, .unset]) rfl (XS.iloadN X94.here hx rfl (hb hby at_81) rfl  k)) ?_
          show own_Go p e below s _ _ (T94.setTop (mkF m 82 #[iv p0, iv p1, iv p2, iv 5, iv z1, iv z3, iv z5, iv ((p1 >>> ((24 : Int32) &&& 31)).toInt8.toInt32), iv (p2.toInt8.toInt32), rv b94, .unset, .unset, .unset] [(.int 5)]))
          refine own_via (fun k => XS.ifNo X94.here hx rfl (hb hby at_82) rfl (by decide) k) ?_
          show own_Go p e below s _ _ (T94.setTop (mkF m 85 #[iv p0, iv p1, iv p2, iv 5, iv z1, iv z3, iv z5, iv ((p1 >>> ((24 : Int32) &&& 31)).toInt8.toInt32), iv (p2.toInt8.toInt32), rv b94, .unset, .unset, .unset] []))
          refine own_via (fun k => XS.aload X94.here hx rfl (hb hby at_85) rfl rfl  (XS.iconst X94.here hx rfl (hb hby at_87) (XS.iload X94.here hx rfl (hb hby at_88) rfl  k))) ?_
          show own_Go p e below s _ _ (T94.setTop (mkF m 90 #[iv p0, iv p1, iv p2, iv 5, iv z1, iv z3, iv z5, iv ((p1 >>> ((24 : Int32) &&& 31)).toInt8.toInt32), iv (p2.toInt8.toInt32), rv b94, .unset, .unset, .unset] [(.int z1), (.int 0), (.ref b94)]))
          obtain ⟨cl98, Ar98, q98, S98, NN98, H98, G98⟩ := id B97
          have hin98 : ¬ ((0 : Int32) < 0 ∨ cl98.slots.size ≤ ((0 : Int32)).toNatClampNeg) := inb_of S98 ⟨by decide, by decide⟩
          obtain ⟨T98, h98, X98, e98, W98, st98⟩ := stB X94 hx hZ e94 Ar98 (j := (0 : Int32)) hin98 (g := (mkF m 90 #[iv p0, iv p1, iv p2, iv 5, iv z1, iv z3, iv z5, iv ((p1 >>> ((24 : Int32) &&& 31)).toInt8.toInt32), iv (p2.toInt8.toInt32), rv b94, .unset, .unset, .unset] [(.int z1), (.int 0), (.ref b94)])) rfl rfl (hb hby at_90)
          refine own_via (fun k => st98 _ k) ?_
          show own_Go p e below s _ _ (T98.setTop (mkF m 91 #[iv p0, iv p1, iv p2, iv 5, iv z1, iv z3, iv z5, iv ((p1 >>> ((24 : Int32) &&& 31)).toInt8.toInt32), iv (p2.toInt8.toInt32), rv b94, .unset, .unset, .unset] []))
          have B99 : Arv Z h98 b94 k94 .byte (5 : Int32) [(.int (nar .byte z1)), (.int 0), (.int 0), (.int 0), (.int 0)] (.int 0) := Arv.set Ar98 q98 S98 NN98 H98 G98 (fits_nar_byte _) W98 0 rfl (Nat.le_of_ble_eq_true rfl)
          have N100 := Fr.snoc X98 N0 g95
          have Z101 : n0 ≤ h98.size := Nat.le_trans Z96 (Keep.of_wr W98).1
          refine own_via (fun k => XS.iloadN X98.here hx rfl (hb hby at_91) rfl  (XS.iconst X98.here hx rfl (hb hby at_92) k)) ?_
          show own_Go p e below s _ _ (T98.setTop (mkF m 93 #[iv p0, iv p1, iv p2, iv 5, iv z1, iv z3, iv z5, iv ((p1 >>> ((24 : Int32) &&& 31)).toInt8.toInt32), iv (p2.toInt8.toInt32), rv b94, .unset, .unset, .unset] [(.int 1), (.int 5)]))
          refine own_via (fun k => XS.icmpNo X98.here hx rfl (hb hby at_93) rfl (by decide) k) ?_
          show own_Go p e below s _ _ (T98.setTop (mkF m 96 #[iv p0, iv p1, iv p2, iv 5, iv z1, iv z3, iv z5, iv ((p1 >>> ((24 : Int32) &&& 31)).toInt8.toInt32), iv (p2.toInt8.toInt32), rv b94, .unset, .unset, .unset] []))
          refine own_via (fun k => XS.aload X98.here hx rfl (hb hby at_96) rfl rfl  (XS.iconst X98.here hx rfl (hb hby at_98) (XS.iload X98.here hx rfl (hb hby at_99) rfl  k))) ?_
          show own_Go p e below s _ _ (T98.setTop (mkF m 101 #[iv p0, iv p1, iv p2, iv 5, iv z1, iv z3, iv z5, iv ((p1 >>> ((24 : Int32) &&& 31)).toInt8.toInt32), iv (p2.toInt8.toInt32), rv b94, .unset, .unset, .unset] [(.int z3), (.int 1), (.ref b94)]))
          obtain ⟨cl102, Ar102, q102, S102, NN102, H102, G102⟩ := id B99
          have hin102 : ¬ ((1 : Int32) < 0 ∨ cl102.slots.size ≤ ((1 : Int32)).toNatClampNeg) := inb_of S102 ⟨by decide, by decide⟩
          obtain ⟨T102, h102, X102, e102, W102, st102⟩ := stB X98 hx hZ e98 Ar102 (j := (1 : Int32)) hin102 (g := (mkF m 101 #[iv p0, iv p1, iv p2, iv 5, iv z1, iv z3, iv z5, iv ((p1 >>> ((24 : Int32) &&& 31)).toInt8.toInt32), iv (p2.toInt8.toInt32), rv b94, .unset, .unset, .unset] [(.int z3), (.int 1), (.ref b94)])) rfl rfl (hb hby at_101)
          refine own_via (fun k => st102 _ k) ?_
          show own_Go p e below s _ _ (T102.setTop (mkF m 102 #[iv p0, iv p1, iv p2, iv 5, iv z1, iv z3, iv z5, iv ((p1 >>> ((24 : Int32) &&& 31)).toInt8.toInt32), iv (p2.toInt8.toInt32), rv b94, .unset, .unset, .unset] []))
          have B103 : Arv Z h102 b94 k94 .byte (5 : Int32) [(.int (nar .byte z1)), (.int (nar .byte z3)), (.int 0), (.int 0), (.int 0)] (.int 0) := Arv.set Ar102 q102 S102 NN102 H102 G102 (fits_nar_byte _) W102 1 rfl (Nat.le_of_ble_eq_true rfl)
          have N104 := Fr.snoc X102 N100 g95
          have Z105 : n0 ≤ h102.size := Nat.le_trans Z101 (Keep.of_wr W102).1
          refine own_via (fun k => XS.iloadN X102.here hx rfl (hb hby at_102) rfl  (XS.iconst X102.here hx rfl (hb hby at_103) k)) ?_
          show own_Go p e below s _ _ (T102.setTop (mkF m 104 #[iv p0, iv p1, iv p2, iv 5, iv z1, iv z3, iv z5, iv ((p1 >>> ((24 : Int32) &&& 31)).toInt8.toInt32), iv (p2.toInt8.toInt32), rv b94, .unset, .unset, .unset] [(.int 2), (.int 5)]))
          refine own_via (fun k => XS.icmpNo X102.here hx rfl (hb hby at_104) rfl (by decide) k) ?_
          show own_Go p e below s _ _ (T102.setTop (mkF m 107 #[iv p0, iv p1, iv p2, iv 5, iv z1, iv z3, iv z5, iv ((p1 >>> ((24 : Int32) &&& 31)).toInt8.toInt32), iv (p2.toInt8.toInt32), rv b94, .unset, .unset, .unset] []))
          refine own_via (fun k => XS.aload X102.here hx rfl (hb hby at_107) rfl rfl  (XS.iconst X102.here hx rfl (hb hby at_109) (XS.iload X102.here hx rfl (hb hby at_110) rfl  k))) ?_
          show own_Go p e below s _ _ (T102.setTop (mkF m 112 #[iv p0, iv p1, iv p2, iv 5, iv z1, iv z3, iv z5, iv ((p1 >>> ((24 : Int32) &&& 31)).toInt8.toInt32), iv (p2.toInt8.toInt32), rv b94, .unset, .unset, .unset] [(.int z5), (.int 2), (.ref b94)]))
          obtain ⟨cl106, Ar106, q106, S106, NN106, H106, G106⟩ := id B103
          have hin106 : ¬ ((2 : Int32) < 0 ∨ cl106.slots.size ≤ ((2 : Int32)).toNatClampNeg) := inb_of S106 ⟨by decide, by decide⟩
          obtain ⟨T106, h106, X106, e106, W106, st106⟩ := stB X102 hx hZ e102 Ar106 (j := (2 : Int32)) hin106 (g := (mkF m 112 #[iv p0, iv p1, iv p2, iv 5, iv z1, iv z3, iv z5, iv ((p1 >>> ((24 : Int32) &&& 31)).toInt8.toInt32), iv (p2.toInt8.toInt32), rv b94, .unset, .unset, .unset] [(.int z5), (.int 2), (.ref b94)])) rfl rfl (hb hby at_112)
          refine own_via (fun k => st106 _ k) ?_
          show own_Go p e below s _ _ (T106.setTop (mkF m 113 #[iv p0, iv p1, iv p2, iv 5, iv z1, iv z3, iv z5, iv ((p1 >>> ((24 : Int32) &&& 31)).toInt8.toInt32), iv (p2.toInt8.toInt32), rv b94, .unset, .unset, .unset] []))
          have B107 : Arv Z h106 b94 k94 .byte (5 : Int32) [(.int (nar .byte z1)), (.int (nar .byte z3)), (.int (nar .byte z5)), (.int 0), (.int 0)] (.int 0) := Arv.set Ar106 q106 S106 NN106 H106 G106 (fits_nar_byte _) W106 2 rfl (Nat.le_of_ble_eq_true rfl)
          have N108 := Fr.snoc X106 N104 g95
          have Z109 : n0 ≤ h106.size := Nat.le_trans Z105 (Keep.of_wr W106).1
          refine own_via (fun k => XS.iloadN X106.here hx rfl (hb hby at_113) rfl  (XS.iconst X106.here hx rfl (hb hby at_114) k)) ?_
          show own_Go p e below s _ _ (T106.setTop (mkF m 115 #[iv p0, iv p1, iv p2, iv 5, iv z1, iv z3, iv z5, iv ((p1 >>> ((24 : Int32) &&& 31)).toInt8.toInt32), iv (p2.toInt8.toInt32), rv b94, .unset, .unset, .unset] [(.int 3), (.int 5)]))
          refine own_via (fun k => XS.icmpNo X106.here hx rfl (hb hby at_115) rfl (by decide) k) ?_
          show own_Go p e below s _ _ (T106.setTop (mkF m 118 #[iv p0, iv p1, iv p2, iv 5, iv z1, iv z3, iv z5, iv ((p1 >>> ((24 : Int32) &&& 31)).toInt8.toInt32), iv (p2.toInt8.toInt32), rv b94, .unset, .unset, .unset] []))
          refine own_via (fun k => XS.aload X106.here hx rfl (hb hby at_118) rfl rfl  (XS.iconst X106.here hx rfl (hb hby at_120) (XS.iload X106.here hx rfl (hb hby at_121) rfl  k))) ?_
          show own_Go p e below s _ _ (T106.setTop (mkF m 123 #[iv p0, iv p1, iv p2, iv 5, iv z1, iv z3, iv z5, iv ((p1 >>> ((24 : Int32) &&& 31)).toInt8.toInt32), iv (p2.toInt8.toInt32), rv b94, .unset, .unset, .unset] [(.int ((p1 >>> ((24 : Int32) &&& 31)).toInt8.toInt32)), (.int 3), (.ref b94)]))
          obtain ⟨cl110, Ar110, q110, S110, NN110, H110, G110⟩ := id B107
          have hin110 : ¬ ((3 : Int32) < 0 ∨ cl110.slots.size ≤ ((3 : Int32)).toNatClampNeg) := inb_of S110 ⟨by decide, by decide⟩
          obtain ⟨T110, h110, X110, e110, W110, st110⟩ := stB X106 hx hZ e106 Ar110 (j := (3 : Int32)) hin110 (g := (mkF m 123 #[iv p0, iv p1, iv p2, iv 5, iv z1, iv z3, iv z5, iv ((p1 >>> ((24 : Int32) &&& 31)).toInt8.toInt32), iv (p2.toInt8.toInt32), rv b94, .unset, .unset, .unset] [(.int ((p1 >>> ((24 : Int32) &&& 31)).toInt8.toInt32)), (.int 3), (.ref b94)])) rfl rfl (hb hby at_123)
          refine own_via (fun k => st110 _ k) ?_
          show own_Go p e below s _ _ (T110.setTop (mkF m 124 #[iv p0, iv p1, iv p2, iv 5, iv z1, iv z3, iv z5, iv ((p1 >>> ((24 : Int32) &&& 31)).toInt8.toInt32), iv (p2.toInt8.toInt32), rv b94, .unset, .unset, .unset] []))
          have B111 : Arv Z h110 b94 k94 .byte (5 : Int32) [(.int (nar .byte z1)), (.int (nar .byte z3)), (.int (nar .byte z5)), (.int (nar .byte ((p1 >>> ((24 : Int32) &&& 31)).toInt8.toInt32))), (.int 0)] (.int 0) := Arv.set Ar110 q110 S110 NN110 H110 G110 (fits_nar_byte _) W110 3 rfl (Nat.le_of_ble_eq_true rfl)
          have N112 := Fr.snoc X110 N108 g95
          have Z113 : n0 ≤ h110.size := Nat.le_trans Z109 (Keep.of_wr W110).1
          refine own_via (fun k => XS.iloadN X110.here hx rfl (hb hby at_124) rfl  (XS.iconst X110.here hx rfl (hb hby at_125) k)) ?_
          show own_Go p e below s _ _ (T110.setTop (mkF m 126 #[iv p0, iv p1, iv p2, iv 5, iv z1, iv z3, iv z5, iv ((p1 >>> ((24 : Int32) &&& 31)).toInt8.toInt32), iv (p2.toInt8.toInt32), rv b94, .unset, .unset, .unset] [(.int 4), (.int 5)]))
          refine own_via (fun k => XS.icmpNo X110.here hx rfl (hb hby at_126) rfl (by decide) k) ?_
          show own_Go p e below s _ _ (T110.setTop (mkF m 129 #[iv p0, iv p1, iv p2, iv 5, iv z1, iv z3, iv z5, iv ((p1 >>> ((24 : Int32) &&& 31)).toInt8.toInt32), iv (p2.toInt8.toInt32), rv b94, .unset, .unset, .unset] []))
          refine own_via (fun k => XS.aload X110.here hx rfl (hb hby at_129) rfl rfl  (XS.iconst X110.here hx rfl (hb hby at_131) (XS.iload X110.here hx rfl (hb hby at_132) rfl  k))) ?_
          show own_Go p e below s _ _ (T110.setTop (mkF m 134 #[iv p0, iv p1, iv p2, iv 5, iv z1, iv z3, iv z5, iv ((p1 >>> ((24 : Int32) &&& 31)).toInt8.toInt32), iv (p2.toInt8.toInt32), rv b94, .unset, .unset, .unset] [(.int (p2.toInt8.toInt32)), (.int 4), (.ref b94)]))
          obtain ⟨cl114, Ar114, q114, S114, NN114, H114, G114⟩ := id B111
          have hin114 : ¬ ((4 : Int32) < 0 ∨ cl114.slots.size ≤ ((4 : Int32)).toNatClampNeg) := inb_of S114 ⟨by decide, by decide⟩
          obtain ⟨T114, h114, X114, e114, W114, st114⟩ := stB X110 hx hZ e110 Ar114 (j := (4 : Int32)) hin114 (g := (mkF m 134 #[iv p0, iv p1, iv p2, iv 5, iv z1, iv z3, iv z5, iv ((p1 >>> ((24 : Int32) &&& 31)).toInt8.toInt32), iv (p2.toInt8.toInt32), rv b94, .unset, .unset, .unset] [(.int (p2.toInt8.toInt32)), (.int 4), (.ref b94)])) rfl rfl (hb hby at_134)
          refine own_via (fun k => st114 _ k) ?_
          show own_Go p e below s _ _ (T114.setTop (mkF m 135 #[iv p0, iv p1, iv p2, iv 5, iv z1, iv z3, iv z5, iv ((p1 >>> ((24 : Int32) &&& 31)).toInt8.toInt32), iv (p2.toInt8.toInt32), rv b94, .unset, .unset, .unset] []))
          have B115 : Arv Z h114 b94 k94 .byte (5 : Int32) [(.int (nar .byte z1)), (.int (nar .byte z3)), (.int (nar .byte z5)), (.int (nar .byte ((p1 >>> ((24 : Int32) &&& 31)).toInt8.toInt32))), (.int (nar .byte (p2.toInt8.toInt32)))] (.int 0) := Arv.set Ar114 q114 S114 NN114 H114 G114 (fits_nar_byte _) W114 4 rfl (Nat.le_of_ble_eq_true rfl)
          have N116 := Fr.snoc X114 N112 g95
          have Z117 : n0 ≤ h114.size := Nat.le_trans Z113 (Keep.of_wr W114).1
          refine own_via (fun k => XS.iloadN X114.here hx rfl (hb hby at_135) rfl  (XS.iconst X114.here hx rfl (hb hby at_136) k)) ?_
          show own_Go p e below s _ _ (T114.setTop (mkF m 137 #[iv p0, iv p1, iv p2, iv 5, iv z1, iv z3, iv z5, iv ((p1 >>> ((24 : Int32) &&& 31)).toInt8.toInt32), iv (p2.toInt8.toInt32), rv b94, .unset, .unset, .unset] [(.int 3), (.int 5)]))
          refine own_via (fun k => XS.icmpNo X114.here hx rfl (hb hby at_137) rfl (by decide) k) ?_
          show own_Go p e below s _ _ (T114.setTop (mkF m 140 #[iv p0, iv p1, iv p2, iv 5, iv z1, iv z3, iv z5, iv ((p1 >>> ((24 : Int32) &&& 31)).toInt8.toInt32), iv (p2.toInt8.toInt32), rv b94, .unset, .unset, .unset] []))
          refine own_via (fun k => XS.iload X114.here hx rfl (hb hby at_140) rfl  (XS.bipush X114.here hx rfl (hb hby at_142) k)) ?_
          show own_Go p e below s _ _ (T114.setTop (mkF m 144 #[iv p0, iv p1, iv p2, iv 5, iv z1, iv z3, iv z5, iv ((p1 >>> ((24 : Int32) &&& 31)).toInt8.toInt32), iv (p2.toInt8.toInt32), rv b94, .unset, .unset, .unset] [(.int (-17)), (.int z1)]))
          have J119 : ∀ (z118 : Int32), z118 = (if z1 = (-17 : Int32) then (if z3 = (-69 : Int32) then (if z5 = (-65 : Int32) then (1 : Int32) else (0 : Int32)) else (0 : Int32)) else (0 : Int32)) → own_Go p e below s (Q0 Z p0 p1 p2 h0 n0) (room_1.cells, room_1.slots) (T114.setTop (mkF m 166 #[iv p0, iv p1, iv p2, iv 5, iv z1, iv z3, iv z5, iv ((p1 >>> ((24 : Int32) &&& 31)).toInt8.toInt32), iv (p2.toInt8.toInt32), rv b94, .unset, .unset, .unset] [(.int z118)])) := by
            intro z118 hz118
            refine own_via (fun k => XS.istore X114.here hx rfl (hb hby at_166) rfl (l' := #[iv p0, iv p1, iv p2, iv 5, iv z1, iv z3, iv z5, iv ((p1 >>> ((24 : Int32) &&& 31)).toInt8.toInt32), iv (p2.toInt8.toInt32), rv b94, iv z118, .unset, .unset]) rfl (XS.iload X114.here hx rfl (hb hby at_168) rfl  k)) ?_
            show own_Go p e below s _ _ (T114.setTop (mkF m 170 #[iv p0, iv p1, iv p2, iv 5, iv z1, iv z3, iv z5, iv ((p1 >>> ((24 : Int32) &&& 31)).toInt8.toInt32), iv (p2.toInt8.toInt32), rv b94, iv z118, .unset, .unset] [(.int z118)]))
            have J121 : ∀ (z120 : Int32), z120 = (if z118 = (0 : Int32) then (0 : Int32) else (3 : Int32)) → own_Go p e below s (Q0 Z p0 p1 p2 h0 n0) (room_1.cells, room_1.slots) (T114.setTop (mkF m 178 #[iv p0, iv p1, iv p2, iv 5, iv z1, iv z3, iv z5, iv ((p1 >>> ((24 : Int32) &&& 31)).toInt8.toInt32), iv (p2.toInt8.toInt32), rv b94, iv z118, .unset, .unset] [(.int z120)])) := by
              intro z120 hz120
              refine own_via (fun k => XS.istore X114.here hx rfl (hb hby at_178) rfl (l' := #[iv p0, iv p1, iv p2, iv 5, iv z1, iv z3, iv z5, iv ((p1 >>> ((24 : Int32) &&& 31)).toInt8.toInt32), iv (p2.toInt8.toInt32), rv b94, iv z118, iv z120, .unset]) rfl (XS.aload X114.here hx rfl (hb hby at_180) rfl rfl  k)) ?_
              show own_Go p e below s _ _ (T114.setTop (mkF m 182 #[iv p0, iv p1, iv p2, iv 5, iv z1, iv z3, iv z5, iv ((p1 >>> ((24 : Int32) &&& 31)).toInt8.toInt32), iv (p2.toInt8.toInt32), rv b94, iv z118, iv z120, .unset] [(.ref b94)]))
              obtain ⟨_, _, ⟨T122, L122, k122, n122⟩, -, X122, ⟨Lc122, hQ122, l122, y122, z122⟩, st122⟩ := Jvm.LawKit.callS X114 hx (y := (⟨"com/example/dani/dani/formats/DecodingReader", "utf8ByteOrderMark", "([B)I"⟩ : MethodName)) hown (mvT hZ (hw _ (List.mem_of_getElem? (i := 2) rfl))) (mvT hZ (hw _ (List.mem_of_getElem? (i := 3) rfl))) (mvT hZ (hw _ (List.mem_of_getElem? (i := 4) rfl))) (mvT hZ (hw _ (List.mem_of_getElem? (i := 5) rfl))) (by decide) (backOf (W := 0) (rm1_5 l Z aw hw [] b94 k94 (nar .byte z1) (nar .byte z3) (nar .byte z5) (nar .byte ((p1 >>> ((24 : Int32) &&& 31)).toInt8.toInt32)) (nar .byte (p2.toInt8.toInt32)) h114 n0 Z117 B115) hZ (hw _ (List.mem_of_getElem? (i := 5) rfl)) (hw _ (List.mem_of_getElem? (i := 4) rfl)) (by decide) (by decide)) (g := (mkF m 182 #[iv p0, iv p1, iv p2, iv 5, iv z1, iv z3, iv z5, iv ((p1 >>> ((24 : Int32) &&& 31)).toInt8.toInt32), iv (p2.toInt8.toInt32), rv b94, iv z118, iv z120, .unset] [(.ref b94)])) rfl (by rw [hml]; rfl) (argsL := [(.ref b94)]) (rest := []) (lenOf pd_0 rfl) rfl (by show 2 * 0 + _ ≤ _; exact Nat.le_of_eq rfl) (hb hby at_182) (fun _ _ => ⟨rfl, e114, (by decide : 1 + 0 ≤ _), (by decide : 5 + 0 ≤ _)⟩)
              dsimp only [Pt.U, Pt.locs, Pt.cells, Pt.slots] at X122 l122 y122 z122 st122 hQ122
              subst l122 y122 z122
              obtain ⟨rfl, N122q, eh122⟩ := hQ122
              have N123 := Fr.app N116 N122q
              refine own_via (fun k => st122 _ k) ?_
              show own_Go p e below s _ _ (T122.setTop (mkF m 185 #[iv p0, iv p1, iv p2, iv 5, iv z1, iv z3, iv z5, iv ((p1 >>> ((24 : Int32) &&& 31)).toInt8.toInt32), iv (p2.toInt8.toInt32), rv b94, iv z118, iv z120, .unset] [(.int (own_f1_5 (nar .byte z1) (nar .byte z3) (nar .byte z5)))]))
              refine own_via (fun k => XS.istore X122.here hx rfl (hb hby at_185) rfl (l' := #[iv p0, iv p1, iv p2, iv 5, iv z1, iv z3, iv z5, iv ((p1 >>> ((24 : Int32) &&& 31)).toInt8.toInt32), iv (p2.toInt8.toInt32), rv b94, iv z118, iv z120, iv (own_f1_5 (nar .byte z1) (nar .byte z3) (nar .byte z5))]) rfl (XS.iload X122.here hx rfl (hb hby at_187) rfl  (XS.iload X122.here hx rfl (hb hby at_189) rfl  k))) ?_
              show own_Go p e below s _ _ (T122.setTop (mkF m 191 #[iv p0, iv p1, iv p2, iv 5, iv z1, iv z3, iv z5, iv ((p1 >>> ((24 : Int32) &&& 31)).toInt8.toInt32), iv (p2.toInt8.toInt32), rv b94, iv z118, iv z120, iv (own_f1_5 (nar .byte z1) (nar .byte z3) (nar .byte z5))] [(.int z120), (.int (own_f1_5 (nar .byte z1) (nar .byte z3) (nar .byte z5)))]))
              refine own_via (fun k => XS.icmpNo X122.here hx rfl (hb hby at_191) rfl (teq (own_law5 p0 p1 z1 hz1 z3 hz3 z5 hz5 z118 hz118 z120 hz120 hl7)).2 k) ?_
              show own_Go p e below s _ _ (T122.setTop (mkF m 194 #[iv p0, iv p1, iv p2, iv 5, iv z1, iv z3, iv z5, iv ((p1 >>> ((24 : Int32) &&& 31)).toInt8.toInt32), iv (p2.toInt8.toInt32), rv b94, iv z118, iv z120, iv (own_f1_5 (nar .byte z1) (nar .byte z3) (nar .byte z5))] []))
              refine own_via (fun k => XS.iconst X122.here hx rfl (hb hby at_194) (XS.goto X122.here hx rfl (pc0 := 195) (pc' := 199) rfl (hb hby at_195) (by decide) (by decide) k)) ?_
              show own_Go p e below s _ _ (T122.setTop (mkF m 199 #[iv p0, iv p1, iv p2, iv 5, iv z1, iv z3, iv z5, iv ((p1 >>> ((24 : Int32) &&& 31)).toInt8.toInt32), iv (p2.toInt8.toInt32), rv b94, iv z118, iv z120, iv (own_f1_5 (nar .byte z1) (nar .byte z3) (nar .byte z5))] [(.int 1)]))
              exact own_retN X122 hx hlk (t := .boolean) Bd.returns (by simp) (hb hby at_199) (Q := (Q0 Z p0 p1 p2 h0 n0)) ⟨rfl, N123⟩ (by decide) (by decide)
            by_cases hc124 : z118 = (0 : Int32)
            · refine own_via (fun k => XS.ifYes X114.here hx rfl (pc0 := 170) (pc' := 177) rfl (hb hby at_170) rfl ((if0 _ _).trans (teq hc124).1) (by decide) (by decide) k) ?_
              show own_Go p e below s _ _ (T114.setTop (mkF m 177 #[iv p0, iv p1, iv p2, iv 5, iv z1, iv z3, iv z5, iv ((p1 >>> ((24 : Int32) &&& 31)).toInt8.toInt32), iv (p2.toInt8.toInt32), rv b94, iv z118, .unset, .unset] []))
              refine own_via (fun k => XS.iconst X114.here hx rfl (hb hby at_177) k) ?_
              show own_Go p e below s _ _ (T114.setTop (mkF m 178 #[iv p0, iv p1, iv p2, iv 5, iv z1, iv z3, iv z5, iv ((p1 >>> ((24 : Int32) &&& 31)).toInt8.toInt32), iv (p2.toInt8.toInt32), rv b94, iv z118, .unset, .unset] [(.int 0)]))
              exact J121 (0 : Int32) (((if_pos hc124).trans rfl)).symm
            · refine own_via (fun k => XS.ifNo X114.here hx rfl (hb hby at_170) rfl ((if0 _ _).trans (feq hc124).1) k) ?_
              show own_Go p e below s _ _ (T114.setTop (mkF m 173 #[iv p0, iv p1, iv p2, iv 5, iv z1, iv z3, iv z5, iv ((p1 >>> ((24 : Int32) &&& 31)).toInt8.toInt32), iv (p2.toInt8.toInt32), rv b94, iv z118, .unset, .unset] []))
              refine own_via (fun k => XS.iconst X114.here hx rfl (hb hby at_173) (XS.goto X114.here hx rfl (pc0 := 174) (pc' := 178) rfl (hb hby at_174) (by decide) (by decide) k)) ?_
              show own_Go p e below s _ _ (T114.setTop (mkF m 178 #[iv p0, iv p1, iv p2, iv 5, iv z1, iv z3, iv z5, iv ((p1 >>> ((24 : Int32) &&& 31)).toInt8.toInt32), iv (p2.toInt8.toInt32), rv b94, iv z118, .unset, .unset] [(.int 3)]))
              exact J121 (3 : Int32) (((if_neg hc124).trans rfl)).symm
          by_cases hc125 : z1 = (-17 : Int32)
          · refine own_via (fun k => XS.icmpNo X114.here hx rfl (hb hby at_144) rfl (teq hc125).2 k) ?_
            show own_Go p e below s _ _ (T114.setTop (mkF m 147 #[iv p0, iv p1, iv p2, iv 5, iv z1, iv z3, iv z5, iv ((p1 >>> ((24 : Int32) &&& 31)).toInt8.toInt32), iv (p2.toInt8.toInt32), rv b94, .unset, .unset, .unset] []))
            refine own_via (fun k => XS.iload X114.here hx rfl (hb hby at_147) rfl  (XS.bipush X114.here hx rfl (hb hby at_149) k)) ?_
            show own_Go p e below s _ _ (T114.setTop (mkF m 151 #[iv p0, iv p1, iv p2, iv 5, iv z1, iv z3, iv z5, iv ((p1 >>> ((24 : Int32) &&& 31)).toInt8.toInt32), iv (p2.toInt8.toInt32), rv b94, .unset, .unset, .unset] [(.int (-69)), (.int z3)]))
            by_cases hc126 : z3 = (-69 : Int32)
            · refine own_via (fun k => XS.icmpNo X114.here hx rfl (hb hby at_151) rfl (teq hc126).2 k) ?_
              show own_Go p e below s _ _ (T114.setTop (mkF m 154 #[iv p0, iv p1, iv p2, iv 5, iv z1, iv z3, iv z5, iv ((p1 >>> ((24 : Int32) &&& 31)).toInt8.toInt32), iv (p2.toInt8.toInt32), rv b94, .unset, .unset, .unset] []))
              refine own_via (fun k => XS.iload X114.here hx rfl (hb hby at_154) rfl  (XS.bipush X114.here hx rfl (hb hby at_156) k)) ?_
              show own_Go p e below s _ _ (T114.setTop (mkF m 158 #[iv p0, iv p1, iv p2, iv 5, iv z1, iv z3, iv z5, iv ((p1 >>> ((24 : Int32) &&& 31)).toInt8.toInt32), iv (p2.toInt8.toInt32), rv b94, .unset, .unset, .unset] [(.int (-65)), (.int z5)]))
              by_cases hc127 : z5 = (-65 : Int32)
              · refine own_via (fun k => XS.icmpNo X114.here hx rfl (hb hby at_158) rfl (teq hc127).2 k) ?_
                show own_Go p e below s _ _ (T114.setTop (mkF m 161 #[iv p0, iv p1, iv p2, iv 5, iv z1, iv z3, iv z5, iv ((p1 >>> ((24 : Int32) &&& 31)).toInt8.toInt32), iv (p2.toInt8.toInt32), rv b94, .unset, .unset, .unset] []))
                refine own_via (fun k => XS.iconst X114.here hx rfl (hb hby at_161) (XS.goto X114.here hx rfl (pc0 := 162) (pc' := 166) rfl (hb hby at_162) (by decide) (by decide) k)) ?_
                show own_Go p e below s _ _ (T114.setTop (mkF m 166 #[iv p0, iv p1, iv p2, iv 5, iv z1, iv z3, iv z5, iv ((p1 >>> ((24 : Int32) &&& 31)).toInt8.toInt32), iv (p2.toInt8.toInt32), rv b94, .unset, .unset, .unset] [(.int 1)]))
                exact J119 (1 : Int32) (((if_pos hc125).trans ((if_pos hc126).trans ((if_pos hc127).trans rfl)))).symm
              · refine own_via (fun k => XS.icmpYes X114.here hx rfl (pc0 := 158) (pc' := 165) rfl (hb hby at_158) rfl (feq hc127).2 (by decide) (by decide) k) ?_
                show own_Go p e below s _ _ (T114.setTop (mkF m 165 #[iv p0, iv p1, iv p2, iv 5, iv z1, iv z3, iv z5, iv ((p1 >>> ((24 : Int32) &&& 31)).toInt8.toInt32), iv (p2.toInt8.toInt32), rv b94, .unset, .unset, .unset] []))
                refine own_via (fun k => XS.iconst X114.here hx rfl (hb hby at_165) k) ?_
                show own_Go p e below s _ _ (T114.setTop (mkF m 166 #[iv p0, iv p1, iv p2, iv 5, iv z1, iv z3, iv z5, iv ((p1 >>> ((24 : Int32) &&& 31)).toInt8.toInt32), iv (p2.toInt8.toInt32), rv b94, .unset, .unset, .unset] [(.int 0)]))
                exact J119 (0 : Int32) (((if_pos hc125).trans ((if_pos hc126).trans ((if_neg hc127).trans rfl)))).symm
            · refine own_via (fun k => XS.icmpYes X114.here hx rfl (pc0 := 151) (pc' := 165) rfl (hb hby at_151) rfl (feq hc126).2 (by decide) (by decide) k) ?_
              show own_Go p e below s _ _ (T114.setTop (mkF m 165 #[iv p0, iv p1, iv p2, iv 5, iv z1, iv z3, iv z5, iv ((p1 >>> ((24 : Int32) &&& 31)).toInt8.toInt32), iv (p2.toInt8.toInt32), rv b94, .unset, .unset, .unset] []))
              refine own_via (fun k => XS.iconst X114.here hx rfl (hb hby at_165) k) ?_
              show own_Go p e below s _ _ (T114.setTop (mkF m 166 #[iv p0, iv p1, iv p2, iv 5, iv z1, iv z3, iv z5, iv ((p1 >>> ((24 : Int32) &&& 31)).toInt8.toInt32), iv (p2.toInt8.toInt32), rv b94, .unset, .unset, .unset] [(.int 0)]))
              exact J119 (0 : Int32) (((if_pos hc125).trans ((if_neg hc126).trans rfl))).symm
          · refine own_via (fun k => XS.icmpYes X114.here hx rfl (pc0 := 144) (pc' := 165) rfl (hb hby at_144) rfl (feq hc125).2 (by decide) (by decide) k) ?_
            show own_Go p e below s _ _ (T114.setTop (mkF m 165 #[iv p0, iv p1, iv p2, iv 5, iv z1, iv z3, iv z5, iv ((p1 >>> ((24 : Int32) &&& 31)).toInt8.toInt32), iv (p2.toInt8.toInt32), rv b94, .unset, .unset, .unset] []))
            refine own_via (fun k => XS.iconst X114.here hx rfl (hb hby at_165) k) ?_
            show own_Go p e below s _ _ (T114.setTop (mkF m 166 #[iv p0, iv p1, iv p2, iv 5, iv z1, iv z3, iv z5, iv ((p1 >>> ((24 : Int32) &&& 31)).toInt8.toInt32), iv (p2.toInt8.toInt32), rv b94, .unset, .unset, .unset] [(.int 0)]))
            exact J119 (0 : Int32) (((if_neg hc125).trans rfl)).symm
      by_cases hc128 : ((p0 >>> ((5 : Int32) &&& 31)) &&& (1 : Int32)) = (0 : Int32)
      · refine own_via (fun k => XS.ifYes X0.here hx rfl (pc0 := 50) (pc' := 58) rfl (hb hby at_50) rfl ((if0 _ _).trans (teq hc128).1) (by decide) (by decide) k) ?_
        show own_Go p e below s _ _ (s₁.setTop (mkF m 58 #[iv p0, iv p1, iv p2, iv ((p0 &&& (2147483647 : Int32)) % (6 : Int32)), iv z1, iv z3, .unset, .unset, .unset, .unset, .unset, .unset, .unset] []))
        refine own_via (fun k => XS.iloadN X0.here hx rfl (hb hby at_58) rfl  (XS.bipush X0.here hx rfl (hb hby at_59) (XS.ishr X0.here hx rfl (hb hby at_61) rfl (XS.i2b X0.here hx rfl (hb hby at_62) rfl k)))) ?_
        show own_Go p e below s _ _ (s₁.setTop (mkF m 63 #[iv p0, iv p1, iv p2, iv ((p0 &&& (2147483647 : Int32)) % (6 : Int32)), iv z1, iv z3, .unset, .unset, .unset, .unset, .unset, .unset, .unset] [(.int ((p1 >>> ((16 : Int32) &&& 31)).toInt8.toInt32))]))
        exact J6 ((p1 >>> ((16 : Int32) &&& 31)).toInt8.toInt32) (((if_pos hc128).trans rfl)).symm
      · refine own_via (fun k => XS.ifNo X0.here hx rfl (hb hby at_50) rfl ((if0 _ _).trans (feq hc128).1) k) ?_
        show own_Go p e below s _ _ (s₁.setTop (mkF m 53 #[iv p0, iv p1, iv p2, iv ((p0 &&& (2147483647 : Int32)) % (6 : Int32)), iv z1, iv z3, .unset, .unset, .unset, .unset, .unset, .unset, .unset] []))
        refine own_via (fun k => XS.bipush X0.here hx rfl (hb hby at_53) (XS.goto X0.here hx rfl (pc0 := 55) (pc' := 63) rfl (hb hby at_55) (by decide) (by decide) k)) ?_
        show own_Go p e below s _ _ (s₁.setTop (mkF m 63 #[iv p0, iv p1, iv p2, iv ((p0 &&& (2147483647 : Int32)) % (6 : Int32)), iv z1, iv z3, .unset, .unset, .unset, .unset, .unset, .unset, .unset] [(.int (-65))]))
        exact J6 (-65 : Int32) (((if_neg hc128).trans rfl)).symm
    by_cases hc129 : ((p0 >>> ((4 : Int32) &&& 31)) &&& (1 : Int32)) = (0 : Int32)
    · refine own_via (fun k => XS.ifYes X0.here hx rfl (pc0 := 30) (pc' := 38) rfl (hb hby at_30) rfl ((if0 _ _).trans (teq hc129).1) (by decide) (by decide) k) ?_
      show own_Go p e below s _ _ (s₁.setTop (mkF m 38 #[iv p0, iv p1, iv p2, iv ((p0 &&& (2147483647 : Int32)) % (6 : Int32)), iv z1, .unset, .unset, .unset, .unset, .unset, .unset, .unset, .unset] []))
      refine own_via (fun k => XS.iloadN X0.here hx rfl (hb hby at_38) rfl  (XS.bipush X0.here hx rfl (hb hby at_39) (XS.ishr X0.here hx rfl (hb hby at_41) rfl (XS.i2b X0.here hx rfl (hb hby at_42) rfl k)))) ?_
      show own_Go p e below s _ _ (s₁.setTop (mkF m 43 #[iv p0, iv p1, iv p2, iv ((p0 &&& (2147483647 : Int32)) % (6 : Int32)), iv z1, .unset, .unset, .unset, .unset, .unset, .unset, .unset, .unset] [(.int ((p1 >>> ((8 : Int32) &&& 31)).toInt8.toInt32))]))
      exact J4 ((p1 >>> ((8 : Int32) &&& 31)).toInt8.toInt32) (((if_pos hc129).trans rfl)).symm
    · refine own_via (fun k => XS.ifNo X0.here hx rfl (hb hby at_30) rfl ((if0 _ _).trans (feq hc129).1) k) ?_
      show own_Go p e below s _ _ (s₁.setTop (mkF m 33 #[iv p0, iv p1, iv p2, iv ((p0 &&& (2147483647 : Int32)) % (6 : Int32)), iv z1, .unset, .unset, .unset, .unset, .unset, .unset, .unset, .unset] []))
      refine own_via (fun k => XS.bipush X0.here hx rfl (hb hby at_33) (XS.goto X0.here hx rfl (pc0 := 35) (pc' := 43) rfl (hb hby at_35) (by decide) (by decide) k)) ?_
      show own_Go p e below s _ _ (s₁.setTop (mkF m 43 #[iv p0, iv p1, iv p2, iv ((p0 &&& (2147483647 : Int32)) % (6 : Int32)), iv z1, .unset, .unset, .unset, .unset, .unset, .unset, .unset, .unset] [(.int (-69))]))
      exact J4 (-69 : Int32) (((if_neg hc129).trans rfl)).symm
  by_cases hc130 : ((p0 >>> ((3 : Int32) &&& 31)) &&& (1 : Int32)) = (0 : Int32)
  · refine own_via (fun k => XS.ifYes X0.here hx rfl (pc0 := 13) (pc' := 21) rfl (hb hby at_13) rfl ((if0 _ _).trans (teq hc130).1) (by decide) (by decide) k) ?_
    show own_Go p e below s _ _ (s₁.setTop (mkF m 21 #[iv p0, iv p1, iv p2, iv ((p0 &&& (2147483647 : Int32)) % (6 : Int32)), .unset, .unset, .unset, .unset, .unset, .unset, .unset, .unset, .unset] []))
    refine own_via (fun k => XS.iloadN X0.here hx rfl (hb hby at_21) rfl  (XS.i2b X0.here hx rfl (hb hby at_22) rfl k)) ?_
    show own_Go p e below s _ _ (s₁.setTop (mkF m 23 #[iv p0, iv p1, iv p2, iv ((p0 &&& (2147483647 : Int32)) % (6 : Int32)), .unset, .unset, .unset, .unset, .unset, .unset, .unset, .unset, .unset] [(.int (p1.toInt8.toInt32))]))
    exact J2 (p1.toInt8.toInt32) (((if_pos hc130).trans rfl)).symm
  · refine own_via (fun k => XS.ifNo X0.here hx rfl (hb hby at_13) rfl ((if0 _ _).trans (feq hc130).1) k) ?_
    show own_Go p e below s _ _ (s₁.setTop (mkF m 16 #[iv p0, iv p1, iv p2, iv ((p0 &&& (2147483647 : Int32)) % (6 : Int32)), .unset, .unset, .unset, .unset, .unset, .unset, .unset, .unset, .unset] []))
    refine own_via (fun k => XS.bipush X0.here hx rfl (hb hby at_16) (XS.goto X0.here hx rfl (pc0 := 18) (pc' := 23) rfl (hb hby at_18) (by decide) (by decide) k)) ?_
    show own_Go p e below s _ _ (s₁.setTop (mkF m 23 #[iv p0, iv p1, iv p2, iv ((p0 &&& (2147483647 : Int32)) % (6 : Int32)), .unset, .unset, .unset, .unset, .unset, .unset, .unset, .unset, .unset] [(.int (-17))]))
    exact J2 (-17 : Int32) (((if_neg hc130).trans rfl)).symm
set_option maxRecDepth 65536 in
set_option maxHeartbeats 40000000 in
theorem comes_1 {Post : Tables → Env → Array Value → State → Outcome → State → Prop} (hpost : ∀ tb e args s v u, (limb_1_1.after args s (.returned v) u = true ∧ limb_1_2.after args s (.returned v) u = true ∧ True) → FrameEnd s (.returned v) u (Jvm.fieldLocs frame_1_writes args s ++ Jvm.arrayLocs frame_1_arrays args s ++ Jvm.staticLocs frame_1_statics s) 16 128 → Post tb e args s (.returned v) u) :
    ArmFor flags0 classFile x code maxLocals ret World_1 tables_1 room_1 Calls_1 rest_1 Pre_1 Post := by
  intro l hfl _ _ p e ha hc hk s m args below hf hA hF happ hP
  obtain ⟨hcalls, hrest, hpre⟩ := hP
  obtain ⟨-, -, -, hnamed, -, -, -, hat⟩ := (Spec.applies_iff hf).mp happ
  obtain ⟨hg, hn⟩ := and_e (Cond.before_iff.mp (show (Jvm.Cond.and given_1 narrow_1).before args s = true from hpre))
  obtain ⟨g1, g2⟩ := and_e hg
  obtain ⟨g3, g4⟩ := and_e g2
  obtain ⟨g5, g6⟩ := and_e g4
  obtain ⟨w0, w1, w2, rfl⟩ : ∃ w0 w1 w2 : Value, args = #[w0, w1, w2] := by
    have hs : args.size = 3 := by simpa [Cond.value, given_1] using g1
    obtain ⟨L⟩ := args
    match L, hs with
    | [w0, w1, w2], _ => exact ⟨w0, w1, w2, rfl⟩
  have hw := fun d (hd : d ∈ tables_1) => atoms_spec (ws := Jvm.Cond.code x code maxLocals ret :: tables_1) hat d (List.mem_cons_of_mem _ hd)
  obtain ⟨i0, ei0⟩ := is_v g3
  obtain rfl : w0 = (.int i0) := Option.some.inj ei0
  obtain ⟨i1, ei1⟩ := is_v g5
  obtain rfl : w1 = (.int i1) := Option.some.inj ei1
  obtain ⟨i2, ei2⟩ := is_v g6
  obtain rfl : w2 = (.int i2) := Option.some.inj ei2
  obtain ⟨n, o, h1, h2, h3, _, L, rfl, ⟨rfl, N⟩, hq⟩ := rm0 l s _ hw tables_1 i0 i1 i2 s.heap s.heap.size (Nat.le_refl _) p e ha hc hk s m _ below hf ((Spec.applies_iff_loose hf).mp happ).1 ⟨rfl, State.Warmed39.refl s, rfl⟩ trivial
  refine ⟨n, _, h1, h2, h3, hpost _ _ _ _ _ _ ⟨Cond.after_iff.mpr rfl, Cond.after_iff.mpr (eq_i res_at (Term.int_eval (1)) rfl), trivial⟩ ⟨hq.1, hq.2.1, (hq.2.2.sift fun y hy => Or.inr (N y hy)).mono (by decide) (by decide)⟩⟩
theorem main_1_1 : Claimed_1_1 := comes_1 fun _ _ _ _ _ _ h hF => ⟨h.1, hF⟩
theorem main_1_2 : Claimed_1_2 := comes_1 fun _ _ _ _ _ _ h hF => ⟨h.2.1, hF⟩
end Jvm.Pilot.@@N@@
namespace Jvm.Pilot.@@N@@
open Jvm Jvm.ClassFile Sem Op Lib Jvm.Free Jvm.Stand Jvm.Pilot.@@N@@.Jvm.D
/-! MADE BY PROGRAM (witnessworld.py) out of the Statement's table words and the real class files: 13 classes; the members and pool entries that the words name. The judged class is class 1, her method 1. -/
namespace start1
open Jvm.ClassFile
def u (s : String) : CpInfo := .utf8 (stringToUtf16 s)
/-- a pool by its gaps: so many unusable entries, then the entry; so many at the end -/
def gap : Nat → List CpInfo → List CpInfo
  | 0, r => r
  | n + 1, r => .unusable :: gap n r
def poolList (es : List (Nat × CpInfo)) (last : Nat) : List CpInfo := es.foldr (fun e r => gap e.1 (e.2 :: r)) (gap last [])
def pool (es : List (Nat × CpInfo)) (last : Nat) : Array CpInfo := ⟨poolList es last⟩
def fileOf (pool : Array CpInfo) (this : Nat) (attrs : Array Attribute := #[]) (ms : Array MethodInfo := #[]) (fl : Nat := 33) (sup : Nat := 0) (ifs : Array Nat := #[]) (fds : Array FieldInfo := #[]) : ClassFile where
  minorVersion := 0
  majorVersion := 65
  constantPool := pool
  accessFlags := fl
  thisClass := this
  superClass := sup
  interfaces := ifs
  fields := fds
  methods := ms
  attributes := attrs
def plain (name : String) (sup : Option ClassId) : Class where
  name := name
  kind := .ordinary
  loader := none
  accessFlags := 33
  super := sup
  interfaces := #[]
  cf := none
  fields := #[]
  methods := #[]
  instanceTypes := #[]
  staticTypes := #[]
  resolved := #[]
  callSites := []
  init := .initialized
  statics := none
  mirror := none

def pool0 : Array CpInfo := pool [(5, u "<init>"), (0, u "()V"), (1, .class_ 10), (1, u "java/lang/Object")] 113

def k0m0 : Method := { name := "<init>", desc := "()V", sig := { parameters := [], returnType := none }, accessFlags := 1, code := none }
/-- java/lang/Object -/
def k0 : Class := { plain "java/lang/Object" none with
  accessFlags := 33
  interfaces := #[]
  cf := some (fileOf pool0 8 #[] #[{ accessFlags := 1, nameIndex := 5, descriptorIndex := 6, attributes := #[] }] 33 0 #[] #[])
  fields := #[]
  methods := #[k0m0]
  instanceTypes := #[]
  staticTypes := #[]
  resolved := Array.replicate 124 none
  statics := none }

def pool1 : Array CpInfo := pool [(2, .class_ 4), (1, u "java/lang/Object"), (0, u "<init>"), (0, u "()V"), (0, .integer 2147483647), (0, .methodref 9 10), (0, .class_ 11), (0, .nameAndType 12 13), (0, u "com/example/dani/dani/formats/DecodingReader"), (0, u "utf8ByteOrderMark"), (0, u "([B)I"), (0, .class_ 15), (0, u "com/example/dani/dani/formats/DecodingReaderUtf8ByteOrderMarkPinLaw"), (2, u "law"), (0, u "(III)Z")] 5

def k1m0 : Method := { name := "<init>", desc := "()V", sig := { parameters := [], returnType := none }, accessFlags := 1, code := none }
def k1c1 : Code := { maxStack := 3, maxLocals := 13, code := code, exceptionTable := #[], attributes := #[] }
def k1m1 : Method := { name := "law", desc := "(III)Z", sig := { parameters := [.int, .int, .int], returnType := some .boolean }, accessFlags := 9, code := some k1c1 }
/-- com/example/dani/dani/formats/DecodingReaderUtf8ByteOrderMarkPinLaw -/
def k1 : Class := { plain "com/example/dani/dani/formats/DecodingReaderUtf8ByteOrderMarkPinLaw" (some 0) with
  accessFlags := 49
  interfaces := #[]
  cf := some (fileOf pool1 14 #[] #[{ accessFlags := 1, nameIndex := 5, descriptorIndex := 6, attributes := #[] }, { accessFlags := 9, nameIndex := 18, descriptorIndex := 19, attributes := #[] }] 49 2 #[] #[])
  fields := #[]
  methods := #[k1m0, k1m1]
  instanceTypes := #[]
  staticTypes := #[]
  resolved := Array.replicate 25 none
  statics := none }

def pool2 : Array CpInfo := pool [(1, .class_ 2), (0, u "java/lang/Readable"), (0, .class_ 4), (0, u "java/lang/Object")] 7

/-- java/lang/Readable -/
def k2 : Class := { plain "java/lang/Readable" (some 0) with
  accessFlags := 1537
  interfaces := #[]
  cf := some (fileOf pool2 1 #[] #[] 1537 3 #[] #[])
  fields := #[]
  methods := #[]
  instanceTypes := #[]
  staticTypes := #[]
  resolved := Array.replicate 12 none
  statics := none }

def pool3 : Array CpInfo := pool [(1, .class_ 2), (0, u "java/lang/AutoCloseable"), (0, .class_ 4), (0, u "java/lang/Object")] 7

/-- java/lang/AutoCloseable -/
def k3 : Class := { plain "java/lang/AutoCloseable" (some 0) with
  accessFlags := 1537
  interfaces := #[]
  cf := some (fileOf pool3 1 #[] #[] 1537 3 #[] #[])
  fields := #[]
  methods := #[]
  instanceTypes := #[]
  staticTypes := #[]
  resolved := Array.replicate 12 none
  statics := none }

def pool4 : Array CpInfo := pool [(1, .class_ 2), (0, u "java/io/Closeable"), (0, .class_ 4), (0, u "java/lang/Object"), (0, .class_ 6), (0, u "java/lang/AutoCloseable")] 7

/-- java/io/Closeable -/
def k4 : Class := { plain "java/io/Closeable" (some 0) with
  accessFlags := 1537
  interfaces := #[3]
  cf := some (fileOf pool4 1 #[] #[] 1537 3 #[5] #[])
  fields := #[]
  methods := #[]
  instanceTypes := #[]
  staticTypes := #[]
  resolved := Array.replicate 14 none
  statics := none }

def pool5 : Array CpInfo := pool [(1, .class_ 2), (0, u "java/io/Reader$1"), (2, u "<init>"), (0, u "()V"), (1, .class_ 9), (0, u "java/lang/Object"), (1, .class_ 13), (1, u "java/io/Reader"), (0, u "skipBuffer"), (0, u "[C"), (2, u "lock"), (0, u "Ljava/lang/Object;"), (117, .class_ 138), (0, u "java/lang/Readable"), (0, .class_ 140), (0, u "java/io/Closeable"), (0, u "TRANSFER_BUFFER_SIZE"), (0, u "I"), (2, u "maxSkipBufferSize")] 59

def k5m0 : Method := { name := "<init>", desc := "()V", sig := { parameters := [], returnType := none }, accessFlags := 4, code := none }
/-- java/io/Reader -/
def k5 : Class := { plain "java/io/Reader" (some 0) with
  accessFlags := 1057
  interfaces := #[2, 4]
  cf := some (fileOf pool5 11 #[.nestMembers #[1]] #[{ accessFlags := 4, nameIndex := 5, descriptorIndex := 6, attributes := #[] }] 1057 8 #[137, 139] #[{ accessFlags := 26, nameIndex := 141, descriptorIndex := 142, attributes := #[] }, { accessFlags := 4, nameIndex := 18, descriptorIndex := 19, attributes := #[] }, { accessFlags := 26, nameIndex := 145, descriptorIndex := 142, attributes := #[] }, { accessFlags := 2, nameIndex := 14, descriptorIndex := 15, attributes := #[] }])
  fields := #[{ name := "TRANSFER_BUFFER_SIZE", type := .int, accessFlags := 26, slot := 0, constantValue := 0 }, { name := "lock", type := (.object "java/lang/Object"), accessFlags := 4, slot := 0, constantValue := 0 }, { name := "maxSkipBufferSize", type := .int, accessFlags := 26, slot := 1, constantValue := 0 }, { name := "skipBuffer", type := (.array .char), accessFlags := 2, slot := 1, constantValue := 0 }]
  methods := #[k5m0]
  instanceTypes := #[(.object "java/lang/Object"), (.array .char)]
  staticTypes := #[.int, .int]
  resolved := Array.replicate 205 none
  statics := none }

def pool6 : Array CpInfo := pool [(2, .class_ 4), (1, u "java/io/Reader"), (2, .class_ 8), (0, u "com/example/dani/dani/formats/DecodingReader"), (11, u "bytes"), (0, u "Ljava/nio/ByteBuffer;"), (9, u "chars"), (0, u "Ljava/nio/CharBuffer;"), (2, u "in"), (0, u "Ljava/io/InputStream;"), (2, u "charset"), (0, u "Ljava/nio/charset/Charset;"), (8, u "decoder"), (0, u "Ljava/nio/charset/CharsetDecoder;"), (35, u "ended"), (0, u "Z"), (2, u "endOfInput"), (37, u "lineFeeds"), (0, u "J"), (2, u "started"), (38, .class_ 172), (0, u "com/example/dani/dani/formats/DecodingReader$NotDecodedException"), (15, u "BUFFER"), (0, u "I"), (2, u "BYTE_ORDER_MARK"), (0, u "C"), (3, u "utf8ByteOrderMark"), (0, u "([B)I")] 32

def k6c0 : Code := { maxStack := 2, maxLocals := 2, code := prog_33_method_2_code, exceptionTable := #[], attributes := #[] }
def k6m0 : Method := { name := "utf8ByteOrderMark", desc := "([B)I", sig := { parameters := [(.array .byte)], returnType := some .int }, accessFlags := 8, code := some k6c0 }
/-- com/example/dani/dani/formats/DecodingReader -/
def k6 : Class := { plain "com/example/dani/dani/formats/DecodingReader" (some 5) with
  accessFlags := 32
  interfaces := #[]
  cf := some (fileOf pool6 7 #[.nestMembers #[171]] #[{ accessFlags := 8, nameIndex := 197, descriptorIndex := 198, attributes := #[] }] 32 2 #[] #[{ accessFlags := 26, nameIndex := 188, descriptorIndex := 189, attributes := #[] }, { accessFlags := 26, nameIndex := 192, descriptorIndex := 193, attributes := #[] }, { accessFlags := 18, nameIndex := 35, descriptorIndex := 36, attributes := #[] }, { accessFlags := 18, nameIndex := 39, descriptorIndex := 40, attributes := #[] }, { accessFlags := 18, nameIndex := 49, descriptorIndex := 50, attributes := #[] }, { accessFlags := 18, nameIndex := 20, descriptorIndex := 21, attributes := #[] }, { accessFlags := 18, nameIndex := 31, descriptorIndex := 32, attributes := #[] }, { accessFlags := 2, nameIndex := 90, descriptorIndex := 87, attributes := #[] }, { accessFlags := 2, nameIndex := 86, descriptorIndex := 87, attributes := #[] }, { accessFlags := 2, nameIndex := 132, descriptorIndex := 87, attributes := #[] }, { accessFlags := 2, nameIndex := 128, descriptorIndex := 129, attributes := #[] }])
  fields := #[{ name := "BUFFER", type := .int, accessFlags := 26, slot := 0, constantValue := 0 }, { name := "BYTE_ORDER_MARK", type := .char, accessFlags := 26, slot := 1, constantValue := 0 }, { name := "in", type := (.object "java/io/InputStream"), accessFlags := 18, slot := 2, constantValue := 0 }, { name := "charset", type := (.object "java/nio/charset/Charset"), accessFlags := 18, slot := 3, constantValue := 0 }, { name := "decoder", type := (.object "java/nio/charset/CharsetDecoder"), accessFlags := 18, slot := 4, constantValue := 0 }, { name := "bytes", type := (.object "java/nio/ByteBuffer"), accessFlags := 18, slot := 5, constantValue := 0 }, { name := "chars", type := (.object "java/nio/CharBuffer"), accessFlags := 18, slot := 6, constantValue := 0 }, { name := "endOfInput", type := .boolean, accessFlags := 2, slot := 7, constantValue := 0 }, { name := "ended", type := .boolean, accessFlags := 2, slot := 8, constantValue := 0 }, { name := "started", type := .boolean, accessFlags := 2, slot := 9, constantValue := 0 }, { name := "lineFeeds", type := .long, accessFlags := 2, slot := 10, constantValue := 0 }]
  methods := #[k6m0]
  instanceTypes := #[(.object "java/lang/Object"), (.array .char), (.object "java/io/InputStream"), (.object "java/nio/charset/Charset"), (.object "java/nio/charset/CharsetDecoder"), (.object "java/nio/ByteBuffer"), (.object "java/nio/CharBuffer"), .boolean, .boolean, .boolean, .long]
  staticTypes := #[.int, .char]
  resolved := Array.replicate 231 none
  statics := none }

def pool7 : Array CpInfo := pool [(1, u "java/lang/Cloneable"), (0, .class_ 1), (0, u "java/lang/Object"), (0, .class_ 3)] 3

/-- java/lang/Cloneable -/
def k7 : Class := { plain "java/lang/Cloneable" (some 0) with
  accessFlags := 1537
  interfaces := #[]
  cf := some (fileOf pool7 2 #[] #[] 1537 4 #[] #[])
  fields := #[]
  methods := #[]
  instanceTypes := #[]
  staticTypes := #[]
  resolved := Array.replicate 8 none
  statics := none }

def pool8 : Array CpInfo := pool [(1, u "java/io/Serializable"), (0, .class_ 1), (0, u "java/lang/Object"), (0, .class_ 3)] 3

/-- java/io/Serializable -/
def k8 : Class := { plain "java/io/Serializable" (some 0) with
  accessFlags := 1537
  interfaces := #[]
  cf := some (fileOf pool8 2 #[] #[] 1537 4 #[] #[])
  fields := #[]
  methods := #[]
  instanceTypes := #[]
  staticTypes := #[]
  resolved := Array.replicate 8 none
  statics := none }

/-- the primitive byte -/
def k9 : Class := { plain "byte" none with kind := .primitive 'B', accessFlags := 0x411 }
/-- [B -/
def k10 : Class := { plain "[B" (some 0) with kind := .array 9 .byte, interfaces := #[7, 8], accessFlags := 1041 }

/-- the primitive int -/
def k11 : Class := { plain "int" none with kind := .primitive 'I', accessFlags := 0x411 }
/-- [I -/
def k12 : Class := { plain "[I" (some 0) with kind := .array 11 .int, interfaces := #[7, 8], accessFlags := 1041 }

def heap : Heap := #[]
def classes : Array Class := #[k0, k1, k2, k3, k4, k5, k6, k7, k8, k9, k10, k11, k12]
def interned : List (Array UInt16 × Addr) := []
def slotsUsed : Nat := 0
def theMethod : MethodId := ⟨1, 1⟩
def args0 : Array Value := #[.int 5, .int 9, .int 3]
def aboutOver (below : List Frame) : State where
  vm := { classes := classes, interned := interned.toArray }
  heap := heap
  slotsUsed := slotsUsed
  threads := #[{ frames := .invoking theMethod args0 :: below }]
def below0 : List Frame := [.native { method := ⟨0, 0⟩, args := #[] }]
def about1 : State := aboutOver below0
def p0 : Program := .bare "" "" ""
def e0 : Env := launch0.env 0 0 0
theorem w_frames : about1.frames = Frame.invoking theMethod args0 :: below0 := rfl
set_option maxRecDepth 65536 in
theorem w_args : argsFit about1.vm theMethod args0 = true := by decide +kernel
set_option maxRecDepth 65536 in
theorem w_heap : heapFits about1 = true := by decide +kernel
set_option maxRecDepth 65536 in
theorem w_runnable : about1.curStatus? = some .runnable := by decide +kernel
set_option maxRecDepth 65536 in
theorem w_alone : about1.alone = true := by decide +kernel
set_option maxRecDepth 65536 in
theorem w_named : about1.methodNamed? x = some theMethod := by decide +kernel
set_option maxRecDepth 65536 in
theorem w_hears : about1.hears theMethod below0 = true := by decide +kernel
set_option maxRecDepth 65536 in
theorem w_ripe : about1.ripe theMethod args0 below0 = true := by decide +kernel
theorem w_running : about1.status = .running := rfl
set_option maxRecDepth 65536 in
theorem w_room : about1.hasRoom e0.platform room_1 = true :=
  launch0.hasRoom_least _ room_1 (by decide +kernel) (by decide +kernel) (by decide +kernel) (by decide +kernel) (by decide +kernel) (by decide +kernel)
theorem allAtoms_all (ts : List Jvm.Cond) (a : Array Jvm.Value) (st : Jvm.State) : (allAtoms ts).before a st = ts.all (fun c => c.before a st) := by
  induction ts with
  | nil => rfl
  | cons c t ih =>
    show (Jvm.Cond.and c (allAtoms t)).before a st = _
    rw [Jvm.Cond.before_and, ih, List.all_cons]
def words1 : List Jvm.Cond := Jvm.Cond.code x code maxLocals ret :: tables_1
/-- a 'code' word, met by the world's own term for the bytes: nothing is compared byte by byte -/
theorem code_word {y : MethodName} {bytes : ByteArray} {mx : Nat} {rt : Option FieldType} {a : Array Value} {s : State} {m : MethodId} {meth : Method} {c : Code} (h1 : s.methodNamed? y = some m) (h2 : s.vm.method? m = some meth) (h3 : meth.code = some c) (h4 : c.code = bytes)
    (h5 : (c.maxLocals == mx && c.exceptionTable.isEmpty && decide (c.maxStack ≤ mostOperands) && decide (meth.sig.returnType = rt) && !meth.locks && decide (parseMethodDescriptor y.desc = some meth.sig)) = true) : (Jvm.Cond.code y bytes mx rt).before a s = true := by
  simp only [Bool.and_eq_true, beq_iff_eq, Bool.not_eq_true', decide_eq_true_eq] at h5
  obtain ⟨⟨⟨⟨⟨g1, g2⟩, g3⟩, g4⟩, g5⟩, g6⟩ := h5
  simp [Cond.before, Cond.holds, Cond.value, h1, h2, h3, h4, g1, g2, g3, g4, g5, g6]
def isCode : Jvm.Cond → Bool
  | .code _ _ _ _ => true
  | _ => false
theorem all_split {L : List Jvm.Cond} {P : Jvm.Cond → Bool} (h1 : L.all (fun c => isCode c || P c) = true) (h2 : ∀ c ∈ L.filter isCode, P c = true) : L.all P = true := by
  refine List.all_eq_true.mpr fun c hc => ?_
  have h := List.all_eq_true.mp h1 c hc
  rcases Bool.eq_false_or_eq_true (isCode c) with hi | hi
  · exact h2 c (List.mem_filter.mpr ⟨hc, hi⟩)
  · simpa [hi] using h
set_option maxRecDepth 65536 in
theorem w_c0 : (Jvm.Cond.code x code maxLocals ret).before args0 about1 = true := code_word (m := ⟨1, 1⟩) (meth := k1m1) (c := k1c1) (by decide +kernel) rfl rfl rfl (by decide +kernel)
set_option maxRecDepth 65536 in
theorem w_c1 : (Jvm.Cond.code ({ cls := "com/example/dani/dani/formats/DecodingReader", name := "utf8ByteOrderMark", desc := "([B)I" } : Jvm.MethodName) prog_33_method_2_code (2 : Nat) (Option.some Jvm.ClassFile.FieldType.int)).before args0 about1 = true := code_word (m := ⟨6, 0⟩) (meth := k6m0) (c := k6c0) (by decide +kernel) rfl rfl rfl (by decide +kernel)
def codes1 : List Jvm.Cond := [Jvm.Cond.code x code maxLocals ret, Jvm.Cond.code ({ cls := "com/example/dani/dani/formats/DecodingReader", name := "utf8ByteOrderMark", desc := "([B)I" } : Jvm.MethodName) prog_33_method_2_code (2 : Nat) (Option.some Jvm.ClassFile.FieldType.int)]
set_option maxRecDepth 65536 in
theorem codes_eq : words1.filter isCode = codes1 := rfl
theorem w_codes : ∀ c ∈ words1.filter isCode, c.before args0 about1 = true := by
  rw [codes_eq]
  intro c hc
  simp only [codes1, List.mem_cons, List.not_mem_nil, or_false] at hc
  rcases hc with rfl | rfl
  · exact w_c0
  · exact w_c1
set_option maxRecDepth 65536 in
theorem w_t1 : words1.all (fun c => isCode c || c.before args0 about1) = true := by decide +kernel
theorem w_tables : (allAtoms (Jvm.Cond.code x code maxLocals ret :: tables_1)).before args0 about1 = true := by
  rw [allAtoms_all]
  show words1.all (fun c => c.before args0 about1) = true
  refine all_split ?_ w_codes
  rw [w_t1]
set_option maxRecDepth 65536 in
theorem w_case : (Jvm.Cond.and given_1 narrow_1).before args0 about1 = true := by decide +kernel
theorem w_applies : (headSpec (Jvm.Cond.code x code maxLocals ret :: tables_1) room_1).applies x e0.platform about1 = true :=
  (Spec.applies_iff w_frames).mpr ⟨w_running, w_runnable, w_alone, w_named, w_hears, w_ripe, w_room, w_tables⟩
theorem atStart : AtStart classFile x code maxLocals ret World_1 tables_1 room_1 Calls_1 rest_1 Pre_1 launch0 p0 e0 about1 theMethod args0 below0 :=
  ⟨lists_1, trivial, launch0.admits_env _ _ _, launch0.least_env, fairChoices_fair.cas, fairChoices_fair.clock, w_frames, w_args, w_heap, w_applies, trivial, trivial, w_case⟩
end start1
theorem witness_1 : WitnessClaimed_1 := ⟨start1.p0, start1.e0, start1.about1, start1.theMethod, start1.args0, start1.below0, start1.atStart⟩
end Jvm.Pilot.@@N@@
