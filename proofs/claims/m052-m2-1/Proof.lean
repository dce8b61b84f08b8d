import JvmDerived
import JvmDerived.Pilot.@@N@@Statement
import JvmDerived.Pilot.@@N@@Code
set_option linter.unusedVariables false
set_option linter.unusedSimpArgs false
namespace Jvm.RoadKit
open Sem ClassFile Op Lib Jvm.Stand Jvm.Free Jvm.LawKit
section New
variable {p : Program} {l : Launch} {e : Env} {R : Room} {s : State} {m : MethodId} {args : Array Value} {below : List Frame} {meth : Method} {c : Code} {T : State} {locs : List Loc} {cells slots : Nat}
theorem retI (X : Stand p l e R s m args below meth c T locs cells slots) (hx : p.tables.exec = Jvm.exec) {pc : Nat} {Ls : Array Slot} {z : Int32} {rest : List Value} (hret : meth.sig.returnType = some .int) (hd : decode c.code pc = .ok (.ireturn, 1)) {fs : List Frame}
    (hl : ∀ (f : JFrame) (acts : List Action), f.method = m → f.locked = none → f.entered = [] → (doReturn e (T.setTop f) acts (some (.int z))).1 = T.setFrames fs) : Steps p.tables e below (T.setTop (mkF m pc Ls (.int z :: rest))) (T.setFrames fs) := by
  have hm' : T.vm.method? m = some meth := X.method'
  have hn : narrow .int (.int z) = .int z := rfl
  show Steps p.tables e below (T.setTop { method := m, pc := pc, locals := Ls, stack := _ :: rest, locked := none }) _
  jvm_step X.here [X.here.top, hx, hd, hm', hret, hn]
  first | (intro acts; rw [hl _ acts rfl rfl rfl]) | rw [hl _ _ rfl rfl rfl]
  exact Steps.refl _
abbrev jv (x : Int64) : Slot := .val (.long x)
/-- from the state st the run ends as Q says -/
def own_Go (p : Program) (e : Env) (below : List Frame) (s : State) (Q : Option Value → Heap → List Loc → Prop) (CS : Nat × Nat) (st : State) : Prop :=
  ∃ s₂ o, Steps p.tables e below st s₂ ∧ s₂.status = .running ∧ Ended s₂ below o ∧ ∃ v L, o = .returned v ∧ Q v s₂.heap L ∧ FrameEnd s o s₂ L CS.1 CS.2
variable {Q : Option Value → Heap → List Loc → Prop} {CS : Nat × Nat} {st st' : State}
theorem own_via (h : ∀ {t}, Steps p.tables e below st t → Steps p.tables e below st' t) (g : own_Go p e below s Q CS st) : own_Go p e below s Q CS st' := by
  obtain ⟨s₂, o, h1, h2⟩ := g
  exact ⟨s₂, o, h h1, h2⟩
theorem own_start {g g' : JFrame} (q : g = g') (h : own_Go p e below s Q CS (T.setTop g')) : ∃ s₂ o, Steps p.tables e below (T.setTop g) s₂ ∧ s₂.status = .running ∧ Ended s₂ below o ∧ ∃ v L, o = .returned v ∧ Q v s₂.heap L ∧ FrameEnd s o s₂ L CS.1 CS.2 := q ▸ h
theorem own_retN (X : Stand p l e R s m args below meth c T locs cells slots) (hx : p.tables.exec = Jvm.exec) (hlk : meth.locks = false) {pc : Nat} {Ls : Array Slot} {z : Int32} {t : FieldType} {rest : List Value} (hret : meth.sig.returnType = some t) (ht : t = .boolean ∨ t = .byte ∨ t = .char ∨ t = .short)
    (hd : decode c.code pc = .ok (.ireturn, 1)) (hq : Q (some (.int (nar t z))) T.heap locs) (hc : cells ≤ CS.1) (hs : slots ≤ CS.2) : own_Go p e below s Q CS (T.setTop (mkF m pc Ls (.int z :: rest))) := by
  obtain ⟨fs, hr, hrun, hended, hW, hsame⟩ := X.leave (v := some (.int (nar t z))) (fun h => by rw [hret] at h; cases h) hlk
  exact ⟨_, _, retN X hx hret ht hd hr, hrun, hended, _, _, rfl, hq, ⟨_, rfl⟩, hW, hsame.mono hc hs⟩
theorem own_retI (X : Stand p l e R s m args below meth c T locs cells slots) (hx : p.tables.exec = Jvm.exec) (hlk : meth.locks = false) {pc : Nat} {Ls : Array Slot} {z : Int32} {rest : List Value} (hret : meth.sig.returnType = some .int)
    (hd : decode c.code pc = .ok (.ireturn, 1)) (hq : Q (some (.int z)) T.heap locs) (hc : cells ≤ CS.1) (hs : slots ≤ CS.2) : own_Go p e below s Q CS (T.setTop (mkF m pc Ls (.int z :: rest))) := by
  obtain ⟨fs, hr, hrun, hended, hW, hsame⟩ := X.leave (v := some (.int z)) (fun h => by rw [hret] at h; cases h) hlk
  exact ⟨_, _, retI X hx hret hd hr, hrun, hended, _, _, rfl, hq, ⟨_, rfl⟩, hW, hsame.mono hc hs⟩
theorem own_retL (X : Stand p l e R s m args below meth c T locs cells slots) (hx : p.tables.exec = Jvm.exec) (hlk : meth.locks = false) {pc : Nat} {Ls : Array Slot} {z : Int64} (hret : meth.sig.returnType = some .long)
    (hd : decode c.code pc = .ok (.lreturn, 1)) (hq : Q (some (.long z)) T.heap locs) (hc : cells ≤ CS.1) (hs : slots ≤ CS.2) : own_Go p e below s Q CS (T.setTop (mkF m pc Ls [.long z])) := by
  obtain ⟨fs, hr, hrun, hended, hW, hsame⟩ := X.leave (v := some (.long z)) (fun h => by rw [hret] at h; cases h) hlk
  exact ⟨_, _, X.lreturnOut hx hret hd hr, hrun, hended, _, _, rfl, hq, ⟨_, rfl⟩, hW, hsame.mono hc hs⟩
theorem own_retA (X : Stand p l e R s m args below meth c T locs cells slots) (hx : p.tables.exec = Jvm.exec) (hlk : meth.locks = false) {pc : Nat} {Ls : Array Slot} {w : Value} (hw : w.isRef = true) {t : FieldType} (hret : meth.sig.returnType = some t) (ht : t.isReference = true)
    (hd : decode c.code pc = .ok (.areturn, 1)) (hq : Q (some w) T.heap locs) (hc : cells ≤ CS.1) (hs : slots ≤ CS.2) : own_Go p e below s Q CS (T.setTop (mkF m pc Ls [w])) := by
  obtain ⟨fs, hr, hrun, hended, hW, hsame⟩ := X.leave (v := some w) (fun h => by rw [hret] at h; cases h) hlk
  exact ⟨_, _, X.areturnOut hx hw hret ht hd hr, hrun, hended, _, _, rfl, hq, ⟨_, rfl⟩, hW, hsame.mono hc hs⟩
theorem own_ret0 (X : Stand p l e R s m args below meth c T locs cells slots) (hx : p.tables.exec = Jvm.exec) (hlk : meth.locks = false) {pc : Nat} {Ls : Array Slot} (hret : meth.sig.returnType = none)
    (hd : decode c.code pc = .ok (.return_, 1)) (hq : Q none T.heap locs) (hc : cells ≤ CS.1) (hs : slots ≤ CS.2) : own_Go p e below s Q CS (T.setTop (mkF m pc Ls [])) := by
  obtain ⟨fs, hr, hrun, hended, hW, hsame⟩ := X.leave (v := none) (fun _ => rfl) hlk
  exact ⟨_, _, X.returnOut hx hret hd hr, hrun, hended, _, _, rfl, hq, ⟨_, rfl⟩, hW, hsame.mono hc hs⟩
theorem own_fldI {Z : State} {h : Heap} {a : Addr} {C n d : String} {v w : Int32} (q : v = w) (F : Fld Z h a C n d (.int v)) : Fld Z h a C n d (.int w) := q ▸ F
theorem own_fldJ {Z : State} {h : Heap} {a : Addr} {C n d : String} {v w : Int64} (q : v = w) (F : Fld Z h a C n d (.long v)) : Fld Z h a C n d (.long w) := q ▸ F
theorem own_arv {Z : State} {h : Heap} {a : Addr} {k : ClassId} {ty : FieldType} {n : Int32} {vs vs' : List Value} {d : Value} (q : vs = vs') (F : Arv Z h a k ty n vs d) : Arv Z h a k ty n vs' d := q ▸ F
theorem own_fits {t : FieldType} {v w : Int32} (q : v = w) (F : fits t (.int v) = true) : fits t (.int w) = true := q ▸ F
end New
end Jvm.RoadKit
namespace Jvm.Pilot.@@N@@
open Jvm Jvm.ClassFile Sem Op Lib Jvm.Free Jvm.Stand Jvm.LawKit Jvm.RoadKit Bundle Jvm.Pilot.@@N@@.Jvm.D
theorem own_l32 {x y : Int32} : x < y ↔ x.toInt < y.toInt := Int32.lt_iff_toInt_lt
theorem own_e32 {x y : Int32} : x = y ↔ x.toInt = y.toInt := Int32.toInt_inj.symm
theorem own_l64 {x y : Int64} : x < y ↔ x.toInt < y.toInt := Int64.lt_iff_toInt_lt
theorem own_e64 {x y : Int64} : x = y ↔ x.toInt = y.toInt := Int64.toInt_inj.symm
theorem own_all8 {P : Int8 → Prop} (h : ∀ n : Fin 256, P (Int8.ofBitVec (BitVec.ofFin n))) (i : Int8) : P i := h i.toBitVec.toFin
theorem d1_0 : decode prog_86_method_1_code 0 = .ok (.aload_n 0, 1) := by decide +kernel
theorem d1_1 : decode prog_86_method_1_code 1 = .ok (.invokespecial 1, 3) := by decide +kernel
theorem d1_4 : decode prog_86_method_1_code 4 = .ok (.aload_n 0, 1) := by decide +kernel
theorem d1_5 : decode prog_86_method_1_code 5 = .ok (.iload_n 1, 1) := by decide +kernel
theorem d1_6 : decode prog_86_method_1_code 6 = .ok (.putfield 7, 3) := by decide +kernel
theorem d1_9 : decode prog_86_method_1_code 9 = .ok (.aload_n 0, 1) := by decide +kernel
theorem d1_10 : decode prog_86_method_1_code 10 = .ok (.iload_n 2, 1) := by decide +kernel
theorem d1_11 : decode prog_86_method_1_code 11 = .ok (.putfield 13, 3) := by decide +kernel
theorem d1_14 : decode prog_86_method_1_code 14 = .ok (.return_, 1) := by decide +kernel
theorem pn_1 : plainName "com/example/grammar_parser/grammarparser/UnsureLimits" = true := by first | (simp [plainName, overriddenIn]; done) | decide +kernel
theorem ef_1 (m : MethodId) (x0 : Addr) (x1 : Int32) (x2 : Int32) : entryFrame m #[(.ref x0), (.int x1), (.int x2)] 3 = mkF m 0 #[rv x0, iv x1, iv x2] [] := by first | (simp [entryFrame, mkF, argsToLocals, Value.category]; done) | rfl
def Q1 (Z : State) (a0 : Addr) (p1 : Int32) (p2 : Int32) (h0 : Heap) (n0 : Nat) (v : Option Value) (h : Heap) (L : List Loc) : Prop := v = none ∧ Fr n0 L ∧ Keep h0 h [a0] ∧ Fld Z h a0 "com/example/grammar_parser/grammarparser/UnsureLimits" "low" "I" (.int p1) ∧ Fld Z h a0 "com/example/grammar_parser/grammarparser/UnsureLimits" "high" "I" (.int p2)
set_option maxRecDepth 65536 in
set_option maxHeartbeats 40000000 in
theorem rm1 (l : Launch) (Z : State) (aw : Array Value) (hw : ∀ d ∈ tables_1, d.before aw Z = true) (ws : List Jvm.Cond) (a0 : Addr) (p1 : Int32) (p2 : Int32) (h0 : Heap) (n0 : Nat) (Z0 : n0 ≤ h0.size) (P0 : Fld Z h0 a0 "com/example/grammar_parser/grammarparser/UnsureLimits" "low" "I" (.int 0)) (P1 : Fld Z h0 a0 "com/example/grammar_parser/grammarparser/UnsureLimits" "high" "I" (.int 0)) (P2 : Exa Z h0 a0 "com/example/grammar_parser/grammarparser/UnsureLimits") (ge0 : n0 ≤ a0) :
    MetFree l (⟨"com/example/grammar_parser/grammarparser/UnsureLimits", "<init>", "(II)V"⟩ : MethodName) (head1 (Jvm.Cond.code (⟨"com/example/grammar_parser/grammarparser/UnsureLimits", "<init>", "(II)V"⟩ : MethodName) prog_86_method_1_code 3 none :: ws) ({ frames := 1, cells := 0, slots := 0, locals := 12 } : Room)) (fun a U => a = #[(.ref a0), (.int p1), (.int p2)] ∧ Z.Warmed39 U.vm ∧ U.heap = h0) (fun _ _ _ _ _ => True) (fun _ U o U' => ∃ v L, o = .returned v ∧ Q1 Z a0 p1 p2 h0 n0 v U'.heap L ∧ FrameEnd U o U' L ({ frames := 1, cells := 0, slots := 0, locals := 12 } : Room).cells ({ frames := 1, cells := 0, slots := 0, locals := 12 } : Room).slots) := by
  refine MetFree.of_bodySF (plainFor_of_name pn_1) hisR ?_
  intro p e s m args below meth c s₁ Bd hml0 hP hK
  obtain ⟨rfl, hZ, hh⟩ := hP
  have hx := Bd.exec
  have hby := Bd.bytes
  have hml : c.maxLocals = 3 := hml0
  have hown : s.vm.findClass "com/example/grammar_parser/grammarparser/UnsureLimits" = some m.cls := findClass_of_methodNamed Bd.named
  have hnm := (name_of_methodNamed Bd.named Bd.method).1
  have hlk : meth.locks = false := by first | exact BodyLoose.notSynchronized (by assumption) | exact Body.notSynchronized (by assumption)
  have X0 : Stand p l e ({ frames := 1, cells := 0, slots := 0, locals := 12 } : Room) s m #[(.ref a0), (.int p1), (.int p2)] below meth c s₁ [] 0 0 := Stand.of_body Bd
  have e0 : s₁.heap = h0 := by rw [← hh, Bd.state]; rfl
  have N0 := Fr.nil n0
  have K0 : Keep h0 h0 [a0] := Keep.refl _ _
  refine own_start (CS := (0, 0)) (Q := (Q1 Z a0 p1 p2 h0 n0)) (ef_1 m a0 p1 p2) ?_
  show own_Go p e below s _ _ (s₁.setTop (mkF m 0 #[rv a0, iv p1, iv p2] []))
  refine own_via (fun k => XS.aloadN X0.here hx rfl (hb hby d1_0) rfl rfl  k) ?_
  show own_Go p e below s _ _ (s₁.setTop (mkF m 1 #[rv a0, iv p1, iv p2] [(.ref a0)]))
  obtain ⟨T1, X1, e1, st1⟩ := initO X0 hx hZ hown (hw _ (List.mem_of_getElem? (i := 6) rfl)) (hw _ (List.mem_of_getElem? (i := 7) rfl)) (hw _ (List.mem_of_getElem? (i := 8) rfl)) e0 (g := (mkF m 1 #[rv a0, iv p1, iv p2] [(.ref a0)])) rfl (by rw [hml]; rfl) rfl (hb hby d1_1) (by decide) (W := 0) (by show 2 * 0 + _ ≤ _; exact Nat.le_of_eq rfl) (by decide)
  refine own_via (fun k => st1 _ k) ?_
  show own_Go p e below s _ _ (T1.setTop (mkF m 4 #[rv a0, iv p1, iv p2] []))
  refine own_via (fun k => XS.aloadN X1.here hx rfl (hb hby d1_4) rfl rfl  (XS.iloadN X1.here hx rfl (hb hby d1_5) rfl  k)) ?_
  show own_Go p e below s _ _ (T1.setTop (mkF m 6 #[rv a0, iv p1, iv p2] [(.int p1), (.ref a0)]))
  obtain ⟨T2, h2, X2, e2, W2, st2⟩ := putF X1 hx hZ hown (host := "") (Or.inl (hw _ (List.mem_of_getElem? (i := 9) rfl))) Via.refl e1 P0 P2 (Or.inr ⟨(hw _ (List.mem_of_getElem? (i := 10) rfl)), rfl, hnm⟩) (hw _ (List.mem_of_getElem? (i := 1) rfl)) (ty := .int) (by decide) rfl rfl (g := (mkF m 6 #[rv a0, iv p1, iv p2] [(.int p1), (.ref a0)])) rfl rfl (hb hby d1_6)
  refine own_via (fun k => st2 _ k) ?_
  show own_Go p e below s _ _ (T2.setTop (mkF m 9 #[rv a0, iv p1, iv p2] []))
  have B3 := P1.other W2 (Or.inr (slot_ne (Or.inr (hw _ (List.mem_of_getElem? (i := 12) rfl))) (Or.inr (hw _ (List.mem_of_getElem? (i := 10) rfl))) (by decide) (t := .int) (t' := .int) (by decide) (by decide)))
  have B4 := P2.wr W2
  have B5 : Fld Z h2 a0 "com/example/grammar_parser/grammarparser/UnsureLimits" "low" "I" (.int p1) := P0.same W2
  have N6 := Fr.snoc X2 N0 ge0
  have K7 : Keep h0 h2 [a0] := K0.wr W2 (Or.inl (List.mem_of_getElem? (i := 0) rfl))
  have Z8 : n0 ≤ h2.size := Nat.le_trans Z0 (Keep.of_wr W2).1
  refine own_via (fun k => XS.aloadN X2.here hx rfl (hb hby d1_9) rfl rfl  (XS.iloadN X2.here hx rfl (hb hby d1_10) rfl  k)) ?_
  show own_Go p e below s _ _ (T2.setTop (mkF m 11 #[rv a0, iv p1, iv p2] [(.int p2), (.ref a0)]))
  obtain ⟨T9, h9, X9, e9, W9, st9⟩ := putF X2 hx hZ hown (host := "") (Or.inl (hw _ (List.mem_of_getElem? (i := 11) rfl))) Via.refl e2 B3 B4 (Or.inr ⟨(hw _ (List.mem_of_getElem? (i := 12) rfl)), rfl, hnm⟩) (hw _ (List.mem_of_getElem? (i := 1) rfl)) (ty := .int) (by decide) rfl rfl (g := (mkF m 11 #[rv a0, iv p1, iv p2] [(.int p2), (.ref a0)])) rfl rfl (hb hby d1_11)
  refine own_via (fun k => st9 _ k) ?_
  show own_Go p e below s _ _ (T9.setTop (mkF m 14 #[rv a0, iv p1, iv p2] []))
  have B10 := B4.wr W9
  have B11 := B5.other W9 (Or.inr (slot_ne (Or.inr (hw _ (List.mem_of_getElem? (i := 10) rfl))) (Or.inr (hw _ (List.mem_of_getElem? (i := 12) rfl))) (by decide) (t := .int) (t' := .int) (by decide) (by decide)))
  have B12 : Fld Z h9 a0 "com/example/grammar_parser/grammarparser/UnsureLimits" "high" "I" (.int p2) := B3.same W9
  have N13 := Fr.snoc X9 N6 ge0
  have K14 : Keep h0 h9 [a0] := K7.wr W9 (Or.inl (List.mem_of_getElem? (i := 0) rfl))
  have Z15 : n0 ≤ h9.size := Nat.le_trans Z8 (Keep.of_wr W9).1
  exact own_ret0 X9 hx hlk Bd.returns (hb hby d1_14) (Q := (Q1 Z a0 p1 p2 h0 n0)) ⟨rfl, N13, (by rw [e9]; exact K14), (by rw [e9]; exact B11), (by rw [e9]; exact B12)⟩ (by decide) (by decide)
theorem d3_0 : decode prog_86_method_2_code 0 = .ok (.iload_n 1, 1) := by decide +kernel
theorem d3_1 : decode prog_86_method_2_code 1 = .ok (.aload_n 0, 1) := by decide +kernel
theorem d3_2 : decode prog_86_method_2_code 2 = .ok (.getfield 7, 3) := by decide +kernel
theorem d3_5 : decode prog_86_method_2_code 5 = .ok (.if_icmp .le 15, 3) := by decide +kernel
theorem d3_8 : decode prog_86_method_2_code 8 = .ok (.iload_n 1, 1) := by decide +kernel
theorem d3_9 : decode prog_86_method_2_code 9 = .ok (.aload_n 0, 1) := by decide +kernel
theorem d3_10 : decode prog_86_method_2_code 10 = .ok (.getfield 13, 3) := by decide +kernel
theorem d3_13 : decode prog_86_method_2_code 13 = .ok (.if_icmp .ge 7, 3) := by decide +kernel
theorem d3_16 : decode prog_86_method_2_code 16 = .ok (.iconst 1, 1) := by decide +kernel
theorem d3_17 : decode prog_86_method_2_code 17 = .ok (.goto 4, 3) := by decide +kernel
theorem d3_20 : decode prog_86_method_2_code 20 = .ok (.iconst 0, 1) := by decide +kernel
theorem d3_21 : decode prog_86_method_2_code 21 = .ok (.ireturn, 1) := by decide +kernel
theorem pn_3 : plainName "com/example/grammar_parser/grammarparser/UnsureLimits" = true := by first | (simp [plainName, overriddenIn]; done) | decide +kernel
theorem ef_3 (m : MethodId) (x0 : Addr) (x1 : Int32) : entryFrame m #[(.ref x0), (.int x1)] 2 = mkF m 0 #[rv x0, iv x1] [] := by first | (simp [entryFrame, mkF, argsToLocals, Value.category]; done) | rfl
def own_f3 (p1 : Int32) (w0 : Int32) (w1 : Int32) : Int32 := (if w0 < p1 then (if p1 < w1 then (1 : Int32) else (0 : Int32)) else (0 : Int32))
def Q3 (Z : State) (a0 : Addr) (p1 : Int32) (w0 : Int32) (w1 : Int32) (h0 : Heap) (n0 : Nat) (v : Option Value) (h : Heap) (L : List Loc) : Prop := v = some (.int (own_f3 p1 w0 w1)) ∧ Fr n0 L ∧ h = h0
set_option maxRecDepth 65536 in
set_option maxHeartbeats 40000000 in
theorem rm3 (l : Launch) (Z : State) (aw : Array Value) (hw : ∀ d ∈ tables_1, d.before aw Z = true) (ws : List Jvm.Cond) (a0 : Addr) (p1 : Int32) (w0 : Int32) (w1 : Int32) (h0 : Heap) (n0 : Nat) (Z0 : n0 ≤ h0.size) (P0 : Fld Z h0 a0 "com/example/grammar_parser/grammarparser/UnsureLimits" "low" "I" (.int w0)) (P1 : Fld Z h0 a0 "com/example/grammar_parser/grammarparser/UnsureLimits" "high" "I" (.int w1)) :
    MetFree l (⟨"com/example/grammar_parser/grammarparser/UnsureLimits", "contains", "(I)Z"⟩ : MethodName) (head1 (Jvm.Cond.code (⟨"com/example/grammar_parser/grammarparser/UnsureLimits", "contains", "(I)Z"⟩ : MethodName) prog_86_method_2_code 2 (some .boolean) :: ws) ({ frames := 0, cells := 0, slots := 0, locals := 0 } : Room)) (fun a U => a = #[(.ref a0), (.int p1)] ∧ Z.Warmed39 U.vm ∧ U.heap = h0) (fun _ _ _ _ _ => True) (fun _ U o U' => ∃ v L, o = .returned v ∧ Q3 Z a0 p1 w0 w1 h0 n0 v U'.heap L ∧ FrameEnd U o U' L ({ frames := 0, cells := 0, slots := 0, locals := 0 } : Room).cells ({ frames := 0, cells := 0, slots := 0, locals := 0 } : Room).slots) := by
  refine MetFree.of_bodySF (plainFor_of_name pn_3) hisR ?_
  intro p e s m args below meth c s₁ Bd hml0 hP hK
  obtain ⟨rfl, hZ, hh⟩ := hP
  have hx := Bd.exec
  have hby := Bd.bytes
  have hml : c.maxLocals = 2 := hml0
  have hown : s.vm.findClass "com/example/grammar_parser/grammarparser/UnsureLimits" = some m.cls := findClass_of_methodNamed Bd.named
  have hnm := (name_of_methodNamed Bd.named Bd.method).1
  have hlk : meth.locks = false := by first | exact BodyLoose.notSynchronized (by assumption) | exact Body.notSynchronized (by assumption)
  have X0 : Stand p l e ({ frames := 0, cells := 0, slots := 0, locals := 0 } : Room) s m #[(.ref a0), (.int p1)] below meth c s₁ [] 0 0 := Stand.of_body Bd
  have e0 : s₁.heap = h0 := by rw [← hh, Bd.state]; rfl
  have N0 := Fr.nil n0
  have K0 : Keep h0 h0 [] := Keep.refl _ _
  refine own_start (CS := (0, 0)) (Q := (Q3 Z a0 p1 w0 w1 h0 n0)) (ef_3 m a0 p1) ?_
  show own_Go p e below s _ _ (s₁.setTop (mkF m 0 #[rv a0, iv p1] []))
  refine own_via (fun k => XS.iloadN X0.here hx rfl (hb hby d3_0) rfl  (XS.aloadN X0.here hx rfl (hb hby d3_1) rfl rfl  k)) ?_
  show own_Go p e below s _ _ (s₁.setTop (mkF m 2 #[rv a0, iv p1] [(.ref a0), (.int p1)]))
  obtain ⟨T1, X1, e1, st1⟩ := getF X0 hx hZ hown (host := "") (Or.inl (hw _ (List.mem_of_getElem? (i := 9) rfl))) Via.refl e0 P0 (g := (mkF m 2 #[rv a0, iv p1] [(.ref a0), (.int p1)])) rfl rfl (hb hby d3_2)
  refine own_via (fun k => st1 _ k) ?_
  show own_Go p e below s _ _ (T1.setTop (mkF m 5 #[rv a0, iv p1] [(.int w0), (.int p1)]))
  by_cases hc2 : w0 < p1
  · refine own_via (fun k => XS.icmpNo X1.here hx rfl (hb hby d3_5) rfl (tlt hc2).2.2.2 k) ?_
    show own_Go p e below s _ _ (T1.setTop (mkF m 8 #[rv a0, iv p1] []))
    refine own_via (fun k => XS.iloadN X1.here hx rfl (hb hby d3_8) rfl  (XS.aloadN X1.here hx rfl (hb hby d3_9) rfl rfl  k)) ?_
    show own_Go p e below s _ _ (T1.setTop (mkF m 10 #[rv a0, iv p1] [(.ref a0), (.int p1)]))
    obtain ⟨T3, X3, e3, st3⟩ := getF X1 hx hZ hown (host := "") (Or.inl (hw _ (List.mem_of_getElem? (i := 11) rfl))) Via.refl e1 P1 (g := (mkF m 10 #[rv a0, iv p1] [(.ref a0), (.int p1)])) rfl rfl (hb hby d3_10)
    refine own_via (fun k => st3 _ k) ?_
    show own_Go p e below s _ _ (T3.setTop (mkF m 13 #[rv a0, iv p1] [(.int w1), (.int p1)]))
    by_cases hc4 : p1 < w1
    · refine own_via (fun k => XS.icmpNo X3.here hx rfl (hb hby d3_13) rfl (tlt hc4).2.1 k) ?_
      show own_Go p e below s _ _ (T3.setTop (mkF m 16 #[rv a0, iv p1] []))
      refine own_via (fun k => XS.iconst X3.here hx rfl (hb hby d3_16) (XS.goto X3.here hx rfl (pc0 := 17) (pc' := 21) rfl (hb hby d3_17) (by decide) (by decide) k)) ?_
      show own_Go p e below s _ _ (T3.setTop (mkF m 21 #[rv a0, iv p1] [(.int 1)]))
      exact own_retN X3 hx hlk (t := .boolean) Bd.returns (by simp) (hb hby d3_21) (Q := (Q3 Z a0 p1 w0 w1 h0 n0)) ⟨(congrArg (fun z => some (Value.int z)) (show (1 : Int32) = (own_f3 p1 w0 w1) from (by unfold own_f3; exact ((if_pos hc2).trans ((if_pos hc4).trans rfl)).symm))), N0, e3⟩ (by decide) (by decide)
    · refine own_via (fun k => XS.icmpYes X3.here hx rfl (pc0 := 13) (pc' := 20) rfl (hb hby d3_13) rfl (flt hc4).2.1 (by decide) (by decide) k) ?_
      show own_Go p e below s _ _ (T3.setTop (mkF m 20 #[rv a0, iv p1] []))
      refine own_via (fun k => XS.iconst X3.here hx rfl (hb hby d3_20) k) ?_
      show own_Go p e below s _ _ (T3.setTop (mkF m 21 #[rv a0, iv p1] [(.int 0)]))
      exact own_retN X3 hx hlk (t := .boolean) Bd.returns (by simp) (hb hby d3_21) (Q := (Q3 Z a0 p1 w0 w1 h0 n0)) ⟨(congrArg (fun z => some (Value.int z)) (show (0 : Int32) = (own_f3 p1 w0 w1) from (by unfold own_f3; exact ((if_pos hc2).trans ((if_neg hc4).trans rfl)).symm))), N0, e3⟩ (by decide) (by decide)
  · refine own_via (fun k => XS.icmpYes X1.here hx rfl (pc0 := 5) (pc' := 20) rfl (hb hby d3_5) rfl (flt hc2).2.2.2 (by decide) (by decide) k) ?_
    show own_Go p e below s _ _ (T1.setTop (mkF m 20 #[rv a0, iv p1] []))
    refine own_via (fun k => XS.iconst X1.here hx rfl (hb hby d3_20) k) ?_
    show own_Go p e below s _ _ (T1.setTop (mkF m 21 #[rv a0, iv p1] [(.int 0)]))
    exact own_retN X1 hx hlk (t := .boolean) Bd.returns (by simp) (hb hby d3_21) (Q := (Q3 Z a0 p1 w0 w1 h0 n0)) ⟨(congrArg (fun z => some (Value.int z)) (show (0 : Int32) = (own_f3 p1 w0 w1) from (by unfold own_f3; exact ((if_neg hc2).trans rfl).symm))), N0, e1⟩ (by decide) (by decide)
theorem d4_0 : decode jdk_29_method_70_code 0 = .ok (.lload_n 0, 1) := by decide +kernel
theorem d4_1 : decode jdk_29_method_70_code 1 = .ok (.lload_n 2, 1) := by decide +kernel
theorem d4_2 : decode jdk_29_method_70_code 2 = .ok (.lcmp, 1) := by decide +kernel
theorem d4_3 : decode jdk_29_method_70_code 3 = .ok (.ifCond .gt 7, 3) := by decide +kernel
theorem d4_6 : decode jdk_29_method_70_code 6 = .ok (.lload_n 0, 1) := by decide +kernel
theorem d4_7 : decode jdk_29_method_70_code 7 = .ok (.goto 4, 3) := by decide +kernel
theorem d4_10 : decode jdk_29_method_70_code 10 = .ok (.lload_n 2, 1) := by decide +kernel
theorem d4_11 : decode jdk_29_method_70_code 11 = .ok (.lreturn, 1) := by decide +kernel
theorem ef_4 (m : MethodId) (x0 : Int64) (x1 : Int64) : entryFrame m #[(.long x0), (.long x1)] 4 = mkF m 0 #[jv x0, .second, jv x1, .second] [] := by first | (simp [entryFrame, mkF, argsToLocals, Value.category]; done) | rfl
def own_f4 (q0 : Int64) (q1 : Int64) : Int64 := (if q1 < q0 then q1 else q0)
def Q4 (Z : State) (q0 : Int64) (q1 : Int64) (h0 : Heap) (n0 : Nat) (v : Option Value) (h : Heap) (L : List Loc) : Prop := v = some (.long (own_f4 q0 q1)) ∧ Fr n0 L ∧ h = h0
set_option maxRecDepth 65536 in
set_option maxHeartbeats 40000000 in
theorem rm4 (l : Launch) (Z : State) (aw : Array Value) (hw : ∀ d ∈ tables_1, d.before aw Z = true) (ws : List Jvm.Cond) (q0 : Int64) (q1 : Int64) (h0 : Heap) (n0 : Nat) (Z0 : n0 ≤ h0.size)  :
    MetFree l (⟨"java/lang/Math", "min", "(JJ)J"⟩ : MethodName) (head1 (Jvm.Cond.code (⟨"java/lang/Math", "min", "(JJ)J"⟩ : MethodName) jdk_29_method_70_code 4 (some .long) :: ws) ({ frames := 0, cells := 0, slots := 0, locals := 0 } : Room)) (fun a U => a = #[(.long q0), (.long q1)] ∧ Z.Warmed39 U.vm ∧ U.heap = h0) (fun _ _ _ _ _ => True) (fun _ U o U' => ∃ v L, o = .returned v ∧ Q4 Z q0 q1 h0 n0 v U'.heap L ∧ FrameEnd U o U' L ({ frames := 0, cells := 0, slots := 0, locals := 0 } : Room).cells ({ frames := 0, cells := 0, slots := 0, locals := 0 } : Room).slots) := by
  refine MetFree.of_bodySF (Jvm.Free.JP.mathPlain rfl (by decide +kernel)) hisR ?_
  intro p e s m args below meth c s₁ Bd hml0 hP hK
  obtain ⟨rfl, hZ, hh⟩ := hP
  have hx := Bd.exec
  have hby := Bd.bytes
  have hml : c.maxLocals = 4 := hml0
  have hown : s.vm.findClass "java/lang/Math" = some m.cls := findClass_of_methodNamed Bd.named
  have hnm := (name_of_methodNamed Bd.named Bd.method).1
  have hlk : meth.locks = false := by first | exact BodyLoose.notSynchronized (by assumption) | exact Body.notSynchronized (by assumption)
  have X0 : Stand p l e ({ frames := 0, cells := 0, slots := 0, locals := 0 } : Room) s m #[(.long q0), (.long q1)] below meth c s₁ [] 0 0 := Stand.of_body Bd
  have e0 : s₁.heap = h0 := by rw [← hh, Bd.state]; rfl
  have N0 := Fr.nil n0
  have K0 : Keep h0 h0 [] := Keep.refl _ _
  refine own_start (CS := (0, 0)) (Q := (Q4 Z q0 q1 h0 n0)) (ef_4 m q0 q1) ?_
  show own_Go p e below s _ _ (s₁.setTop (mkF m 0 #[jv q0, .second, jv q1, .second] []))
  refine own_via (fun k => XS.lloadN X0.here hx rfl (hb hby d4_0) rfl  (XS.lloadN X0.here hx rfl (hb hby d4_1) rfl  (XS.lcmp X0.here hx rfl (hb hby d4_2) rfl k))) ?_
  show own_Go p e below s _ _ (s₁.setTop (mkF m 3 #[jv q0, .second, jv q1, .second] [(.int (lcmpW q0 q1))]))
  by_cases hc1 : q1 < q0
  · refine own_via (fun k => XS.ifYes X0.here hx rfl (pc0 := 3) (pc' := 10) rfl (hb hby d4_3) rfl ((if0 _ _).trans (tlt ((lw_gt _ _).mpr hc1)).2.2.1) (by decide) (by decide) k) ?_
    show own_Go p e below s _ _ (s₁.setTop (mkF m 10 #[jv q0, .second, jv q1, .second] []))
    refine own_via (fun k => XS.lloadN X0.here hx rfl (hb hby d4_10) rfl  k) ?_
    show own_Go p e below s _ _ (s₁.setTop (mkF m 11 #[jv q0, .second, jv q1, .second] [(.long q1)]))
    exact own_retL X0 hx hlk Bd.returns (hb hby d4_11) (Q := (Q4 Z q0 q1 h0 n0)) ⟨(congrArg (fun z => some (Value.long z)) (show q1 = (own_f4 q0 q1) from (by unfold own_f4; exact ((if_pos hc1).trans rfl).symm))), N0, e0⟩ (by decide) (by decide)
  · refine own_via (fun k => XS.ifNo X0.here hx rfl (hb hby d4_3) rfl ((if0 _ _).trans (flt (mt (lw_gt _ _).mp hc1)).2.2.1) k) ?_
    show own_Go p e below s _ _ (s₁.setTop (mkF m 6 #[jv q0, .second, jv q1, .second] []))
    refine own_via (fun k => XS.lloadN X0.here hx rfl (hb hby d4_6) rfl  (XS.goto X0.here hx rfl (pc0 := 7) (pc' := 11) rfl (hb hby d4_7) (by decide) (by decide) k)) ?_
    show own_Go p e below s _ _ (s₁.setTop (mkF m 11 #[jv q0, .second, jv q1, .second] [(.long q0)]))
    exact own_retL X0 hx hlk Bd.returns (hb hby d4_11) (Q := (Q4 Z q0 q1 h0 n0)) ⟨(congrArg (fun z => some (Value.long z)) (show q0 = (own_f4 q0 q1) from (by unfold own_f4; exact ((if_neg hc1).trans rfl).symm))), N0, e0⟩ (by decide) (by decide)
theorem d5_0 : decode jdk_29_method_66_code 0 = .ok (.lload_n 0, 1) := by decide +kernel
theorem d5_1 : decode jdk_29_method_66_code 1 = .ok (.lload_n 2, 1) := by decide +kernel
theorem d5_2 : decode jdk_29_method_66_code 2 = .ok (.lcmp, 1) := by decide +kernel
theorem d5_3 : decode jdk_29_method_66_code 3 = .ok (.ifCond .lt 7, 3) := by decide +kernel
theorem d5_6 : decode jdk_29_method_66_code 6 = .ok (.lload_n 0, 1) := by decide +kernel
theorem d5_7 : decode jdk_29_method_66_code 7 = .ok (.goto 4, 3) := by decide +kernel
theorem d5_10 : decode jdk_29_method_66_code 10 = .ok (.lload_n 2, 1) := by decide +kernel
theorem d5_11 : decode jdk_29_method_66_code 11 = .ok (.lreturn, 1) := by decide +kernel
theorem ef_5 (m : MethodId) (x0 : Int64) (x1 : Int64) : entryFrame m #[(.long x0), (.long x1)] 4 = mkF m 0 #[jv x0, .second, jv x1, .second] [] := by first | (simp [entryFrame, mkF, argsToLocals, Value.category]; done) | rfl
def own_f5 (q0 : Int64) (q1 : Int64) : Int64 := (if q0 < q1 then q1 else q0)
def Q5 (Z : State) (q0 : Int64) (q1 : Int64) (h0 : Heap) (n0 : Nat) (v : Option Value) (h : Heap) (L : List Loc) : Prop := v = some (.long (own_f5 q0 q1)) ∧ Fr n0 L ∧ h = h0
set_option maxRecDepth 65536 in
set_option maxHeartbeats 40000000 in
theorem rm5 (l : Launch) (Z : State) (aw : Array Value) (hw : ∀ d ∈ tables_1, d.before aw Z = true) (ws : List Jvm.Cond) (q0 : Int64) (q1 : Int64) (h0 : Heap) (n0 : Nat) (Z0 : n0 ≤ h0.size)  :
    MetFree l (⟨"java/lang/Math", "max", "(JJ)J"⟩ : MethodName) (head1 (Jvm.Cond.code (⟨"java/lang/Math", "max", "(JJ)J"⟩ : MethodName) jdk_29_method_66_code 4 (some .long) :: ws) ({ frames := 0, cells := 0, slots := 0, locals := 0 } : Room)) (fun a U => a = #[(.long q0), (.long q1)] ∧ Z.Warmed39 U.vm ∧ U.heap = h0) (fun _ _ _ _ _ => True) (fun _ U o U' => ∃ v L, o = .returned v ∧ Q5 Z q0 q1 h0 n0 v U'.heap L ∧ FrameEnd U o U' L ({ frames := 0, cells := 0, slots := 0, locals := 0 } : Room).cells ({ frames := 0, cells := 0, slots := 0, locals := 0 } : Room).slots) := by
  refine MetFree.of_bodySF (Jvm.Free.JP.mathPlain rfl (by decide +kernel)) hisR ?_
  intro p e s m args below meth c s₁ Bd hml0 hP hK
  obtain ⟨rfl, hZ, hh⟩ := hP
  have hx := Bd.exec
  have hby := Bd.bytes
  have hml : c.maxLocals = 4 := hml0
  have hown : s.vm.findClass "java/lang/Math" = some m.cls := findClass_of_methodNamed Bd.named
  have hnm := (name_of_methodNamed Bd.named Bd.method).1
  have hlk : meth.locks = false := by first | exact BodyLoose.notSynchronized (by assumption) | exact Body.notSynchronized (by assumption)
  have X0 : Stand p l e ({ frames := 0, cells := 0, slots := 0, locals := 0 } : Room) s m #[(.long q0), (.long q1)] below meth c s₁ [] 0 0 := Stand.of_body Bd
  have e0 : s₁.heap = h0 := by rw [← hh, Bd.state]; rfl
  have N0 := Fr.nil n0
  have K0 : Keep h0 h0 [] := Keep.refl _ _
  refine own_start (CS := (0, 0)) (Q := (Q5 Z q0 q1 h0 n0)) (ef_5 m q0 q1) ?_
  show own_Go p e below s _ _ (s₁.setTop (mkF m 0 #[jv q0, .second, jv q1, .second] []))
  refine own_via (fun k => XS.lloadN X0.here hx rfl (hb hby d5_0) rfl  (XS.lloadN X0.here hx rfl (hb hby d5_1) rfl  (XS.lcmp X0.here hx rfl (hb hby d5_2) rfl k))) ?_
  show own_Go p e below s _ _ (s₁.setTop (mkF m 3 #[jv q0, .second, jv q1, .second] [(.int (lcmpW q0 q1))]))
  by_cases hc1 : q0 < q1
  · refine own_via (fun k => XS.ifYes X0.here hx rfl (pc0 := 3) (pc' := 10) rfl (hb hby d5_3) rfl ((if0 _ _).trans (tlt ((lw_lt _ _).mpr hc1)).1) (by decide) (by decide) k) ?_
    show own_Go p e below s _ _ (s₁.setTop (mkF m 10 #[jv q0, .second, jv q1, .second] []))
    refine own_via (fun k => XS.lloadN X0.here hx rfl (hb hby d5_10) rfl  k) ?_
    show own_Go p e below s _ _ (s₁.setTop (mkF m 11 #[jv q0, .second, jv q1, .second] [(.long q1)]))
    exact own_retL X0 hx hlk Bd.returns (hb hby d5_11) (Q := (Q5 Z q0 q1 h0 n0)) ⟨(congrArg (fun z => some (Value.long z)) (show q1 = (own_f5 q0 q1) from (by unfold own_f5; exact ((if_pos hc1).trans rfl).symm))), N0, e0⟩ (by decide) (by decide)
  · refine own_via (fun k => XS.ifNo X0.here hx rfl (hb hby d5_3) rfl ((if0 _ _).trans (flt (mt (lw_lt _ _).mp hc1)).1) k) ?_
    show own_Go p e below s _ _ (s₁.setTop (mkF m 6 #[jv q0, .second, jv q1, .second] []))
    refine own_via (fun k => XS.lloadN X0.here hx rfl (hb hby d5_6) rfl  (XS.goto X0.here hx rfl (pc0 := 7) (pc' := 11) rfl (hb hby d5_7) (by decide) (by decide) k)) ?_
    show own_Go p e below s _ _ (s₁.setTop (mkF m 11 #[jv q0, .second, jv q1, .second] [(.long q0)]))
    exact own_retL X0 hx hlk Bd.returns (hb hby d5_11) (Q := (Q5 Z q0 q1 h0 n0)) ⟨(congrArg (fun z => some (Value.long z)) (show q0 = (own_f5 q0 q1) from (by unfold own_f5; exact ((if_neg hc1).trans rfl).symm))), N0, e0⟩ (by decide) (by decide)
theorem pn_0 : plainName "com/example/grammar_parser/grammarparser/UnsureLimitsContainsPinLaw" = true := by first | (simp [plainName, overriddenIn]; done) | decide +kernel
theorem pd_0 : parseMethodDescriptor "(II)V" = some ⟨[.int, .int], none⟩ := by decide +kernel
theorem pd_2 : parseMethodDescriptor "(I)Z" = some ⟨[.int], some .boolean⟩ := by decide +kernel
theorem pd_3 : parseMethodDescriptor "(JJ)J" = some ⟨[.long, .long], some .long⟩ := by decide +kernel
theorem ef_0 (m : MethodId) (x0 : Int32) (x1 : Int32) (x2 : Int32) (x3 : Int32) : entryFrame m #[(.int x0), (.int x1), (.int x2), (.int x3)] maxLocals = mkF m 0 #[iv x0, iv x1, iv x2, iv x3, .unset, .unset, .unset, .unset, .unset, .unset, .unset, .unset, .unset, .unset, .unset, .unset] [] := by first | (simp [entryFrame, mkF, argsToLocals, Value.category, maxLocals]; done) | rfl
theorem own_main (p0 p1 x : Int32) : (own_f3 x p0 p1) = (if ((p1.toInt64) - (1 : Int64)) < ((p0.toInt64) + (1 : Int64)) then (0 : Int32) else (if (own_f5 ((p0.toInt64) + (1 : Int64)) (own_f4 (x.toInt64) ((p1.toInt64) - (1 : Int64)))) = (x.toInt64) then (1 : Int32) else (0 : Int32))) := by
  have r0 := rng32 p0; have r1 := rng32 p1; have rx := rng32 x
  have c0 := c_i2l p0; have c1 := c_i2l p1; have cx := c_i2l x
  have e1 : (1 : Int64).toInt = 1 := by decide
  have a0 := c_ladd p0.toInt64 1; have a1 := c_lsub p1.toInt64 1
  have b0 := rng64 (p0.toInt64 + 1); have b1 := rng64 (p1.toInt64 - 1)
  generalize p0.toInt64 + 1 = lo at *
  generalize p1.toInt64 - 1 = hi at *
  generalize x.toInt64 = xl at *
  have h5 : (own_f5 lo (own_f4 xl hi)).toInt = max lo.toInt (min xl.toInt hi.toInt) := by
    rw [own_f5, own_f4]; split <;> split <;> rename_i u v <;> rw [own_l64] at u v <;> omega
  generalize own_f5 lo (own_f4 xl hi) = w at *
  simp only [own_f3]
  (repeat' split) <;> first | rfl | (exfalso; simp only [own_l32, own_l64, own_e64] at *; omega)
theorem own_law (p0 : Int32) (p1 : Int32) (p2 : Int32) (p3 : Int32) (z1 : Int32) (hz1 : z1 = (if (p3 &&& (3 : Int32)) = (1 : Int32) then ((p0 + (((p3.toUInt32 >>> ((2 : Int32) &&& 31).toUInt32).toInt32) &&& (3 : Int32))) - (1 : Int32)) else (if (p3 &&& (3 : Int32)) = (2 : Int32) then ((p1 - (((p3.toUInt32 >>> ((2 : Int32) &&& 31).toUInt32).toInt32) &&& (3 : Int32))) + (1 : Int32)) else p2))) (z20 : Int32) (hz20 : z20 = (if ((p1.toInt64) - (1 : Int64)) < ((p0.toInt64) + (1 : Int64)) then (0 : Int32) else (if (own_f5 ((p0.toInt64) + (1 : Int64)) (own_f4 (z1.toInt64) ((p1.toInt64) - (1 : Int64)))) = (z1.toInt64) then (1 : Int32) else (0 : Int32)))) : (own_f3 z1 p0 p1) = z20 := by subst hz20; exact own_main p0 p1 z1
def Q0 (Z : State) (p0 : Int32) (p1 : Int32) (p2 : Int32) (p3 : Int32) (h0 : Heap) (n0 : Nat) (v : Option Value) (h : Heap) (L : List Loc) : Prop := v = some (.int 1) ∧ Fr n0 L
set_option maxRecDepth 65536 in
set_option maxHeartbeats 40000000 in
theorem rm0 (l : Launch) (Z : State) (aw : Array Value) (hw : ∀ d ∈ tables_1, d.before aw Z = true) (ws : List Jvm.Cond) (p0 : Int32) (p1 : Int32) (p2 : Int32) (p3 : Int32) (h0 : Heap) (n0 : Nat) (Z0 : n0 ≤ h0.size)  :
    MetFree l x (head1 (Jvm.Cond.code x code maxLocals ret :: ws) room_1) (fun a U => a = #[(.int p0), (.int p1), (.int p2), (.int p3)] ∧ Z.Warmed39 U.vm ∧ U.heap = h0) (fun _ _ _ _ _ => True) (fun _ U o U' => ∃ v L, o = .returned v ∧ Q0 Z p0 p1 p2 p3 h0 n0 v U'.heap L ∧ FrameEnd U o U' L room_1.cells room_1.slots) := by
  refine MetFree.of_bodySF (plainFor_of_name pn_0) hisR ?_
  intro p e s m args below meth c s₁ Bd hml0 hP hK
  obtain ⟨rfl, hZ, hh⟩ := hP
  have hx := Bd.exec
  have hby := Bd.bytes
  have hml : c.maxLocals = 16 := hml0
  have hown : s.vm.findClass "com/example/grammar_parser/grammarparser/UnsureLimitsContainsPinLaw" = some m.cls := findClass_of_methodNamed Bd.named
  have hnm := (name_of_methodNamed Bd.named Bd.method).1
  have hlk : meth.locks = false := by first | exact BodyLoose.notSynchronized (by assumption) | exact Body.notSynchronized (by assumption)
  have X0 : Stand p l e room_1 s m #[(.int p0), (.int p1), (.int p2), (.int p3)] below meth c s₁ [] 0 0 := Stand.of_body Bd
  have e0 : s₁.heap = h0 := by rw [← hh, Bd.state]; rfl
  have N0 := Fr.nil n0
  refine own_start (CS := (room_1.cells, room_1.slots)) (Q := (Q0 Z p0 p1 p2 p3 h0 n0)) (ef_0 m p0 p1 p2 p3) ?_
  show own_Go p e below s _ _ (s₁.setTop (mkF m 0 #[iv p0, iv p1, iv p2, iv p3, .unset, .unset, .unset, .unset, .unset, .unset, .unset, .unset, .unset, .unset, .unset, .unset] []))
  refine own_via (fun k => XS.iloadN X0.here hx rfl (hb hby at_0) rfl  (XS.iconst X0.here hx rfl (hb hby at_1) (XS.iand X0.here hx rfl (hb hby at_2) rfl (XS.istore X0.here hx rfl (hb hby at_3) rfl (l' := #[iv p0, iv p1, iv p2, iv p3, iv (p3 &&& (3 : Int32)), .unset, .unset, .unset, .unset, .unset, .unset, .unset, .unset, .unset, .unset, .unset]) rfl k)))) ?_
  show own_Go p e below s _ _ (s₁.setTop (mkF m 5 #[iv p0, iv p1, iv p2, iv p3, iv (p3 &&& (3 : Int32)), .unset, .unset, .unset, .unset, .unset, .unset, .unset, .unset, .unset, .unset, .unset] []))
  refine own_via (fun k => XS.iloadN X0.here hx rfl (hb hby at_5) rfl  (XS.iconst X0.here hx rfl (hb hby at_6) (XS.iushr X0.here hx rfl (hb hby at_7) rfl (XS.iconst X0.here hx rfl (hb hby at_8) k)))) ?_
  show own_Go p e below s _ _ (s₁.setTop (mkF m 9 #[iv p0, iv p1, iv p2, iv p3, iv (p3 &&& (3 : Int32)), .unset, .unset, .unset, .unset, .unset, .unset, .unset, .unset, .unset, .unset, .unset] [(.int 3), (.int ((p3.toUInt32 >>> ((2 : Int32) &&& 31).toUInt32).toInt32))]))
  refine own_via (fun k => XS.iand X0.here hx rfl (hb hby at_9) rfl (XS.istore X0.here hx rfl (hb hby at_10) rfl (l' := #[iv p0, iv p1, iv p2, iv p3, iv (p3 &&& (3 : Int32)), iv (((p3.toUInt32 >>> ((2 : Int32) &&& 31).toUInt32).toInt32) &&& (3 : Int32)), .unset, .unset, .unset, .unset, .unset, .unset, .unset, .unset, .unset, .unset]) rfl (XS.iload X0.here hx rfl (hb hby at_12) rfl  (XS.iconst X0.here hx rfl (hb hby at_14) k)))) ?_
  show own_Go p e below s _ _ (s₁.setTop (mkF m 15 #[iv p0, iv p1, iv p2, iv p3, iv (p3 &&& (3 : Int32)), iv (((p3.toUInt32 >>> ((2 : Int32) &&& 31).toUInt32).toInt32) &&& (3 : Int32)), .unset, .unset, .unset, .unset, .unset, .unset, .unset, .unset, .unset, .unset] [(.int 1), (.int (p3 &&& (3 : Int32)))]))
  have J2 : ∀ (z1 : Int32), z1 = (if (p3 &&& (3 : Int32)) = (1 : Int32) then ((p0 + (((p3.toUInt32 >>> ((2 : Int32) &&& 31).toUInt32).toInt32) &&& (3 : Int32))) - (1 : Int32)) else (if (p3 &&& (3 : Int32)) = (2 : Int32) then ((p1 - (((p3.toUInt32 >>> ((2 : Int32) &&& 31).toUInt32).toInt32) &&& (3 : Int32))) + (1 : Int32)) else p2)) → own_Go p e below s (Q0 Z p0 p1 p2 p3 h0 n0) (room_1.cells, room_1.slots) (s₁.setTop (mkF m 49 #[iv p0, iv p1, iv p2, iv p3, iv (p3 &&& (3 : Int32)), iv (((p3.toUInt32 >>> ((2 : Int32) &&& 31).toUInt32).toInt32) &&& (3 : Int32)), iv z1, .unset, .unset, .unset, .unset, .unset, .unset, .unset, .unset, .unset] [])) := by
    intro z1 hz1
    obtain ⟨T3, h3, X3, e3, E3, A3, D3, -, st3⟩ := newO X0 hx hZ hown (hw _ (List.mem_of_getElem? (i := 0) rfl)) (hw _ (List.mem_of_getElem? (i := 1) rfl)) (hw _ (List.mem_of_getElem? (i := 2) rfl)) e0 (g := (mkF m 49 #[iv p0, iv p1, iv p2, iv p3, iv (p3 &&& (3 : Int32)), iv (((p3.toUInt32 >>> ((2 : Int32) &&& 31).toUInt32).toInt32) &&& (3 : Int32)), iv z1, .unset, .unset, .unset, .unset, .unset, .unset, .unset, .unset, .unset] [])) rfl (hb hby at_49) (by decide) (by decide)
    obtain ⟨b3, g3⟩ : ∃ z, z = h0.size := ⟨_, rfl⟩
    rw [← g3] at A3 D3 st3
    refine own_via (fun k => st3 _ k) ?_
    show own_Go p e below s _ _ (T3.setTop (mkF m 52 #[iv p0, iv p1, iv p2, iv p3, iv (p3 &&& (3 : Int32)), iv (((p3.toUInt32 >>> ((2 : Int32) &&& 31).toUInt32).toInt32) &&& (3 : Int32)), iv z1, .unset, .unset, .unset, .unset, .unset, .unset, .unset, .unset, .unset] [(.ref b3)]))
    have g4 : n0 ≤ b3 := Nat.le_trans Z0 (Nat.le_of_eq g3.symm)
    have Z5 : n0 ≤ h3.size := Nat.le_trans Z0 E3.1
    have B6 : Fld Z h3 b3 "com/example/grammar_parser/grammarparser/UnsureLimits" "low" "I" (.int 0) := D3 (Or.inr (hw _ (List.mem_of_getElem? (i := 10) rfl))) (ty := .int) (by decide)
    have B7 : Fld Z h3 b3 "com/example/grammar_parser/grammarparser/UnsureLimits" "high" "I" (.int 0) := D3 (Or.inr (hw _ (List.mem_of_getElem? (i := 12) rfl))) (ty := .int) (by decide)
    refine own_via (fun k => XS.dup X3.here hx rfl (hb hby at_52) rfl rfl (XS.iloadN X3.here hx rfl (hb hby at_53) rfl  (XS.iloadN X3.here hx rfl (hb hby at_54) rfl  k))) ?_
    show own_Go p e below s _ _ (T3.setTop (mkF m 55 #[iv p0, iv p1, iv p2, iv p3, iv (p3 &&& (3 : Int32)), iv (((p3.toUInt32 >>> ((2 : Int32) &&& 31).toUInt32).toInt32) &&& (3 : Int32)), iv z1, .unset, .unset, .unset, .unset, .unset, .unset, .unset, .unset, .unset] [(.int p1), (.int p0), (.ref b3), (.ref b3)]))
    obtain ⟨_, _, ⟨T8, L8, k8, n8⟩, -, X8, ⟨Lc8, hQ8, l8, y8, z8⟩, st8⟩ := X3.specialBack hx (y := (⟨"com/example/grammar_parser/grammarparser/UnsureLimits", "<init>", "(II)V"⟩ : MethodName)) rfl hown (mvT hZ (hw _ (List.mem_of_getElem? (i := 3) rfl))) (mvT hZ (hw _ (List.mem_of_getElem? (i := 4) rfl))) (mvT hZ (hw _ (List.mem_of_getElem? (i := 5) rfl))) (by decide) (backOf (W := 1) (rm1 l Z aw hw [] b3 p0 p1 h3 n0 Z5 B6 B7 A3 g4) hZ (hw _ (List.mem_of_getElem? (i := 5) rfl)) (hw _ (List.mem_of_getElem? (i := 2) rfl)) (by decide) (by decide)) (g := (mkF m 55 #[iv p0, iv p1, iv p2, iv p3, iv (p3 &&& (3 : Int32)), iv (((p3.toUInt32 >>> ((2 : Int32) &&& 31).toUInt32).toInt32) &&& (3 : Int32)), iv z1, .unset, .unset, .unset, .unset, .unset, .unset, .unset, .unset, .unset] [(.int p1), (.int p0), (.ref b3), (.ref b3)])) rfl (by rw [hml]; rfl) (Steps.refl _) (a := b3) (argsL := [(.int p0), (.int p1)]) (rest := [(.ref b3)]) (lenOf pd_0 rfl) rfl (by show 2 * 0 + _ ≤ _; exact Nat.le_of_eq rfl) (hb hby at_55) (fun _ _ => ⟨rfl, e3, (by decide : 1 + 0 ≤ _), (by decide : 2 + 0 ≤ _)⟩)
    dsimp only [Pt.U, Pt.locs, Pt.cells, Pt.slots] at X8 l8 y8 z8 st8 hQ8
    subst l8 y8 z8
    obtain ⟨rfl, N8q, K8, B9, B10⟩ := hQ8
    have N11 := Fr.app N0 N8q
    have B12 := A3.keep K8
    have Z13 : n0 ≤ T8.heap.size := Nat.le_trans Z5 K8.1
    refine own_via (fun k => st8.trans k) ?_
    show own_Go p e below s _ _ (T8.setTop (mkF m 58 #[iv p0, iv p1, iv p2, iv p3, iv (p3 &&& (3 : Int32)), iv (((p3.toUInt32 >>> ((2 : Int32) &&& 31).toUInt32).toInt32) &&& (3 : Int32)), iv z1, .unset, .unset, .unset, .unset, .unset, .unset, .unset, .unset, .unset] [(.ref b3)]))
    refine own_via (fun k => XS.astore X8.here hx rfl (hb hby at_58) rfl rfl (l' := #[iv p0, iv p1, iv p2, iv p3, iv (p3 &&& (3 : Int32)), iv (((p3.toUInt32 >>> ((2 : Int32) &&& 31).toUInt32).toInt32) &&& (3 : Int32)), iv z1, rv b3, .unset, .unset, .unset, .unset, .unset, .unset, .unset, .unset]) rfl (XS.aload X8.here hx rfl (hb hby at_60) rfl rfl  (XS.iload X8.here hx rfl (hb hby at_62) rfl  k))) ?_
    show own_Go p e below s _ _ (T8.setTop (mkF m 64 #[iv p0, iv p1, iv p2, iv p3, iv (p3 &&& (3 : Int32)), iv (((p3.toUInt32 >>> ((2 : Int32) &&& 31).toUInt32).toInt32) &&& (3 : Int32)), iv z1, rv b3, .unset, .unset, .unset, .unset, .unset, .unset, .unset, .unset] [(.int z1), (.ref b3)]))
    obtain ⟨cq14, kq14, q14a, q14b, q14c⟩ := isOf hZ rfl B12
    obtain ⟨_, _, ⟨T14, L14, k14, n14⟩, -, X14, ⟨Lc14, hQ14, l14, y14, z14⟩, st14⟩ := X8.virtualBack hx (y := (⟨"com/example/grammar_parser/grammarparser/UnsureLimits", "contains", "(I)Z"⟩ : MethodName)) (z := (⟨"com/example/grammar_parser/grammarparser/UnsureLimits", "contains", "(I)Z"⟩ : MethodName)) hown (mvT hZ (hw _ (List.mem_of_getElem? (i := 13) rfl))) (mvT hZ (hw _ (List.mem_of_getElem? (i := 14) rfl))) (notFace_of_selects (args := #[]) (mvT hZ (hw _ (List.mem_of_getElem? (i := 16) rfl)))) (mvT hZ (hw _ (List.mem_of_getElem? (i := 16) rfl))) (mvT hZ (hw _ (List.mem_of_getElem? (i := 15) rfl))) (by decide) (backOf (W := 0) (rm3 l Z aw hw [] b3 z1 p0 p1 T8.heap n0 Z13 B9 B10) hZ (hw _ (List.mem_of_getElem? (i := 17) rfl)) (hw _ (List.mem_of_getElem? (i := 2) rfl)) (by decide) (by decide)) q14a q14c (g := (mkF m 64 #[iv p0, iv p1, iv p2, iv p3, iv (p3 &&& (3 : Int32)), iv (((p3.toUInt32 >>> ((2 : Int32) &&& 31).toUInt32).toInt32) &&& (3 : Int32)), iv z1, rv b3, .unset, .unset, .unset, .unset, .unset, .unset, .unset, .unset] [(.int z1), (.ref b3)])) rfl (by rw [hml]; rfl) (Steps.refl _) (argsL := [(.int z1)]) (rest := []) (lenOf pd_2 rfl) rfl (by show 2 * 0 + _ ≤ _; exact Nat.le_of_eq rfl) (hb hby at_64) (fun _ _ => ⟨rfl, rfl, (by decide : 1 + 0 ≤ _), (by decide : 2 + 0 ≤ _)⟩)
    dsimp only [Pt.U, Pt.locs, Pt.cells, Pt.slots] at X14 l14 y14 z14 st14 hQ14
    subst l14 y14 z14
    obtain ⟨rfl, N14q, eh14⟩ := hQ14
    have N15 := Fr.app N11 N14q
    refine own_via (fun k => st14.trans k) ?_
    show own_Go p e below s _ _ (T14.setTop (mkF m 67 #[iv p0, iv p1, iv p2, iv p3, iv (p3 &&& (3 : Int32)), iv (((p3.toUInt32 >>> ((2 : Int32) &&& 31).toUInt32).toInt32) &&& (3 : Int32)), iv z1, rv b3, .unset, .unset, .unset, .unset, .unset, .unset, .unset, .unset] [(.int (own_f3 z1 p0 p1))]))
    refine own_via (fun k => XS.istore X14.here hx rfl (hb hby at_67) rfl (l' := #[iv p0, iv p1, iv p2, iv p3, iv (p3 &&& (3 : Int32)), iv (((p3.toUInt32 >>> ((2 : Int32) &&& 31).toUInt32).toInt32) &&& (3 : Int32)), iv z1, rv b3, iv (own_f3 z1 p0 p1), .unset, .unset, .unset, .unset, .unset, .unset, .unset]) rfl (XS.iloadN X14.here hx rfl (hb hby at_69) rfl  (XS.i2l X14.here hx rfl (hb hby at_70) rfl (XS.lconst X14.here hx rfl (hb hby at_71) k)))) ?_
    show own_Go p e below s _ _ (T14.setTop (mkF m 72 #[iv p0, iv p1, iv p2, iv p3, iv (p3 &&& (3 : Int32)), iv (((p3.toUInt32 >>> ((2 : Int32) &&& 31).toUInt32).toInt32) &&& (3 : Int32)), iv z1, rv b3, iv (own_f3 z1 p0 p1), .unset, .unset, .unset, .unset, .unset, .unset, .unset] [(.long 1), (.long (p0.toInt64))]))
    refine own_via (fun k => XS.ladd X14.here hx rfl (hb hby at_72) rfl (XS.lstore X14.here hx rfl (hb hby at_73) rfl (l' := #[iv p0, iv p1, iv p2, iv p3, iv (p3 &&& (3 : Int32)), iv (((p3.toUInt32 >>> ((2 : Int32) &&& 31).toUInt32).toInt32) &&& (3 : Int32)), iv z1, rv b3, iv (own_f3 z1 p0 p1), jv ((p0.toInt64) + (1 : Int64)), .second, .unset, .unset, .unset, .unset, .unset]) rfl (XS.iloadN X14.here hx rfl (hb hby at_75) rfl  (XS.i2l X14.here hx rfl (hb hby at_76) rfl k)))) ?_
    show own_Go p e below s _ _ (T14.setTop (mkF m 77 #[iv p0, iv p1, iv p2, iv p3, iv (p3 &&& (3 : Int32)), iv (((p3.toUInt32 >>> ((2 : Int32) &&& 31).toUInt32).toInt32) &&& (3 : Int32)), iv z1, rv b3, iv (own_f3 z1 p0 p1), jv ((p0.toInt64) + (1 : Int64)), .second, .unset, .unset, .unset, .unset, .unset] [(.long (p1.toInt64))]))
    refine own_via (fun k => XS.lconst X14.here hx rfl (hb hby at_77) (XS.lsub X14.here hx rfl (hb hby at_78) rfl (XS.lstore X14.here hx rfl (hb hby at_79) rfl (l' := #[iv p0, iv p1, iv p2, iv p3, iv (p3 &&& (3 : Int32)), iv (((p3.toUInt32 >>> ((2 : Int32) &&& 31).toUInt32).toInt32) &&& (3 : Int32)), iv z1, rv b3, iv (own_f3 z1 p0 p1), jv ((p0.toInt64) + (1 : Int64)), .second, jv ((p1.toInt64) - (1 : Int64)), .second, .unset, .unset, .unset]) rfl (XS.iload X14.here hx rfl (hb hby at_81) rfl  k)))) ?_
    show own_Go p e below s _ _ (T14.setTop (mkF m 83 #[iv p0, iv p1, iv p2, iv p3, iv (p3 &&& (3 : Int32)), iv (((p3.toUInt32 >>> ((2 : Int32) &&& 31).toUInt32).toInt32) &&& (3 : Int32)), iv z1, rv b3, iv (own_f3 z1 p0 p1), jv ((p0.toInt64) + (1 : Int64)), .second, jv ((p1.toInt64) - (1 : Int64)), .second, .unset, .unset, .unset] [(.int z1)]))
    refine own_via (fun k => XS.i2l X14.here hx rfl (hb hby at_83) rfl (XS.lstore X14.here hx rfl (hb hby at_84) rfl (l' := #[iv p0, iv p1, iv p2, iv p3, iv (p3 &&& (3 : Int32)), iv (((p3.toUInt32 >>> ((2 : Int32) &&& 31).toUInt32).toInt32) &&& (3 : Int32)), iv z1, rv b3, iv (own_f3 z1 p0 p1), jv ((p0.toInt64) + (1 : Int64)), .second, jv ((p1.toInt64) - (1 : Int64)), .second, jv (z1.toInt64), .second, .unset]) rfl (XS.lload X14.here hx rfl (hb hby at_86) rfl  (XS.lload X14.here hx rfl (hb hby at_88) rfl  k)))) ?_
    show own_Go p e below s _ _ (T14.setTop (mkF m 90 #[iv p0, iv p1, iv p2, iv p3, iv (p3 &&& (3 : Int32)), iv (((p3.toUInt32 >>> ((2 : Int32) &&& 31).toUInt32).toInt32) &&& (3 : Int32)), iv z1, rv b3, iv (own_f3 z1 p0 p1), jv ((p0.toInt64) + (1 : Int64)), .second, jv ((p1.toInt64) - (1 : Int64)), .second, jv (z1.toInt64), .second, .unset] [(.long ((p1.toInt64) - (1 : Int64))), (.long ((p0.toInt64) + (1 : Int64)))]))
    refine own_via (fun k => XS.lcmp X14.here hx rfl (hb hby at_90) rfl k) ?_
    show own_Go p e below s _ _ (T14.setTop (mkF m 91 #[iv p0, iv p1, iv p2, iv p3, iv (p3 &&& (3 : Int32)), iv (((p3.toUInt32 >>> ((2 : Int32) &&& 31).toUInt32).toInt32) &&& (3 : Int32)), iv z1, rv b3, iv (own_f3 z1 p0 p1), jv ((p0.toInt64) + (1 : Int64)), .second, jv ((p1.toInt64) - (1 : Int64)), .second, jv (z1.toInt64), .second, .unset] [(.int (lcmpW ((p0.toInt64) + (1 : Int64)) ((p1.toInt64) - (1 : Int64))))]))
    have J21 : ∀ (T21 : State) (lo21 : List Loc), Stand p l e room_1 s m #[(.int p0), (.int p1), (.int p2), (.int p3)] below meth c T21 lo21 1 2 → Fr n0 lo21 → T21.heap = T8.heap → ∀ (z20 : Int32), z20 = (if ((p1.toInt64) - (1 : Int64)) < ((p0.toInt64) + (1 : Int64)) then (0 : Int32) else (if (own_f5 ((p0.toInt64) + (1 : Int64)) (own_f4 (z1.toInt64) ((p1.toInt64) - (1 : Int64)))) = (z1.toInt64) then (1 : Int32) else (0 : Int32))) → own_Go p e below s (Q0 Z p0 p1 p2 p3 h0 n0) (room_1.cells, room_1.slots) (T21.setTop (mkF m 117 #[iv p0, iv p1, iv p2, iv p3, iv (p3 &&& (3 : Int32)), iv (((p3.toUInt32 >>> ((2 : Int32) &&& 31).toUInt32).toInt32) &&& (3 : Int32)), iv z1, rv b3, iv (own_f3 z1 p0 p1), jv ((p0.toInt64) + (1 : Int64)), .second, jv ((p1.toInt64) - (1 : Int64)), .second, jv (z1.toInt64), .second, .unset] [(.int z20)])) := by
      intro T21 lo21 X21 N21 e21 z20 hz20
      refine own_via (fun k => XS.istore X21.here hx rfl (hb hby at_117) rfl (l' := #[iv p0, iv p1, iv p2, iv p3, iv (p3 &&& (3 : Int32)), iv (((p3.toUInt32 >>> ((2 : Int32) &&& 31).toUInt32).toInt32) &&& (3 : Int32)), iv z1, rv b3, iv (own_f3 z1 p0 p1), jv ((p0.toInt64) + (1 : Int64)), .second, jv ((p1.toInt64) - (1 : Int64)), .second, jv (z1.toInt64), .second, iv z20]) rfl (XS.iload X21.here hx rfl (hb hby at_119) rfl  (XS.iload X21.here hx rfl (hb hby at_121) rfl  k))) ?_
      show own_Go p e below s _ _ (T21.setTop (mkF m 123 #[iv p0, iv p1, iv p2, iv p3, iv (p3 &&& (3 : Int32)), iv (((p3.toUInt32 >>> ((2 : Int32) &&& 31).toUInt32).toInt32) &&& (3 : Int32)), iv z1, rv b3, iv (own_f3 z1 p0 p1), jv ((p0.toInt64) + (1 : Int64)), .second, jv ((p1.toInt64) - (1 : Int64)), .second, jv (z1.toInt64), .second, iv z20] [(.int z20), (.int (own_f3 z1 p0 p1))]))
      refine own_via (fun k => XS.icmpNo X21.here hx rfl (hb hby at_123) rfl (teq (own_law p0 p1 p2 p3 z1 hz1 z20 hz20)).2 k) ?_
      show own_Go p e below s _ _ (T21.setTop (mkF m 126 #[iv p0, iv p1, iv p2, iv p3, iv (p3 &&& (3 : Int32)), iv (((p3.toUInt32 >>> ((2 : Int32) &&& 31).toUInt32).toInt32) &&& (3 : Int32)), iv z1, rv b3, iv (own_f3 z1 p0 p1), jv ((p0.toInt64) + (1 : Int64)), .second, jv ((p1.toInt64) - (1 : Int64)), .second, jv (z1.toInt64), .second, iv z20] []))
      refine own_via (fun k => XS.iconst X21.here hx rfl (hb hby at_126) (XS.goto X21.here hx rfl (pc0 := 127) (pc' := 131) rfl (hb hby at_127) (by decide) (by decide) k)) ?_
      show own_Go p e below s _ _ (T21.setTop (mkF m 131 #[iv p0, iv p1, iv p2, iv p3, iv (p3 &&& (3 : Int32)), iv (((p3.toUInt32 >>> ((2 : Int32) &&& 31).toUInt32).toInt32) &&& (3 : Int32)), iv z1, rv b3, iv (own_f3 z1 p0 p1), jv ((p0.toInt64) + (1 : Int64)), .second, jv ((p1.toInt64) - (1 : Int64)), .second, jv (z1.toInt64), .second, iv z20] [(.int 1)]))
      exact own_retN X21 hx hlk (t := .boolean) Bd.returns (by simp) (hb hby at_131) (Q := (Q0 Z p0 p1 p2 p3 h0 n0)) ⟨rfl, N21⟩ (by decide) (by decide)
    by_cases hc22 : ((p1.toInt64) - (1 : Int64)) < ((p0.toInt64) + (1 : Int64))
    · refine own_via (fun k => XS.ifYes X14.here hx rfl (pc0 := 91) (pc' := 116) rfl (hb hby at_91) rfl ((if0 _ _).trans (tlt ((lw_gt _ _).mpr hc22)).2.2.1) (by decide) (by decide) k) ?_
      show own_Go p e below s _ _ (T14.setTop (mkF m 116 #[iv p0, iv p1, iv p2, iv p3, iv (p3 &&& (3 : Int32)), iv (((p3.toUInt32 >>> ((2 : Int32) &&& 31).toUInt32).toInt32) &&& (3 : Int32)), iv z1, rv b3, iv (own_f3 z1 p0 p1), jv ((p0.toInt64) + (1 : Int64)), .second, jv ((p1.toInt64) - (1 : Int64)), .second, jv (z1.toInt64), .second, .unset] []))
      refine own_via (fun k => XS.iconst X14.here hx rfl (hb hby at_116) k) ?_
      show own_Go p e below s _ _ (T14.setTop (mkF m 117 #[iv p0, iv p1, iv p2, iv p3, iv (p3 &&& (3 : Int32)), iv (((p3.toUInt32 >>> ((2 : Int32) &&& 31).toUInt32).toInt32) &&& (3 : Int32)), iv z1, rv b3, iv (own_f3 z1 p0 p1), jv ((p0.toInt64) + (1 : Int64)), .second, jv ((p1.toInt64) - (1 : Int64)), .second, jv (z1.toInt64), .second, .unset] [(.int 0)]))
      exact J21 _ _ X14 N15 eh14 (0 : Int32) (((if_pos hc22).trans rfl)).symm
    · refine own_via (fun k => XS.ifNo X14.here hx rfl (hb hby at_91) rfl ((if0 _ _).trans (flt (mt (lw_gt _ _).mp hc22)).2.2.1) k) ?_
      show own_Go p e below s _ _ (T14.setTop (mkF m 94 #[iv p0, iv p1, iv p2, iv p3, iv (p3 &&& (3 : Int32)), iv (((p3.toUInt32 >>> ((2 : Int32) &&& 31).toUInt32).toInt32) &&& (3 : Int32)), iv z1, rv b3, iv (own_f3 z1 p0 p1), jv ((p0.toInt64) + (1 : Int64)), .second, jv ((p1.toInt64) - (1 : Int64)), .second, jv (z1.toInt64), .second, .unset] []))
      refine own_via (fun k => XS.lload X14.here hx rfl (hb hby at_94) rfl  (XS.lload X14.here hx rfl (hb hby at_96) rfl  (XS.lload X14.here hx rfl (hb hby at_98) rfl  k))) ?_
      show own_Go p e below s _ _ (T14.setTop (mkF m 100 #[iv p0, iv p1, iv p2, iv p3, iv (p3 &&& (3 : Int32)), iv (((p3.toUInt32 >>> ((2 : Int32) &&& 31).toUInt32).toInt32) &&& (3 : Int32)), iv z1, rv b3, iv (own_f3 z1 p0 p1), jv ((p0.toInt64) + (1 : Int64)), .second, jv ((p1.toInt64) - (1 : Int64)), .second, jv (z1.toInt64), .second, .unset] [(.long ((p1.toInt64) - (1 : Int64))), (.long (z1.toInt64)), (.long ((p0.toInt64) + (1 : Int64)))]))
      obtain ⟨_, _, ⟨T23, L23, k23, n23⟩, -, X23, ⟨Lc23, hQ23, l23, y23, z23⟩, st23⟩ := Jvm.LawKit.callS X14 hx (y := (⟨"java/lang/Math", "min", "(JJ)J"⟩ : MethodName)) hown (mvT hZ (hw _ (List.mem_of_getElem? (i := 18) rfl))) (mvT hZ (hw _ (List.mem_of_getElem? (i := 19) rfl))) (mvT hZ (hw _ (List.mem_of_getElem? (i := 20) rfl))) (mvT hZ (hw _ (List.mem_of_getElem? (i := 21) rfl))) (by decide) (backOf (W := 2) (rm4 l Z aw hw [] (z1.toInt64) ((p1.toInt64) - (1 : Int64)) T8.heap n0 Z13) hZ (hw _ (List.mem_of_getElem? (i := 21) rfl)) (hw _ (List.mem_of_getElem? (i := 20) rfl)) (by decide) (by decide)) (g := (mkF m 100 #[iv p0, iv p1, iv p2, iv p3, iv (p3 &&& (3 : Int32)), iv (((p3.toUInt32 >>> ((2 : Int32) &&& 31).toUInt32).toInt32) &&& (3 : Int32)), iv z1, rv b3, iv (own_f3 z1 p0 p1), jv ((p0.toInt64) + (1 : Int64)), .second, jv ((p1.toInt64) - (1 : Int64)), .second, jv (z1.toInt64), .second, .unset] [(.long ((p1.toInt64) - (1 : Int64))), (.long (z1.toInt64)), (.long ((p0.toInt64) + (1 : Int64)))])) rfl (by rw [hml]; rfl) (argsL := [(.long (z1.toInt64)), (.long ((p1.toInt64) - (1 : Int64)))]) (rest := [(.long ((p0.toInt64) + (1 : Int64)))]) (lenOf pd_3 rfl) rfl (by show 2 * 0 + _ ≤ _; exact Nat.le_of_eq rfl) (hb hby at_100) (fun _ _ => ⟨rfl, eh14, (by decide : 1 + 0 ≤ _), (by decide : 2 + 0 ≤ _)⟩)
      dsimp only [Pt.U, Pt.locs, Pt.cells, Pt.slots] at X23 l23 y23 z23 st23 hQ23
      subst l23 y23 z23
      obtain ⟨rfl, N23q, eh23⟩ := hQ23
      have N24 := Fr.app N15 N23q
      refine own_via (fun k => st23 _ k) ?_
      show own_Go p e below s _ _ (T23.setTop (mkF m 103 #[iv p0, iv p1, iv p2, iv p3, iv (p3 &&& (3 : Int32)), iv (((p3.toUInt32 >>> ((2 : Int32) &&& 31).toUInt32).toInt32) &&& (3 : Int32)), iv z1, rv b3, iv (own_f3 z1 p0 p1), jv ((p0.toInt64) + (1 : Int64)), .second, jv ((p1.toInt64) - (1 : Int64)), .second, jv (z1.toInt64), .second, .unset] [(.long (own_f4 (z1.toInt64) ((p1.toInt64) - (1 : Int64)))), (.long ((p0.toInt64) + (1 : Int64)))]))
      obtain ⟨_, _, ⟨T25, L25, k25, n25⟩, -, X25, ⟨Lc25, hQ25, l25, y25, z25⟩, st25⟩ := Jvm.LawKit.callS X23 hx (y := (⟨"java/lang/Math", "max", "(JJ)J"⟩ : MethodName)) hown (mvT hZ (hw _ (List.mem_of_getElem? (i := 22) rfl))) (mvT hZ (hw _ (List.mem_of_getElem? (i := 23) rfl))) (mvT hZ (hw _ (List.mem_of_getElem? (i := 20) rfl))) (mvT hZ (hw _ (List.mem_of_getElem? (i := 24) rfl))) (by decide) (backOf (W := 0) (rm5 l Z aw hw [] ((p0.toInt64) + (1 : Int64)) (own_f4 (z1.toInt64) ((p1.toInt64) - (1 : Int64))) T8.heap n0 Z13) hZ (hw _ (List.mem_of_getElem? (i := 24) rfl)) (hw _ (List.mem_of_getElem? (i := 20) rfl)) (by decide) (by decide)) (g := (mkF m 103 #[iv p0, iv p1, iv p2, iv p3, iv (p3 &&& (3 : Int32)), iv (((p3.toUInt32 >>> ((2 : Int32) &&& 31).toUInt32).toInt32) &&& (3 : Int32)), iv z1, rv b3, iv (own_f3 z1 p0 p1), jv ((p0.toInt64) + (1 : Int64)), .second, jv ((p1.toInt64) - (1 : Int64)), .second, jv (z1.toInt64), .second, .unset] [(.long (own_f4 (z1.toInt64) ((p1.toInt64) - (1 : Int64)))), (.long ((p0.toInt64) + (1 : Int64)))])) rfl (by rw [hml]; rfl) (argsL := [(.long ((p0.toInt64) + (1 : Int64))), (.long (own_f4 (z1.toInt64) ((p1.toInt64) - (1 : Int64))))]) (rest := []) (lenOf pd_3 rfl) rfl (by show 2 * 0 + _ ≤ _; exact Nat.le_of_eq rfl) (hb hby at_103) (fun _ _ => ⟨rfl, eh23, (by decide : 1 + 0 ≤ _), (by decide : 2 + 0 ≤ _)⟩)
      dsimp only [Pt.U, Pt.locs, Pt.cells, Pt.slots] at X25 l25 y25 z25 st25 hQ25
      subst l25 y25 z25
      obtain ⟨rfl, N25q, eh25⟩ := hQ25
      have N26 := Fr.app N24 N25q
      refine own_via (fun k => st25 _ k) ?_
      show own_Go p e below s _ _ (T25.setTop (mkF m 106 #[iv p0, iv p1, iv p2, iv p3, iv (p3 &&& (3 : Int32)), iv (((p3.toUInt32 >>> ((2 : Int32) &&& 31).toUInt32).toInt32) &&& (3 : Int32)), iv z1, rv b3, iv (own_f3 z1 p0 p1), jv ((p0.toInt64) + (1 : Int64)), .second, jv ((p1.toInt64) - (1 : Int64)), .second, jv (z1.toInt64), .second, .unset] [(.long (own_f5 ((p0.toInt64) + (1 : Int64)) (own_f4 (z1.toInt64) ((p1.toInt64) - (1 : Int64)))))]))
      refine own_via (fun k => XS.lload X25.here hx rfl (hb hby at_106) rfl  (XS.lcmp X25.here hx rfl (hb hby at_108) rfl k)) ?_
      show own_Go p e below s _ _ (T25.setTop (mkF m 109 #[iv p0, iv p1, iv p2, iv p3, iv (p3 &&& (3 : Int32)), iv (((p3.toUInt32 >>> ((2 : Int32) &&& 31).toUInt32).toInt32) &&& (3 : Int32)), iv z1, rv b3, iv (own_f3 z1 p0 p1), jv ((p0.toInt64) + (1 : Int64)), .second, jv ((p1.toInt64) - (1 : Int64)), .second, jv (z1.toInt64), .second, .unset] [(.int (lcmpW (own_f5 ((p0.toInt64) + (1 : Int64)) (own_f4 (z1.toInt64) ((p1.toInt64) - (1 : Int64)))) (z1.toInt64)))]))
      by_cases hc27 : (own_f5 ((p0.toInt64) + (1 : Int64)) (own_f4 (z1.toInt64) ((p1.toInt64) - (1 : Int64)))) = (z1.toInt64)
      · refine own_via (fun k => XS.ifNo X25.here hx rfl (hb hby at_109) rfl ((if0 _ _).trans (teq ((lw_eq _ _).mpr hc27)).2) k) ?_
        show own_Go p e below s _ _ (T25.setTop (mkF m 112 #[iv p0, iv p1, iv p2, iv p3, iv (p3 &&& (3 : Int32)), iv (((p3.toUInt32 >>> ((2 : Int32) &&& 31).toUInt32).toInt32) &&& (3 : Int32)), iv z1, rv b3, iv (own_f3 z1 p0 p1), jv ((p0.toInt64) + (1 : Int64)), .second, jv ((p1.toInt64) - (1 : Int64)), .second, jv (z1.toInt64), .second, .unset] []))
        refine own_via (fun k => XS.iconst X25.here hx rfl (hb hby at_112) (XS.goto X25.here hx rfl (pc0 := 113) (pc' := 117) rfl (hb hby at_113) (by decide) (by decide) k)) ?_
        show own_Go p e below s _ _ (T25.setTop (mkF m 117 #[iv p0, iv p1, iv p2, iv p3, iv (p3 &&& (3 : Int32)), iv (((p3.toUInt32 >>> ((2 : Int32) &&& 31).toUInt32).toInt32) &&& (3 : Int32)), iv z1, rv b3, iv (own_f3 z1 p0 p1), jv ((p0.toInt64) + (1 : Int64)), .second, jv ((p1.toInt64) - (1 : Int64)), .second, jv (z1.toInt64), .second, .unset] [(.int 1)]))
        exact J21 _ _ X25 N26 eh25 (1 : Int32) (((if_neg hc22).trans ((if_pos hc27).trans rfl))).symm
      · refine own_via (fun k => XS.ifYes X25.here hx rfl (pc0 := 109) (pc' := 116) rfl (hb hby at_109) rfl ((if0 _ _).trans (feq (mt (lw_eq _ _).mp hc27)).2) (by decide) (by decide) k) ?_
        show own_Go p e below s _ _ (T25.setTop (mkF m 116 #[iv p0, iv p1, iv p2, iv p3, iv (p3 &&& (3 : Int32)), iv (((p3.toUInt32 >>> ((2 : Int32) &&& 31).toUInt32).toInt32) &&& (3 : Int32)), iv z1, rv b3, iv (own_f3 z1 p0 p1), jv ((p0.toInt64) + (1 : Int64)), .second, jv ((p1.toInt64) - (1 : Int64)), .second, jv (z1.toInt64), .second, .unset] []))
        refine own_via (fun k => XS.iconst X25.here hx rfl (hb hby at_116) k) ?_
        show own_Go p e below s _ _ (T25.setTop (mkF m 117 #[iv p0, iv p1, iv p2, iv p3, iv (p3 &&& (3 : Int32)), iv (((p3.toUInt32 >>> ((2 : Int32) &&& 31).toUInt32).toInt32) &&& (3 : Int32)), iv z1, rv b3, iv (own_f3 z1 p0 p1), jv ((p0.toInt64) + (1 : Int64)), .second, jv ((p1.toInt64) - (1 : Int64)), .second, jv (z1.toInt64), .second, .unset] [(.int 0)]))
        exact J21 _ _ X25 N26 eh25 (0 : Int32) (((if_neg hc22).trans ((if_neg hc27).trans rfl))).symm
  by_cases hc28 : (p3 &&& (3 : Int32)) = (1 : Int32)
  · refine own_via (fun k => XS.icmpNo X0.here hx rfl (hb hby at_15) rfl (teq hc28).2 k) ?_
    show own_Go p e below s _ _ (s₁.setTop (mkF m 18 #[iv p0, iv p1, iv p2, iv p3, iv (p3 &&& (3 : Int32)), iv (((p3.toUInt32 >>> ((2 : Int32) &&& 31).toUInt32).toInt32) &&& (3 : Int32)), .unset, .unset, .unset, .unset, .unset, .unset, .unset, .unset, .unset, .unset] []))
    refine own_via (fun k => XS.iloadN X0.here hx rfl (hb hby at_18) rfl  (XS.iload X0.here hx rfl (hb hby at_19) rfl  (XS.iadd X0.here hx rfl (hb hby at_21) rfl (XS.iconst X0.here hx rfl (hb hby at_22) k)))) ?_
    show own_Go p e below s _ _ (s₁.setTop (mkF m 23 #[iv p0, iv p1, iv p2, iv p3, iv (p3 &&& (3 : Int32)), iv (((p3.toUInt32 >>> ((2 : Int32) &&& 31).toUInt32).toInt32) &&& (3 : Int32)), .unset, .unset, .unset, .unset, .unset, .unset, .unset, .unset, .unset, .unset] [(.int 1), (.int (p0 + (((p3.toUInt32 >>> ((2 : Int32) &&& 31).toUInt32).toInt32) &&& (3 : Int32))))]))
    refine own_via (fun k => XS.isub X0.here hx rfl (hb hby at_23) rfl (XS.istore X0.here hx rfl (hb hby at_24) rfl (l' := #[iv p0, iv p1, iv p2, iv p3, iv (p3 &&& (3 : Int32)), iv (((p3.toUInt32 >>> ((2 : Int32) &&& 31).toUInt32).toInt32) &&& (3 : Int32)), iv ((p0 + (((p3.toUInt32 >>> ((2 : Int32) &&& 31).toUInt32).toInt32) &&& (3 : Int32))) - (1 : Int32)), .unset, .unset, .unset, .unset, .unset, .unset, .unset, .unset, .unset]) rfl (XS.goto X0.here hx rfl (pc0 := 26) (pc' := 49) rfl (hb hby at_26) (by decide) (by decide) k))) ?_
    show own_Go p e below s _ _ (s₁.setTop (mkF m 49 #[iv p0, iv p1, iv p2, iv p3, iv (p3 &&& (3 : Int32)), iv (((p3.toUInt32 >>> ((2 : Int32) &&& 31).toUInt32).toInt32) &&& (3 : Int32)), iv ((p0 + (((p3.toUInt32 >>> ((2 : Int32) &&& 31).toUInt32).toInt32) &&& (3 : Int32))) - (1 : Int32)), .unset, .unset, .unset, .unset, .unset, .unset, .unset, .unset, .unset] []))
    exact J2 ((p0 + (((p3.toUInt32 >>> ((2 : Int32) &&& 31).toUInt32).toInt32) &&& (3 : Int32))) - (1 : Int32)) (((if_pos hc28).trans rfl)).symm
  · refine own_via (fun k => XS.icmpYes X0.here hx rfl (pc0 := 15) (pc' := 29) rfl (hb hby at_15) rfl (feq hc28).2 (by decide) (by decide) k) ?_
    show own_Go p e below s _ _ (s₁.setTop (mkF m 29 #[iv p0, iv p1, iv p2, iv p3, iv (p3 &&& (3 : Int32)), iv (((p3.toUInt32 >>> ((2 : Int32) &&& 31).toUInt32).toInt32) &&& (3 : Int32)), .unset, .unset, .unset, .unset, .unset, .unset, .unset, .unset, .unset, .unset] []))
    refine own_via (fun k => XS.iload X0.here hx rfl (hb hby at_29) rfl  (XS.iconst X0.here hx rfl (hb hby at_31) k)) ?_
    show own_Go p e below s _ _ (s₁.setTop (mkF m 32 #[iv p0, iv p1, iv p2, iv p3, iv (p3 &&& (3 : Int32)), iv (((p3.toUInt32 >>> ((2 : Int32) &&& 31).toUInt32).toInt32) &&& (3 : Int32)), .unset, .unset, .unset, .unset, .unset, .unset, .unset, .unset, .unset, .unset] [(.int 2), (.int (p3 &&& (3 : Int32)))]))
    by_cases hc29 : (p3 &&& (3 : Int32)) = (2 : Int32)
    · refine own_via (fun k => XS.icmpNo X0.here hx rfl (hb hby at_32) rfl (teq hc29).2 k) ?_
      show own_Go p e below s _ _ (s₁.setTop (mkF m 35 #[iv p0, iv p1, iv p2, iv p3, iv (p3 &&& (3 : Int32)), iv (((p3.toUInt32 >>> ((2 : Int32) &&& 31).toUInt32).toInt32) &&& (3 : Int32)), .unset, .unset, .unset, .unset, .unset, .unset, .unset, .unset, .unset, .unset] []))
      refine own_via (fun k => XS.iloadN X0.here hx rfl (hb hby at_35) rfl  (XS.iload X0.here hx rfl (hb hby at_36) rfl  (XS.isub X0.here hx rfl (hb hby at_38) rfl (XS.iconst X0.here hx rfl (hb hby at_39) k)))) ?_
      show own_Go p e below s _ _ (s₁.setTop (mkF m 40 #[iv p0, iv p1, iv p2, iv p3, iv (p3 &&& (3 : Int32)), iv (((p3.toUInt32 >>> ((2 : Int32) &&& 31).toUInt32).toInt32) &&& (3 : Int32)), .unset, .unset, .unset, .unset, .unset, .unset, .unset, .unset, .unset, .unset] [(.int 1), (.int (p1 - (((p3.toUInt32 >>> ((2 : Int32) &&& 31).toUInt32).toInt32) &&& (3 : Int32))))]))
      refine own_via (fun k => XS.iadd X0.here hx rfl (hb hby at_40) rfl (XS.istore X0.here hx rfl (hb hby at_41) rfl (l' := #[iv p0, iv p1, iv p2, iv p3, iv (p3 &&& (3 : Int32)), iv (((p3.toUInt32 >>> ((2 : Int32) &&& 31).toUInt32).toInt32) &&& (3 : Int32)), iv ((p1 - (((p3.toUInt32 >>> ((2 : Int32) &&& 31).toUInt32).toInt32) &&& (3 : Int32))) + (1 : Int32)), .unset, .unset, .unset, .unset, .unset, .unset, .unset, .unset, .unset]) rfl (XS.goto X0.here hx rfl (pc0 := 43) (pc' := 49) rfl (hb hby at_43) (by decide) (by decide) k))) ?_
      show own_Go p e below s _ _ (s₁.setTop (mkF m 49 #[iv p0, iv p1, iv p2, iv p3, iv (p3 &&& (3 : Int32)), iv (((p3.toUInt32 >>> ((2 : Int32) &&& 31).toUInt32).toInt32) &&& (3 : Int32)), iv ((p1 - (((p3.toUInt32 >>> ((2 : Int32) &&& 31).toUInt32).toInt32) &&& (3 : Int32))) + (1 : Int32)), .unset, .unset, .unset, .unset, .unset, .unset, .unset, .unset, .unset] []))
      exact J2 ((p1 - (((p3.toUInt32 >>> ((2 : Int32) &&& 31).toUInt32).toInt32) &&& (3 : Int32))) + (1 : Int32)) (((if_neg hc28).trans ((if_pos hc29).trans rfl))).symm
    · refine own_via (fun k => XS.icmpYes X0.here hx rfl (pc0 := 32) (pc' := 46) rfl (hb hby at_32) rfl (feq hc29).2 (by decide) (by decide) k) ?_
      show own_Go p e below s _ _ (s₁.setTop (mkF m 46 #[iv p0, iv p1, iv p2, iv p3, iv (p3 &&& (3 : Int32)), iv (((p3.toUInt32 >>> ((2 : Int32) &&& 31).toUInt32).toInt32) &&& (3 : Int32)), .unset, .unset, .unset, .unset, .unset, .unset, .unset, .unset, .unset, .unset] []))
      refine own_via (fun k => XS.iloadN X0.here hx rfl (hb hby at_46) rfl  (XS.istore X0.here hx rfl (hb hby at_47) rfl (l' := #[iv p0, iv p1, iv p2, iv p3, iv (p3 &&& (3 : Int32)), iv (((p3.toUInt32 >>> ((2 : Int32) &&& 31).toUInt32).toInt32) &&& (3 : Int32)), iv p2, .unset, .unset, .unset, .unset, .unset, .unset, .unset, .unset, .unset]) rfl k)) ?_
      show own_Go p e below s _ _ (s₁.setTop (mkF m 49 #[iv p0, iv p1, iv p2, iv p3, iv (p3 &&& (3 : Int32)), iv (((p3.toUInt32 >>> ((2 : Int32) &&& 31).toUInt32).toInt32) &&& (3 : Int32)), iv p2, .unset, .unset, .unset, .unset, .unset, .unset, .unset, .unset, .unset] []))
      exact J2 p2 (((if_neg hc28).trans ((if_neg hc29).trans rfl))).symm
set_option maxRecDepth 65536 in
set_option maxHeartbeats 40000000 in
theorem comes_1 {Post : Tables → Env → Array Value → State → Outcome → State → Prop} (hpost : ∀ tb e args s v u, (limb_1_1.after args s (.returned v) u = true ∧ limb_1_2.after args s (.returned v) u = true ∧ True) → FrameEnd s (.returned v) u (Jvm.fieldLocs frame_1_writes args s ++ Jvm.arrayLocs frame_1_arrays args s ++ Jvm.staticLocs frame_1_statics s) 16 128 → Post tb e args s (.returned v) u) :
    ArmFor flags0 classFile x code maxLocals ret World_1 tables_1 room_1 Calls_1 rest_1 Pre_1 Post := by
  intro l hfl _ _ p e ha hc hk s m args below hf hA hF happ hP
  obtain ⟨hcalls, hrest, hpre⟩ := hP
  obtain ⟨-, -, -, hnamed, -, -, -, hat⟩ := (Spec.applies_iff hf).mp happ
  obtain ⟨hg, hn⟩ := and_e (Cond.before_iff.mp (show (Jvm.Cond.and given_1 narrow_1).before args s = true from hpre))
  obtain ⟨g1, g2⟩ := and_e hg
  obtain ⟨g3, g4⟩ := and_e g2
  obtain ⟨g5, g6⟩ := and_e g4
  obtain ⟨g7, g8⟩ := and_e g6
  obtain ⟨w0, w1, w2, w3, rfl⟩ : ∃ w0 w1 w2 w3 : Value, args = #[w0, w1, w2, w3] := by
    have hs : args.size = 4 := by simpa [Cond.value, given_1] using g1
    obtain ⟨L⟩ := args
    match L, hs with
    | [w0, w1, w2, w3], _ => exact ⟨w0, w1, w2, w3, rfl⟩
  have hw := fun d (hd : d ∈ tables_1) => atoms_spec (ws := Jvm.Cond.code x code maxLocals ret :: tables_1) hat d (List.mem_cons_of_mem _ hd)
  obtain ⟨i0, ei0⟩ := is_v g3
  obtain rfl : w0 = (.int i0) := Option.some.inj ei0
  obtain ⟨i1, ei1⟩ := is_v g5
  obtain rfl : w1 = (.int i1) := Option.some.inj ei1
  obtain ⟨i2, ei2⟩ := is_v g7
  obtain rfl : w2 = (.int i2) := Option.some.inj ei2
  obtain ⟨i3, ei3⟩ := is_v g8
  obtain rfl : w3 = (.int i3) := Option.some.inj ei3
  obtain ⟨n, o, h1, h2, h3, _, L, rfl, ⟨rfl, N⟩, hq⟩ := rm0 l s _ hw tables_1 i0 i1 i2 i3 s.heap s.heap.size (Nat.le_refl _) p e ha hc hk s m _ below hf ((Spec.applies_iff_loose hf).mp happ).1 ⟨rfl, State.Warmed39.refl s, rfl⟩ trivial
  refine ⟨n, _, h1, h2, h3, hpost _ _ _ _ _ _ ⟨Cond.after_iff.mpr rfl, Cond.after_iff.mpr (eq_i res_at (Term.int_eval (1)) rfl), trivial⟩ ⟨hq.1, hq.2.1, (hq.2.2.sift fun y hy => Or.inr (N y hy)).mono (by decide) (by decide)⟩⟩
theorem main_1_1 : Claimed_1_1 := comes_1 fun _ _ _ _ _ _ h hF => ⟨h.1, hF⟩
theorem main_1_2 : Claimed_1_2 := comes_1 fun _ _ _ _ _ _ h hF => ⟨h.2.1, hF⟩
end Jvm.Pilot.@@N@@
namespace Jvm.Pilot.@@N@@
open Jvm Jvm.ClassFile Sem Op Lib Jvm.Free Jvm.Stand Jvm.Pilot.@@N@@.Jvm.D
/-! MADE BY PROGRAM (witnessworld.py) out of the Statement's table words and the real class files: 10 classes; the members and pool entries that the words name. The judged class is class 1, her method 1. -/
namespace start1
open Jvm.ClassFile
def u (s : String) : CpInfo := .utf8 (stringToUtf16 s)
/-- a pool by its gaps: so many unusable entries, then the entry; so many at the end -/
def gap : Nat → List CpInfo → List CpInfo
  | 0, r => r
  | n + 1, r => .unusable :: gap n r
def poolList (es : List (Nat × CpInfo)) (last : Nat) : List CpInfo := es.foldr (fun e r => gap e.1 (e.2 :: r)) (gap last [])
def pool (es : List (Nat × CpInfo)) (last : Nat) : Array CpInfo := ⟨poolList es last⟩
def fileOf (pool : Array CpInfo) (this : Nat) (attrs : Array Attribute := #[]) (ms : Array MethodInfo := #[]) (fl : Nat := 33) (sup : Nat := 0) (ifs : Array Nat := #[]) (fds : Array FieldInfo := #[]) : ClassFile where
  minorVersion := 0
  majorVersion := 65
  constantPool := pool
  accessFlags := fl
  thisClass := this
  superClass := sup
  interfaces := ifs
  fields := fds
  methods := ms
  attributes := attrs
def plain (name : String) (sup : Option ClassId) : Class where
  name := name
  kind := .ordinary
  loader := none
  accessFlags := 33
  super := sup
  interfaces := #[]
  cf := none
  fields := #[]
  methods := #[]
  instanceTypes := #[]
  staticTypes := #[]
  resolved := #[]
  callSites := []
  init := .initialized
  statics := none
  mirror := none

def pool0 : Array CpInfo := pool [(5, u "<init>"), (0, u "()V"), (1, .class_ 10), (1, u "java/lang/Object")] 113

def k0c0 : Code := { maxStack := 0, maxLocals := 1, code := object_method_1_code, exceptionTable := #[], attributes := #[] }
def k0m0 : Method := { name := "<init>", desc := "()V", sig := { parameters := [], returnType := none }, accessFlags := 1, code := some k0c0 }
/-- java/lang/Object -/
def k0 : Class := { plain "java/lang/Object" none with
  accessFlags := 33
  interfaces := #[]
  cf := some (fileOf pool0 8 #[] #[{ accessFlags := 1, nameIndex := 5, descriptorIndex := 6, attributes := #[] }] 33 0 #[] #[])
  fields := #[]
  methods := #[k0m0]
  instanceTypes := #[]
  staticTypes := #[]
  resolved := Array.replicate 124 none
  statics := none }

def pool1 : Array CpInfo := pool [(2, .class_ 4), (1, u "java/lang/Object"), (0, u "<init>"), (0, u "()V"), (0, .class_ 8), (0, u "com/example/grammar_parser/grammarparser/UnsureLimits"), (0, .methodref 7 10), (0, .nameAndType 5 11), (0, u "(II)V"), (0, .methodref 7 13), (0, .nameAndType 14 15), (0, u "contains"), (0, u "(I)Z"), (0, .methodref 17 18), (0, .class_ 19), (0, .nameAndType 20 21), (0, u "java/lang/Math"), (0, u "min"), (0, u "(JJ)J"), (0, .methodref 17 23), (0, .nameAndType 24 21), (0, u "max"), (0, .class_ 26), (0, u "com/example/grammar_parser/grammarparser/UnsureLimitsContainsPinLaw"), (2, u "law"), (0, u "(IIII)Z")] 3

def k1m0 : Method := { name := "<init>", desc := "()V", sig := { parameters := [], returnType := none }, accessFlags := 1, code := none }
def k1c1 : Code := { maxStack := 6, maxLocals := 16, code := code, exceptionTable := #[], attributes := #[] }
def k1m1 : Method := { name := "law", desc := "(IIII)Z", sig := { parameters := [.int, .int, .int, .int], returnType := some .boolean }, accessFlags := 9, code := some k1c1 }
/-- com/example/grammar_parser/grammarparser/UnsureLimitsContainsPinLaw -/
def k1 : Class := { plain "com/example/grammar_parser/grammarparser/UnsureLimitsContainsPinLaw" (some 0) with
  accessFlags := 49
  interfaces := #[]
  cf := some (fileOf pool1 25 #[] #[{ accessFlags := 1, nameIndex := 5, descriptorIndex := 6, attributes := #[] }, { accessFlags := 9, nameIndex := 29, descriptorIndex := 30, attributes := #[] }] 49 2 #[] #[])
  fields := #[]
  methods := #[k1m0, k1m1]
  instanceTypes := #[]
  staticTypes := #[]
  resolved := Array.replicate 34 none
  statics := none }

def pool2 : Array CpInfo := pool [(1, .methodref 2 3), (0, .class_ 4), (0, .nameAndType 5 6), (0, u "java/lang/Object"), (0, u "<init>"), (0, u "()V"), (0, .fieldref 8 9), (0, .class_ 10), (0, .nameAndType 11 12), (0, u "com/example/grammar_parser/grammarparser/UnsureLimits"), (0, u "low"), (0, u "I"), (0, .fieldref 8 14), (0, .nameAndType 15 12), (0, u "high"), (2, u "contains"), (0, u "(I)Z"), (14, u "(II)V")] 9

def k2c0 : Code := { maxStack := 2, maxLocals := 3, code := prog_86_method_1_code, exceptionTable := #[], attributes := #[] }
def k2m0 : Method := { name := "<init>", desc := "(II)V", sig := { parameters := [.int, .int], returnType := none }, accessFlags := 0, code := some k2c0 }
def k2c1 : Code := { maxStack := 2, maxLocals := 2, code := prog_86_method_2_code, exceptionTable := #[], attributes := #[] }
def k2m1 : Method := { name := "contains", desc := "(I)Z", sig := { parameters := [.int], returnType := some .boolean }, accessFlags := 0, code := some k2c1 }
/-- com/example/grammar_parser/grammarparser/UnsureLimits -/
def k2 : Class := { plain "com/example/grammar_parser/grammarparser/UnsureLimits" (some 0) with
  accessFlags := 48
  interfaces := #[]
  cf := some (fileOf pool2 8 #[] #[{ accessFlags := 0, nameIndex := 5, descriptorIndex := 34, attributes := #[] }, { accessFlags := 0, nameIndex := 18, descriptorIndex := 19, attributes := #[] }] 48 2 #[] #[{ accessFlags := 18, nameIndex := 11, descriptorIndex := 12, attributes := #[] }, { accessFlags := 18, nameIndex := 15, descriptorIndex := 12, attributes := #[] }])
  fields := #[{ name := "low", type := .int, accessFlags := 18, slot := 0, constantValue := 0 }, { name := "high", type := .int, accessFlags := 18, slot := 1, constantValue := 0 }]
  methods := #[k2m0, k2m1]
  instanceTypes := #[.int, .int]
  staticTypes := #[]
  resolved := Array.replicate 44 none
  statics := none }

def pool3 : Array CpInfo := pool [(1, .class_ 2), (0, u "java/lang/Math"), (1, .class_ 6), (1, u "java/lang/Object"), (0, u "<init>"), (0, u "()V"), (89, .class_ 100), (1, u "java/lang/Math$RandomNumberGeneratorHolder"), (20, u "(JJ)J"), (50, u "negativeZeroFloatBits"), (0, u "J"), (2, u "negativeZeroDoubleBits"), (21, u "max"), (2, u "min"), (43, u "$assertionsDisabled"), (0, u "Z"), (91, u "twoToTheDoubleScaleDown"), (0, u "D"), (4, u "twoToTheDoubleScaleUp"), (9, u "E"), (3, u "PI"), (2, u "TAU"), (2, u "DEGREES_TO_RADIANS"), (0, u "RADIANS_TO_DEGREES")] 94

def k3m0 : Method := { name := "<init>", desc := "()V", sig := { parameters := [], returnType := none }, accessFlags := 2, code := none }
def k3c1 : Code := { maxStack := 4, maxLocals := 4, code := jdk_29_method_66_code, exceptionTable := #[], attributes := #[] }
def k3m1 : Method := { name := "max", desc := "(JJ)J", sig := { parameters := [.long, .long], returnType := some .long }, accessFlags := 9, code := some k3c1 }
def k3c2 : Code := { maxStack := 4, maxLocals := 4, code := jdk_29_method_70_code, exceptionTable := #[], attributes := #[] }
def k3m2 : Method := { name := "min", desc := "(JJ)J", sig := { parameters := [.long, .long], returnType := some .long }, accessFlags := 9, code := some k3c2 }
/-- java/lang/Math -/
def k3 : Class := { plain "java/lang/Math" (some 0) with
  accessFlags := 49
  interfaces := #[]
  cf := some (fileOf pool3 1 #[.nestMembers #[98]] #[{ accessFlags := 2, nameIndex := 7, descriptorIndex := 8, attributes := #[] }, { accessFlags := 9, nameIndex := 198, descriptorIndex := 121, attributes := #[] }, { accessFlags := 9, nameIndex := 201, descriptorIndex := 121, attributes := #[] }] 49 4 #[] #[{ accessFlags := 25, nameIndex := 354, descriptorIndex := 339, attributes := #[] }, { accessFlags := 25, nameIndex := 358, descriptorIndex := 339, attributes := #[] }, { accessFlags := 25, nameIndex := 361, descriptorIndex := 339, attributes := #[] }, { accessFlags := 26, nameIndex := 364, descriptorIndex := 339, attributes := #[] }, { accessFlags := 26, nameIndex := 365, descriptorIndex := 339, attributes := #[] }, { accessFlags := 26, nameIndex := 172, descriptorIndex := 173, attributes := #[] }, { accessFlags := 26, nameIndex := 176, descriptorIndex := 173, attributes := #[] }, { accessFlags := 8, nameIndex := 344, descriptorIndex := 339, attributes := #[] }, { accessFlags := 8, nameIndex := 338, descriptorIndex := 339, attributes := #[] }, { accessFlags := 4120, nameIndex := 245, descriptorIndex := 246, attributes := #[] }])
  fields := #[{ name := "E", type := .double, accessFlags := 25, slot := 0, constantValue := 0 }, { name := "PI", type := .double, accessFlags := 25, slot := 1, constantValue := 0 }, { name := "TAU", type := .double, accessFlags := 25, slot := 2, constantValue := 0 }, { name := "DEGREES_TO_RADIANS", type := .double, accessFlags := 26, slot := 3, constantValue := 0 }, { name := "RADIANS_TO_DEGREES", type := .double, accessFlags := 26, slot := 4, constantValue := 0 }, { name := "negativeZeroFloatBits", type := .long, accessFlags := 26, slot := 5, constantValue := 0 }, { name := "negativeZeroDoubleBits", type := .long, accessFlags := 26, slot := 6, constantValue := 0 }, { name := "twoToTheDoubleScaleUp", type := .double, accessFlags := 8, slot := 7, constantValue := 0 }, { name := "twoToTheDoubleScaleDown", type := .double, accessFlags := 8, slot := 8, constantValue := 0 }, { name := "$assertionsDisabled", type := .boolean, accessFlags := 4120, slot := 9, constantValue := 0 }]
  methods := #[k3m0, k3m1, k3m2]
  instanceTypes := #[]
  staticTypes := #[.double, .double, .double, .double, .double, .long, .long, .double, .double, .boolean]
  resolved := Array.replicate 460 none
  statics := none }

def pool4 : Array CpInfo := pool [(1, u "java/lang/Cloneable"), (0, .class_ 1), (0, u "java/lang/Object"), (0, .class_ 3)] 3

/-- java/lang/Cloneable -/
def k4 : Class := { plain "java/lang/Cloneable" (some 0) with
  accessFlags := 1537
  interfaces := #[]
  cf := some (fileOf pool4 2 #[] #[] 1537 4 #[] #[])
  fields := #[]
  methods := #[]
  instanceTypes := #[]
  staticTypes := #[]
  resolved := Array.replicate 8 none
  statics := none }

def pool5 : Array CpInfo := pool [(1, u "java/io/Serializable"), (0, .class_ 1), (0, u "java/lang/Object"), (0, .class_ 3)] 3

/-- java/io/Serializable -/
def k5 : Class := { plain "java/io/Serializable" (some 0) with
  accessFlags := 1537
  interfaces := #[]
  cf := some (fileOf pool5 2 #[] #[] 1537 4 #[] #[])
  fields := #[]
  methods := #[]
  instanceTypes := #[]
  staticTypes := #[]
  resolved := Array.replicate 8 none
  statics := none }

/-- the primitive byte -/
def k6 : Class := { plain "byte" none with kind := .primitive 'B', accessFlags := 0x411 }
/-- [B -/
def k7 : Class := { plain "[B" (some 0) with kind := .array 6 .byte, interfaces := #[4, 5], accessFlags := 1041 }

/-- the primitive int -/
def k8 : Class := { plain "int" none with kind := .primitive 'I', accessFlags := 0x411 }
/-- [I -/
def k9 : Class := { plain "[I" (some 0) with kind := .array 8 .int, interfaces := #[4, 5], accessFlags := 1041 }

def heap : Heap := #[]
def classes : Array Class := #[k0, k1, k2, k3, k4, k5, k6, k7, k8, k9]
def interned : List (Array UInt16 × Addr) := []
def slotsUsed : Nat := 0
def theMethod : MethodId := ⟨1, 1⟩
def args0 : Array Value := #[.int 5, .int 9, .int 3, .int 1]
def aboutOver (below : List Frame) : State where
  vm := { classes := classes, interned := interned.toArray }
  heap := heap
  slotsUsed := slotsUsed
  threads := #[{ frames := .invoking theMethod args0 :: below }]
def below0 : List Frame := [.native { method := ⟨0, 0⟩, args := #[] }]
def about1 : State := aboutOver below0
def p0 : Program := .bare "" "" ""
def e0 : Env := launch0.env 0 0 0
theorem w_frames : about1.frames = Frame.invoking theMethod args0 :: below0 := rfl
set_option maxRecDepth 65536 in
theorem w_args : argsFit about1.vm theMethod args0 = true := by decide +kernel
set_option maxRecDepth 65536 in
theorem w_heap : heapFits about1 = true := by decide +kernel
set_option maxRecDepth 65536 in
theorem w_runnable : about1.curStatus? = some .runnable := by decide +kernel
set_option maxRecDepth 65536 in
theorem w_alone : about1.alone = true := by decide +kernel
set_option maxRecDepth 65536 in
theorem w_named : about1.methodNamed? x = some theMethod := by decide +kernel
set_option maxRecDepth 65536 in
theorem w_hears : about1.hears theMethod below0 = true := by decide +kernel
set_option maxRecDepth 65536 in
theorem w_ripe : about1.ripe theMethod args0 below0 = true := by decide +kernel
theorem w_running : about1.status = .running := rfl
set_option maxRecDepth 65536 in
theorem w_room : about1.hasRoom e0.platform room_1 = true :=
  launch0.hasRoom_least _ room_1 (by decide +kernel) (by decide +kernel) (by decide +kernel) (by decide +kernel) (by decide +kernel) (by decide +kernel)
theorem allAtoms_all (ts : List Jvm.Cond) (a : Array Jvm.Value) (st : Jvm.State) : (allAtoms ts).before a st = ts.all (fun c => c.before a st) := by
  induction ts with
  | nil => rfl
  | cons c t ih =>
    show (Jvm.Cond.and c (allAtoms t)).before a st = _
    rw [Jvm.Cond.before_and, ih, List.all_cons]
def words1 : List Jvm.Cond := Jvm.Cond.code x code maxLocals ret :: tables_1
/-- a 'code' word, met by the world's own term for the bytes: nothing is compared byte by byte -/
theorem code_word {y : MethodName} {bytes : ByteArray} {mx : Nat} {rt : Option FieldType} {a : Array Value} {s : State} {m : MethodId} {meth : Method} {c : Code} (h1 : s.methodNamed? y = some m) (h2 : s.vm.method? m = some meth) (h3 : meth.code = some c) (h4 : c.code = bytes)
    (h5 : (c.maxLocals == mx && c.exceptionTable.isEmpty && decide (c.maxStack ≤ mostOperands) && decide (meth.sig.returnType = rt) && !meth.locks && decide (parseMethodDescriptor y.desc = some meth.sig)) = true) : (Jvm.Cond.code y bytes mx rt).before a s = true := by
  simp only [Bool.and_eq_true, beq_iff_eq, Bool.not_eq_true', decide_eq_true_eq] at h5
  obtain ⟨⟨⟨⟨⟨g1, g2⟩, g3⟩, g4⟩, g5⟩, g6⟩ := h5
  simp [Cond.before, Cond.holds, Cond.value, h1, h2, h3, h4, g1, g2, g3, g4, g5, g6]
def isCode : Jvm.Cond → Bool
  | .code _ _ _ _ => true
  | _ => false
theorem all_split {L : List Jvm.Cond} {P : Jvm.Cond → Bool} (h1 : L.all (fun c => isCode c || P c) = true) (h2 : ∀ c ∈ L.filter isCode, P c = true) : L.all P = true := by
  refine List.all_eq_true.mpr fun c hc => ?_
  have h := List.all_eq_true.mp h1 c hc
  rcases Bool.eq_false_or_eq_true (isCode c) with hi | hi
  · exact h2 c (List.mem_filter.mpr ⟨hc, hi⟩)
  · simpa [hi] using h
set_option maxRecDepth 65536 in
theorem w_c0 : (Jvm.Cond.code x code maxLocals ret).before args0 about1 = true := code_word (m := ⟨1, 1⟩) (meth := k1m1) (c := k1c1) (by decide +kernel) rfl rfl rfl (by decide +kernel)
set_option maxRecDepth 65536 in
theorem w_c1 : (Jvm.Cond.code ({ cls := "com/example/grammar_parser/grammarparser/UnsureLimits", name := "<init>", desc := "(II)V" } : Jvm.MethodName) prog_86_method_1_code (3 : Nat) (Option.none : Option Jvm.ClassFile.FieldType)).before args0 about1 = true := code_word (m := ⟨2, 0⟩) (meth := k2m0) (c := k2c0) (by decide +kernel) rfl rfl rfl (by decide +kernel)
set_option maxRecDepth 65536 in
theorem w_c2 : (Jvm.Cond.code ({ cls := "java/lang/Object", name := "<init>", desc := "()V" } : Jvm.MethodName) object_method_1_code (1 : Nat) (Option.none : Option Jvm.ClassFile.FieldType)).before args0 about1 = true := code_word (m := ⟨0, 0⟩) (meth := k0m0) (c := k0c0) (by decide +kernel) rfl rfl rfl (by decide +kernel)
set_option maxRecDepth 65536 in
theorem w_c3 : (Jvm.Cond.code ({ cls := "com/example/grammar_parser/grammarparser/UnsureLimits", name := "contains", desc := "(I)Z" } : Jvm.MethodName) prog_86_method_2_code (2 : Nat) (Option.some Jvm.ClassFile.FieldType.boolean)).before args0 about1 = true := code_word (m := ⟨2, 1⟩) (meth := k2m1) (c := k2c1) (by decide +kernel) rfl rfl rfl (by decide +kernel)
set_option maxRecDepth 65536 in
theorem w_c4 : (Jvm.Cond.code ({ cls := "java/lang/Math", name := "min", desc := "(JJ)J" } : Jvm.MethodName) jdk_29_method_70_code (4 : Nat) (Option.some Jvm.ClassFile.FieldType.long)).before args0 about1 = true := code_word (m := ⟨3, 2⟩) (meth := k3m2) (c := k3c2) (by decide +kernel) rfl rfl rfl (by decide +kernel)
set_option maxRecDepth 65536 in
theorem w_c5 : (Jvm.Cond.code ({ cls := "java/lang/Math", name := "max", desc := "(JJ)J" } : Jvm.MethodName) jdk_29_method_66_code (4 : Nat) (Option.some Jvm.ClassFile.FieldType.long)).before args0 about1 = true := code_word (m := ⟨3, 1⟩) (meth := k3m1) (c := k3c1) (by decide +kernel) rfl rfl rfl (by decide +kernel)
def codes1 : List Jvm.Cond := [Jvm.Cond.code x code maxLocals ret, Jvm.Cond.code ({ cls := "com/example/grammar_parser/grammarparser/UnsureLimits", name := "<init>", desc := "(II)V" } : Jvm.MethodName) prog_86_method_1_code (3 : Nat) (Option.none : Option Jvm.ClassFile.FieldType), Jvm.Cond.code ({ cls := "java/lang/Object", name := "<init>", desc := "()V" } : Jvm.MethodName) object_method_1_code (1 : Nat) (Option.none : Option Jvm.ClassFile.FieldType), Jvm.Cond.code ({ cls := "com/example/grammar_parser/grammarparser/UnsureLimits", name := "contains", desc := "(I)Z" } : Jvm.MethodName) prog_86_method_2_code (2 : Nat) (Option.some Jvm.ClassFile.FieldType.boolean), Jvm.Cond.code ({ cls := "java/lang/Math", name := "min", desc := "(JJ)J" } : Jvm.MethodName) jdk_29_method_70_code (4 : Nat) (Option.some Jvm.ClassFile.FieldType.long), Jvm.Cond.code ({ cls := "java/lang/Math", name := "max", desc := "(JJ)J" } : Jvm.MethodName) jdk_29_method_66_code (4 : Nat) (Option.some Jvm.ClassFile.FieldType.long)]
set_option maxRecDepth 65536 in
theorem codes_eq : words1.filter isCode = codes1 := rfl
theorem w_codes : ∀ c ∈ words1.filter isCode, c.before args0 about1 = true := by
  rw [codes_eq]
  intro c hc
  simp only [codes1, List.mem_cons, List.not_mem_nil, or_false] at hc
  rcases hc with rfl | rfl | rfl | rfl | rfl | rfl
  · exact w_c0
  · exact w_c1
  · exact w_c2
  · exact w_c3
  · exact w_c4
  · exact w_c5
set_option maxRecDepth 65536 in
theorem w_t1 : (words1.take 24).all (fun c => isCode c || c.before args0 about1) = true := by decide +kernel
set_option maxRecDepth 65536 in
theorem w_t2 : (words1.drop 24).all (fun c => isCode c || c.before args0 about1) = true := by decide +kernel
theorem w_tables : (allAtoms (Jvm.Cond.code x code maxLocals ret :: tables_1)).before args0 about1 = true := by
  rw [allAtoms_all]
  show words1.all (fun c => c.before args0 about1) = true
  refine all_split ?_ w_codes
  rw [← List.take_append_drop 24 words1, List.all_append, w_t1, w_t2]
  rfl
set_option maxRecDepth 65536 in
theorem w_case : (Jvm.Cond.and given_1 narrow_1).before args0 about1 = true := by decide +kernel
theorem w_applies : (headSpec (Jvm.Cond.code x code maxLocals ret :: tables_1) room_1).applies x e0.platform about1 = true :=
  (Spec.applies_iff w_frames).mpr ⟨w_running, w_runnable, w_alone, w_named, w_hears, w_ripe, w_room, w_tables⟩
theorem atStart : AtStart classFile x code maxLocals ret World_1 tables_1 room_1 Calls_1 rest_1 Pre_1 launch0 p0 e0 about1 theMethod args0 below0 :=
  ⟨lists_1, trivial, launch0.admits_env _ _ _, launch0.least_env, fairChoices_fair.cas, fairChoices_fair.clock, w_frames, w_args, w_heap, w_applies, trivial, trivial, w_case⟩
end start1
theorem witness_1 : WitnessClaimed_1 := ⟨start1.p0, start1.e0, start1.about1, start1.theMethod, start1.args0, start1.below0, start1.atStart⟩
end Jvm.Pilot.@@N@@
