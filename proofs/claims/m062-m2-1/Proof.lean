import JvmDerived
import JvmDerived.Pilot.@@N@@Statement
import JvmDerived.Pilot.@@N@@Code
set_option linter.unusedVariables false
set_option linter.unusedSimpArgs false
namespace Jvm.RoadKit
open Sem ClassFile Op Lib Jvm.Stand Jvm.Free Jvm.LawKit
section New
variable {p : Program} {l : Launch} {e : Env} {R : Room} {s : State} {m : MethodId} {args : Array Value} {below : List Frame} {meth : Method} {c : Code} {T : State} {locs : List Loc} {cells slots : Nat}
theorem retI (X : Stand p l e R s m args below meth c T locs cells slots) (hx : p.tables.exec = Jvm.exec) {pc : Nat} {Ls : Array Slot} {z : Int32} {rest : List Value} (hret : meth.sig.returnType = some .int) (hd : decode c.code pc = .ok (.ireturn, 1)) {fs : List Frame}
    (hl : ∀ (f : JFrame) (acts : List Action), f.method = m → f.locked = none → f.entered = [] → (doReturn e (T.setTop f) acts (some (.int z))).1 = T.setFrames fs) : Steps p.tables e below (T.setTop (mkF m pc Ls (.int z :: rest))) (T.setFrames fs) := by
  have hm' : T.vm.method? m = some meth := X.method'
  have hn : narrow .int (.int z) = .int z := rfl
  show Steps p.tables e below (T.setTop { method := m, pc := pc, locals := Ls, stack := _ :: rest, locked := none }) _
  jvm_step X.here [X.here.top, hx, hd, hm', hret, hn]
  first | (intro acts; rw [hl _ acts rfl rfl rfl]) | rw [hl _ _ rfl rfl rfl]
  exact Steps.refl _
abbrev jv (x : Int64) : Slot := .val (.long x)
/-- from the state st the run ends as Q says -/
def own_Go (p : Program) (e : Env) (below : List Frame) (s : State) (Q : Option Value → Heap → List Loc → Prop) (CS : Nat × Nat) (st : State) : Prop :=
  ∃ s₂ o, Steps p.tables e below st s₂ ∧ s₂.status = .running ∧ Ended s₂ below o ∧ ∃ v L, o = .returned v ∧ Q v s₂.heap L ∧ FrameEnd s o s₂ L CS.1 CS.2
variable {Q : Option Value → Heap → List Loc → Prop} {CS : Nat × Nat} {st st' : State}
theorem own_via (h : ∀ {t}, Steps p.tables e below st t → Steps p.tables e below st' t) (g : own_Go p e below s Q CS st) : own_Go p e below s Q CS st' := by
  obtain ⟨s₂, o, h1, h2⟩ := g
  exact ⟨s₂, o, h h1, h2⟩
theorem own_start {g g' : JFrame} (q : g = g') (h : own_Go p e below s Q CS (T.setTop g')) : ∃ s₂ o, Steps p.tables e below (T.setTop g) s₂ ∧ s₂.status = .running ∧ Ended s₂ below o ∧ ∃ v L, o = .returned v ∧ Q v s₂.heap L ∧ FrameEnd s o s₂ L CS.1 CS.2 := q ▸ h
theorem own_retN (X : Stand p l e R s m args below meth c T locs cells slots) (hx : p.tables.exec = Jvm.exec) (hlk : meth.locks = false) {pc : Nat} {Ls : Array Slot} {z : Int32} {t : FieldType} {rest : List Value} (hret : meth.sig.returnType = some t) (ht : t = .boolean ∨ t = .byte ∨ t = .char ∨ t = .short)
    (hd : decode c.code pc = .ok (.ireturn, 1)) (hq : Q (some (.int (nar t z))) T.heap locs) (hc : cells ≤ CS.1) (hs : slots ≤ CS.2) : own_Go p e below s Q CS (T.setTop (mkF m pc Ls (.int z :: rest))) := by
  obtain ⟨fs, hr, hrun, hended, hW, hsame⟩ := X.leave (v := some (.int (nar t z))) (fun h => by rw [hret] at h; cases h) hlk
  exact ⟨_, _, retN X hx hret ht hd hr, hrun, hended, _, _, rfl, hq, ⟨_, rfl⟩, hW, hsame.mono hc hs⟩
theorem own_retI (X : Stand p l e R s m args below meth c T locs cells slots) (hx : p.tables.exec = Jvm.exec) (hlk : meth.locks = false) {pc : Nat} {Ls : Array Slot} {z : Int32} {rest : List Value} (hret : meth.sig.returnType = some .int)
    (hd : decode c.code pc = .ok (.ireturn, 1)) (hq : Q (some (.int z)) T.heap locs) (hc : cells ≤ CS.1) (hs : slots ≤ CS.2) : own_Go p e below s Q CS (T.setTop (mkF m pc Ls (.int z :: rest))) := by
  obtain ⟨fs, hr, hrun, hended, hW, hsame⟩ := X.leave (v := some (.int z)) (fun h => by rw [hret] at h; cases h) hlk
  exact ⟨_, _, retI X hx hret hd hr, hrun, hended, _, _, rfl, hq, ⟨_, rfl⟩, hW, hsame.mono hc hs⟩
theorem own_retL (X : Stand p l e R s m args below meth c T locs cells slots) (hx : p.tables.exec = Jvm.exec) (hlk : meth.locks = false) {pc : Nat} {Ls : Array Slot} {z : Int64} (hret : meth.sig.returnType = some .long)
    (hd : decode c.code pc = .ok (.lreturn, 1)) (hq : Q (some (.long z)) T.heap locs) (hc : cells ≤ CS.1) (hs : slots ≤ CS.2) : own_Go p e below s Q CS (T.setTop (mkF m pc Ls [.long z])) := by
  obtain ⟨fs, hr, hrun, hended, hW, hsame⟩ := X.leave (v := some (.long z)) (fun h => by rw [hret] at h; cases h) hlk
  exact ⟨_, _, X.lreturnOut hx hret hd hr, hrun, hended, _, _, rfl, hq, ⟨_, rfl⟩, hW, hsame.mono hc hs⟩
theorem own_retA (X : Stand p l e R s m args below meth c T locs cells slots) (hx : p.tables.exec = Jvm.exec) (hlk : meth.locks = false) {pc : Nat} {Ls : Array Slot} {w : Value} (hw : w.isRef = true) {t : FieldType} (hret : meth.sig.returnType = some t) (ht : t.isReference = true)
    (hd : decode c.code pc = .ok (.areturn, 1)) (hq : Q (some w) T.heap locs) (hc : cells ≤ CS.1) (hs : slots ≤ CS.2) : own_Go p e below s Q CS (T.setTop (mkF m pc Ls [w])) := by
  obtain ⟨fs, hr, hrun, hended, hW, hsame⟩ := X.leave (v := some w) (fun h => by rw [hret] at h; cases h) hlk
  exact ⟨_, _, X.areturnOut hx hw hret ht hd hr, hrun, hended, _, _, rfl, hq, ⟨_, rfl⟩, hW, hsame.mono hc hs⟩
theorem own_ret0 (X : Stand p l e R s m args below meth c T locs cells slots) (hx : p.tables.exec = Jvm.exec) (hlk : meth.locks = false) {pc : Nat} {Ls : Array Slot} (hret : meth.sig.returnType = none)
    (hd : decode c.code pc = .ok (.return_, 1)) (hq : Q none T.heap locs) (hc : cells ≤ CS.1) (hs : slots ≤ CS.2) : own_Go p e below s Q CS (T.setTop (mkF m pc Ls [])) := by
  obtain ⟨fs, hr, hrun, hended, hW, hsame⟩ := X.leave (v := none) (fun _ => rfl) hlk
  exact ⟨_, _, X.returnOut hx hret hd hr, hrun, hended, _, _, rfl, hq, ⟨_, rfl⟩, hW, hsame.mono hc hs⟩
theorem own_fldI {Z : State} {h : Heap} {a : Addr} {C n d : String} {v w : Int32} (q : v = w) (F : Fld Z h a C n d (.int v)) : Fld Z h a C n d (.int w) := q ▸ F
theorem own_fldJ {Z : State} {h : Heap} {a : Addr} {C n d : String} {v w : Int64} (q : v = w) (F : Fld Z h a C n d (.long v)) : Fld Z h a C n d (.long w) := q ▸ F
theorem own_arv {Z : State} {h : Heap} {a : Addr} {k : ClassId} {ty : FieldType} {n : Int32} {vs vs' : List Value} {d : Value} (q : vs = vs') (F : Arv Z h a k ty n vs d) : Arv Z h a k ty n vs' d := q ▸ F
theorem own_fits {t : FieldType} {v w : Int32} (q : v = w) (F : fits t (.int v) = true) : fits t (.int w) = true := q ▸ F
end New
end Jvm.RoadKit
namespace Jvm.Pilot.@@N@@
open Jvm Jvm.ClassFile Sem Op Lib Jvm.Free Jvm.Stand Jvm.LawKit Jvm.RoadKit Bundle Jvm.Pilot.@@N@@.Jvm.D
theorem own_lt {x y : Int32} : x < y ↔ x.toInt < y.toInt := Int32.lt_iff_toInt_lt
theorem own_eq {x y : Int32} : x = y ↔ x.toInt = y.toInt := Int32.toInt_inj.symm
theorem own_ltL {x y : Int64} : x < y ↔ x.toInt < y.toInt := Int64.lt_iff_toInt_lt
theorem own_eqL {x y : Int64} : x = y ↔ x.toInt = y.toInt := Int64.toInt_inj.symm
theorem own_all8 {P : Int8 → Prop} (h : ∀ n : Fin 256, P (Int8.ofBitVec (BitVec.ofFin n))) (i : Int8) : P i := h i.toBitVec.toFin
theorem d1_0 : decode prog_85_method_12_code 0 = .ok (.iload_n 0, 1) := by decide +kernel
theorem d1_1 : decode prog_85_method_12_code 1 = .ok (.bipush 32, 2) := by decide +kernel
theorem d1_3 : decode prog_85_method_12_code 3 = .ok (.if_icmp .eq 21, 3) := by decide +kernel
theorem d1_6 : decode prog_85_method_12_code 6 = .ok (.iload_n 0, 1) := by decide +kernel
theorem d1_7 : decode prog_85_method_12_code 7 = .ok (.bipush 9, 2) := by decide +kernel
theorem d1_9 : decode prog_85_method_12_code 9 = .ok (.if_icmp .eq 15, 3) := by decide +kernel
theorem d1_12 : decode prog_85_method_12_code 12 = .ok (.iload_n 0, 1) := by decide +kernel
theorem d1_13 : decode prog_85_method_12_code 13 = .ok (.bipush 13, 2) := by decide +kernel
theorem d1_15 : decode prog_85_method_12_code 15 = .ok (.if_icmp .eq 9, 3) := by decide +kernel
theorem d1_18 : decode prog_85_method_12_code 18 = .ok (.iload_n 0, 1) := by decide +kernel
theorem d1_19 : decode prog_85_method_12_code 19 = .ok (.bipush 10, 2) := by decide +kernel
theorem d1_21 : decode prog_85_method_12_code 21 = .ok (.if_icmp .ne 7, 3) := by decide +kernel
theorem d1_24 : decode prog_85_method_12_code 24 = .ok (.iconst 1, 1) := by decide +kernel
theorem d1_25 : decode prog_85_method_12_code 25 = .ok (.goto 4, 3) := by decide +kernel
theorem d1_28 : decode prog_85_method_12_code 28 = .ok (.iconst 0, 1) := by decide +kernel
theorem d1_29 : decode prog_85_method_12_code 29 = .ok (.ireturn, 1) := by decide +kernel
theorem pn_1 : plainName "organico/records/RecordSyntax" = true := by first | (simp [plainName, overriddenIn]; done) | decide +kernel
theorem ef_1 (m : MethodId) (x0 : Int32) : entryFrame m #[(.int x0)] 1 = mkF m 0 #[iv x0] [] := by first | (simp [entryFrame, mkF, argsToLocals, Value.category]; done) | rfl
def own_f1 (p0 : Int32) : Int32 := (if p0 = (32 : Int32) then (1 : Int32) else (if p0 = (9 : Int32) then (1 : Int32) else (if p0 = (13 : Int32) then (1 : Int32) else (if p0 = (10 : Int32) then (1 : Int32) else (0 : Int32)))))
def Q1 (Z : State) (p0 : Int32) (h0 : Heap) (n0 : Nat) (v : Option Value) (h : Heap) (L : List Loc) : Prop := v = some (.int (own_f1 p0)) ∧ Fr n0 L ∧ h = h0
set_option maxRecDepth 65536 in
set_option maxHeartbeats 40000000 in
theorem rm1 (l : Launch) (Z : State) (a0 : Array Value) (hw : ∀ d ∈ tables_1, d.before a0 Z = true) (ws : List Jvm.Cond) (p0 : Int32) (h0 : Heap) (n0 : Nat) (Z0 : n0 ≤ h0.size)  :
    MetFree l (⟨"organico/records/RecordSyntax", "isBlank", "(B)Z"⟩ : MethodName) (head1 (Jvm.Cond.code (⟨"organico/records/RecordSyntax", "isBlank", "(B)Z"⟩ : MethodName) prog_85_method_12_code 1 (some .boolean) :: ws) ({ frames := 0, cells := 0, slots := 0, locals := 0 } : Room)) (fun a U => a = #[(.int p0)] ∧ Z.Warmed39 U.vm ∧ U.heap = h0) (fun _ _ _ _ _ => True) (fun _ U o U' => ∃ v L, o = .returned v ∧ Q1 Z p0 h0 n0 v U'.heap L ∧ FrameEnd U o U' L ({ frames := 0, cells := 0, slots := 0, locals := 0 } : Room).cells ({ frames := 0, cells := 0, slots := 0, locals := 0 } : Room).slots) := by
  refine MetFree.of_bodySF (plainFor_of_name pn_1) hisR ?_
  intro p e s m args below meth c s₁ Bd hml0 hP hK
  obtain ⟨rfl, hZ, hh⟩ := hP
  have hx := Bd.exec
  have hby := Bd.bytes
  have hml : c.maxLocals = 1 := hml0
  have hown : s.vm.findClass "organico/records/RecordSyntax" = some m.cls := findClass_of_methodNamed Bd.named
  have hnm := (name_of_methodNamed Bd.named Bd.method).1
  have hlk : meth.locks = false := by first | exact BodyLoose.notSynchronized (by assumption) | exact Body.notSynchronized (by assumption)
  have X0 : Stand p l e ({ frames := 0, cells := 0, slots := 0, locals := 0 } : Room) s m #[(.int p0)] below meth c s₁ [] 0 0 := Stand.of_body Bd
  have e0 : s₁.heap = h0 := by rw [← hh, Bd.state]; rfl
  have N0 := Fr.nil n0
  have K0 : Keep h0 h0 [] := Keep.refl _ _
  refine own_start (CS := (0, 0)) (Q := (Q1 Z p0 h0 n0)) (ef_1 m p0) ?_
  show own_Go p e below s _ _ (s₁.setTop (mkF m 0 #[iv p0] []))
  refine own_via (fun k => XS.iloadN X0.here hx rfl (hb hby d1_0) rfl  (XS.bipush X0.here hx rfl (hb hby d1_1) k)) ?_
  show own_Go p e below s _ _ (s₁.setTop (mkF m 3 #[iv p0] [(.int 32), (.int p0)]))
  by_cases hc1 : p0 = (32 : Int32)
  · refine own_via (fun k => XS.icmpYes X0.here hx rfl (pc0 := 3) (pc' := 24) rfl (hb hby d1_3) rfl (teq hc1).1 (by decide) (by decide) k) ?_
    show own_Go p e below s _ _ (s₁.setTop (mkF m 24 #[iv p0] []))
    refine own_via (fun k => XS.iconst X0.here hx rfl (hb hby d1_24) (XS.goto X0.here hx rfl (pc0 := 25) (pc' := 29) rfl (hb hby d1_25) (by decide) (by decide) k)) ?_
    show own_Go p e below s _ _ (s₁.setTop (mkF m 29 #[iv p0] [(.int 1)]))
    exact own_retN X0 hx hlk (t := .boolean) Bd.returns (by simp) (hb hby d1_29) (Q := (Q1 Z p0 h0 n0)) ⟨(congrArg (fun z => some (Value.int z)) (show (1 : Int32) = (own_f1 p0) from (by simp only [own_f1, if_pos hc1]))), N0, e0⟩ (by decide) (by decide)
  · refine own_via (fun k => XS.icmpNo X0.here hx rfl (hb hby d1_3) rfl (feq hc1).1 k) ?_
    show own_Go p e below s _ _ (s₁.setTop (mkF m 6 #[iv p0] []))
    refine own_via (fun k => XS.iloadN X0.here hx rfl (hb hby d1_6) rfl  (XS.bipush X0.here hx rfl (hb hby d1_7) k)) ?_
    show own_Go p e below s _ _ (s₁.setTop (mkF m 9 #[iv p0] [(.int 9), (.int p0)]))
    by_cases hc2 : p0 = (9 : Int32)
    · refine own_via (fun k => XS.icmpYes X0.here hx rfl (pc0 := 9) (pc' := 24) rfl (hb hby d1_9) rfl (teq hc2).1 (by decide) (by decide) k) ?_
      show own_Go p e below s _ _ (s₁.setTop (mkF m 24 #[iv p0] []))
      refine own_via (fun k => XS.iconst X0.here hx rfl (hb hby d1_24) (XS.goto X0.here hx rfl (pc0 := 25) (pc' := 29) rfl (hb hby d1_25) (by decide) (by decide) k)) ?_
      show own_Go p e below s _ _ (s₁.setTop (mkF m 29 #[iv p0] [(.int 1)]))
      exact own_retN X0 hx hlk (t := .boolean) Bd.returns (by simp) (hb hby d1_29) (Q := (Q1 Z p0 h0 n0)) ⟨(congrArg (fun z => some (Value.int z)) (show (1 : Int32) = (own_f1 p0) from (by simp only [own_f1, if_neg hc1, if_pos hc2]))), N0, e0⟩ (by decide) (by decide)
    · refine own_via (fun k => XS.icmpNo X0.here hx rfl (hb hby d1_9) rfl (feq hc2).1 k) ?_
      show own_Go p e below s _ _ (s₁.setTop (mkF m 12 #[iv p0] []))
      refine own_via (fun k => XS.iloadN X0.here hx rfl (hb hby d1_12) rfl  (XS.bipush X0.here hx rfl (hb hby d1_13) k)) ?_
      show own_Go p e below s _ _ (s₁.setTop (mkF m 15 #[iv p0] [(.int 13), (.int p0)]))
      by_cases hc3 : p0 = (13 : Int32)
      · refine own_via (fun k => XS.icmpYes X0.here hx rfl (pc0 := 15) (pc' := 24) rfl (hb hby d1_15) rfl (teq hc3).1 (by decide) (by decide) k) ?_
        show own_Go p e below s _ _ (s₁.setTop (mkF m 24 #[iv p0] []))
        refine own_via (fun k => XS.iconst X0.here hx rfl (hb hby d1_24) (XS.goto X0.here hx rfl (pc0 := 25) (pc' := 29) rfl (hb hby d1_25) (by decide) (by decide) k)) ?_
        show own_Go p e below s _ _ (s₁.setTop (mkF m 29 #[iv p0] [(.int 1)]))
        exact own_retN X0 hx hlk (t := .boolean) Bd.returns (by simp) (hb hby d1_29) (Q := (Q1 Z p0 h0 n0)) ⟨(congrArg (fun z => some (Value.int z)) (show (1 : Int32) = (own_f1 p0) from (by simp only [own_f1, if_neg hc1, if_neg hc2, if_pos hc3]))), N0, e0⟩ (by decide) (by decide)
      · refine own_via (fun k => XS.icmpNo X0.here hx rfl (hb hby d1_15) rfl (feq hc3).1 k) ?_
        show own_Go p e below s _ _ (s₁.setTop (mkF m 18 #[iv p0] []))
        refine own_via (fun k => XS.iloadN X0.here hx rfl (hb hby d1_18) rfl  (XS.bipush X0.here hx rfl (hb hby d1_19) k)) ?_
        show own_Go p e below s _ _ (s₁.setTop (mkF m 21 #[iv p0] [(.int 10), (.int p0)]))
        by_cases hc4 : p0 = (10 : Int32)
        · refine own_via (fun k => XS.icmpNo X0.here hx rfl (hb hby d1_21) rfl (teq hc4).2 k) ?_
          show own_Go p e below s _ _ (s₁.setTop (mkF m 24 #[iv p0] []))
          refine own_via (fun k => XS.iconst X0.here hx rfl (hb hby d1_24) (XS.goto X0.here hx rfl (pc0 := 25) (pc' := 29) rfl (hb hby d1_25) (by decide) (by decide) k)) ?_
          show own_Go p e below s _ _ (s₁.setTop (mkF m 29 #[iv p0] [(.int 1)]))
          exact own_retN X0 hx hlk (t := .boolean) Bd.returns (by simp) (hb hby d1_29) (Q := (Q1 Z p0 h0 n0)) ⟨(congrArg (fun z => some (Value.int z)) (show (1 : Int32) = (own_f1 p0) from (by simp only [own_f1, if_neg hc1, if_neg hc2, if_neg hc3, if_pos hc4]))), N0, e0⟩ (by decide) (by decide)
        · refine own_via (fun k => XS.icmpYes X0.here hx rfl (pc0 := 21) (pc' := 28) rfl (hb hby d1_21) rfl (feq hc4).2 (by decide) (by decide) k) ?_
          show own_Go p e below s _ _ (s₁.setTop (mkF m 28 #[iv p0] []))
          refine own_via (fun k => XS.iconst X0.here hx rfl (hb hby d1_28) k) ?_
          show own_Go p e below s _ _ (s₁.setTop (mkF m 29 #[iv p0] [(.int 0)]))
          exact own_retN X0 hx hlk (t := .boolean) Bd.returns (by simp) (hb hby d1_29) (Q := (Q1 Z p0 h0 n0)) ⟨(congrArg (fun z => some (Value.int z)) (show (0 : Int32) = (own_f1 p0) from (by simp only [own_f1, if_neg hc1, if_neg hc2, if_neg hc3, if_neg hc4]))), N0, e0⟩ (by decide) (by decide)
theorem pn_0 : plainName "organico/records/RecordSyntaxIsBlankPinLaw" = true := by first | (simp [plainName, overriddenIn]; done) | decide +kernel
theorem pd_0 : parseMethodDescriptor "(B)Z" = some ⟨[.byte], some .boolean⟩ := by decide +kernel
theorem ef_0 (m : MethodId) (x0 : Int32) : entryFrame m #[(.int x0)] maxLocals = mkF m 0 #[iv x0, .unset, .unset, .unset, .unset, .unset] [] := by first | (simp [entryFrame, mkF, argsToLocals, Value.category, maxLocals]; done) | rfl
theorem own_law (p0 : Int32) (z3 : Int32) (hz3 : z3 = (if ((p0.toInt8.toInt32) &&& (255 : Int32)) < (9 : Int32) then (0 : Int32) else (if (13 : Int32) < ((p0.toInt8.toInt32) &&& (255 : Int32)) then (0 : Int32) else (if ((p0.toInt8.toInt32) &&& (255 : Int32)) = (11 : Int32) then (0 : Int32) else (if ((p0.toInt8.toInt32) &&& (255 : Int32)) = (12 : Int32) then (0 : Int32) else (1 : Int32)))))) (z5 : Int32) (hz5 : z5 = (if ((p0.toInt8.toInt32) &&& (255 : Int32)) = (32 : Int32) then (1 : Int32) else (if z3 = (0 : Int32) then (0 : Int32) else (1 : Int32)))) : (own_f1 (p0.toInt8.toInt32)) = z5 := by
  subst hz5 hz3
  exact own_all8 (P := fun i => own_f1 i.toInt32 = (if (i.toInt32 &&& (255 : Int32)) = (32 : Int32) then (1 : Int32) else (if (if (i.toInt32 &&& (255 : Int32)) < (9 : Int32) then (0 : Int32) else (if (13 : Int32) < (i.toInt32 &&& (255 : Int32)) then (0 : Int32) else (if (i.toInt32 &&& (255 : Int32)) = (11 : Int32) then (0 : Int32) else (if (i.toInt32 &&& (255 : Int32)) = (12 : Int32) then (0 : Int32) else (1 : Int32))))) = (0 : Int32) then (0 : Int32) else (1 : Int32)))) (by decide +kernel) p0.toInt8
def Q0 (Z : State) (p0 : Int32) (h0 : Heap) (n0 : Nat) (v : Option Value) (h : Heap) (L : List Loc) : Prop := v = some (.int 1) ∧ Fr n0 L
set_option maxRecDepth 65536 in
set_option maxHeartbeats 40000000 in
theorem rm0 (l : Launch) (Z : State) (a0 : Array Value) (hw : ∀ d ∈ tables_1, d.before a0 Z = true) (ws : List Jvm.Cond) (p0 : Int32) (h0 : Heap) (n0 : Nat) (Z0 : n0 ≤ h0.size)  :
    MetFree l x (head1 (Jvm.Cond.code x code maxLocals ret :: ws) room_1) (fun a U => a = #[(.int p0)] ∧ Z.Warmed39 U.vm ∧ U.heap = h0) (fun _ _ _ _ _ => True) (fun _ U o U' => ∃ v L, o = .returned v ∧ Q0 Z p0 h0 n0 v U'.heap L ∧ FrameEnd U o U' L room_1.cells room_1.slots) := by
  refine MetFree.of_bodySF (plainFor_of_name pn_0) hisR ?_
  intro p e s m args below meth c s₁ Bd hml0 hP hK
  obtain ⟨rfl, hZ, hh⟩ := hP
  have hx := Bd.exec
  have hby := Bd.bytes
  have hml : c.maxLocals = 6 := hml0
  have hown : s.vm.findClass "organico/records/RecordSyntaxIsBlankPinLaw" = some m.cls := findClass_of_methodNamed Bd.named
  have hnm := (name_of_methodNamed Bd.named Bd.method).1
  have hlk : meth.locks = false := by first | exact BodyLoose.notSynchronized (by assumption) | exact Body.notSynchronized (by assumption)
  have X0 : Stand p l e room_1 s m #[(.int p0)] below meth c s₁ [] 0 0 := Stand.of_body Bd
  have e0 : s₁.heap = h0 := by rw [← hh, Bd.state]; rfl
  have N0 := Fr.nil n0
  refine own_start (CS := (room_1.cells, room_1.slots)) (Q := (Q0 Z p0 h0 n0)) (ef_0 m p0) ?_
  show own_Go p e below s _ _ (s₁.setTop (mkF m 0 #[iv p0, .unset, .unset, .unset, .unset, .unset] []))
  refine own_via (fun k => XS.iloadN X0.here hx rfl (hb hby at_0) rfl  (XS.i2b X0.here hx rfl (hb hby at_1) rfl (XS.istoreN X0.here hx rfl (hb hby at_2) rfl (l' := #[iv p0, iv (p0.toInt8.toInt32), .unset, .unset, .unset, .unset]) rfl (XS.iloadN X0.here hx rfl (hb hby at_3) rfl  k)))) ?_
  show own_Go p e below s _ _ (s₁.setTop (mkF m 4 #[iv p0, iv (p0.toInt8.toInt32), .unset, .unset, .unset, .unset] [(.int (p0.toInt8.toInt32))]))
  obtain ⟨_, _, ⟨T1, L1, k1, n1⟩, -, X1, ⟨Lc1, hQ1, l1, y1, z1⟩, st1⟩ := Jvm.LawKit.callS X0 hx (y := (⟨"organico/records/RecordSyntax", "isBlank", "(B)Z"⟩ : MethodName)) hown (mvT hZ (hw _ (List.mem_of_getElem? (i := 0) rfl))) (mvT hZ (hw _ (List.mem_of_getElem? (i := 1) rfl))) (mvT hZ (hw _ (List.mem_of_getElem? (i := 2) rfl))) (mvT hZ (hw _ (List.mem_of_getElem? (i := 3) rfl))) (by decide) (backOf (W := 0) (rm1 l Z a0 hw [] (p0.toInt8.toInt32) h0 n0 Z0) hZ (hw _ (List.mem_of_getElem? (i := 3) rfl)) (hw _ (List.mem_of_getElem? (i := 2) rfl)) (by decide) (by decide)) (g := (mkF m 4 #[iv p0, iv (p0.toInt8.toInt32), .unset, .unset, .unset, .unset] [(.int (p0.toInt8.toInt32))])) rfl (by rw [hml]; rfl) (argsL := [(.int (p0.toInt8.toInt32))]) (rest := []) (lenOf pd_0 rfl) rfl (by show 2 * 0 + _ ≤ _; exact Nat.le_of_eq rfl) (hb hby at_4) (fun _ _ => ⟨rfl, e0, (by decide : 0 + 0 ≤ _), (by decide : 0 + 0 ≤ _)⟩)
  dsimp only [Pt.U, Pt.locs, Pt.cells, Pt.slots] at X1 l1 y1 z1 st1 hQ1
  subst l1 y1 z1
  obtain ⟨rfl, N1q, eh1⟩ := hQ1
  have N2 := Fr.app N0 N1q
  refine own_via (fun k => st1 _ k) ?_
  show own_Go p e below s _ _ (T1.setTop (mkF m 7 #[iv p0, iv (p0.toInt8.toInt32), .unset, .unset, .unset, .unset] [(.int (own_f1 (p0.toInt8.toInt32)))]))
  refine own_via (fun k => XS.istoreN X1.here hx rfl (hb hby at_7) rfl (l' := #[iv p0, iv (p0.toInt8.toInt32), iv (own_f1 (p0.toInt8.toInt32)), .unset, .unset, .unset]) rfl (XS.iloadN X1.here hx rfl (hb hby at_8) rfl  (XS.sipush X1.here hx rfl (hb hby at_9) (XS.iand X1.here hx rfl (hb hby at_12) rfl k)))) ?_
  show own_Go p e below s _ _ (T1.setTop (mkF m 13 #[iv p0, iv (p0.toInt8.toInt32), iv (own_f1 (p0.toInt8.toInt32)), .unset, .unset, .unset] [(.int ((p0.toInt8.toInt32) &&& (255 : Int32)))]))
  refine own_via (fun k => XS.istoreN X1.here hx rfl (hb hby at_13) rfl (l' := #[iv p0, iv (p0.toInt8.toInt32), iv (own_f1 (p0.toInt8.toInt32)), iv ((p0.toInt8.toInt32) &&& (255 : Int32)), .unset, .unset]) rfl (XS.iloadN X1.here hx rfl (hb hby at_14) rfl  (XS.bipush X1.here hx rfl (hb hby at_15) k))) ?_
  show own_Go p e below s _ _ (T1.setTop (mkF m 17 #[iv p0, iv (p0.toInt8.toInt32), iv (own_f1 (p0.toInt8.toInt32)), iv ((p0.toInt8.toInt32) &&& (255 : Int32)), .unset, .unset] [(.int 9), (.int ((p0.toInt8.toInt32) &&& (255 : Int32)))]))
  have J4 : ∀ (z3 : Int32), z3 = (if ((p0.toInt8.toInt32) &&& (255 : Int32)) < (9 : Int32) then (0 : Int32) else (if (13 : Int32) < ((p0.toInt8.toInt32) &&& (255 : Int32)) then (0 : Int32) else (if ((p0.toInt8.toInt32) &&& (255 : Int32)) = (11 : Int32) then (0 : Int32) else (if ((p0.toInt8.toInt32) &&& (255 : Int32)) = (12 : Int32) then (0 : Int32) else (1 : Int32))))) → own_Go p e below s (Q0 Z p0 h0 n0) (room_1.cells, room_1.slots) (T1.setTop (mkF m 43 #[iv p0, iv (p0.toInt8.toInt32), iv (own_f1 (p0.toInt8.toInt32)), iv ((p0.toInt8.toInt32) &&& (255 : Int32)), .unset, .unset] [(.int z3)])) := by
    intro z3 hz3
    refine own_via (fun k => XS.istore X1.here hx rfl (hb hby at_43) rfl (l' := #[iv p0, iv (p0.toInt8.toInt32), iv (own_f1 (p0.toInt8.toInt32)), iv ((p0.toInt8.toInt32) &&& (255 : Int32)), iv z3, .unset]) rfl (XS.iloadN X1.here hx rfl (hb hby at_45) rfl  (XS.bipush X1.here hx rfl (hb hby at_46) k))) ?_
    show own_Go p e below s _ _ (T1.setTop (mkF m 48 #[iv p0, iv (p0.toInt8.toInt32), iv (own_f1 (p0.toInt8.toInt32)), iv ((p0.toInt8.toInt32) &&& (255 : Int32)), iv z3, .unset] [(.int 32), (.int ((p0.toInt8.toInt32) &&& (255 : Int32)))]))
    have J6 : ∀ (z5 : Int32), z5 = (if ((p0.toInt8.toInt32) &&& (255 : Int32)) = (32 : Int32) then (1 : Int32) else (if z3 = (0 : Int32) then (0 : Int32) else (1 : Int32))) → own_Go p e below s (Q0 Z p0 h0 n0) (room_1.cells, room_1.slots) (T1.setTop (mkF m 61 #[iv p0, iv (p0.toInt8.toInt32), iv (own_f1 (p0.toInt8.toInt32)), iv ((p0.toInt8.toInt32) &&& (255 : Int32)), iv z3, .unset] [(.int z5)])) := by
      intro z5 hz5
      refine own_via (fun k => XS.istore X1.here hx rfl (hb hby at_61) rfl (l' := #[iv p0, iv (p0.toInt8.toInt32), iv (own_f1 (p0.toInt8.toInt32)), iv ((p0.toInt8.toInt32) &&& (255 : Int32)), iv z3, iv z5]) rfl (XS.iloadN X1.here hx rfl (hb hby at_63) rfl  (XS.iload X1.here hx rfl (hb hby at_64) rfl  k))) ?_
      show own_Go p e below s _ _ (T1.setTop (mkF m 66 #[iv p0, iv (p0.toInt8.toInt32), iv (own_f1 (p0.toInt8.toInt32)), iv ((p0.toInt8.toInt32) &&& (255 : Int32)), iv z3, iv z5] [(.int z5), (.int (own_f1 (p0.toInt8.toInt32)))]))
      refine own_via (fun k => XS.icmpNo X1.here hx rfl (hb hby at_66) rfl (teq (own_law p0 z3 hz3 z5 hz5)).2 k) ?_
      show own_Go p e below s _ _ (T1.setTop (mkF m 69 #[iv p0, iv (p0.toInt8.toInt32), iv (own_f1 (p0.toInt8.toInt32)), iv ((p0.toInt8.toInt32) &&& (255 : Int32)), iv z3, iv z5] []))
      refine own_via (fun k => XS.iconst X1.here hx rfl (hb hby at_69) (XS.goto X1.here hx rfl (pc0 := 70) (pc' := 74) rfl (hb hby at_70) (by decide) (by decide) k)) ?_
      show own_Go p e below s _ _ (T1.setTop (mkF m 74 #[iv p0, iv (p0.toInt8.toInt32), iv (own_f1 (p0.toInt8.toInt32)), iv ((p0.toInt8.toInt32) &&& (255 : Int32)), iv z3, iv z5] [(.int 1)]))
      exact own_retN X1 hx hlk (t := .boolean) Bd.returns (by simp) (hb hby at_74) (Q := (Q0 Z p0 h0 n0)) ⟨rfl, N2⟩ (by decide) (by decide)
    by_cases hc7 : ((p0.toInt8.toInt32) &&& (255 : Int32)) = (32 : Int32)
    · refine own_via (fun k => XS.icmpYes X1.here hx rfl (pc0 := 48) (pc' := 56) rfl (hb hby at_48) rfl (teq hc7).1 (by decide) (by decide) k) ?_
      show own_Go p e below s _ _ (T1.setTop (mkF m 56 #[iv p0, iv (p0.toInt8.toInt32), iv (own_f1 (p0.toInt8.toInt32)), iv ((p0.toInt8.toInt32) &&& (255 : Int32)), iv z3, .unset] []))
      refine own_via (fun k => XS.iconst X1.here hx rfl (hb hby at_56) (XS.goto X1.here hx rfl (pc0 := 57) (pc' := 61) rfl (hb hby at_57) (by decide) (by decide) k)) ?_
      show own_Go p e below s _ _ (T1.setTop (mkF m 61 #[iv p0, iv (p0.toInt8.toInt32), iv (own_f1 (p0.toInt8.toInt32)), iv ((p0.toInt8.toInt32) &&& (255 : Int32)), iv z3, .unset] [(.int 1)]))
      exact J6 (1 : Int32) (((if_pos hc7).trans rfl)).symm
    · refine own_via (fun k => XS.icmpNo X1.here hx rfl (hb hby at_48) rfl (feq hc7).1 k) ?_
      show own_Go p e below s _ _ (T1.setTop (mkF m 51 #[iv p0, iv (p0.toInt8.toInt32), iv (own_f1 (p0.toInt8.toInt32)), iv ((p0.toInt8.toInt32) &&& (255 : Int32)), iv z3, .unset] []))
      refine own_via (fun k => XS.iload X1.here hx rfl (hb hby at_51) rfl  k) ?_
      show own_Go p e below s _ _ (T1.setTop (mkF m 53 #[iv p0, iv (p0.toInt8.toInt32), iv (own_f1 (p0.toInt8.toInt32)), iv ((p0.toInt8.toInt32) &&& (255 : Int32)), iv z3, .unset] [(.int z3)]))
      by_cases hc8 : z3 = (0 : Int32)
      · refine own_via (fun k => XS.ifYes X1.here hx rfl (pc0 := 53) (pc' := 60) rfl (hb hby at_53) rfl ((if0 _ _).trans (teq hc8).1) (by decide) (by decide) k) ?_
        show own_Go p e below s _ _ (T1.setTop (mkF m 60 #[iv p0, iv (p0.toInt8.toInt32), iv (own_f1 (p0.toInt8.toInt32)), iv ((p0.toInt8.toInt32) &&& (255 : Int32)), iv z3, .unset] []))
        refine own_via (fun k => XS.iconst X1.here hx rfl (hb hby at_60) k) ?_
        show own_Go p e below s _ _ (T1.setTop (mkF m 61 #[iv p0, iv (p0.toInt8.toInt32), iv (own_f1 (p0.toInt8.toInt32)), iv ((p0.toInt8.toInt32) &&& (255 : Int32)), iv z3, .unset] [(.int 0)]))
        exact J6 (0 : Int32) (((if_neg hc7).trans ((if_pos hc8).trans rfl))).symm
      · refine own_via (fun k => XS.ifNo X1.here hx rfl (hb hby at_53) rfl ((if0 _ _).trans (feq hc8).1) k) ?_
        show own_Go p e below s _ _ (T1.setTop (mkF m 56 #[iv p0, iv (p0.toInt8.toInt32), iv (own_f1 (p0.toInt8.toInt32)), iv ((p0.toInt8.toInt32) &&& (255 : Int32)), iv z3, .unset] []))
        refine own_via (fun k => XS.iconst X1.here hx rfl (hb hby at_56) (XS.goto X1.here hx rfl (pc0 := 57) (pc' := 61) rfl (hb hby at_57) (by decide) (by decide) k)) ?_
        show own_Go p e below s _ _ (T1.setTop (mkF m 61 #[iv p0, iv (p0.toInt8.toInt32), iv (own_f1 (p0.toInt8.toInt32)), iv ((p0.toInt8.toInt32) &&& (255 : Int32)), iv z3, .unset] [(.int 1)]))
        exact J6 (1 : Int32) (((if_neg hc7).trans ((if_neg hc8).trans rfl))).symm
  by_cases hc9 : ((p0.toInt8.toInt32) &&& (255 : Int32)) < (9 : Int32)
  · refine own_via (fun k => XS.icmpYes X1.here hx rfl (pc0 := 17) (pc' := 42) rfl (hb hby at_17) rfl (tlt hc9).1 (by decide) (by decide) k) ?_
    show own_Go p e below s _ _ (T1.setTop (mkF m 42 #[iv p0, iv (p0.toInt8.toInt32), iv (own_f1 (p0.toInt8.toInt32)), iv ((p0.toInt8.toInt32) &&& (255 : Int32)), .unset, .unset] []))
    refine own_via (fun k => XS.iconst X1.here hx rfl (hb hby at_42) k) ?_
    show own_Go p e below s _ _ (T1.setTop (mkF m 43 #[iv p0, iv (p0.toInt8.toInt32), iv (own_f1 (p0.toInt8.toInt32)), iv ((p0.toInt8.toInt32) &&& (255 : Int32)), .unset, .unset] [(.int 0)]))
    exact J4 (0 : Int32) (((if_pos hc9).trans rfl)).symm
  · refine own_via (fun k => XS.icmpNo X1.here hx rfl (hb hby at_17) rfl (flt hc9).1 k) ?_
    show own_Go p e below s _ _ (T1.setTop (mkF m 20 #[iv p0, iv (p0.toInt8.toInt32), iv (own_f1 (p0.toInt8.toInt32)), iv ((p0.toInt8.toInt32) &&& (255 : Int32)), .unset, .unset] []))
    refine own_via (fun k => XS.iloadN X1.here hx rfl (hb hby at_20) rfl  (XS.bipush X1.here hx rfl (hb hby at_21) k)) ?_
    show own_Go p e below s _ _ (T1.setTop (mkF m 23 #[iv p0, iv (p0.toInt8.toInt32), iv (own_f1 (p0.toInt8.toInt32)), iv ((p0.toInt8.toInt32) &&& (255 : Int32)), .unset, .unset] [(.int 13), (.int ((p0.toInt8.toInt32) &&& (255 : Int32)))]))
    by_cases hc10 : (13 : Int32) < ((p0.toInt8.toInt32) &&& (255 : Int32))
    · refine own_via (fun k => XS.icmpYes X1.here hx rfl (pc0 := 23) (pc' := 42) rfl (hb hby at_23) rfl (tlt hc10).2.2.1 (by decide) (by decide) k) ?_
      show own_Go p e below s _ _ (T1.setTop (mkF m 42 #[iv p0, iv (p0.toInt8.toInt32), iv (own_f1 (p0.toInt8.toInt32)), iv ((p0.toInt8.toInt32) &&& (255 : Int32)), .unset, .unset] []))
      refine own_via (fun k => XS.iconst X1.here hx rfl (hb hby at_42) k) ?_
      show own_Go p e below s _ _ (T1.setTop (mkF m 43 #[iv p0, iv (p0.toInt8.toInt32), iv (own_f1 (p0.toInt8.toInt32)), iv ((p0.toInt8.toInt32) &&& (255 : Int32)), .unset, .unset] [(.int 0)]))
      exact J4 (0 : Int32) (((if_neg hc9).trans ((if_pos hc10).trans rfl))).symm
    · refine own_via (fun k => XS.icmpNo X1.here hx rfl (hb hby at_23) rfl (flt hc10).2.2.1 k) ?_
      show own_Go p e below s _ _ (T1.setTop (mkF m 26 #[iv p0, iv (p0.toInt8.toInt32), iv (own_f1 (p0.toInt8.toInt32)), iv ((p0.toInt8.toInt32) &&& (255 : Int32)), .unset, .unset] []))
      refine own_via (fun k => XS.iloadN X1.here hx rfl (hb hby at_26) rfl  (XS.bipush X1.here hx rfl (hb hby at_27) k)) ?_
      show own_Go p e below s _ _ (T1.setTop (mkF m 29 #[iv p0, iv (p0.toInt8.toInt32), iv (own_f1 (p0.toInt8.toInt32)), iv ((p0.toInt8.toInt32) &&& (255 : Int32)), .unset, .unset] [(.int 11), (.int ((p0.toInt8.toInt32) &&& (255 : Int32)))]))
      by_cases hc11 : ((p0.toInt8.toInt32) &&& (255 : Int32)) = (11 : Int32)
      · refine own_via (fun k => XS.icmpYes X1.here hx rfl (pc0 := 29) (pc' := 42) rfl (hb hby at_29) rfl (teq hc11).1 (by decide) (by decide) k) ?_
        show own_Go p e below s _ _ (T1.setTop (mkF m 42 #[iv p0, iv (p0.toInt8.toInt32), iv (own_f1 (p0.toInt8.toInt32)), iv ((p0.toInt8.toInt32) &&& (255 : Int32)), .unset, .unset] []))
        refine own_via (fun k => XS.iconst X1.here hx rfl (hb hby at_42) k) ?_
        show own_Go p e below s _ _ (T1.setTop (mkF m 43 #[iv p0, iv (p0.toInt8.toInt32), iv (own_f1 (p0.toInt8.toInt32)), iv ((p0.toInt8.toInt32) &&& (255 : Int32)), .unset, .unset] [(.int 0)]))
        exact J4 (0 : Int32) (((if_neg hc9).trans ((if_neg hc10).trans ((if_pos hc11).trans rfl)))).symm
      · refine own_via (fun k => XS.icmpNo X1.here hx rfl (hb hby at_29) rfl (feq hc11).1 k) ?_
        show own_Go p e below s _ _ (T1.setTop (mkF m 32 #[iv p0, iv (p0.toInt8.toInt32), iv (own_f1 (p0.toInt8.toInt32)), iv ((p0.toInt8.toInt32) &&& (255 : Int32)), .unset, .unset] []))
        refine own_via (fun k => XS.iloadN X1.here hx rfl (hb hby at_32) rfl  (XS.bipush X1.here hx rfl (hb hby at_33) k)) ?_
        show own_Go p e below s _ _ (T1.setTop (mkF m 35 #[iv p0, iv (p0.toInt8.toInt32), iv (own_f1 (p0.toInt8.toInt32)), iv ((p0.toInt8.toInt32) &&& (255 : Int32)), .unset, .unset] [(.int 12), (.int ((p0.toInt8.toInt32) &&& (255 : Int32)))]))
        by_cases hc12 : ((p0.toInt8.toInt32) &&& (255 : Int32)) = (12 : Int32)
        · refine own_via (fun k => XS.icmpYes X1.here hx rfl (pc0 := 35) (pc' := 42) rfl (hb hby at_35) rfl (teq hc12).1 (by decide) (by decide) k) ?_
          show own_Go p e below s _ _ (T1.setTop (mkF m 42 #[iv p0, iv (p0.toInt8.toInt32), iv (own_f1 (p0.toInt8.toInt32)), iv ((p0.toInt8.toInt32) &&& (255 : Int32)), .unset, .unset] []))
          refine own_via (fun k => XS.iconst X1.here hx rfl (hb hby at_42) k) ?_
          show own_Go p e below s _ _ (T1.setTop (mkF m 43 #[iv p0, iv (p0.toInt8.toInt32), iv (own_f1 (p0.toInt8.toInt32)), iv ((p0.toInt8.toInt32) &&& (255 : Int32)), .unset, .unset] [(.int 0)]))
          exact J4 (0 : Int32) (((if_neg hc9).trans ((if_neg hc10).trans ((if_neg hc11).trans ((if_pos hc12).trans rfl))))).symm
        · refine own_via (fun k => XS.icmpNo X1.here hx rfl (hb hby at_35) rfl (feq hc12).1 k) ?_
          show own_Go p e below s _ _ (T1.setTop (mkF m 38 #[iv p0, iv (p0.toInt8.toInt32), iv (own_f1 (p0.toInt8.toInt32)), iv ((p0.toInt8.toInt32) &&& (255 : Int32)), .unset, .unset] []))
          refine own_via (fun k => XS.iconst X1.here hx rfl (hb hby at_38) (XS.goto X1.here hx rfl (pc0 := 39) (pc' := 43) rfl (hb hby at_39) (by decide) (by decide) k)) ?_
          show own_Go p e below s _ _ (T1.setTop (mkF m 43 #[iv p0, iv (p0.toInt8.toInt32), iv (own_f1 (p0.toInt8.toInt32)), iv ((p0.toInt8.toInt32) &&& (255 : Int32)), .unset, .unset] [(.int 1)]))
          exact J4 (1 : Int32) (((if_neg hc9).trans ((if_neg hc10).trans ((if_neg hc11).trans ((if_neg hc12).trans rfl))))).symm
set_option maxRecDepth 65536 in
set_option maxHeartbeats 40000000 in
theorem comes_1 {Post : Tables → Env → Array Value → State → Outcome → State → Prop} (hpost : ∀ tb e args s v u, (limb_1_1.after args s (.returned v) u = true ∧ limb_1_2.after args s (.returned v) u = true ∧ True) → FrameEnd s (.returned v) u (Jvm.fieldLocs frame_1_writes args s ++ Jvm.arrayLocs frame_1_arrays args s ++ Jvm.staticLocs frame_1_statics s) 0 0 → Post tb e args s (.returned v) u) :
    ArmFor flags0 classFile x code maxLocals ret World_1 tables_1 room_1 Calls_1 rest_1 Pre_1 Post := by
  intro l hfl _ _ p e ha hc hk s m args below hf hA hF happ hP
  obtain ⟨hcalls, hrest, hpre⟩ := hP
  obtain ⟨-, -, -, hnamed, -, -, -, hat⟩ := (Spec.applies_iff hf).mp happ
  obtain ⟨hg, hn⟩ := and_e (Cond.before_iff.mp (show (Jvm.Cond.and given_1 narrow_1).before args s = true from hpre))
  obtain ⟨g1, g2⟩ := and_e hg
  obtain ⟨w0, rfl⟩ : ∃ w0 : Value, args = #[w0] := by
    have hs : args.size = 1 := by simpa [Cond.value, given_1] using g1
    obtain ⟨L⟩ := args
    match L, hs with
    | [w0], _ => exact ⟨w0, rfl⟩
  have hw := fun d (hd : d ∈ tables_1) => atoms_spec (ws := Jvm.Cond.code x code maxLocals ret :: tables_1) hat d (List.mem_cons_of_mem _ hd)
  obtain ⟨i0, ei0⟩ := is_v g2
  obtain rfl : w0 = (.int i0) := Option.some.inj ei0
  obtain ⟨n, o, h1, h2, h3, _, L, rfl, ⟨rfl, N⟩, hq⟩ := rm0 l s _ hw tables_1 i0 s.heap s.heap.size (Nat.le_refl _) p e ha hc hk s m _ below hf ((Spec.applies_iff_loose hf).mp happ).1 ⟨rfl, State.Warmed39.refl s, rfl⟩ trivial
  refine ⟨n, _, h1, h2, h3, hpost _ _ _ _ _ _ ⟨Cond.after_iff.mpr rfl, Cond.after_iff.mpr (eq_i res_at (Term.int_eval (1)) rfl), trivial⟩ ⟨hq.1, hq.2.1, (hq.2.2.sift fun y hy => Or.inr (N y hy)).mono (by decide) (by decide)⟩⟩
theorem main_1_1 : Claimed_1_1 := comes_1 fun _ _ _ _ _ _ h hF => ⟨h.1, hF⟩
theorem main_1_2 : Claimed_1_2 := comes_1 fun _ _ _ _ _ _ h hF => ⟨h.2.1, hF⟩
end Jvm.Pilot.@@N@@
namespace Jvm.Pilot.@@N@@
open Jvm Jvm.ClassFile Sem Op Lib Jvm.Free Jvm.Stand Jvm.Pilot.@@N@@.Jvm.D
/-! MADE BY PROGRAM (witnessworld.py) out of the Statement's table words and the real class files: 12 classes; the members and pool entries that the words name. The judged class is class 1, her method 1. -/
namespace start1
open Jvm.ClassFile
def u (s : String) : CpInfo := .utf8 (stringToUtf16 s)
/-- a pool by its gaps: so many unusable entries, then the entry; so many at the end -/
def gap : Nat → List CpInfo → List CpInfo
  | 0, r => r
  | n + 1, r => .unusable :: gap n r
def poolList (es : List (Nat × CpInfo)) (last : Nat) : List CpInfo := es.foldr (fun e r => gap e.1 (e.2 :: r)) (gap last [])
def pool (es : List (Nat × CpInfo)) (last : Nat) : Array CpInfo := ⟨poolList es last⟩
def fileOf (pool : Array CpInfo) (this : Nat) (attrs : Array Attribute := #[]) (ms : Array MethodInfo := #[]) (fl : Nat := 33) (sup : Nat := 0) (ifs : Array Nat := #[]) (fds : Array FieldInfo := #[]) : ClassFile where
  minorVersion := 0
  majorVersion := 65
  constantPool := pool
  accessFlags := fl
  thisClass := this
  superClass := sup
  interfaces := ifs
  fields := fds
  methods := ms
  attributes := attrs
def plain (name : String) (sup : Option ClassId) : Class where
  name := name
  kind := .ordinary
  loader := none
  accessFlags := 33
  super := sup
  interfaces := #[]
  cf := none
  fields := #[]
  methods := #[]
  instanceTypes := #[]
  staticTypes := #[]
  resolved := #[]
  callSites := []
  init := .initialized
  statics := none
  mirror := none

def pool0 : Array CpInfo := pool [(5, u "<init>"), (0, u "()V"), (1, .class_ 10), (1, u "java/lang/Object")] 113

def k0m0 : Method := { name := "<init>", desc := "()V", sig := { parameters := [], returnType := none }, accessFlags := 1, code := none }
/-- java/lang/Object -/
def k0 : Class := { plain "java/lang/Object" none with
  accessFlags := 33
  interfaces := #[]
  cf := some (fileOf pool0 8 #[] #[{ accessFlags := 1, nameIndex := 5, descriptorIndex := 6, attributes := #[] }] 33 0 #[] #[])
  fields := #[]
  methods := #[k0m0]
  instanceTypes := #[]
  staticTypes := #[]
  resolved := Array.replicate 124 none
  statics := none }

def pool1 : Array CpInfo := pool [(2, .class_ 4), (1, u "java/lang/Object"), (0, u "<init>"), (0, u "()V"), (0, .methodref 8 9), (0, .class_ 10), (0, .nameAndType 11 12), (0, u "organico/records/RecordSyntax"), (0, u "isBlank"), (0, u "(B)Z"), (0, .class_ 14), (0, u "organico/records/RecordSyntaxIsBlankPinLaw"), (2, u "law"), (0, u "(I)Z")] 3

def k1m0 : Method := { name := "<init>", desc := "()V", sig := { parameters := [], returnType := none }, accessFlags := 2, code := none }
def k1c1 : Code := { maxStack := 2, maxLocals := 6, code := code, exceptionTable := #[], attributes := #[] }
def k1m1 : Method := { name := "law", desc := "(I)Z", sig := { parameters := [.int], returnType := some .boolean }, accessFlags := 9, code := some k1c1 }
/-- organico/records/RecordSyntaxIsBlankPinLaw -/
def k1 : Class := { plain "organico/records/RecordSyntaxIsBlankPinLaw" (some 0) with
  accessFlags := 49
  interfaces := #[]
  cf := some (fileOf pool1 13 #[] #[{ accessFlags := 2, nameIndex := 5, descriptorIndex := 6, attributes := #[] }, { accessFlags := 9, nameIndex := 17, descriptorIndex := 18, attributes := #[] }] 49 2 #[] #[])
  fields := #[]
  methods := #[k1m0, k1m1]
  instanceTypes := #[]
  staticTypes := #[]
  resolved := Array.replicate 22 none
  statics := none }

def pool2 : Array CpInfo := pool [(1, .class_ 2), (0, u "java/lang/constant/Constable"), (0, .class_ 4), (0, u "java/lang/Object")] 6

/-- java/lang/constant/Constable -/
def k2 : Class := { plain "java/lang/constant/Constable" (some 0) with
  accessFlags := 1537
  interfaces := #[]
  cf := some (fileOf pool2 1 #[] #[] 1537 3 #[] #[])
  fields := #[]
  methods := #[]
  instanceTypes := #[]
  staticTypes := #[]
  resolved := Array.replicate 11 none
  statics := none }

def pool3 : Array CpInfo := pool [(1, .class_ 2), (0, u "java/lang/Comparable"), (0, .class_ 4), (0, u "java/lang/Object")] 7

/-- java/lang/Comparable -/
def k3 : Class := { plain "java/lang/Comparable" (some 0) with
  accessFlags := 1537
  interfaces := #[]
  cf := some (fileOf pool3 1 #[] #[] 1537 3 #[] #[])
  fields := #[]
  methods := #[]
  instanceTypes := #[]
  staticTypes := #[]
  resolved := Array.replicate 12 none
  statics := none }

def pool4 : Array CpInfo := pool [(1, .class_ 2), (0, u "java/io/Serializable"), (0, .class_ 4), (0, u "java/lang/Object")] 2

/-- java/io/Serializable -/
def k4 : Class := { plain "java/io/Serializable" (some 0) with
  accessFlags := 1537
  interfaces := #[]
  cf := some (fileOf pool4 1 #[] #[] 1537 3 #[] #[])
  fields := #[]
  methods := #[]
  instanceTypes := #[]
  staticTypes := #[]
  resolved := Array.replicate 7 none
  statics := none }

def pool5 : Array CpInfo := pool [(2, .class_ 4), (1, u "java/lang/Enum"), (0, u "name"), (0, u "Ljava/lang/String;"), (2, u "ordinal"), (0, u "I"), (1, .class_ 14), (1, u "java/lang/Object"), (4, u "hash"), (86, .class_ 108), (1, u "java/lang/Enum$EnumDesc"), (2, .class_ 112), (0, u "java/lang/constant/Constable"), (0, .class_ 114), (0, u "java/lang/Comparable"), (0, .class_ 116), (0, u "java/io/Serializable")] 87

/-- java/lang/Enum -/
def k5 : Class := { plain "java/lang/Enum" (some 0) with
  accessFlags := 1057
  interfaces := #[2, 3, 4]
  cf := some (fileOf pool5 2 #[.nestMembers #[106]] #[] 1057 12 #[111, 113, 115] #[{ accessFlags := 18, nameIndex := 5, descriptorIndex := 6, attributes := #[] }, { accessFlags := 18, nameIndex := 9, descriptorIndex := 10, attributes := #[] }, { accessFlags := 2, nameIndex := 19, descriptorIndex := 10, attributes := #[] }])
  fields := #[{ name := "name", type := (.object "java/lang/String"), accessFlags := 18, slot := 0, constantValue := 0 }, { name := "ordinal", type := .int, accessFlags := 18, slot := 1, constantValue := 0 }, { name := "hash", type := .int, accessFlags := 2, slot := 2, constantValue := 0 }]
  methods := #[]
  instanceTypes := #[(.object "java/lang/String"), .int, .int]
  staticTypes := #[]
  resolved := Array.replicate 204 none
  statics := none }

def pool6 : Array CpInfo := pool [(1, .class_ 2), (0, u "organico/records/RecordSyntax"), (2, u "ISO_2709"), (0, u "Lorganico/records/RecordSyntax;"), (2, u "MARCXML"), (2, u "$VALUES"), (0, u "[Lorganico/records/RecordSyntax;"), (6, .class_ 22), (1, u "java/lang/Enum"), (37, .class_ 61), (0, u "organico/records/RecordSyntax$Detection"), (37, u "LEADER_START"), (0, u "I"), (6, u "BYTE_ORDER_MARK"), (0, u "[B"), (6, u "isBlank"), (0, u "(B)Z"), (38, u "LOOK_AHEAD")] 29

def k6c0 : Code := { maxStack := 2, maxLocals := 1, code := prog_85_method_12_code, exceptionTable := #[], attributes := #[] }
def k6m0 : Method := { name := "isBlank", desc := "(B)Z", sig := { parameters := [.byte], returnType := some .boolean }, accessFlags := 8, code := some k6c0 }
/-- organico/records/RecordSyntax -/
def k6 : Class := { plain "organico/records/RecordSyntax" (some 5) with
  accessFlags := 16433
  interfaces := #[]
  cf := some (fileOf pool6 1 #[.nestMembers #[60]] #[{ accessFlags := 8, nameIndex := 115, descriptorIndex := 116, attributes := #[] }] 16433 20 #[] #[{ accessFlags := 16409, nameIndex := 5, descriptorIndex := 6, attributes := #[] }, { accessFlags := 16409, nameIndex := 9, descriptorIndex := 6, attributes := #[] }, { accessFlags := 24, nameIndex := 155, descriptorIndex := 100, attributes := #[] }, { accessFlags := 26, nameIndex := 99, descriptorIndex := 100, attributes := #[] }, { accessFlags := 24, nameIndex := 107, descriptorIndex := 108, attributes := #[] }, { accessFlags := 4122, nameIndex := 12, descriptorIndex := 13, attributes := #[] }])
  fields := #[{ name := "ISO_2709", type := (.object "organico/records/RecordSyntax"), accessFlags := 16409, slot := 0, constantValue := 0 }, { name := "MARCXML", type := (.object "organico/records/RecordSyntax"), accessFlags := 16409, slot := 1, constantValue := 0 }, { name := "LOOK_AHEAD", type := .int, accessFlags := 24, slot := 2, constantValue := 0 }, { name := "LEADER_START", type := .int, accessFlags := 26, slot := 3, constantValue := 0 }, { name := "BYTE_ORDER_MARK", type := (.array .byte), accessFlags := 24, slot := 4, constantValue := 0 }, { name := "$VALUES", type := (.array (.object "organico/records/RecordSyntax")), accessFlags := 4122, slot := 5, constantValue := 0 }]
  methods := #[k6m0]
  instanceTypes := #[(.object "java/lang/String"), .int, .int]
  staticTypes := #[(.object "organico/records/RecordSyntax"), (.object "organico/records/RecordSyntax"), .int, .int, (.array .byte), (.array (.object "organico/records/RecordSyntax"))]
  resolved := Array.replicate 185 none
  statics := none }

def pool7 : Array CpInfo := pool [(1, u "java/lang/Cloneable"), (0, .class_ 1), (0, u "java/lang/Object"), (0, .class_ 3)] 3

/-- java/lang/Cloneable -/
def k7 : Class := { plain "java/lang/Cloneable" (some 0) with
  accessFlags := 1537
  interfaces := #[]
  cf := some (fileOf pool7 2 #[] #[] 1537 4 #[] #[])
  fields := #[]
  methods := #[]
  instanceTypes := #[]
  staticTypes := #[]
  resolved := Array.replicate 8 none
  statics := none }

/-- the primitive byte -/
def k8 : Class := { plain "byte" none with kind := .primitive 'B', accessFlags := 0x411 }
/-- [B -/
def k9 : Class := { plain "[B" (some 0) with kind := .array 8 .byte, interfaces := #[7, 4], accessFlags := 1041 }

/-- the primitive int -/
def k10 : Class := { plain "int" none with kind := .primitive 'I', accessFlags := 0x411 }
/-- [I -/
def k11 : Class := { plain "[I" (some 0) with kind := .array 10 .int, interfaces := #[7, 4], accessFlags := 1041 }

def heap : Heap := #[]
def classes : Array Class := #[k0, k1, k2, k3, k4, k5, k6, k7, k8, k9, k10, k11]
def interned : List (Array UInt16 × Addr) := []
def slotsUsed : Nat := 0
def theMethod : MethodId := ⟨1, 1⟩
def args0 : Array Value := #[.int 5]
def aboutOver (below : List Frame) : State where
  vm := { classes := classes, interned := interned.toArray }
  heap := heap
  slotsUsed := slotsUsed
  threads := #[{ frames := .invoking theMethod args0 :: below }]
def below0 : List Frame := [.native { method := ⟨0, 0⟩, args := #[] }]
def about1 : State := aboutOver below0
def p0 : Program := .bare "" "" ""
def e0 : Env := launch0.env 0 0 0
theorem w_frames : about1.frames = Frame.invoking theMethod args0 :: below0 := rfl
set_option maxRecDepth 65536 in
theorem w_args : argsFit about1.vm theMethod args0 = true := by decide +kernel
set_option maxRecDepth 65536 in
theorem w_heap : heapFits about1 = true := by decide +kernel
set_option maxRecDepth 65536 in
theorem w_runnable : about1.curStatus? = some .runnable := by decide +kernel
set_option maxRecDepth 65536 in
theorem w_alone : about1.alone = true := by decide +kernel
set_option maxRecDepth 65536 in
theorem w_named : about1.methodNamed? x = some theMethod := by decide +kernel
set_option maxRecDepth 65536 in
theorem w_hears : about1.hears theMethod below0 = true := by decide +kernel
set_option maxRecDepth 65536 in
theorem w_ripe : about1.ripe theMethod args0 below0 = true := by decide +kernel
theorem w_running : about1.status = .running := rfl
set_option maxRecDepth 65536 in
theorem w_room : about1.hasRoom e0.platform room_1 = true :=
  launch0.hasRoom_least _ room_1 (by decide +kernel) (by decide +kernel) (by decide +kernel) (by decide +kernel) (by decide +kernel) (by decide +kernel)
theorem allAtoms_all (ts : List Jvm.Cond) (a : Array Jvm.Value) (st : Jvm.State) : (allAtoms ts).before a st = ts.all (fun c => c.before a st) := by
  induction ts with
  | nil => rfl
  | cons c t ih =>
    show (Jvm.Cond.and c (allAtoms t)).before a st = _
    rw [Jvm.Cond.before_and, ih, List.all_cons]
def words1 : List Jvm.Cond := Jvm.Cond.code x code maxLocals ret :: tables_1
/-- a 'code' word, met by the world's own term for the bytes: nothing is compared byte by byte -/
theorem code_word {y : MethodName} {bytes : ByteArray} {mx : Nat} {rt : Option FieldType} {a : Array Value} {s : State} {m : MethodId} {meth : Method} {c : Code} (h1 : s.methodNamed? y = some m) (h2 : s.vm.method? m = some meth) (h3 : meth.code = some c) (h4 : c.code = bytes)
    (h5 : (c.maxLocals == mx && c.exceptionTable.isEmpty && decide (c.maxStack ≤ mostOperands) && decide (meth.sig.returnType = rt) && !meth.locks && decide (parseMethodDescriptor y.desc = some meth.sig)) = true) : (Jvm.Cond.code y bytes mx rt).before a s = true := by
  simp only [Bool.and_eq_true, beq_iff_eq, Bool.not_eq_true', decide_eq_true_eq] at h5
  obtain ⟨⟨⟨⟨⟨g1, g2⟩, g3⟩, g4⟩, g5⟩, g6⟩ := h5
  simp [Cond.before, Cond.holds, Cond.value, h1, h2, h3, h4, g1, g2, g3, g4, g5, g6]
def isCode : Jvm.Cond → Bool
  | .code _ _ _ _ => true
  | _ => false
theorem all_split {L : List Jvm.Cond} {P : Jvm.Cond → Bool} (h1 : L.all (fun c => isCode c || P c) = true) (h2 : ∀ c ∈ L.filter isCode, P c = true) : L.all P = true := by
  refine List.all_eq_true.mpr fun c hc => ?_
  have h := List.all_eq_true.mp h1 c hc
  rcases Bool.eq_false_or_eq_true (isCode c) with hi | hi
  · exact h2 c (List.mem_filter.mpr ⟨hc, hi⟩)
  · simpa [hi] using h
set_option maxRecDepth 65536 in
theorem w_c0 : (Jvm.Cond.code x code maxLocals ret).before args0 about1 = true := code_word (m := ⟨1, 1⟩) (meth := k1m1) (c := k1c1) (by decide +kernel) rfl rfl rfl (by decide +kernel)
set_option maxRecDepth 65536 in
theorem w_c1 : (Jvm.Cond.code ({ cls := "organico/records/RecordSyntax", name := "isBlank", desc := "(B)Z" } : Jvm.MethodName) prog_85_method_12_code (1 : Nat) (Option.some Jvm.ClassFile.FieldType.boolean)).before args0 about1 = true := code_word (m := ⟨6, 0⟩) (meth := k6m0) (c := k6c0) (by decide +kernel) rfl rfl rfl (by decide +kernel)
def codes1 : List Jvm.Cond := [Jvm.Cond.code x code maxLocals ret, Jvm.Cond.code ({ cls := "organico/records/RecordSyntax", name := "isBlank", desc := "(B)Z" } : Jvm.MethodName) prog_85_method_12_code (1 : Nat) (Option.some Jvm.ClassFile.FieldType.boolean)]
set_option maxRecDepth 65536 in
theorem codes_eq : words1.filter isCode = codes1 := rfl
theorem w_codes : ∀ c ∈ words1.filter isCode, c.before args0 about1 = true := by
  rw [codes_eq]
  intro c hc
  simp only [codes1, List.mem_cons, List.not_mem_nil, or_false] at hc
  rcases hc with rfl | rfl
  · exact w_c0
  · exact w_c1
set_option maxRecDepth 65536 in
theorem w_t1 : words1.all (fun c => isCode c || c.before args0 about1) = true := by decide +kernel
theorem w_tables : (allAtoms (Jvm.Cond.code x code maxLocals ret :: tables_1)).before args0 about1 = true := by
  rw [allAtoms_all]
  show words1.all (fun c => c.before args0 about1) = true
  refine all_split ?_ w_codes
  rw [w_t1]
set_option maxRecDepth 65536 in
theorem w_case : (Jvm.Cond.and given_1 narrow_1).before args0 about1 = true := by decide +kernel
theorem w_applies : (headSpec (Jvm.Cond.code x code maxLocals ret :: tables_1) room_1).applies x e0.platform about1 = true :=
  (Spec.applies_iff w_frames).mpr ⟨w_running, w_runnable, w_alone, w_named, w_hears, w_ripe, w_room, w_tables⟩
theorem atStart : AtStart classFile x code maxLocals ret World_1 tables_1 room_1 Calls_1 rest_1 Pre_1 launch0 p0 e0 about1 theMethod args0 below0 :=
  ⟨lists_1, trivial, launch0.admits_env _ _ _, launch0.least_env, fairChoices_fair.cas, fairChoices_fair.clock, w_frames, w_args, w_heap, w_applies, trivial, trivial, w_case⟩
end start1
theorem witness_1 : WitnessClaimed_1 := ⟨start1.p0, start1.e0, start1.about1, start1.theMethod, start1.args0, start1.below0, start1.atStart⟩
end Jvm.Pilot.@@N@@
