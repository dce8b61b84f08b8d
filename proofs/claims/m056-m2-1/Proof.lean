import JvmDerived
import JvmDerived.Pilot.@@N@@Statement
import JvmDerived.Pilot.@@N@@Code
set_option linter.unusedVariables false
set_option linter.unusedSimpArgs false
namespace Jvm.RoadKit
open Sem ClassFile Op Lib Jvm.Stand Jvm.Free Jvm.LawKit
section New
variable {p : Program} {l : Launch} {e : Env} {R : Room} {s : State} {m : MethodId} {args : Array Value} {below : List Frame} {meth : Method} {c : Code} {T : State} {locs : List Loc} {cells slots : Nat}
theorem retI (X : Stand p l e R s m args below meth c T locs cells slots) (hx : p.tables.exec = Jvm.exec) {pc : Nat} {Ls : Array Slot} {z : Int32} {rest : List Value} (hret : meth.sig.returnType = some .int) (hd : decode c.code pc = .ok (.ireturn, 1)) {fs : List Frame}
    (hl : ∀ (f : JFrame) (acts : List Action), f.method = m → f.locked = none → f.entered = [] → (doReturn e (T.setTop f) acts (some (.int z))).1 = T.setFrames fs) : Steps p.tables e below (T.setTop (mkF m pc Ls (.int z :: rest))) (T.setFrames fs) := by
  have hm' : T.vm.method? m = some meth := X.method'
  have hn : narrow .int (.int z) = .int z := rfl
  show Steps p.tables e below (T.setTop { method := m, pc := pc, locals := Ls, stack := _ :: rest, locked := none }) _
  jvm_step X.here [X.here.top, hx, hd, hm', hret, hn]
  first | (intro acts; rw [hl _ acts rfl rfl rfl]) | rw [hl _ _ rfl rfl rfl]
  exact Steps.refl _
abbrev jv (x : Int64) : Slot := .val (.long x)
/-- from the state st the run ends as Q says -/
def own_Go (p : Program) (e : Env) (below : List Frame) (s : State) (Q : Option Value → Heap → List Loc → Prop) (CS : Nat × Nat) (st : State) : Prop :=
  ∃ s₂ o, Steps p.tables e below st s₂ ∧ s₂.status = .running ∧ Ended s₂ below o ∧ ∃ v L, o = .returned v ∧ Q v s₂.heap L ∧ FrameEnd s o s₂ L CS.1 CS.2
variable {Q : Option Value → Heap → List Loc → Prop} {CS : Nat × Nat} {st st' : State}
theorem own_via (h : ∀ {t}, Steps p.tables e below st t → Steps p.tables e below st' t) (g : own_Go p e below s Q CS st) : own_Go p e below s Q CS st' := by
  obtain ⟨s₂, o, h1, h2⟩ := g
  exact ⟨s₂, o, h h1, h2⟩
theorem own_start {g g' : JFrame} (q : g = g') (h : own_Go p e below s Q CS (T.setTop g')) : ∃ s₂ o, Steps p.tables e below (T.setTop g) s₂ ∧ s₂.status = .running ∧ Ended s₂ below o ∧ ∃ v L, o = .returned v ∧ Q v s₂.heap L ∧ FrameEnd s o s₂ L CS.1 CS.2 := q ▸ h
theorem own_retN (X : Stand p l e R s m args below meth c T locs cells slots) (hx : p.tables.exec = Jvm.exec) (hlk : meth.locks = false) {pc : Nat} {Ls : Array Slot} {z : Int32} {t : FieldType} {rest : List Value} (hret : meth.sig.returnType = some t) (ht : t = .boolean ∨ t = .byte ∨ t = .char ∨ t = .short)
    (hd : decode c.code pc = .ok (.ireturn, 1)) (hq : Q (some (.int (nar t z))) T.heap locs) (hc : cells ≤ CS.1) (hs : slots ≤ CS.2) : own_Go p e below s Q CS (T.setTop (mkF m pc Ls (.int z :: rest))) := by
  obtain ⟨fs, hr, hrun, hended, hW, hsame⟩ := X.leave (v := some (.int (nar t z))) (fun h => by rw [hret] at h; cases h) hlk
  exact ⟨_, _, retN X hx hret ht hd hr, hrun, hended, _, _, rfl, hq, ⟨_, rfl⟩, hW, hsame.mono hc hs⟩
theorem own_retI (X : Stand p l e R s m args below meth c T locs cells slots) (hx : p.tables.exec = Jvm.exec) (hlk : meth.locks = false) {pc : Nat} {Ls : Array Slot} {z : Int32} {rest : List Value} (hret : meth.sig.returnType = some .int)
    (hd : decode c.code pc = .ok (.ireturn, 1)) (hq : Q (some (.int z)) T.heap locs) (hc : cells ≤ CS.1) (hs : slots ≤ CS.2) : own_Go p e below s Q CS (T.setTop (mkF m pc Ls (.int z :: rest))) := by
  obtain ⟨fs, hr, hrun, hended, hW, hsame⟩ := X.leave (v := some (.int z)) (fun h => by rw [hret] at h; cases h) hlk
  exact ⟨_, _, retI X hx hret hd hr, hrun, hended, _, _, rfl, hq, ⟨_, rfl⟩, hW, hsame.mono hc hs⟩
theorem own_retL (X : Stand p l e R s m args below meth c T locs cells slots) (hx : p.tables.exec = Jvm.exec) (hlk : meth.locks = false) {pc : Nat} {Ls : Array Slot} {z : Int64} (hret : meth.sig.returnType = some .long)
    (hd : decode c.code pc = .ok (.lreturn, 1)) (hq : Q (some (.long z)) T.heap locs) (hc : cells ≤ CS.1) (hs : slots ≤ CS.2) : own_Go p e below s Q CS (T.setTop (mkF m pc Ls [.long z])) := by
  obtain ⟨fs, hr, hrun, hended, hW, hsame⟩ := X.leave (v := some (.long z)) (fun h => by rw [hret] at h; cases h) hlk
  exact ⟨_, _, X.lreturnOut hx hret hd hr, hrun, hended, _, _, rfl, hq, ⟨_, rfl⟩, hW, hsame.mono hc hs⟩
theorem own_retA (X : Stand p l e R s m args below meth c T locs cells slots) (hx : p.tables.exec = Jvm.exec) (hlk : meth.locks = false) {pc : Nat} {Ls : Array Slot} {w : Value} (hw : w.isRef = true) {t : FieldType} (hret : meth.sig.returnType = some t) (ht : t.isReference = true)
    (hd : decode c.code pc = .ok (.areturn, 1)) (hq : Q (some w) T.heap locs) (hc : cells ≤ CS.1) (hs : slots ≤ CS.2) : own_Go p e below s Q CS (T.setTop (mkF m pc Ls [w])) := by
  obtain ⟨fs, hr, hrun, hended, hW, hsame⟩ := X.leave (v := some w) (fun h => by rw [hret] at h; cases h) hlk
  exact ⟨_, _, X.areturnOut hx hw hret ht hd hr, hrun, hended, _, _, rfl, hq, ⟨_, rfl⟩, hW, hsame.mono hc hs⟩
theorem own_ret0 (X : Stand p l e R s m args below meth c T locs cells slots) (hx : p.tables.exec = Jvm.exec) (hlk : meth.locks = false) {pc : Nat} {Ls : Array Slot} (hret : meth.sig.returnType = none)
    (hd : decode c.code pc = .ok (.return_, 1)) (hq : Q none T.heap locs) (hc : cells ≤ CS.1) (hs : slots ≤ CS.2) : own_Go p e below s Q CS (T.setTop (mkF m pc Ls [])) := by
  obtain ⟨fs, hr, hrun, hended, hW, hsame⟩ := X.leave (v := none) (fun _ => rfl) hlk
  exact ⟨_, _, X.returnOut hx hret hd hr, hrun, hended, _, _, rfl, hq, ⟨_, rfl⟩, hW, hsame.mono hc hs⟩
theorem own_fldI {Z : State} {h : Heap} {a : Addr} {C n d : String} {v w : Int32} (q : v = w) (F : Fld Z h a C n d (.int v)) : Fld Z h a C n d (.int w) := q ▸ F
theorem own_fldJ {Z : State} {h : Heap} {a : Addr} {C n d : String} {v w : Int64} (q : v = w) (F : Fld Z h a C n d (.long v)) : Fld Z h a C n d (.long w) := q ▸ F
theorem own_arv {Z : State} {h : Heap} {a : Addr} {k : ClassId} {ty : FieldType} {n : Int32} {vs vs' : List Value} {d : Value} (q : vs = vs') (F : Arv Z h a k ty n vs d) : Arv Z h a k ty n vs' d := q ▸ F
theorem own_fits {t : FieldType} {v w : Int32} (q : v = w) (F : fits t (.int v) = true) : fits t (.int w) = true := q ▸ F
end New
end Jvm.RoadKit
namespace Jvm.Pilot.@@N@@
open Jvm Jvm.ClassFile Sem Op Lib Jvm.Free Jvm.Stand Jvm.LawKit Jvm.RoadKit Bundle Jvm.Pilot.@@N@@.Jvm.D
theorem own_l32 {x y : Int32} : x < y ↔ x.toInt < y.toInt := Int32.lt_iff_toInt_lt
theorem own_e32 {x y : Int32} : x = y ↔ x.toInt = y.toInt := Int32.toInt_inj.symm
theorem own_l64 {x y : Int64} : x < y ↔ x.toInt < y.toInt := Int64.lt_iff_toInt_lt
theorem own_e64 {x y : Int64} : x = y ↔ x.toInt = y.toInt := Int64.toInt_inj.symm
theorem own_all8 {P : Int8 → Prop} (h : ∀ n : Fin 256, P (Int8.ofBitVec (BitVec.ofFin n))) (i : Int8) : P i := h i.toBitVec.toFin
theorem d1_0 : decode method_2_code 0 = .ok (.iload_n 0, 1) := by decide +kernel
theorem d1_1 : decode method_2_code 1 = .ok (.bipush 7, 2) := by decide +kernel
theorem d1_3 : decode method_2_code 3 = .ok (.iand, 1) := by decide +kernel
theorem d1_4 : decode method_2_code 4 = .ok (.istore_n 1, 1) := by decide +kernel
theorem d1_5 : decode method_2_code 5 = .ok (.iload_n 1, 1) := by decide +kernel
theorem d1_6 : decode method_2_code 6 = .ok (.ifCond .ne 6, 3) := by decide +kernel
theorem d1_9 : decode method_2_code 9 = .ok (.bipush 13, 2) := by decide +kernel
theorem d1_11 : decode method_2_code 11 = .ok (.ireturn, 1) := by decide +kernel
theorem d1_12 : decode method_2_code 12 = .ok (.iload_n 1, 1) := by decide +kernel
theorem d1_13 : decode method_2_code 13 = .ok (.iconst 1, 1) := by decide +kernel
theorem d1_14 : decode method_2_code 14 = .ok (.if_icmp .ne 6, 3) := by decide +kernel
theorem d1_17 : decode method_2_code 17 = .ok (.bipush 10, 2) := by decide +kernel
theorem d1_19 : decode method_2_code 19 = .ok (.ireturn, 1) := by decide +kernel
theorem d1_20 : decode method_2_code 20 = .ok (.iload_n 1, 1) := by decide +kernel
theorem d1_21 : decode method_2_code 21 = .ok (.iconst 2, 1) := by decide +kernel
theorem d1_22 : decode method_2_code 22 = .ok (.if_icmp .ne 7, 3) := by decide +kernel
theorem d1_25 : decode method_2_code 25 = .ok (.sipush 133, 3) := by decide +kernel
theorem d1_28 : decode method_2_code 28 = .ok (.ireturn, 1) := by decide +kernel
theorem d1_29 : decode method_2_code 29 = .ok (.iload_n 1, 1) := by decide +kernel
theorem d1_30 : decode method_2_code 30 = .ok (.iconst 3, 1) := by decide +kernel
theorem d1_31 : decode method_2_code 31 = .ok (.if_icmp .ne 7, 3) := by decide +kernel
theorem d1_34 : decode method_2_code 34 = .ok (.sipush 8232, 3) := by decide +kernel
theorem d1_37 : decode method_2_code 37 = .ok (.ireturn, 1) := by decide +kernel
theorem d1_38 : decode method_2_code 38 = .ok (.iload_n 1, 1) := by decide +kernel
theorem d1_39 : decode method_2_code 39 = .ok (.iconst 4, 1) := by decide +kernel
theorem d1_40 : decode method_2_code 40 = .ok (.if_icmp .ne 6, 3) := by decide +kernel
theorem d1_43 : decode method_2_code 43 = .ok (.ldc 7, 2) := by decide +kernel
theorem d1_45 : decode method_2_code 45 = .ok (.ireturn, 1) := by decide +kernel
theorem d1_46 : decode method_2_code 46 = .ok (.iload_n 0, 1) := by decide +kernel
theorem d1_47 : decode method_2_code 47 = .ok (.iconst 3, 1) := by decide +kernel
theorem d1_48 : decode method_2_code 48 = .ok (.iushr, 1) := by decide +kernel
theorem d1_49 : decode method_2_code 49 = .ok (.ldc 8, 2) := by decide +kernel
theorem d1_51 : decode method_2_code 51 = .ok (.iand, 1) := by decide +kernel
theorem d1_52 : decode method_2_code 52 = .ok (.i2c, 1) := by decide +kernel
theorem d1_53 : decode method_2_code 53 = .ok (.ireturn, 1) := by decide +kernel
theorem pn_1 : plainName "com/example/tree_to_rows/treetorows/xml/DocumentPlacePassPinLaw" = true := by first | (simp [plainName, overriddenIn]; done) | decide +kernel
theorem ef_1 (m : MethodId) (x0 : Int32) : entryFrame m #[(.int x0)] 2 = mkF m 0 #[iv x0, .unset] [] := by first | (simp [entryFrame, mkF, argsToLocals, Value.category]; done) | rfl
def own_f1 (p0 : Int32) : Int32 := (if (p0 &&& (7 : Int32)) = (0 : Int32) then (13 : Int32) else (if (p0 &&& (7 : Int32)) = (1 : Int32) then (10 : Int32) else (if (p0 &&& (7 : Int32)) = (2 : Int32) then (133 : Int32) else (if (p0 &&& (7 : Int32)) = (3 : Int32) then (8232 : Int32) else (if (p0 &&& (7 : Int32)) = (4 : Int32) then (65279 : Int32) else (nar .char ((((p0.toUInt32 >>> ((3 : Int32) &&& 31).toUInt32).toInt32) &&& (65535 : Int32)).toUInt32.toUInt16.toUInt32.toInt32)))))))
def Q1 (Z : State) (p0 : Int32) (h0 : Heap) (n0 : Nat) (v : Option Value) (h : Heap) (L : List Loc) : Prop := v = some (.int (own_f1 p0)) ∧ Fr n0 L ∧ h = h0
set_option maxRecDepth 65536 in
set_option maxHeartbeats 40000000 in
theorem rm1 (l : Launch) (Z : State) (aw : Array Value) (hw : ∀ d ∈ tables_1, d.before aw Z = true) (ws : List Jvm.Cond) (p0 : Int32) (h0 : Heap) (n0 : Nat) (Z0 : n0 ≤ h0.size)  :
    MetFree l (⟨"com/example/tree_to_rows/treetorows/xml/DocumentPlacePassPinLaw", "draw", "(I)C"⟩ : MethodName) (head1 (Jvm.Cond.code (⟨"com/example/tree_to_rows/treetorows/xml/DocumentPlacePassPinLaw", "draw", "(I)C"⟩ : MethodName) method_2_code 2 (some .char) :: ws) ({ frames := 0, cells := 0, slots := 0, locals := 0 } : Room)) (fun a U => a = #[(.int p0)] ∧ Z.Warmed39 U.vm ∧ U.heap = h0) (fun _ _ _ _ _ => True) (fun _ U o U' => ∃ v L, o = .returned v ∧ Q1 Z p0 h0 n0 v U'.heap L ∧ FrameEnd U o U' L ({ frames := 0, cells := 0, slots := 0, locals := 0 } : Room).cells ({ frames := 0, cells := 0, slots := 0, locals := 0 } : Room).slots) := by
  refine MetFree.of_bodySF (plainFor_of_name pn_1) hisR ?_
  intro p e s m args below meth c s₁ Bd hml0 hP hK
  obtain ⟨rfl, hZ, hh⟩ := hP
  have hx := Bd.exec
  have hby := Bd.bytes
  have hml : c.maxLocals = 2 := hml0
  have hown : s.vm.findClass "com/example/tree_to_rows/treetorows/xml/DocumentPlacePassPinLaw" = some m.cls := findClass_of_methodNamed Bd.named
  have hnm := (name_of_methodNamed Bd.named Bd.method).1
  have hlk : meth.locks = false := by first | exact BodyLoose.notSynchronized (by assumption) | exact Body.notSynchronized (by assumption)
  have X0 : Stand p l e ({ frames := 0, cells := 0, slots := 0, locals := 0 } : Room) s m #[(.int p0)] below meth c s₁ [] 0 0 := Stand.of_body Bd
  have e0 : s₁.heap = h0 := by rw [← hh, Bd.state]; rfl
  have N0 := Fr.nil n0
  have K0 : Keep h0 h0 [] := Keep.refl _ _
  refine own_start (CS := (0, 0)) (Q := (Q1 Z p0 h0 n0)) (ef_1 m p0) ?_
  show own_Go p e below s _ _ (s₁.setTop (mkF m 0 #[iv p0, .unset] []))
  refine own_via (fun k => XS.iloadN X0.here hx rfl (hb hby d1_0) rfl  (XS.bipush X0.here hx rfl (hb hby d1_1) (XS.iand X0.here hx rfl (hb hby d1_3) rfl (XS.istoreN X0.here hx rfl (hb hby d1_4) rfl (l' := #[iv p0, iv (p0 &&& (7 : Int32))]) rfl k)))) ?_
  show own_Go p e below s _ _ (s₁.setTop (mkF m 5 #[iv p0, iv (p0 &&& (7 : Int32))] []))
  refine own_via (fun k => XS.iloadN X0.here hx rfl (hb hby d1_5) rfl  k) ?_
  show own_Go p e below s _ _ (s₁.setTop (mkF m 6 #[iv p0, iv (p0 &&& (7 : Int32))] [(.int (p0 &&& (7 : Int32)))]))
  by_cases hc1 : (p0 &&& (7 : Int32)) = (0 : Int32)
  · refine own_via (fun k => XS.ifNo X0.here hx rfl (hb hby d1_6) rfl ((if0 _ _).trans (teq hc1).2) k) ?_
    show own_Go p e below s _ _ (s₁.setTop (mkF m 9 #[iv p0, iv (p0 &&& (7 : Int32))] []))
    refine own_via (fun k => XS.bipush X0.here hx rfl (hb hby d1_9) k) ?_
    show own_Go p e below s _ _ (s₁.setTop (mkF m 11 #[iv p0, iv (p0 &&& (7 : Int32))] [(.int 13)]))
    exact own_retN X0 hx hlk (t := .char) Bd.returns (by simp) (hb hby d1_11) (Q := (Q1 Z p0 h0 n0)) ⟨(congrArg (fun z => some (Value.int z)) (show (13 : Int32) = (own_f1 p0) from (by unfold own_f1; exact ((if_pos hc1).trans rfl).symm))), N0, e0⟩ (by decide) (by decide)
  · refine own_via (fun k => XS.ifYes X0.here hx rfl (pc0 := 6) (pc' := 12) rfl (hb hby d1_6) rfl ((if0 _ _).trans (feq hc1).2) (by decide) (by decide) k) ?_
    show own_Go p e below s _ _ (s₁.setTop (mkF m 12 #[iv p0, iv (p0 &&& (7 : Int32))] []))
    refine own_via (fun k => XS.iloadN X0.here hx rfl (hb hby d1_12) rfl  (XS.iconst X0.here hx rfl (hb hby d1_13) k)) ?_
    show own_Go p e below s _ _ (s₁.setTop (mkF m 14 #[iv p0, iv (p0 &&& (7 : Int32))] [(.int 1), (.int (p0 &&& (7 : Int32)))]))
    by_cases hc2 : (p0 &&& (7 : Int32)) = (1 : Int32)
    · refine own_via (fun k => XS.icmpNo X0.here hx rfl (hb hby d1_14) rfl (teq hc2).2 k) ?_
      show own_Go p e below s _ _ (s₁.setTop (mkF m 17 #[iv p0, iv (p0 &&& (7 : Int32))] []))
      refine own_via (fun k => XS.bipush X0.here hx rfl (hb hby d1_17) k) ?_
      show own_Go p e below s _ _ (s₁.setTop (mkF m 19 #[iv p0, iv (p0 &&& (7 : Int32))] [(.int 10)]))
      exact own_retN X0 hx hlk (t := .char) Bd.returns (by simp) (hb hby d1_19) (Q := (Q1 Z p0 h0 n0)) ⟨(congrArg (fun z => some (Value.int z)) (show (10 : Int32) = (own_f1 p0) from (by unfold own_f1; exact ((if_neg hc1).trans ((if_pos hc2).trans rfl)).symm))), N0, e0⟩ (by decide) (by decide)
    · refine own_via (fun k => XS.icmpYes X0.here hx rfl (pc0 := 14) (pc' := 20) rfl (hb hby d1_14) rfl (feq hc2).2 (by decide) (by decide) k) ?_
      show own_Go p e below s _ _ (s₁.setTop (mkF m 20 #[iv p0, iv (p0 &&& (7 : Int32))] []))
      refine own_via (fun k => XS.iloadN X0.here hx rfl (hb hby d1_20) rfl  (XS.iconst X0.here hx rfl (hb hby d1_21) k)) ?_
      show own_Go p e below s _ _ (s₁.setTop (mkF m 22 #[iv p0, iv (p0 &&& (7 : Int32))] [(.int 2), (.int (p0 &&& (7 : Int32)))]))
      by_cases hc3 : (p0 &&& (7 : Int32)) = (2 : Int32)
      · refine own_via (fun k => XS.icmpNo X0.here hx rfl (hb hby d1_22) rfl (teq hc3).2 k) ?_
        show own_Go p e below s _ _ (s₁.setTop (mkF m 25 #[iv p0, iv (p0 &&& (7 : Int32))] []))
        refine own_via (fun k => XS.sipush X0.here hx rfl (hb hby d1_25) k) ?_
        show own_Go p e below s _ _ (s₁.setTop (mkF m 28 #[iv p0, iv (p0 &&& (7 : Int32))] [(.int 133)]))
        exact own_retN X0 hx hlk (t := .char) Bd.returns (by simp) (hb hby d1_28) (Q := (Q1 Z p0 h0 n0)) ⟨(congrArg (fun z => some (Value.int z)) (show (133 : Int32) = (own_f1 p0) from (by unfold own_f1; exact ((if_neg hc1).trans ((if_neg hc2).trans ((if_pos hc3).trans rfl))).symm))), N0, e0⟩ (by decide) (by decide)
      · refine own_via (fun k => XS.icmpYes X0.here hx rfl (pc0 := 22) (pc' := 29) rfl (hb hby d1_22) rfl (feq hc3).2 (by decide) (by decide) k) ?_
        show own_Go p e below s _ _ (s₁.setTop (mkF m 29 #[iv p0, iv (p0 &&& (7 : Int32))] []))
        refine own_via (fun k => XS.iloadN X0.here hx rfl (hb hby d1_29) rfl  (XS.iconst X0.here hx rfl (hb hby d1_30) k)) ?_
        show own_Go p e below s _ _ (s₁.setTop (mkF m 31 #[iv p0, iv (p0 &&& (7 : Int32))] [(.int 3), (.int (p0 &&& (7 : Int32)))]))
        by_cases hc4 : (p0 &&& (7 : Int32)) = (3 : Int32)
        · refine own_via (fun k => XS.icmpNo X0.here hx rfl (hb hby d1_31) rfl (teq hc4).2 k) ?_
          show own_Go p e below s _ _ (s₁.setTop (mkF m 34 #[iv p0, iv (p0 &&& (7 : Int32))] []))
          refine own_via (fun k => XS.sipush X0.here hx rfl (hb hby d1_34) k) ?_
          show own_Go p e below s _ _ (s₁.setTop (mkF m 37 #[iv p0, iv (p0 &&& (7 : Int32))] [(.int 8232)]))
          exact own_retN X0 hx hlk (t := .char) Bd.returns (by simp) (hb hby d1_37) (Q := (Q1 Z p0 h0 n0)) ⟨(congrArg (fun z => some (Value.int z)) (show (8232 : Int32) = (own_f1 p0) from (by unfold own_f1; exact ((if_neg hc1).trans ((if_neg hc2).trans ((if_neg hc3).trans ((if_pos hc4).trans rfl)))).symm))), N0, e0⟩ (by decide) (by decide)
        · refine own_via (fun k => XS.icmpYes X0.here hx rfl (pc0 := 31) (pc' := 38) rfl (hb hby d1_31) rfl (feq hc4).2 (by decide) (by decide) k) ?_
          show own_Go p e below s _ _ (s₁.setTop (mkF m 38 #[iv p0, iv (p0 &&& (7 : Int32))] []))
          refine own_via (fun k => XS.iloadN X0.here hx rfl (hb hby d1_38) rfl  (XS.iconst X0.here hx rfl (hb hby d1_39) k)) ?_
          show own_Go p e below s _ _ (s₁.setTop (mkF m 40 #[iv p0, iv (p0 &&& (7 : Int32))] [(.int 4), (.int (p0 &&& (7 : Int32)))]))
          by_cases hc5 : (p0 &&& (7 : Int32)) = (4 : Int32)
          · refine own_via (fun k => XS.icmpNo X0.here hx rfl (hb hby d1_40) rfl (teq hc5).2 k) ?_
            show own_Go p e below s _ _ (s₁.setTop (mkF m 43 #[iv p0, iv (p0 &&& (7 : Int32))] []))
            refine own_via (fun k => X0.ldcInt hx hown (mvT hZ (hw _ (List.mem_of_getElem? (i := 42) rfl))) (g := (mkF m 43 #[iv p0, iv (p0 &&& (7 : Int32))] [])) rfl (hb hby d1_43) _ k) ?_
            show own_Go p e below s _ _ (s₁.setTop (mkF m 45 #[iv p0, iv (p0 &&& (7 : Int32))] [(.int 65279)]))
            exact own_retN X0 hx hlk (t := .char) Bd.returns (by simp) (hb hby d1_45) (Q := (Q1 Z p0 h0 n0)) ⟨(congrArg (fun z => some (Value.int z)) (show (65279 : Int32) = (own_f1 p0) from (by unfold own_f1; exact ((if_neg hc1).trans ((if_neg hc2).trans ((if_neg hc3).trans ((if_neg hc4).trans ((if_pos hc5).trans rfl))))).symm))), N0, e0⟩ (by decide) (by decide)
          · refine own_via (fun k => XS.icmpYes X0.here hx rfl (pc0 := 40) (pc' := 46) rfl (hb hby d1_40) rfl (feq hc5).2 (by decide) (by decide) k) ?_
            show own_Go p e below s _ _ (s₁.setTop (mkF m 46 #[iv p0, iv (p0 &&& (7 : Int32))] []))
            refine own_via (fun k => XS.iloadN X0.here hx rfl (hb hby d1_46) rfl  (XS.iconst X0.here hx rfl (hb hby d1_47) (XS.iushr X0.here hx rfl (hb hby d1_48) rfl (X0.ldcInt hx hown (mvT hZ (hw _ (List.mem_of_getElem? (i := 46) rfl))) (g := (mkF m 49 #[iv p0, iv (p0 &&& (7 : Int32))] [(.int ((p0.toUInt32 >>> ((3 : Int32) &&& 31).toUInt32).toInt32))])) rfl (hb hby d1_49) _ k)))) ?_
            show own_Go p e below s _ _ (s₁.setTop (mkF m 51 #[iv p0, iv (p0 &&& (7 : Int32))] [(.int 65535), (.int ((p0.toUInt32 >>> ((3 : Int32) &&& 31).toUInt32).toInt32))]))
            refine own_via (fun k => XS.iand X0.here hx rfl (hb hby d1_51) rfl (XS.i2c X0.here hx rfl (hb hby d1_52) rfl k)) ?_
            show own_Go p e below s _ _ (s₁.setTop (mkF m 53 #[iv p0, iv (p0 &&& (7 : Int32))] [(.int ((((p0.toUInt32 >>> ((3 : Int32) &&& 31).toUInt32).toInt32) &&& (65535 : Int32)).toUInt32.toUInt16.toUInt32.toInt32))]))
            exact own_retN X0 hx hlk (t := .char) Bd.returns (by simp) (hb hby d1_53) (Q := (Q1 Z p0 h0 n0)) ⟨(congrArg (fun z => some (Value.int z)) (show (nar .char ((((p0.toUInt32 >>> ((3 : Int32) &&& 31).toUInt32).toInt32) &&& (65535 : Int32)).toUInt32.toUInt16.toUInt32.toInt32)) = (own_f1 p0) from (by unfold own_f1; exact ((if_neg hc1).trans ((if_neg hc2).trans ((if_neg hc3).trans ((if_neg hc4).trans ((if_neg hc5).trans rfl))))).symm))), N0, e0⟩ (by decide) (by decide)
theorem d2_0 : decode prog_92_method_1_code 0 = .ok (.aload_n 0, 1) := by decide +kernel
theorem d2_1 : decode prog_92_method_1_code 1 = .ok (.invokespecial 1, 3) := by decide +kernel
theorem d2_4 : decode prog_92_method_1_code 4 = .ok (.aload_n 0, 1) := by decide +kernel
theorem d2_5 : decode prog_92_method_1_code 5 = .ok (.iload_n 1, 1) := by decide +kernel
theorem d2_6 : decode prog_92_method_1_code 6 = .ok (.putfield 7, 3) := by decide +kernel
theorem d2_9 : decode prog_92_method_1_code 9 = .ok (.aload_n 0, 1) := by decide +kernel
theorem d2_10 : decode prog_92_method_1_code 10 = .ok (.iconst 1, 1) := by decide +kernel
theorem d2_11 : decode prog_92_method_1_code 11 = .ok (.putfield 13, 3) := by decide +kernel
theorem d2_14 : decode prog_92_method_1_code 14 = .ok (.aload_n 0, 1) := by decide +kernel
theorem d2_15 : decode prog_92_method_1_code 15 = .ok (.iconst 0, 1) := by decide +kernel
theorem d2_16 : decode prog_92_method_1_code 16 = .ok (.putfield 16, 3) := by decide +kernel
theorem d2_19 : decode prog_92_method_1_code 19 = .ok (.aload_n 0, 1) := by decide +kernel
theorem d2_20 : decode prog_92_method_1_code 20 = .ok (.iconst 1, 1) := by decide +kernel
theorem d2_21 : decode prog_92_method_1_code 21 = .ok (.putfield 19, 3) := by decide +kernel
theorem d2_24 : decode prog_92_method_1_code 24 = .ok (.aload_n 0, 1) := by decide +kernel
theorem d2_25 : decode prog_92_method_1_code 25 = .ok (.iconst 1, 1) := by decide +kernel
theorem d2_26 : decode prog_92_method_1_code 26 = .ok (.putfield 23, 3) := by decide +kernel
theorem d2_29 : decode prog_92_method_1_code 29 = .ok (.return_, 1) := by decide +kernel
theorem pn_2 : plainName "com/example/tree_to_rows/treetorows/xml/DocumentPlace" = true := by first | (simp [plainName, overriddenIn]; done) | decide +kernel
theorem ef_2 (m : MethodId) (x0 : Addr) (x1 : Int32) : entryFrame m #[(.ref x0), (.int x1)] 2 = mkF m 0 #[rv x0, iv x1] [] := by first | (simp [entryFrame, mkF, argsToLocals, Value.category]; done) | rfl
def Q2 (Z : State) (a0 : Addr) (p1 : Int32) (h0 : Heap) (n0 : Nat) (v : Option Value) (h : Heap) (L : List Loc) : Prop := v = none ∧ Fr n0 L ∧ Keep h0 h [a0] ∧ Fld Z h a0 "com/example/tree_to_rows/treetorows/xml/DocumentPlace" "xml11" "Z" (.int p1) ∧ Fld Z h a0 "com/example/tree_to_rows/treetorows/xml/DocumentPlace" "firstCharacter" "Z" (.int 1) ∧ Fld Z h a0 "com/example/tree_to_rows/treetorows/xml/DocumentPlace" "afterCarriageReturn" "Z" (.int 0) ∧ Fld Z h a0 "com/example/tree_to_rows/treetorows/xml/DocumentPlace" "line" "I" (.int 1) ∧ Fld Z h a0 "com/example/tree_to_rows/treetorows/xml/DocumentPlace" "column" "I" (.int 1)
set_option maxRecDepth 65536 in
set_option maxHeartbeats 40000000 in
theorem rm2 (l : Launch) (Z : State) (aw : Array Value) (hw : ∀ d ∈ tables_1, d.before aw Z = true) (ws : List Jvm.Cond) (a0 : Addr) (p1 : Int32) (h0 : Heap) (n0 : Nat) (Z0 : n0 ≤ h0.size) (P0 : Fld Z h0 a0 "com/example/tree_to_rows/treetorows/xml/DocumentPlace" "xml11" "Z" (.int 0)) (P1 : Fld Z h0 a0 "com/example/tree_to_rows/treetorows/xml/DocumentPlace" "firstCharacter" "Z" (.int 0)) (P2 : Fld Z h0 a0 "com/example/tree_to_rows/treetorows/xml/DocumentPlace" "afterCarriageReturn" "Z" (.int 0)) (P3 : Fld Z h0 a0 "com/example/tree_to_rows/treetorows/xml/DocumentPlace" "line" "I" (.int 0)) (P4 : Fld Z h0 a0 "com/example/tree_to_rows/treetorows/xml/DocumentPlace" "column" "I" (.int 0)) (P5 : Exa Z h0 a0 "com/example/tree_to_rows/treetorows/xml/DocumentPlace") (ge0 : n0 ≤ a0) (hbo : nar .boolean p1 = p1) :
    MetFree l (⟨"com/example/tree_to_rows/treetorows/xml/DocumentPlace", "<init>", "(Z)V"⟩ : MethodName) (head1 (Jvm.Cond.code (⟨"com/example/tree_to_rows/treetorows/xml/DocumentPlace", "<init>", "(Z)V"⟩ : MethodName) prog_92_method_1_code 2 none :: ws) ({ frames := 1, cells := 0, slots := 0, locals := 12 } : Room)) (fun a U => a = #[(.ref a0), (.int p1)] ∧ Z.Warmed39 U.vm ∧ U.heap = h0) (fun _ _ _ _ _ => True) (fun _ U o U' => ∃ v L, o = .returned v ∧ Q2 Z a0 p1 h0 n0 v U'.heap L ∧ FrameEnd U o U' L ({ frames := 1, cells := 0, slots := 0, locals := 12 } : Room).cells ({ frames := 1, cells := 0, slots := 0, locals := 12 } : Room).slots) := by
  refine MetFree.of_bodySF (plainFor_of_name pn_2) hisR ?_
  intro p e s m args below meth c s₁ Bd hml0 hP hK
  obtain ⟨rfl, hZ, hh⟩ := hP
  have hx := Bd.exec
  have hby := Bd.bytes
  have hml : c.maxLocals = 2 := hml0
  have hown : s.vm.findClass "com/example/tree_to_rows/treetorows/xml/DocumentPlace" = some m.cls := findClass_of_methodNamed Bd.named
  have hnm := (name_of_methodNamed Bd.named Bd.method).1
  have hlk : meth.locks = false := by first | exact BodyLoose.notSynchronized (by assumption) | exact Body.notSynchronized (by assumption)
  have X0 : Stand p l e ({ frames := 1, cells := 0, slots := 0, locals := 12 } : Room) s m #[(.ref a0), (.int p1)] below meth c s₁ [] 0 0 := Stand.of_body Bd
  have e0 : s₁.heap = h0 := by rw [← hh, Bd.state]; rfl
  have N0 := Fr.nil n0
  have K0 : Keep h0 h0 [a0] := Keep.refl _ _
  refine own_start (CS := (0, 0)) (Q := (Q2 Z a0 p1 h0 n0)) (ef_2 m a0 p1) ?_
  show own_Go p e below s _ _ (s₁.setTop (mkF m 0 #[rv a0, iv p1] []))
  refine own_via (fun k => XS.aloadN X0.here hx rfl (hb hby d2_0) rfl rfl  k) ?_
  show own_Go p e below s _ _ (s₁.setTop (mkF m 1 #[rv a0, iv p1] [(.ref a0)]))
  obtain ⟨T1, X1, e1, st1⟩ := initO X0 hx hZ hown (hw _ (List.mem_of_getElem? (i := 10) rfl)) (hw _ (List.mem_of_getElem? (i := 11) rfl)) (hw _ (List.mem_of_getElem? (i := 12) rfl)) e0 (g := (mkF m 1 #[rv a0, iv p1] [(.ref a0)])) rfl (by rw [hml]; rfl) rfl (hb hby d2_1) (by decide) (W := 0) (by show 2 * 0 + _ ≤ _; exact Nat.le_of_eq rfl) (by decide)
  refine own_via (fun k => st1 _ k) ?_
  show own_Go p e below s _ _ (T1.setTop (mkF m 4 #[rv a0, iv p1] []))
  refine own_via (fun k => XS.aloadN X1.here hx rfl (hb hby d2_4) rfl rfl  (XS.iloadN X1.here hx rfl (hb hby d2_5) rfl  k)) ?_
  show own_Go p e below s _ _ (T1.setTop (mkF m 6 #[rv a0, iv p1] [(.int p1), (.ref a0)]))
  obtain ⟨T2, h2, X2, e2, W2, st2⟩ := putFN X1 hx hZ hown (hw _ (List.mem_of_getElem? (i := 13) rfl)) Via.refl e1 P0 P5 (Or.inr ⟨(hw _ (List.mem_of_getElem? (i := 14) rfl)), rfl, hnm⟩) (hw _ (List.mem_of_getElem? (i := 5) rfl)) (ty := .boolean) (v := (.int p1)) (v' := (.int p1)) (by decide) (congrArg Value.int hbo) (own_fits hbo (fits_nar_bool _)) (g := (mkF m 6 #[rv a0, iv p1] [(.int p1), (.ref a0)])) rfl rfl (hb hby d2_6)
  refine own_via (fun k => st2 _ k) ?_
  show own_Go p e below s _ _ (T2.setTop (mkF m 9 #[rv a0, iv p1] []))
  have B3 := P1.other W2 (Or.inr (slot_ne (Or.inl (hw _ (List.mem_of_getElem? (i := 16) rfl))) (Or.inr (hw _ (List.mem_of_getElem? (i := 14) rfl))) (by decide) (t := .boolean) (t' := .boolean) (by decide) (by decide)))
  have B4 := P2.other W2 (Or.inr (slot_ne (Or.inl (hw _ (List.mem_of_getElem? (i := 18) rfl))) (Or.inr (hw _ (List.mem_of_getElem? (i := 14) rfl))) (by decide) (t := .boolean) (t' := .boolean) (by decide) (by decide)))
  have B5 := P3.other W2 (Or.inr (slot_ne (Or.inl (hw _ (List.mem_of_getElem? (i := 20) rfl))) (Or.inr (hw _ (List.mem_of_getElem? (i := 14) rfl))) (by decide) (t := .int) (t' := .boolean) (by decide) (by decide)))
  have B6 := P4.other W2 (Or.inr (slot_ne (Or.inl (hw _ (List.mem_of_getElem? (i := 22) rfl))) (Or.inr (hw _ (List.mem_of_getElem? (i := 14) rfl))) (by decide) (t := .int) (t' := .boolean) (by decide) (by decide)))
  have B7 := P5.wr W2
  have B8 : Fld Z h2 a0 "com/example/tree_to_rows/treetorows/xml/DocumentPlace" "xml11" "Z" (.int p1) := P0.same W2
  have N9 := Fr.snoc X2 N0 ge0
  have K10 : Keep h0 h2 [a0] := K0.wr W2 (Or.inl (List.mem_of_getElem? (i := 0) rfl))
  have Z11 : n0 ≤ h2.size := Nat.le_trans Z0 (Keep.of_wr W2).1
  refine own_via (fun k => XS.aloadN X2.here hx rfl (hb hby d2_9) rfl rfl  (XS.iconst X2.here hx rfl (hb hby d2_10) k)) ?_
  show own_Go p e below s _ _ (T2.setTop (mkF m 11 #[rv a0, iv p1] [(.int 1), (.ref a0)]))
  obtain ⟨T12, h12, X12, e12, W12, st12⟩ := putFN X2 hx hZ hown (hw _ (List.mem_of_getElem? (i := 15) rfl)) Via.refl e2 B3 B7 (Or.inl (hw _ (List.mem_of_getElem? (i := 16) rfl))) (hw _ (List.mem_of_getElem? (i := 5) rfl)) (ty := .boolean) (v := (.int 1)) (v' := (.int (1 : Int32))) (by decide) rfl (by decide) (g := (mkF m 11 #[rv a0, iv p1] [(.int 1), (.ref a0)])) rfl rfl (hb hby d2_11)
  refine own_via (fun k => st12 _ k) ?_
  show own_Go p e below s _ _ (T12.setTop (mkF m 14 #[rv a0, iv p1] []))
  have B13 := B4.other W12 (Or.inr (slot_ne (Or.inl (hw _ (List.mem_of_getElem? (i := 18) rfl))) (Or.inl (hw _ (List.mem_of_getElem? (i := 16) rfl))) (by decide) (t := .boolean) (t' := .boolean) (by decide) (by decide)))
  have B14 := B5.other W12 (Or.inr (slot_ne (Or.inl (hw _ (List.mem_of_getElem? (i := 20) rfl))) (Or.inl (hw _ (List.mem_of_getElem? (i := 16) rfl))) (by decide) (t := .int) (t' := .boolean) (by decide) (by decide)))
  have B15 := B6.other W12 (Or.inr (slot_ne (Or.inl (hw _ (List.mem_of_getElem? (i := 22) rfl))) (Or.inl (hw _ (List.mem_of_getElem? (i := 16) rfl))) (by decide) (t := .int) (t' := .boolean) (by decide) (by decide)))
  have B16 := B7.wr W12
  have B17 := B8.other W12 (Or.inr (slot_ne (Or.inr (hw _ (List.mem_of_getElem? (i := 14) rfl))) (Or.inl (hw _ (List.mem_of_getElem? (i := 16) rfl))) (by decide) (t := .boolean) (t' := .boolean) (by decide) (by decide)))
  have B18 : Fld Z h12 a0 "com/example/tree_to_rows/treetorows/xml/DocumentPlace" "firstCharacter" "Z" (.int 1) := B3.same W12
  have N19 := Fr.snoc X12 N9 ge0
  have K20 : Keep h0 h12 [a0] := K10.wr W12 (Or.inl (List.mem_of_getElem? (i := 0) rfl))
  have Z21 : n0 ≤ h12.size := Nat.le_trans Z11 (Keep.of_wr W12).1
  refine own_via (fun k => XS.aloadN X12.here hx rfl (hb hby d2_14) rfl rfl  (XS.iconst X12.here hx rfl (hb hby d2_15) k)) ?_
  show own_Go p e below s _ _ (T12.setTop (mkF m 16 #[rv a0, iv p1] [(.int 0), (.ref a0)]))
  obtain ⟨T22, h22, X22, e22, W22, st22⟩ := putFN X12 hx hZ hown (hw _ (List.mem_of_getElem? (i := 17) rfl)) Via.refl e12 B13 B16 (Or.inl (hw _ (List.mem_of_getElem? (i := 18) rfl))) (hw _ (List.mem_of_getElem? (i := 5) rfl)) (ty := .boolean) (v := (.int 0)) (v' := (.int (0 : Int32))) (by decide) rfl (by decide) (g := (mkF m 16 #[rv a0, iv p1] [(.int 0), (.ref a0)])) rfl rfl (hb hby d2_16)
  refine own_via (fun k => st22 _ k) ?_
  show own_Go p e below s _ _ (T22.setTop (mkF m 19 #[rv a0, iv p1] []))
  have B23 := B14.other W22 (Or.inr (slot_ne (Or.inl (hw _ (List.mem_of_getElem? (i := 20) rfl))) (Or.inl (hw _ (List.mem_of_getElem? (i := 18) rfl))) (by decide) (t := .int) (t' := .boolean) (by decide) (by decide)))
  have B24 := B15.other W22 (Or.inr (slot_ne (Or.inl (hw _ (List.mem_of_getElem? (i := 22) rfl))) (Or.inl (hw _ (List.mem_of_getElem? (i := 18) rfl))) (by decide) (t := .int) (t' := .boolean) (by decide) (by decide)))
  have B25 := B16.wr W22
  have B26 := B17.other W22 (Or.inr (slot_ne (Or.inr (hw _ (List.mem_of_getElem? (i := 14) rfl))) (Or.inl (hw _ (List.mem_of_getElem? (i := 18) rfl))) (by decide) (t := .boolean) (t' := .boolean) (by decide) (by decide)))
  have B27 := B18.other W22 (Or.inr (slot_ne (Or.inl (hw _ (List.mem_of_getElem? (i := 16) rfl))) (Or.inl (hw _ (List.mem_of_getElem? (i := 18) rfl))) (by decide) (t := .boolean) (t' := .boolean) (by decide) (by decide)))
  have B28 : Fld Z h22 a0 "com/example/tree_to_rows/treetorows/xml/DocumentPlace" "afterCarriageReturn" "Z" (.int 0) := B13.same W22
  have N29 := Fr.snoc X22 N19 ge0
  have K30 : Keep h0 h22 [a0] := K20.wr W22 (Or.inl (List.mem_of_getElem? (i := 0) rfl))
  have Z31 : n0 ≤ h22.size := Nat.le_trans Z21 (Keep.of_wr W22).1
  refine own_via (fun k => XS.aloadN X22.here hx rfl (hb hby d2_19) rfl rfl  (XS.iconst X22.here hx rfl (hb hby d2_20) k)) ?_
  show own_Go p e below s _ _ (T22.setTop (mkF m 21 #[rv a0, iv p1] [(.int 1), (.ref a0)]))
  obtain ⟨T32, h32, X32, e32, W32, st32⟩ := putF X22 hx hZ hown (host := "") (Or.inl (hw _ (List.mem_of_getElem? (i := 19) rfl))) Via.refl e22 B23 B25 (Or.inl (hw _ (List.mem_of_getElem? (i := 20) rfl))) (hw _ (List.mem_of_getElem? (i := 5) rfl)) (ty := .int) (by decide) rfl rfl (g := (mkF m 21 #[rv a0, iv p1] [(.int 1), (.ref a0)])) rfl rfl (hb hby d2_21)
  refine own_via (fun k => st32 _ k) ?_
  show own_Go p e below s _ _ (T32.setTop (mkF m 24 #[rv a0, iv p1] []))
  have B33 := B24.other W32 (Or.inr (slot_ne (Or.inl (hw _ (List.mem_of_getElem? (i := 22) rfl))) (Or.inl (hw _ (List.mem_of_getElem? (i := 20) rfl))) (by decide) (t := .int) (t' := .int) (by decide) (by decide)))
  have B34 := B25.wr W32
  have B35 := B26.other W32 (Or.inr (slot_ne (Or.inr (hw _ (List.mem_of_getElem? (i := 14) rfl))) (Or.inl (hw _ (List.mem_of_getElem? (i := 20) rfl))) (by decide) (t := .boolean) (t' := .int) (by decide) (by decide)))
  have B36 := B27.other W32 (Or.inr (slot_ne (Or.inl (hw _ (List.mem_of_getElem? (i := 16) rfl))) (Or.inl (hw _ (List.mem_of_getElem? (i := 20) rfl))) (by decide) (t := .boolean) (t' := .int) (by decide) (by decide)))
  have B37 := B28.other W32 (Or.inr (slot_ne (Or.inl (hw _ (List.mem_of_getElem? (i := 18) rfl))) (Or.inl (hw _ (List.mem_of_getElem? (i := 20) rfl))) (by decide) (t := .boolean) (t' := .int) (by decide) (by decide)))
  have B38 : Fld Z h32 a0 "com/example/tree_to_rows/treetorows/xml/DocumentPlace" "line" "I" (.int 1) := B23.same W32
  have N39 := Fr.snoc X32 N29 ge0
  have K40 : Keep h0 h32 [a0] := K30.wr W32 (Or.inl (List.mem_of_getElem? (i := 0) rfl))
  have Z41 : n0 ≤ h32.size := Nat.le_trans Z31 (Keep.of_wr W32).1
  refine own_via (fun k => XS.aloadN X32.here hx rfl (hb hby d2_24) rfl rfl  (XS.iconst X32.here hx rfl (hb hby d2_25) k)) ?_
  show own_Go p e below s _ _ (T32.setTop (mkF m 26 #[rv a0, iv p1] [(.int 1), (.ref a0)]))
  obtain ⟨T42, h42, X42, e42, W42, st42⟩ := putF X32 hx hZ hown (host := "") (Or.inl (hw _ (List.mem_of_getElem? (i := 21) rfl))) Via.refl e32 B33 B34 (Or.inl (hw _ (List.mem_of_getElem? (i := 22) rfl))) (hw _ (List.mem_of_getElem? (i := 5) rfl)) (ty := .int) (by decide) rfl rfl (g := (mkF m 26 #[rv a0, iv p1] [(.int 1), (.ref a0)])) rfl rfl (hb hby d2_26)
  refine own_via (fun k => st42 _ k) ?_
  show own_Go p e below s _ _ (T42.setTop (mkF m 29 #[rv a0, iv p1] []))
  have B43 := B34.wr W42
  have B44 := B35.other W42 (Or.inr (slot_ne (Or.inr (hw _ (List.mem_of_getElem? (i := 14) rfl))) (Or.inl (hw _ (List.mem_of_getElem? (i := 22) rfl))) (by decide) (t := .boolean) (t' := .int) (by decide) (by decide)))
  have B45 := B36.other W42 (Or.inr (slot_ne (Or.inl (hw _ (List.mem_of_getElem? (i := 16) rfl))) (Or.inl (hw _ (List.mem_of_getElem? (i := 22) rfl))) (by decide) (t := .boolean) (t' := .int) (by decide) (by decide)))
  have B46 := B37.other W42 (Or.inr (slot_ne (Or.inl (hw _ (List.mem_of_getElem? (i := 18) rfl))) (Or.inl (hw _ (List.mem_of_getElem? (i := 22) rfl))) (by decide) (t := .boolean) (t' := .int) (by decide) (by decide)))
  have B47 := B38.other W42 (Or.inr (slot_ne (Or.inl (hw _ (List.mem_of_getElem? (i := 20) rfl))) (Or.inl (hw _ (List.mem_of_getElem? (i := 22) rfl))) (by decide) (t := .int) (t' := .int) (by decide) (by decide)))
  have B48 : Fld Z h42 a0 "com/example/tree_to_rows/treetorows/xml/DocumentPlace" "column" "I" (.int 1) := B33.same W42
  have N49 := Fr.snoc X42 N39 ge0
  have K50 : Keep h0 h42 [a0] := K40.wr W42 (Or.inl (List.mem_of_getElem? (i := 0) rfl))
  have Z51 : n0 ≤ h42.size := Nat.le_trans Z41 (Keep.of_wr W42).1
  exact own_ret0 X42 hx hlk Bd.returns (hb hby d2_29) (Q := (Q2 Z a0 p1 h0 n0)) ⟨rfl, N49, (by rw [e42]; exact K50), (by rw [e42]; exact B44), (by rw [e42]; exact B45), (by rw [e42]; exact B46), (by rw [e42]; exact B47), (by rw [e42]; exact B48)⟩ (by decide) (by decide)
theorem d4_0 : decode prog_92_method_2_code 0 = .ok (.aload_n 0, 1) := by decide +kernel
theorem d4_1 : decode prog_92_method_2_code 1 = .ok (.getfield 13, 3) := by decide +kernel
theorem d4_4 : decode prog_92_method_2_code 4 = .ok (.ifCond .eq 13, 3) := by decide +kernel
theorem d4_7 : decode prog_92_method_2_code 7 = .ok (.iload_n 1, 1) := by decide +kernel
theorem d4_8 : decode prog_92_method_2_code 8 = .ok (.ldc 26, 2) := by decide +kernel
theorem d4_10 : decode prog_92_method_2_code 10 = .ok (.if_icmp .ne 7, 3) := by decide +kernel
theorem d4_13 : decode prog_92_method_2_code 13 = .ok (.iconst 1, 1) := by decide +kernel
theorem d4_14 : decode prog_92_method_2_code 14 = .ok (.goto 4, 3) := by decide +kernel
theorem d4_17 : decode prog_92_method_2_code 17 = .ok (.iconst 0, 1) := by decide +kernel
theorem d4_18 : decode prog_92_method_2_code 18 = .ok (.istore_n 2, 1) := by decide +kernel
theorem d4_19 : decode prog_92_method_2_code 19 = .ok (.aload_n 0, 1) := by decide +kernel
theorem d4_20 : decode prog_92_method_2_code 20 = .ok (.iconst 0, 1) := by decide +kernel
theorem d4_21 : decode prog_92_method_2_code 21 = .ok (.putfield 13, 3) := by decide +kernel
theorem d4_24 : decode prog_92_method_2_code 24 = .ok (.iload_n 2, 1) := by decide +kernel
theorem d4_25 : decode prog_92_method_2_code 25 = .ok (.ifCond .ne 132, 3) := by decide +kernel
theorem d4_28 : decode prog_92_method_2_code 28 = .ok (.iload_n 1, 1) := by decide +kernel
theorem d4_29 : decode prog_92_method_2_code 29 = .ok (.bipush 13, 2) := by decide +kernel
theorem d4_31 : decode prog_92_method_2_code 31 = .ok (.if_icmp .eq 30, 3) := by decide +kernel
theorem d4_34 : decode prog_92_method_2_code 34 = .ok (.iload_n 1, 1) := by decide +kernel
theorem d4_35 : decode prog_92_method_2_code 35 = .ok (.bipush 10, 2) := by decide +kernel
theorem d4_37 : decode prog_92_method_2_code 37 = .ok (.if_icmp .eq 24, 3) := by decide +kernel
theorem d4_40 : decode prog_92_method_2_code 40 = .ok (.aload_n 0, 1) := by decide +kernel
theorem d4_41 : decode prog_92_method_2_code 41 = .ok (.getfield 7, 3) := by decide +kernel
theorem d4_44 : decode prog_92_method_2_code 44 = .ok (.ifCond .eq 21, 3) := by decide +kernel
theorem d4_47 : decode prog_92_method_2_code 47 = .ok (.iload_n 1, 1) := by decide +kernel
theorem d4_48 : decode prog_92_method_2_code 48 = .ok (.sipush 133, 3) := by decide +kernel
theorem d4_51 : decode prog_92_method_2_code 51 = .ok (.if_icmp .eq 10, 3) := by decide +kernel
theorem d4_54 : decode prog_92_method_2_code 54 = .ok (.iload_n 1, 1) := by decide +kernel
theorem d4_55 : decode prog_92_method_2_code 55 = .ok (.sipush 8232, 3) := by decide +kernel
theorem d4_58 : decode prog_92_method_2_code 58 = .ok (.if_icmp .ne 7, 3) := by decide +kernel
theorem d4_61 : decode prog_92_method_2_code 61 = .ok (.iconst 1, 1) := by decide +kernel
theorem d4_62 : decode prog_92_method_2_code 62 = .ok (.goto 4, 3) := by decide +kernel
theorem d4_65 : decode prog_92_method_2_code 65 = .ok (.iconst 0, 1) := by decide +kernel
theorem d4_66 : decode prog_92_method_2_code 66 = .ok (.istore_n 3, 1) := by decide +kernel
theorem d4_67 : decode prog_92_method_2_code 67 = .ok (.aload_n 0, 1) := by decide +kernel
theorem d4_68 : decode prog_92_method_2_code 68 = .ok (.getfield 16, 3) := by decide +kernel
theorem d4_71 : decode prog_92_method_2_code 71 = .ok (.ifCond .eq 27, 3) := by decide +kernel
theorem d4_74 : decode prog_92_method_2_code 74 = .ok (.iload_n 1, 1) := by decide +kernel
theorem d4_75 : decode prog_92_method_2_code 75 = .ok (.bipush 10, 2) := by decide +kernel
theorem d4_77 : decode prog_92_method_2_code 77 = .ok (.if_icmp .eq 17, 3) := by decide +kernel
theorem d4_80 : decode prog_92_method_2_code 80 = .ok (.aload_n 0, 1) := by decide +kernel
theorem d4_81 : decode prog_92_method_2_code 81 = .ok (.getfield 7, 3) := by decide +kernel
theorem d4_84 : decode prog_92_method_2_code 84 = .ok (.ifCond .eq 14, 3) := by decide +kernel
theorem d4_87 : decode prog_92_method_2_code 87 = .ok (.iload_n 1, 1) := by decide +kernel
theorem d4_88 : decode prog_92_method_2_code 88 = .ok (.sipush 133, 3) := by decide +kernel
theorem d4_91 : decode prog_92_method_2_code 91 = .ok (.if_icmp .ne 7, 3) := by decide +kernel
theorem d4_94 : decode prog_92_method_2_code 94 = .ok (.iconst 1, 1) := by decide +kernel
theorem d4_95 : decode prog_92_method_2_code 95 = .ok (.goto 4, 3) := by decide +kernel
theorem d4_98 : decode prog_92_method_2_code 98 = .ok (.iconst 0, 1) := by decide +kernel
theorem d4_99 : decode prog_92_method_2_code 99 = .ok (.istore 4, 2) := by decide +kernel
theorem d4_101 : decode prog_92_method_2_code 101 = .ok (.iload_n 3, 1) := by decide +kernel
theorem d4_102 : decode prog_92_method_2_code 102 = .ok (.ifCond .eq 26, 3) := by decide +kernel
theorem d4_105 : decode prog_92_method_2_code 105 = .ok (.iload 4, 2) := by decide +kernel
theorem d4_107 : decode prog_92_method_2_code 107 = .ok (.ifCond .ne 21, 3) := by decide +kernel
theorem d4_110 : decode prog_92_method_2_code 110 = .ok (.aload_n 0, 1) := by decide +kernel
theorem d4_111 : decode prog_92_method_2_code 111 = .ok (.dup, 1) := by decide +kernel
theorem d4_112 : decode prog_92_method_2_code 112 = .ok (.getfield 19, 3) := by decide +kernel
theorem d4_115 : decode prog_92_method_2_code 115 = .ok (.iconst 1, 1) := by decide +kernel
theorem d4_116 : decode prog_92_method_2_code 116 = .ok (.iadd, 1) := by decide +kernel
theorem d4_117 : decode prog_92_method_2_code 117 = .ok (.putfield 19, 3) := by decide +kernel
theorem d4_120 : decode prog_92_method_2_code 120 = .ok (.aload_n 0, 1) := by decide +kernel
theorem d4_121 : decode prog_92_method_2_code 121 = .ok (.iconst 1, 1) := by decide +kernel
theorem d4_122 : decode prog_92_method_2_code 122 = .ok (.putfield 23, 3) := by decide +kernel
theorem d4_125 : decode prog_92_method_2_code 125 = .ok (.goto 17, 3) := by decide +kernel
theorem d4_128 : decode prog_92_method_2_code 128 = .ok (.iload_n 3, 1) := by decide +kernel
theorem d4_129 : decode prog_92_method_2_code 129 = .ok (.ifCond .ne 13, 3) := by decide +kernel
theorem d4_132 : decode prog_92_method_2_code 132 = .ok (.aload_n 0, 1) := by decide +kernel
theorem d4_133 : decode prog_92_method_2_code 133 = .ok (.dup, 1) := by decide +kernel
theorem d4_134 : decode prog_92_method_2_code 134 = .ok (.getfield 23, 3) := by decide +kernel
theorem d4_137 : decode prog_92_method_2_code 137 = .ok (.iconst 1, 1) := by decide +kernel
theorem d4_138 : decode prog_92_method_2_code 138 = .ok (.iadd, 1) := by decide +kernel
theorem d4_139 : decode prog_92_method_2_code 139 = .ok (.putfield 23, 3) := by decide +kernel
theorem d4_142 : decode prog_92_method_2_code 142 = .ok (.aload_n 0, 1) := by decide +kernel
theorem d4_143 : decode prog_92_method_2_code 143 = .ok (.iload_n 1, 1) := by decide +kernel
theorem d4_144 : decode prog_92_method_2_code 144 = .ok (.bipush 13, 2) := by decide +kernel
theorem d4_146 : decode prog_92_method_2_code 146 = .ok (.if_icmp .ne 7, 3) := by decide +kernel
theorem d4_149 : decode prog_92_method_2_code 149 = .ok (.iconst 1, 1) := by decide +kernel
theorem d4_150 : decode prog_92_method_2_code 150 = .ok (.goto 4, 3) := by decide +kernel
theorem d4_153 : decode prog_92_method_2_code 153 = .ok (.iconst 0, 1) := by decide +kernel
theorem d4_154 : decode prog_92_method_2_code 154 = .ok (.putfield 16, 3) := by decide +kernel
theorem d4_157 : decode prog_92_method_2_code 157 = .ok (.return_, 1) := by decide +kernel
theorem pn_4 : plainName "com/example/tree_to_rows/treetorows/xml/DocumentPlace" = true := by first | (simp [plainName, overriddenIn]; done) | decide +kernel
theorem ef_4 (m : MethodId) (x0 : Addr) (x1 : Int32) : entryFrame m #[(.ref x0), (.int x1)] 5 = mkF m 0 #[rv x0, iv x1, .unset, .unset, .unset] [] := by first | (simp [entryFrame, mkF, argsToLocals, Value.category]; done) | rfl
def own_f4a (p1 : Int32) (x11 : Int32) (fc : Int32) (acr : Int32) : Int32 := (let z2 : Int32 := (if fc = (0 : Int32) then (0 : Int32) else (if p1 = (65279 : Int32) then (1 : Int32) else (0 : Int32))); (if z2 = (0 : Int32) then (let z16 : Int32 := (if p1 = (13 : Int32) then (1 : Int32) else (if p1 = (10 : Int32) then (1 : Int32) else (if x11 = (0 : Int32) then (0 : Int32) else (if p1 = (133 : Int32) then (1 : Int32) else (if p1 = (8232 : Int32) then (1 : Int32) else (0 : Int32)))))); (let z20 : Int32 := (if acr = (0 : Int32) then (0 : Int32) else (if p1 = (10 : Int32) then (1 : Int32) else (if x11 = (0 : Int32) then (0 : Int32) else (if p1 = (133 : Int32) then (1 : Int32) else (0 : Int32))))); (if z16 = (0 : Int32) then (if p1 = (13 : Int32) then (1 : Int32) else (0 : Int32)) else (if z20 = (0 : Int32) then (if p1 = (13 : Int32) then (1 : Int32) else (0 : Int32)) else (if p1 = (13 : Int32) then (1 : Int32) else (0 : Int32)))))) else acr))
def own_f4l (p1 : Int32) (x11 : Int32) (fc : Int32) (acr : Int32) (ln : Int32) : Int32 := (let z2 : Int32 := (if fc = (0 : Int32) then (0 : Int32) else (if p1 = (65279 : Int32) then (1 : Int32) else (0 : Int32))); (if z2 = (0 : Int32) then (let z16 : Int32 := (if p1 = (13 : Int32) then (1 : Int32) else (if p1 = (10 : Int32) then (1 : Int32) else (if x11 = (0 : Int32) then (0 : Int32) else (if p1 = (133 : Int32) then (1 : Int32) else (if p1 = (8232 : Int32) then (1 : Int32) else (0 : Int32)))))); (let z20 : Int32 := (if acr = (0 : Int32) then (0 : Int32) else (if p1 = (10 : Int32) then (1 : Int32) else (if x11 = (0 : Int32) then (0 : Int32) else (if p1 = (133 : Int32) then (1 : Int32) else (0 : Int32))))); (if z16 = (0 : Int32) then (if p1 = (13 : Int32) then ln else ln) else (if z20 = (0 : Int32) then (if p1 = (13 : Int32) then (ln + (1 : Int32)) else (ln + (1 : Int32))) else (if p1 = (13 : Int32) then ln else ln))))) else ln))
def own_f4k (p1 : Int32) (x11 : Int32) (fc : Int32) (acr : Int32) (cl : Int32) : Int32 := (let z2 : Int32 := (if fc = (0 : Int32) then (0 : Int32) else (if p1 = (65279 : Int32) then (1 : Int32) else (0 : Int32))); (if z2 = (0 : Int32) then (let z16 : Int32 := (if p1 = (13 : Int32) then (1 : Int32) else (if p1 = (10 : Int32) then (1 : Int32) else (if x11 = (0 : Int32) then (0 : Int32) else (if p1 = (133 : Int32) then (1 : Int32) else (if p1 = (8232 : Int32) then (1 : Int32) else (0 : Int32)))))); (let z20 : Int32 := (if acr = (0 : Int32) then (0 : Int32) else (if p1 = (10 : Int32) then (1 : Int32) else (if x11 = (0 : Int32) then (0 : Int32) else (if p1 = (133 : Int32) then (1 : Int32) else (0 : Int32))))); (if z16 = (0 : Int32) then (if p1 = (13 : Int32) then (cl + (1 : Int32)) else (cl + (1 : Int32))) else (if z20 = (0 : Int32) then (if p1 = (13 : Int32) then (1 : Int32) else (1 : Int32)) else (if p1 = (13 : Int32) then cl else cl))))) else cl))
def Q4 (Z : State) (a0 : Addr) (p1 : Int32) (x11 : Int32) (fc : Int32) (acr : Int32) (ln : Int32) (cl : Int32) (h0 : Heap) (n0 : Nat) (v : Option Value) (h : Heap) (L : List Loc) : Prop := v = none ∧ Fr n0 L ∧ Keep h0 h [a0] ∧ Fld Z h a0 "com/example/tree_to_rows/treetorows/xml/DocumentPlace" "xml11" "Z" (.int x11) ∧ Fld Z h a0 "com/example/tree_to_rows/treetorows/xml/DocumentPlace" "firstCharacter" "Z" (.int 0) ∧ Fld Z h a0 "com/example/tree_to_rows/treetorows/xml/DocumentPlace" "afterCarriageReturn" "Z" (.int (own_f4a p1 x11 fc acr)) ∧ Fld Z h a0 "com/example/tree_to_rows/treetorows/xml/DocumentPlace" "line" "I" (.int (own_f4l p1 x11 fc acr ln)) ∧ Fld Z h a0 "com/example/tree_to_rows/treetorows/xml/DocumentPlace" "column" "I" (.int (own_f4k p1 x11 fc acr cl))
set_option maxRecDepth 65536 in
set_option maxHeartbeats 40000000 in
theorem rm4 (l : Launch) (Z : State) (aw : Array Value) (hw : ∀ d ∈ tables_1, d.before aw Z = true) (ws : List Jvm.Cond) (a0 : Addr) (p1 : Int32) (x11 : Int32) (fc : Int32) (acr : Int32) (ln : Int32) (cl : Int32) (h0 : Heap) (n0 : Nat) (Z0 : n0 ≤ h0.size) (P0 : Fld Z h0 a0 "com/example/tree_to_rows/treetorows/xml/DocumentPlace" "xml11" "Z" (.int x11)) (P1 : Fld Z h0 a0 "com/example/tree_to_rows/treetorows/xml/DocumentPlace" "firstCharacter" "Z" (.int fc)) (P2 : Fld Z h0 a0 "com/example/tree_to_rows/treetorows/xml/DocumentPlace" "afterCarriageReturn" "Z" (.int acr)) (P3 : Fld Z h0 a0 "com/example/tree_to_rows/treetorows/xml/DocumentPlace" "line" "I" (.int ln)) (P4 : Fld Z h0 a0 "com/example/tree_to_rows/treetorows/xml/DocumentPlace" "column" "I" (.int cl)) (P5 : Exa Z h0 a0 "com/example/tree_to_rows/treetorows/xml/DocumentPlace") (ge0 : n0 ≤ a0) :
    MetFree l (⟨"com/example/tree_to_rows/treetorows/xml/DocumentPlace", "pass", "(C)V"⟩ : MethodName) (head1 (Jvm.Cond.code (⟨"com/example/tree_to_rows/treetorows/xml/DocumentPlace", "pass", "(C)V"⟩ : MethodName) prog_92_method_2_code 5 none :: ws) ({ frames := 0, cells := 0, slots := 0, locals := 0 } : Room)) (fun a U => a = #[(.ref a0), (.int p1)] ∧ Z.Warmed39 U.vm ∧ U.heap = h0) (fun _ _ _ _ _ => True) (fun _ U o U' => ∃ v L, o = .returned v ∧ Q4 Z a0 p1 x11 fc acr ln cl h0 n0 v U'.heap L ∧ FrameEnd U o U' L ({ frames := 0, cells := 0, slots := 0, locals := 0 } : Room).cells ({ frames := 0, cells := 0, slots := 0, locals := 0 } : Room).slots) := by
  refine MetFree.of_bodySF (plainFor_of_name pn_4) hisR ?_
  intro p e s m args below meth c s₁ Bd hml0 hP hK
  obtain ⟨rfl, hZ, hh⟩ := hP
  have hx := Bd.exec
  have hby := Bd.bytes
  have hml : c.maxLocals = 5 := hml0
  have hown : s.vm.findClass "com/example/tree_to_rows/treetorows/xml/DocumentPlace" = some m.cls := findClass_of_methodNamed Bd.named
  have hnm := (name_of_methodNamed Bd.named Bd.method).1
  have hlk : meth.locks = false := by first | exact BodyLoose.notSynchronized (by assumption) | exact Body.notSynchronized (by assumption)
  have X0 : Stand p l e ({ frames := 0, cells := 0, slots := 0, locals := 0 } : Room) s m #[(.ref a0), (.int p1)] below meth c s₁ [] 0 0 := Stand.of_body Bd
  have e0 : s₁.heap = h0 := by rw [← hh, Bd.state]; rfl
  have N0 := Fr.nil n0
  have K0 : Keep h0 h0 [a0] := Keep.refl _ _
  refine own_start (CS := (0, 0)) (Q := (Q4 Z a0 p1 x11 fc acr ln cl h0 n0)) (ef_4 m a0 p1) ?_
  show own_Go p e below s _ _ (s₁.setTop (mkF m 0 #[rv a0, iv p1, .unset, .unset, .unset] []))
  refine own_via (fun k => XS.aloadN X0.here hx rfl (hb hby d4_0) rfl rfl  k) ?_
  show own_Go p e below s _ _ (s₁.setTop (mkF m 1 #[rv a0, iv p1, .unset, .unset, .unset] [(.ref a0)]))
  obtain ⟨T1, X1, e1, st1⟩ := getF X0 hx hZ hown (host := "") (Or.inl (hw _ (List.mem_of_getElem? (i := 15) rfl))) Via.refl e0 P1 (g := (mkF m 1 #[rv a0, iv p1, .unset, .unset, .unset] [(.ref a0)])) rfl rfl (hb hby d4_1)
  refine own_via (fun k => st1 _ k) ?_
  show own_Go p e below s _ _ (T1.setTop (mkF m 4 #[rv a0, iv p1, .unset, .unset, .unset] [(.int fc)]))
  have J3 : ∀ (z2 : Int32), z2 = (if fc = (0 : Int32) then (0 : Int32) else (if p1 = (65279 : Int32) then (1 : Int32) else (0 : Int32))) → own_Go p e below s (Q4 Z a0 p1 x11 fc acr ln cl h0 n0) (0, 0) (T1.setTop (mkF m 18 #[rv a0, iv p1, .unset, .unset, .unset] [(.int z2)])) := by
    intro z2 hz2
    refine own_via (fun k => XS.istoreN X1.here hx rfl (hb hby d4_18) rfl (l' := #[rv a0, iv p1, iv z2, .unset, .unset]) rfl (XS.aloadN X1.here hx rfl (hb hby d4_19) rfl rfl  (XS.iconst X1.here hx rfl (hb hby d4_20) k))) ?_
    show own_Go p e below s _ _ (T1.setTop (mkF m 21 #[rv a0, iv p1, iv z2, .unset, .unset] [(.int 0), (.ref a0)]))
    obtain ⟨T4, h4, X4, e4, W4, st4⟩ := putFN X1 hx hZ hown (hw _ (List.mem_of_getElem? (i := 15) rfl)) Via.refl e1 P1 P5 (Or.inl (hw _ (List.mem_of_getElem? (i := 16) rfl))) (hw _ (List.mem_of_getElem? (i := 5) rfl)) (ty := .boolean) (v := (.int 0)) (v' := (.int (0 : Int32))) (by decide) rfl (by decide) (g := (mkF m 21 #[rv a0, iv p1, iv z2, .unset, .unset] [(.int 0), (.ref a0)])) rfl rfl (hb hby d4_21)
    refine own_via (fun k => st4 _ k) ?_
    show own_Go p e below s _ _ (T4.setTop (mkF m 24 #[rv a0, iv p1, iv z2, .unset, .unset] []))
    have B5 := P0.other W4 (Or.inr (slot_ne (Or.inr (hw _ (List.mem_of_getElem? (i := 14) rfl))) (Or.inl (hw _ (List.mem_of_getElem? (i := 16) rfl))) (by decide) (t := .boolean) (t' := .boolean) (by decide) (by decide)))
    have B6 := P2.other W4 (Or.inr (slot_ne (Or.inl (hw _ (List.mem_of_getElem? (i := 18) rfl))) (Or.inl (hw _ (List.mem_of_getElem? (i := 16) rfl))) (by decide) (t := .boolean) (t' := .boolean) (by decide) (by decide)))
    have B7 := P3.other W4 (Or.inr (slot_ne (Or.inl (hw _ (List.mem_of_getElem? (i := 20) rfl))) (Or.inl (hw _ (List.mem_of_getElem? (i := 16) rfl))) (by decide) (t := .int) (t' := .boolean) (by decide) (by decide)))
    have B8 := P4.other W4 (Or.inr (slot_ne (Or.inl (hw _ (List.mem_of_getElem? (i := 22) rfl))) (Or.inl (hw _ (List.mem_of_getElem? (i := 16) rfl))) (by decide) (t := .int) (t' := .boolean) (by decide) (by decide)))
    have B9 := P5.wr W4
    have B10 : Fld Z h4 a0 "com/example/tree_to_rows/treetorows/xml/DocumentPlace" "firstCharacter" "Z" (.int 0) := P1.same W4
    have N11 := Fr.snoc X4 N0 ge0
    have K12 : Keep h0 h4 [a0] := K0.wr W4 (Or.inl (List.mem_of_getElem? (i := 0) rfl))
    have Z13 : n0 ≤ h4.size := Nat.le_trans Z0 (Keep.of_wr W4).1
    refine own_via (fun k => XS.iloadN X4.here hx rfl (hb hby d4_24) rfl  k) ?_
    show own_Go p e below s _ _ (T4.setTop (mkF m 25 #[rv a0, iv p1, iv z2, .unset, .unset] [(.int z2)]))
    by_cases hc14 : z2 = (0 : Int32)
    · refine own_via (fun k => XS.ifNo X4.here hx rfl (hb hby d4_25) rfl ((if0 _ _).trans (teq hc14).2) k) ?_
      show own_Go p e below s _ _ (T4.setTop (mkF m 28 #[rv a0, iv p1, iv z2, .unset, .unset] []))
      refine own_via (fun k => XS.iloadN X4.here hx rfl (hb hby d4_28) rfl  (XS.bipush X4.here hx rfl (hb hby d4_29) k)) ?_
      show own_Go p e below s _ _ (T4.setTop (mkF m 31 #[rv a0, iv p1, iv z2, .unset, .unset] [(.int 13), (.int p1)]))
      have J17 : ∀ (T17 : State) (lo17 : List Loc), Stand p l e ({ frames := 0, cells := 0, slots := 0, locals := 0 } : Room) s m #[(.ref a0), (.int p1)] below meth c T17 lo17 0 0 → Fr n0 lo17 → T17.heap = h4 → ∀ (z16 : Int32), z16 = (if p1 = (13 : Int32) then (1 : Int32) else (if p1 = (10 : Int32) then (1 : Int32) else (if x11 = (0 : Int32) then (0 : Int32) else (if p1 = (133 : Int32) then (1 : Int32) else (if p1 = (8232 : Int32) then (1 : Int32) else (0 : Int32)))))) → own_Go p e below s (Q4 Z a0 p1 x11 fc acr ln cl h0 n0) (0, 0) (T17.setTop (mkF m 66 #[rv a0, iv p1, iv z2, .unset, .unset] [(.int z16)])) := by
        intro T17 lo17 X17 N17 e17 z16 hz16
        refine own_via (fun k => XS.istoreN X17.here hx rfl (hb hby d4_66) rfl (l' := #[rv a0, iv p1, iv z2, iv z16, .unset]) rfl (XS.aloadN X17.here hx rfl (hb hby d4_67) rfl rfl  k)) ?_
        show own_Go p e below s _ _ (T17.setTop (mkF m 68 #[rv a0, iv p1, iv z2, iv z16, .unset] [(.ref a0)]))
        obtain ⟨T18, X18, e18, st18⟩ := getF X17 hx hZ hown (host := "") (Or.inl (hw _ (List.mem_of_getElem? (i := 17) rfl))) Via.refl e17 B6 (g := (mkF m 68 #[rv a0, iv p1, iv z2, iv z16, .unset] [(.ref a0)])) rfl rfl (hb hby d4_68)
        refine own_via (fun k => st18 _ k) ?_
        show own_Go p e below s _ _ (T18.setTop (mkF m 71 #[rv a0, iv p1, iv z2, iv z16, .unset] [(.int acr)]))
        have J21 : ∀ (T21 : State) (lo21 : List Loc), Stand p l e ({ frames := 0, cells := 0, slots := 0, locals := 0 } : Room) s m #[(.ref a0), (.int p1)] below meth c T21 lo21 0 0 → Fr n0 lo21 → T21.heap = h4 → ∀ (z20 : Int32), z20 = (if acr = (0 : Int32) then (0 : Int32) else (if p1 = (10 : Int32) then (1 : Int32) else (if x11 = (0 : Int32) then (0 : Int32) else (if p1 = (133 : Int32) then (1 : Int32) else (0 : Int32))))) → own_Go p e below s (Q4 Z a0 p1 x11 fc acr ln cl h0 n0) (0, 0) (T21.setTop (mkF m 99 #[rv a0, iv p1, iv z2, iv z16, .unset] [(.int z20)])) := by
          intro T21 lo21 X21 N21 e21 z20 hz20
          refine own_via (fun k => XS.istore X21.here hx rfl (hb hby d4_99) rfl (l' := #[rv a0, iv p1, iv z2, iv z16, iv z20]) rfl (XS.iloadN X21.here hx rfl (hb hby d4_101) rfl  k)) ?_
          show own_Go p e below s _ _ (T21.setTop (mkF m 102 #[rv a0, iv p1, iv z2, iv z16, iv z20] [(.int z16)]))
          by_cases hc22 : z16 = (0 : Int32)
          · refine own_via (fun k => XS.ifYes X21.here hx rfl (pc0 := 102) (pc' := 128) rfl (hb hby d4_102) rfl ((if0 _ _).trans (teq hc22).1) (by decide) (by decide) k) ?_
            show own_Go p e below s _ _ (T21.setTop (mkF m 128 #[rv a0, iv p1, iv z2, iv z16, iv z20] []))
            refine own_via (fun k => XS.iloadN X21.here hx rfl (hb hby d4_128) rfl  k) ?_
            show own_Go p e below s _ _ (T21.setTop (mkF m 129 #[rv a0, iv p1, iv z2, iv z16, iv z20] [(.int z16)]))
            refine own_via (fun k => XS.ifNo X21.here hx rfl (hb hby d4_129) rfl ((if0 _ _).trans (teq hc22).2) k) ?_
            show own_Go p e below s _ _ (T21.setTop (mkF m 132 #[rv a0, iv p1, iv z2, iv z16, iv z20] []))
            refine own_via (fun k => XS.aloadN X21.here hx rfl (hb hby d4_132) rfl rfl  (XS.dup X21.here hx rfl (hb hby d4_133) rfl rfl k)) ?_
            show own_Go p e below s _ _ (T21.setTop (mkF m 134 #[rv a0, iv p1, iv z2, iv z16, iv z20] [(.ref a0), (.ref a0)]))
            obtain ⟨T23, X23, e23, st23⟩ := getF X21 hx hZ hown (host := "") (Or.inl (hw _ (List.mem_of_getElem? (i := 21) rfl))) Via.refl e21 B8 (g := (mkF m 134 #[rv a0, iv p1, iv z2, iv z16, iv z20] [(.ref a0), (.ref a0)])) rfl rfl (hb hby d4_134)
            refine own_via (fun k => st23 _ k) ?_
            show own_Go p e below s _ _ (T23.setTop (mkF m 137 #[rv a0, iv p1, iv z2, iv z16, iv z20] [(.int cl), (.ref a0)]))
            refine own_via (fun k => XS.iconst X23.here hx rfl (hb hby d4_137) (XS.iadd X23.here hx rfl (hb hby d4_138) rfl k)) ?_
            show own_Go p e below s _ _ (T23.setTop (mkF m 139 #[rv a0, iv p1, iv z2, iv z16, iv z20] [(.int (cl + (1 : Int32))), (.ref a0)]))
            obtain ⟨T24, h24, X24, e24, W24, st24⟩ := putF X23 hx hZ hown (host := "") (Or.inl (hw _ (List.mem_of_getElem? (i := 21) rfl))) Via.refl e23 B8 B9 (Or.inl (hw _ (List.mem_of_getElem? (i := 22) rfl))) (hw _ (List.mem_of_getElem? (i := 5) rfl)) (ty := .int) (by decide) rfl rfl (g := (mkF m 139 #[rv a0, iv p1, iv z2, iv z16, iv z20] [(.int (cl + (1 : Int32))), (.ref a0)])) rfl rfl (hb hby d4_139)
            refine own_via (fun k => st24 _ k) ?_
            show own_Go p e below s _ _ (T24.setTop (mkF m 142 #[rv a0, iv p1, iv z2, iv z16, iv z20] []))
            have B25 := B5.other W24 (Or.inr (slot_ne (Or.inr (hw _ (List.mem_of_getElem? (i := 14) rfl))) (Or.inl (hw _ (List.mem_of_getElem? (i := 22) rfl))) (by decide) (t := .boolean) (t' := .int) (by decide) (by decide)))
            have B26 := B6.other W24 (Or.inr (slot_ne (Or.inl (hw _ (List.mem_of_getElem? (i := 18) rfl))) (Or.inl (hw _ (List.mem_of_getElem? (i := 22) rfl))) (by decide) (t := .boolean) (t' := .int) (by decide) (by decide)))
            have B27 := B7.other W24 (Or.inr (slot_ne (Or.inl (hw _ (List.mem_of_getElem? (i := 20) rfl))) (Or.inl (hw _ (List.mem_of_getElem? (i := 22) rfl))) (by decide) (t := .int) (t' := .int) (by decide) (by decide)))
            have B28 := B9.wr W24
            have B29 := B10.other W24 (Or.inr (slot_ne (Or.inl (hw _ (List.mem_of_getElem? (i := 16) rfl))) (Or.inl (hw _ (List.mem_of_getElem? (i := 22) rfl))) (by decide) (t := .boolean) (t' := .int) (by decide) (by decide)))
            have B30 : Fld Z h24 a0 "com/example/tree_to_rows/treetorows/xml/DocumentPlace" "column" "I" (.int (cl + (1 : Int32))) := B8.same W24
            have N31 := Fr.snoc X24 N21 ge0
            have K32 : Keep h0 h24 [a0] := K12.wr W24 (Or.inl (List.mem_of_getElem? (i := 0) rfl))
            have Z33 : n0 ≤ h24.size := Nat.le_trans Z13 (Keep.of_wr W24).1
            refine own_via (fun k => XS.aloadN X24.here hx rfl (hb hby d4_142) rfl rfl  (XS.iloadN X24.here hx rfl (hb hby d4_143) rfl  (XS.bipush X24.here hx rfl (hb hby d4_144) k))) ?_
            show own_Go p e below s _ _ (T24.setTop (mkF m 146 #[rv a0, iv p1, iv z2, iv z16, iv z20] [(.int 13), (.int p1), (.ref a0)]))
            by_cases hc34 : p1 = (13 : Int32)
            · refine own_via (fun k => XS.icmpNo X24.here hx rfl (hb hby d4_146) rfl (teq hc34).2 k) ?_
              show own_Go p e below s _ _ (T24.setTop (mkF m 149 #[rv a0, iv p1, iv z2, iv z16, iv z20] [(.ref a0)]))
              refine own_via (fun k => XS.iconst X24.here hx rfl (hb hby d4_149) (XS.goto X24.here hx rfl (pc0 := 150) (pc' := 154) rfl (hb hby d4_150) (by decide) (by decide) k)) ?_
              show own_Go p e below s _ _ (T24.setTop (mkF m 154 #[rv a0, iv p1, iv z2, iv z16, iv z20] [(.int 1), (.ref a0)]))
              obtain ⟨T35, h35, X35, e35, W35, st35⟩ := putFN X24 hx hZ hown (hw _ (List.mem_of_getElem? (i := 17) rfl)) Via.refl e24 B26 B28 (Or.inl (hw _ (List.mem_of_getElem? (i := 18) rfl))) (hw _ (List.mem_of_getElem? (i := 5) rfl)) (ty := .boolean) (v := (.int 1)) (v' := (.int (1 : Int32))) (by decide) rfl (by decide) (g := (mkF m 154 #[rv a0, iv p1, iv z2, iv z16, iv z20] [(.int 1), (.ref a0)])) rfl rfl (hb hby d4_154)
              refine own_via (fun k => st35 _ k) ?_
              show own_Go p e below s _ _ (T35.setTop (mkF m 157 #[rv a0, iv p1, iv z2, iv z16, iv z20] []))
              have B36 := B25.other W35 (Or.inr (slot_ne (Or.inr (hw _ (List.mem_of_getElem? (i := 14) rfl))) (Or.inl (hw _ (List.mem_of_getElem? (i := 18) rfl))) (by decide) (t := .boolean) (t' := .boolean) (by decide) (by decide)))
              have B37 := B27.other W35 (Or.inr (slot_ne (Or.inl (hw _ (List.mem_of_getElem? (i := 20) rfl))) (Or.inl (hw _ (List.mem_of_getElem? (i := 18) rfl))) (by decide) (t := .int) (t' := .boolean) (by decide) (by decide)))
              have B38 := B28.wr W35
              have B39 := B29.other W35 (Or.inr (slot_ne (Or.inl (hw _ (List.mem_of_getElem? (i := 16) rfl))) (Or.inl (hw _ (List.mem_of_getElem? (i := 18) rfl))) (by decide) (t := .boolean) (t' := .boolean) (by decide) (by decide)))
              have B40 := B30.other W35 (Or.inr (slot_ne (Or.inl (hw _ (List.mem_of_getElem? (i := 22) rfl))) (Or.inl (hw _ (List.mem_of_getElem? (i := 18) rfl))) (by decide) (t := .int) (t' := .boolean) (by decide) (by decide)))
              have B41 : Fld Z h35 a0 "com/example/tree_to_rows/treetorows/xml/DocumentPlace" "afterCarriageReturn" "Z" (.int 1) := B26.same W35
              have N42 := Fr.snoc X35 N31 ge0
              have K43 : Keep h0 h35 [a0] := K32.wr W35 (Or.inl (List.mem_of_getElem? (i := 0) rfl))
              have Z44 : n0 ≤ h35.size := Nat.le_trans Z33 (Keep.of_wr W35).1
              exact own_ret0 X35 hx hlk Bd.returns (hb hby d4_157) (Q := (Q4 Z a0 p1 x11 fc acr ln cl h0 n0)) ⟨rfl, N42, (by rw [e35]; exact K43), (by rw [e35]; exact B36), (by rw [e35]; exact B39), (by rw [e35]; exact own_fldI (show (1 : Int32) = (own_f4a p1 x11 fc acr) from (by subst hz20 hz16 hz2; unfold own_f4a; exact ((if_pos hc14).trans ((if_pos hc22).trans ((if_pos hc34).trans rfl))).symm)) B41), (by rw [e35]; exact own_fldI (show ln = (own_f4l p1 x11 fc acr ln) from (by subst hz20 hz16 hz2; unfold own_f4l; exact ((if_pos hc14).trans ((if_pos hc22).trans ((if_pos hc34).trans rfl))).symm)) B37), (by rw [e35]; exact own_fldI (show (cl + (1 : Int32)) = (own_f4k p1 x11 fc acr cl) from (by subst hz20 hz16 hz2; unfold own_f4k; exact ((if_pos hc14).trans ((if_pos hc22).trans ((if_pos hc34).trans rfl))).symm)) B40)⟩ (by decide) (by decide)
            · refine own_via (fun k => XS.icmpYes X24.here hx rfl (pc0 := 146) (pc' := 153) rfl (hb hby d4_146) rfl (feq hc34).2 (by decide) (by decide) k) ?_
              show own_Go p e below s _ _ (T24.setTop (mkF m 153 #[rv a0, iv p1, iv z2, iv z16, iv z20] [(.ref a0)]))
              refine own_via (fun k => XS.iconst X24.here hx rfl (hb hby d4_153) k) ?_
              show own_Go p e below s _ _ (T24.setTop (mkF m 154 #[rv a0, iv p1, iv z2, iv z16, iv z20] [(.int 0), (.ref a0)]))
              obtain ⟨T45, h45, X45, e45, W45, st45⟩ := putFN X24 hx hZ hown (hw _ (List.mem_of_getElem? (i := 17) rfl)) Via.refl e24 B26 B28 (Or.inl (hw _ (List.mem_of_getElem? (i := 18) rfl))) (hw _ (List.mem_of_getElem? (i := 5) rfl)) (ty := .boolean) (v := (.int 0)) (v' := (.int (0 : Int32))) (by decide) rfl (by decide) (g := (mkF m 154 #[rv a0, iv p1, iv z2, iv z16, iv z20] [(.int 0), (.ref a0)])) rfl rfl (hb hby d4_154)
              refine own_via (fun k => st45 _ k) ?_
              show own_Go p e below s _ _ (T45.setTop (mkF m 157 #[rv a0, iv p1, iv z2, iv z16, iv z20] []))
              have B46 := B25.other W45 (Or.inr (slot_ne (Or.inr (hw _ (List.mem_of_getElem? (i := 14) rfl))) (Or.inl (hw _ (List.mem_of_getElem? (i := 18) rfl))) (by decide) (t := .boolean) (t' := .boolean) (by decide) (by decide)))
              have B47 := B27.other W45 (Or.inr (slot_ne (Or.inl (hw _ (List.mem_of_getElem? (i := 20) rfl))) (Or.inl (hw _ (List.mem_of_getElem? (i := 18) rfl))) (by decide) (t := .int) (t' := .boolean) (by decide) (by decide)))
              have B48 := B28.wr W45
              have B49 := B29.other W45 (Or.inr (slot_ne (Or.inl (hw _ (List.mem_of_getElem? (i := 16) rfl))) (Or.inl (hw _ (List.mem_of_getElem? (i := 18) rfl))) (by decide) (t := .boolean) (t' := .boolean) (by decide) (by decide)))
              have B50 := B30.other W45 (Or.inr (slot_ne (Or.inl (hw _ (List.mem_of_getElem? (i := 22) rfl))) (Or.inl (hw _ (List.mem_of_getElem? (i := 18) rfl))) (by decide) (t := .int) (t' := .boolean) (by decide) (by decide)))
              have B51 : Fld Z h45 a0 "com/example/tree_to_rows/treetorows/xml/DocumentPlace" "afterCarriageReturn" "Z" (.int 0) := B26.same W45
              have N52 := Fr.snoc X45 N31 ge0
              have K53 : Keep h0 h45 [a0] := K32.wr W45 (Or.inl (List.mem_of_getElem? (i := 0) rfl))
              have Z54 : n0 ≤ h45.size := Nat.le_trans Z33 (Keep.of_wr W45).1
              exact own_ret0 X45 hx hlk Bd.returns (hb hby d4_157) (Q := (Q4 Z a0 p1 x11 fc acr ln cl h0 n0)) ⟨rfl, N52, (by rw [e45]; exact K53), (by rw [e45]; exact B46), (by rw [e45]; exact B49), (by rw [e45]; exact own_fldI (show (0 : Int32) = (own_f4a p1 x11 fc acr) from (by subst hz20 hz16 hz2; unfold own_f4a; exact ((if_pos hc14).trans ((if_pos hc22).trans ((if_neg hc34).trans rfl))).symm)) B51), (by rw [e45]; exact own_fldI (show ln = (own_f4l p1 x11 fc acr ln) from (by subst hz20 hz16 hz2; unfold own_f4l; exact ((if_pos hc14).trans ((if_pos hc22).trans ((if_neg hc34).trans rfl))).symm)) B47), (by rw [e45]; exact own_fldI (show (cl + (1 : Int32)) = (own_f4k p1 x11 fc acr cl) from (by subst hz20 hz16 hz2; unfold own_f4k; exact ((if_pos hc14).trans ((if_pos hc22).trans ((if_neg hc34).trans rfl))).symm)) B50)⟩ (by decide) (by decide)
          · refine own_via (fun k => XS.ifNo X21.here hx rfl (hb hby d4_102) rfl ((if0 _ _).trans (feq hc22).1) k) ?_
            show own_Go p e below s _ _ (T21.setTop (mkF m 105 #[rv a0, iv p1, iv z2, iv z16, iv z20] []))
            refine own_via (fun k => XS.iload X21.here hx rfl (hb hby d4_105) rfl  k) ?_
            show own_Go p e below s _ _ (T21.setTop (mkF m 107 #[rv a0, iv p1, iv z2, iv z16, iv z20] [(.int z20)]))
            by_cases hc55 : z20 = (0 : Int32)
            · refine own_via (fun k => XS.ifNo X21.here hx rfl (hb hby d4_107) rfl ((if0 _ _).trans (teq hc55).2) k) ?_
              show own_Go p e below s _ _ (T21.setTop (mkF m 110 #[rv a0, iv p1, iv z2, iv z16, iv z20] []))
              refine own_via (fun k => XS.aloadN X21.here hx rfl (hb hby d4_110) rfl rfl  (XS.dup X21.here hx rfl (hb hby d4_111) rfl rfl k)) ?_
              show own_Go p e below s _ _ (T21.setTop (mkF m 112 #[rv a0, iv p1, iv z2, iv z16, iv z20] [(.ref a0), (.ref a0)]))
              obtain ⟨T56, X56, e56, st56⟩ := getF X21 hx hZ hown (host := "") (Or.inl (hw _ (List.mem_of_getElem? (i := 19) rfl))) Via.refl e21 B7 (g := (mkF m 112 #[rv a0, iv p1, iv z2, iv z16, iv z20] [(.ref a0), (.ref a0)])) rfl rfl (hb hby d4_112)
              refine own_via (fun k => st56 _ k) ?_
              show own_Go p e below s _ _ (T56.setTop (mkF m 115 #[rv a0, iv p1, iv z2, iv z16, iv z20] [(.int ln), (.ref a0)]))
              refine own_via (fun k => XS.iconst X56.here hx rfl (hb hby d4_115) (XS.iadd X56.here hx rfl (hb hby d4_116) rfl k)) ?_
              show own_Go p e below s _ _ (T56.setTop (mkF m 117 #[rv a0, iv p1, iv z2, iv z16, iv z20] [(.int (ln + (1 : Int32))), (.ref a0)]))
              obtain ⟨T57, h57, X57, e57, W57, st57⟩ := putF X56 hx hZ hown (host := "") (Or.inl (hw _ (List.mem_of_getElem? (i := 19) rfl))) Via.refl e56 B7 B9 (Or.inl (hw _ (List.mem_of_getElem? (i := 20) rfl))) (hw _ (List.mem_of_getElem? (i := 5) rfl)) (ty := .int) (by decide) rfl rfl (g := (mkF m 117 #[rv a0, iv p1, iv z2, iv z16, iv z20] [(.int (ln + (1 : Int32))), (.ref a0)])) rfl rfl (hb hby d4_117)
              refine own_via (fun k => st57 _ k) ?_
              show own_Go p e below s _ _ (T57.setTop (mkF m 120 #[rv a0, iv p1, iv z2, iv z16, iv z20] []))
              have B58 := B5.other W57 (Or.inr (slot_ne (Or.inr (hw _ (List.mem_of_getElem? (i := 14) rfl))) (Or.inl (hw _ (List.mem_of_getElem? (i := 20) rfl))) (by decide) (t := .boolean) (t' := .int) (by decide) (by decide)))
              have B59 := B6.other W57 (Or.inr (slot_ne (Or.inl (hw _ (List.mem_of_getElem? (i := 18) rfl))) (Or.inl (hw _ (List.mem_of_getElem? (i := 20) rfl))) (by decide) (t := .boolean) (t' := .int) (by decide) (by decide)))
              have B60 := B8.other W57 (Or.inr (slot_ne (Or.inl (hw _ (List.mem_of_getElem? (i := 22) rfl))) (Or.inl (hw _ (List.mem_of_getElem? (i := 20) rfl))) (by decide) (t := .int) (t' := .int) (by decide) (by decide)))
              have B61 := B9.wr W57
              have B62 := B10.other W57 (Or.inr (slot_ne (Or.inl (hw _ (List.mem_of_getElem? (i := 16) rfl))) (Or.inl (hw _ (List.mem_of_getElem? (i := 20) rfl))) (by decide) (t := .boolean) (t' := .int) (by decide) (by decide)))
              have B63 : Fld Z h57 a0 "com/example/tree_to_rows/treetorows/xml/DocumentPlace" "line" "I" (.int (ln + (1 : Int32))) := B7.same W57
              have N64 := Fr.snoc X57 N21 ge0
              have K65 : Keep h0 h57 [a0] := K12.wr W57 (Or.inl (List.mem_of_getElem? (i := 0) rfl))
              have Z66 : n0 ≤ h57.size := Nat.le_trans Z13 (Keep.of_wr W57).1
              refine own_via (fun k => XS.aloadN X57.here hx rfl (hb hby d4_120) rfl rfl  (XS.iconst X57.here hx rfl (hb hby d4_121) k)) ?_
              show own_Go p e below s _ _ (T57.setTop (mkF m 122 #[rv a0, iv p1, iv z2, iv z16, iv z20] [(.int 1), (.ref a0)]))
              obtain ⟨T67, h67, X67, e67, W67, st67⟩ := putF X57 hx hZ hown (host := "") (Or.inl (hw _ (List.mem_of_getElem? (i := 21) rfl))) Via.refl e57 B60 B61 (Or.inl (hw _ (List.mem_of_getElem? (i := 22) rfl))) (hw _ (List.mem_of_getElem? (i := 5) rfl)) (ty := .int) (by decide) rfl rfl (g := (mkF m 122 #[rv a0, iv p1, iv z2, iv z16, iv z20] [(.int 1), (.ref a0)])) rfl rfl (hb hby d4_122)
              refine own_via (fun k => st67 _ k) ?_
              show own_Go p e below s _ _ (T67.setTop (mkF m 125 #[rv a0, iv p1, iv z2, iv z16, iv z20] []))
              have B68 := B58.other W67 (Or.inr (slot_ne (Or.inr (hw _ (List.mem_of_getElem? (i := 14) rfl))) (Or.inl (hw _ (List.mem_of_getElem? (i := 22) rfl))) (by decide) (t := .boolean) (t' := .int) (by decide) (by decide)))
              have B69 := B59.other W67 (Or.inr (slot_ne (Or.inl (hw _ (List.mem_of_getElem? (i := 18) rfl))) (Or.inl (hw _ (List.mem_of_getElem? (i := 22) rfl))) (by decide) (t := .boolean) (t' := .int) (by decide) (by decide)))
              have B70 := B61.wr W67
              have B71 := B62.other W67 (Or.inr (slot_ne (Or.inl (hw _ (List.mem_of_getElem? (i := 16) rfl))) (Or.inl (hw _ (List.mem_of_getElem? (i := 22) rfl))) (by decide) (t := .boolean) (t' := .int) (by decide) (by decide)))
              have B72 := B63.other W67 (Or.inr (slot_ne (Or.inl (hw _ (List.mem_of_getElem? (i := 20) rfl))) (Or.inl (hw _ (List.mem_of_getElem? (i := 22) rfl))) (by decide) (t := .int) (t' := .int) (by decide) (by decide)))
              have B73 : Fld Z h67 a0 "com/example/tree_to_rows/treetorows/xml/DocumentPlace" "column" "I" (.int 1) := B60.same W67
              have N74 := Fr.snoc X67 N64 ge0
              have K75 : Keep h0 h67 [a0] := K65.wr W67 (Or.inl (List.mem_of_getElem? (i := 0) rfl))
              have Z76 : n0 ≤ h67.size := Nat.le_trans Z66 (Keep.of_wr W67).1
              refine own_via (fun k => XS.goto X67.here hx rfl (pc0 := 125) (pc' := 142) rfl (hb hby d4_125) (by decide) (by decide) (XS.aloadN X67.here hx rfl (hb hby d4_142) rfl rfl  (XS.iloadN X67.here hx rfl (hb hby d4_143) rfl  (XS.bipush X67.here hx rfl (hb hby d4_144) k)))) ?_
              show own_Go p e below s _ _ (T67.setTop (mkF m 146 #[rv a0, iv p1, iv z2, iv z16, iv z20] [(.int 13), (.int p1), (.ref a0)]))
              by_cases hc77 : p1 = (13 : Int32)
              · refine own_via (fun k => XS.icmpNo X67.here hx rfl (hb hby d4_146) rfl (teq hc77).2 k) ?_
                show own_Go p e below s _ _ (T67.setTop (mkF m 149 #[rv a0, iv p1, iv z2, iv z16, iv z20] [(.ref a0)]))
                refine own_via (fun k => XS.iconst X67.here hx rfl (hb hby d4_149) (XS.goto X67.here hx rfl (pc0 := 150) (pc' := 154) rfl (hb hby d4_150) (by decide) (by decide) k)) ?_
                show own_Go p e below s _ _ (T67.setTop (mkF m 154 #[rv a0, iv p1, iv z2, iv z16, iv z20] [(.int 1), (.ref a0)]))
                obtain ⟨T78, h78, X78, e78, W78, st78⟩ := putFN X67 hx hZ hown (hw _ (List.mem_of_getElem? (i := 17) rfl)) Via.refl e67 B69 B70 (Or.inl (hw _ (List.mem_of_getElem? (i := 18) rfl))) (hw _ (List.mem_of_getElem? (i := 5) rfl)) (ty := .boolean) (v := (.int 1)) (v' := (.int (1 : Int32))) (by decide) rfl (by decide) (g := (mkF m 154 #[rv a0, iv p1, iv z2, iv z16, iv z20] [(.int 1), (.ref a0)])) rfl rfl (hb hby d4_154)
                refine own_via (fun k => st78 _ k) ?_
                show own_Go p e below s _ _ (T78.setTop (mkF m 157 #[rv a0, iv p1, iv z2, iv z16, iv z20] []))
                have B79 := B68.other W78 (Or.inr (slot_ne (Or.inr (hw _ (List.mem_of_getElem? (i := 14) rfl))) (Or.inl (hw _ (List.mem_of_getElem? (i := 18) rfl))) (by decide) (t := .boolean) (t' := .boolean) (by decide) (by decide)))
                have B80 := B70.wr W78
                have B81 := B71.other W78 (Or.inr (slot_ne (Or.inl (hw _ (List.mem_of_getElem? (i := 16) rfl))) (Or.inl (hw _ (List.mem_of_getElem? (i := 18) rfl))) (by decide) (t := .boolean) (t' := .boolean) (by decide) (by decide)))
                have B82 := B72.other W78 (Or.inr (slot_ne (Or.inl (hw _ (List.mem_of_getElem? (i := 20) rfl))) (Or.inl (hw _ (List.mem_of_getElem? (i := 18) rfl))) (by decide) (t := .int) (t' := .boolean) (by decide) (by decide)))
                have B83 := B73.other W78 (Or.inr (slot_ne (Or.inl (hw _ (List.mem_of_getElem? (i := 22) rfl))) (Or.inl (hw _ (List.mem_of_getElem? (i := 18) rfl))) (by decide) (t := .int) (t' := .boolean) (by decide) (by decide)))
                have B84 : Fld Z h78 a0 "com/example/tree_to_rows/treetorows/xml/DocumentPlace" "afterCarriageReturn" "Z" (.int 1) := B69.same W78
                have N85 := Fr.snoc X78 N74 ge0
                have K86 : Keep h0 h78 [a0] := K75.wr W78 (Or.inl (List.mem_of_getElem? (i := 0) rfl))
                have Z87 : n0 ≤ h78.size := Nat.le_trans Z76 (Keep.of_wr W78).1
                exact own_ret0 X78 hx hlk Bd.returns (hb hby d4_157) (Q := (Q4 Z a0 p1 x11 fc acr ln cl h0 n0)) ⟨rfl, N85, (by rw [e78]; exact K86), (by rw [e78]; exact B79), (by rw [e78]; exact B81), (by rw [e78]; exact own_fldI (show (1 : Int32) = (own_f4a p1 x11 fc acr) from (by subst hz20 hz16 hz2; unfold own_f4a; exact ((if_pos hc14).trans ((if_neg hc22).trans ((if_pos hc55).trans ((if_pos hc77).trans rfl)))).symm)) B84), (by rw [e78]; exact own_fldI (show (ln + (1 : Int32)) = (own_f4l p1 x11 fc acr ln) from (by subst hz20 hz16 hz2; unfold own_f4l; exact ((if_pos hc14).trans ((if_neg hc22).trans ((if_pos hc55).trans ((if_pos hc77).trans rfl)))).symm)) B82), (by rw [e78]; exact own_fldI (show (1 : Int32) = (own_f4k p1 x11 fc acr cl) from (by subst hz20 hz16 hz2; unfold own_f4k; exact ((if_pos hc14).trans ((if_neg hc22).trans ((if_pos hc55).trans ((if_pos hc77).trans rfl)))).symm)) B83)⟩ (by decide) (by decide)
              · refine own_via (fun k => XS.icmpYes X67.here hx rfl (pc0 := 146) (pc' := 153) rfl (hb hby d4_146) rfl (feq hc77).2 (by decide) (by decide) k) ?_
                show own_Go p e below s _ _ (T67.setTop (mkF m 153 #[rv a0, iv p1, iv z2, iv z16, iv z20] [(.ref a0)]))
                refine own_via (fun k => XS.iconst X67.here hx rfl (hb hby d4_153) k) ?_
                show own_Go p e below s _ _ (T67.setTop (mkF m 154 #[rv a0, iv p1, iv z2, iv z16, iv z20] [(.int 0), (.ref a0)]))
                obtain ⟨T88, h88, X88, e88, W88, st88⟩ := putFN X67 hx hZ hown (hw _ (List.mem_of_getElem? (i := 17) rfl)) Via.refl e67 B69 B70 (Or.inl (hw _ (List.mem_of_getElem? (i := 18) rfl))) (hw _ (List.mem_of_getElem? (i := 5) rfl)) (ty := .boolean) (v := (.int 0)) (v' := (.int (0 : Int32))) (by decide) rfl (by decide) (g := (mkF m 154 #[rv a0, iv p1, iv z2, iv z16, iv z20] [(.int 0), (.ref a0)])) rfl rfl (hb hby d4_154)
                refine own_via (fun k => st88 _ k) ?_
                show own_Go p e below s _ _ (T88.setTop (mkF m 157 #[rv a0, iv p1, iv z2, iv z16, iv z20] []))
                have B89 := B68.other W88 (Or.inr (slot_ne (Or.inr (hw _ (List.mem_of_getElem? (i := 14) rfl))) (Or.inl (hw _ (List.mem_of_getElem? (i := 18) rfl))) (by decide) (t := .boolean) (t' := .boolean) (by decide) (by decide)))
                have B90 := B70.wr W88
                have B91 := B71.other W88 (Or.inr (slot_ne (Or.inl (hw _ (List.mem_of_getElem? (i := 16) rfl))) (Or.inl (hw _ (List.mem_of_getElem? (i := 18) rfl))) (by decide) (t := .boolean) (t' := .boolean) (by decide) (by decide)))
                have B92 := B72.other W88 (Or.inr (slot_ne (Or.inl (hw _ (List.mem_of_getElem? (i := 20) rfl))) (Or.inl (hw _ (List.mem_of_getElem? (i := 18) rfl))) (by decide) (t := .int) (t' := .boolean) (by decide) (by decide)))
                have B93 := B73.other W88 (Or.inr (slot_ne (Or.inl (hw _ (List.mem_of_getElem? (i := 22) rfl))) (Or.inl (hw _ (List.mem_of_getElem? (i := 18) rfl))) (by decide) (t := .int) (t' := .boolean) (by decide) (by decide)))
                have B94 : Fld Z h88 a0 "com/example/tree_to_rows/treetorows/xml/DocumentPlace" "afterCarriageReturn" "Z" (.int 0) := B69.same W88
                have N95 := Fr.snoc X88 N74 ge0
                have K96 : Keep h0 h88 [a0] := K75.wr W88 (Or.inl (List.mem_of_getElem? (i := 0) rfl))
                have Z97 : n0 ≤ h88.size := Nat.le_trans Z76 (Keep.of_wr W88).1
                exact own_ret0 X88 hx hlk Bd.returns (hb hby d4_157) (Q := (Q4 Z a0 p1 x11 fc acr ln cl h0 n0)) ⟨rfl, N95, (by rw [e88]; exact K96), (by rw [e88]; exact B89), (by rw [e88]; exact B91), (by rw [e88]; exact own_fldI (show (0 : Int32) = (own_f4a p1 x11 fc acr) from (by subst hz20 hz16 hz2; unfold own_f4a; exact ((if_pos hc14).trans ((if_neg hc22).trans ((if_pos hc55).trans ((if_neg hc77).trans rfl)))).symm)) B94), (by rw [e88]; exact own_fldI (show (ln + (1 : Int32)) = (own_f4l p1 x11 fc acr ln) from (by subst hz20 hz16 hz2; unfold own_f4l; exact ((if_pos hc14).trans ((if_neg hc22).trans ((if_pos hc55).trans ((if_neg hc77).trans rfl)))).symm)) B92), (by rw [e88]; exact own_fldI (show (1 : Int32) = (own_f4k p1 x11 fc acr cl) from (by subst hz20 hz16 hz2; unfold own_f4k; exact ((if_pos hc14).trans ((if_neg hc22).trans ((if_pos hc55).trans ((if_neg hc77).trans rfl)))).symm)) B93)⟩ (by decide) (by decide)
            · refine own_via (fun k => XS.ifYes X21.here hx rfl (pc0 := 107) (pc' := 128) rfl (hb hby d4_107) rfl ((if0 _ _).trans (feq hc55).2) (by decide) (by decide) k) ?_
              show own_Go p e below s _ _ (T21.setTop (mkF m 128 #[rv a0, iv p1, iv z2, iv z16, iv z20] []))
              refine own_via (fun k => XS.iloadN X21.here hx rfl (hb hby d4_128) rfl  k) ?_
              show own_Go p e below s _ _ (T21.setTop (mkF m 129 #[rv a0, iv p1, iv z2, iv z16, iv z20] [(.int z16)]))
              refine own_via (fun k => XS.ifYes X21.here hx rfl (pc0 := 129) (pc' := 142) rfl (hb hby d4_129) rfl ((if0 _ _).trans (feq hc22).2) (by decide) (by decide) k) ?_
              show own_Go p e below s _ _ (T21.setTop (mkF m 142 #[rv a0, iv p1, iv z2, iv z16, iv z20] []))
              refine own_via (fun k => XS.aloadN X21.here hx rfl (hb hby d4_142) rfl rfl  (XS.iloadN X21.here hx rfl (hb hby d4_143) rfl  (XS.bipush X21.here hx rfl (hb hby d4_144) k))) ?_
              show own_Go p e below s _ _ (T21.setTop (mkF m 146 #[rv a0, iv p1, iv z2, iv z16, iv z20] [(.int 13), (.int p1), (.ref a0)]))
              by_cases hc98 : p1 = (13 : Int32)
              · refine own_via (fun k => XS.icmpNo X21.here hx rfl (hb hby d4_146) rfl (teq hc98).2 k) ?_
                show own_Go p e below s _ _ (T21.setTop (mkF m 149 #[rv a0, iv p1, iv z2, iv z16, iv z20] [(.ref a0)]))
                refine own_via (fun k => XS.iconst X21.here hx rfl (hb hby d4_149) (XS.goto X21.here hx rfl (pc0 := 150) (pc' := 154) rfl (hb hby d4_150) (by decide) (by decide) k)) ?_
                show own_Go p e below s _ _ (T21.setTop (mkF m 154 #[rv a0, iv p1, iv z2, iv z16, iv z20] [(.int 1), (.ref a0)]))
                obtain ⟨T99, h99, X99, e99, W99, st99⟩ := putFN X21 hx hZ hown (hw _ (List.mem_of_getElem? (i := 17) rfl)) Via.refl e21 B6 B9 (Or.inl (hw _ (List.mem_of_getElem? (i := 18) rfl))) (hw _ (List.mem_of_getElem? (i := 5) rfl)) (ty := .boolean) (v := (.int 1)) (v' := (.int (1 : Int32))) (by decide) rfl (by decide) (g := (mkF m 154 #[rv a0, iv p1, iv z2, iv z16, iv z20] [(.int 1), (.ref a0)])) rfl rfl (hb hby d4_154)
                refine own_via (fun k => st99 _ k) ?_
                show own_Go p e below s _ _ (T99.setTop (mkF m 157 #[rv a0, iv p1, iv z2, iv z16, iv z20] []))
                have B100 := B5.other W99 (Or.inr (slot_ne (Or.inr (hw _ (List.mem_of_getElem? (i := 14) rfl))) (Or.inl (hw _ (List.mem_of_getElem? (i := 18) rfl))) (by decide) (t := .boolean) (t' := .boolean) (by decide) (by decide)))
                have B101 := B7.other W99 (Or.inr (slot_ne (Or.inl (hw _ (List.mem_of_getElem? (i := 20) rfl))) (Or.inl (hw _ (List.mem_of_getElem? (i := 18) rfl))) (by decide) (t := .int) (t' := .boolean) (by decide) (by decide)))
                have B102 := B8.other W99 (Or.inr (slot_ne (Or.inl (hw _ (List.mem_of_getElem? (i := 22) rfl))) (Or.inl (hw _ (List.mem_of_getElem? (i := 18) rfl))) (by decide) (t := .int) (t' := .boolean) (by decide) (by decide)))
                have B103 := B9.wr W99
                have B104 := B10.other W99 (Or.inr (slot_ne (Or.inl (hw _ (List.mem_of_getElem? (i := 16) rfl))) (Or.inl (hw _ (List.mem_of_getElem? (i := 18) rfl))) (by decide) (t := .boolean) (t' := .boolean) (by decide) (by decide)))
                have B105 : Fld Z h99 a0 "com/example/tree_to_rows/treetorows/xml/DocumentPlace" "afterCarriageReturn" "Z" (.int 1) := B6.same W99
                have N106 := Fr.snoc X99 N21 ge0
                have K107 : Keep h0 h99 [a0] := K12.wr W99 (Or.inl (List.mem_of_getElem? (i := 0) rfl))
                have Z108 : n0 ≤ h99.size := Nat.le_trans Z13 (Keep.of_wr W99).1
                exact own_ret0 X99 hx hlk Bd.returns (hb hby d4_157) (Q := (Q4 Z a0 p1 x11 fc acr ln cl h0 n0)) ⟨rfl, N106, (by rw [e99]; exact K107), (by rw [e99]; exact B100), (by rw [e99]; exact B104), (by rw [e99]; exact own_fldI (show (1 : Int32) = (own_f4a p1 x11 fc acr) from (by subst hz20 hz16 hz2; unfold own_f4a; exact ((if_pos hc14).trans ((if_neg hc22).trans ((if_neg hc55).trans ((if_pos hc98).trans rfl)))).symm)) B105), (by rw [e99]; exact own_fldI (show ln = (own_f4l p1 x11 fc acr ln) from (by subst hz20 hz16 hz2; unfold own_f4l; exact ((if_pos hc14).trans ((if_neg hc22).trans ((if_neg hc55).trans ((if_pos hc98).trans rfl)))).symm)) B101), (by rw [e99]; exact own_fldI (show cl = (own_f4k p1 x11 fc acr cl) from (by subst hz20 hz16 hz2; unfold own_f4k; exact ((if_pos hc14).trans ((if_neg hc22).trans ((if_neg hc55).trans ((if_pos hc98).trans rfl)))).symm)) B102)⟩ (by decide) (by decide)
              · refine own_via (fun k => XS.icmpYes X21.here hx rfl (pc0 := 146) (pc' := 153) rfl (hb hby d4_146) rfl (feq hc98).2 (by decide) (by decide) k) ?_
                show own_Go p e below s _ _ (T21.setTop (mkF m 153 #[rv a0, iv p1, iv z2, iv z16, iv z20] [(.ref a0)]))
                refine own_via (fun k => XS.iconst X21.here hx rfl (hb hby d4_153) k) ?_
                show own_Go p e below s _ _ (T21.setTop (mkF m 154 #[rv a0, iv p1, iv z2, iv z16, iv z20] [(.int 0), (.ref a0)]))
                obtain ⟨T109, h109, X109, e109, W109, st109⟩ := putFN X21 hx hZ hown (hw _ (List.mem_of_getElem? (i := 17) rfl)) Via.refl e21 B6 B9 (Or.inl (hw _ (List.mem_of_getElem? (i := 18) rfl))) (hw _ (List.mem_of_getElem? (i := 5) rfl)) (ty := .boolean) (v := (.int 0)) (v' := (.int (0 : Int32))) (by decide) rfl (by decide) (g := (mkF m 154 #[rv a0, iv p1, iv z2, iv z16, iv z20] [(.int 0), (.ref a0)])) rfl rfl (hb hby d4_154)
                refine own_via (fun k => st109 _ k) ?_
                show own_Go p e below s _ _ (T109.setTop (mkF m 157 #[rv a0, iv p1, iv z2, iv z16, iv z20] []))
                have B110 := B5.other W109 (Or.inr (slot_ne (Or.inr (hw _ (List.mem_of_getElem? (i := 14) rfl))) (Or.inl (hw _ (List.mem_of_getElem? (i := 18) rfl))) (by decide) (t := .boolean) (t' := .boolean) (by decide) (by decide)))
                have B111 := B7.other W109 (Or.inr (slot_ne (Or.inl (hw _ (List.mem_of_getElem? (i := 20) rfl))) (Or.inl (hw _ (List.mem_of_getElem? (i := 18) rfl))) (by decide) (t := .int) (t' := .boolean) (by decide) (by decide)))
                have B112 := B8.other W109 (Or.inr (slot_ne (Or.inl (hw _ (List.mem_of_getElem? (i := 22) rfl))) (Or.inl (hw _ (List.mem_of_getElem? (i := 18) rfl))) (by decide) (t := .int) (t' := .boolean) (by decide) (by decide)))
                have B113 := B9.wr W109
                have B114 := B10.other W109 (Or.inr (slot_ne (Or.inl (hw _ (List.mem_of_getElem? (i := 16) rfl))) (Or.inl (hw _ (List.mem_of_getElem? (i := 18) rfl))) (by decide) (t := .boolean) (t' := .boolean) (by decide) (by decide)))
                have B115 : Fld Z h109 a0 "com/example/tree_to_rows/treetorows/xml/DocumentPlace" "afterCarriageReturn" "Z" (.int 0) := B6.same W109
                have N116 := Fr.snoc X109 N21 ge0
                have K117 : Keep h0 h109 [a0] := K12.wr W109 (Or.inl (List.mem_of_getElem? (i := 0) rfl))
                have Z118 : n0 ≤ h109.size := Nat.le_trans Z13 (Keep.of_wr W109).1
                exact own_ret0 X109 hx hlk Bd.returns (hb hby d4_157) (Q := (Q4 Z a0 p1 x11 fc acr ln cl h0 n0)) ⟨rfl, N116, (by rw [e109]; exact K117), (by rw [e109]; exact B110), (by rw [e109]; exact B114), (by rw [e109]; exact own_fldI (show (0 : Int32) = (own_f4a p1 x11 fc acr) from (by subst hz20 hz16 hz2; unfold own_f4a; exact ((if_pos hc14).trans ((if_neg hc22).trans ((if_neg hc55).trans ((if_neg hc98).trans rfl)))).symm)) B115), (by rw [e109]; exact own_fldI (show ln = (own_f4l p1 x11 fc acr ln) from (by subst hz20 hz16 hz2; unfold own_f4l; exact ((if_pos hc14).trans ((if_neg hc22).trans ((if_neg hc55).trans ((if_neg hc98).trans rfl)))).symm)) B111), (by rw [e109]; exact own_fldI (show cl = (own_f4k p1 x11 fc acr cl) from (by subst hz20 hz16 hz2; unfold own_f4k; exact ((if_pos hc14).trans ((if_neg hc22).trans ((if_neg hc55).trans ((if_neg hc98).trans rfl)))).symm)) B112)⟩ (by decide) (by decide)
        by_cases hc119 : acr = (0 : Int32)
        · refine own_via (fun k => XS.ifYes X18.here hx rfl (pc0 := 71) (pc' := 98) rfl (hb hby d4_71) rfl ((if0 _ _).trans (teq hc119).1) (by decide) (by decide) k) ?_
          show own_Go p e below s _ _ (T18.setTop (mkF m 98 #[rv a0, iv p1, iv z2, iv z16, .unset] []))
          refine own_via (fun k => XS.iconst X18.here hx rfl (hb hby d4_98) k) ?_
          show own_Go p e below s _ _ (T18.setTop (mkF m 99 #[rv a0, iv p1, iv z2, iv z16, .unset] [(.int 0)]))
          exact J21 _ _ X18 N17 e18 (0 : Int32) (((if_pos hc119).trans rfl)).symm
        · refine own_via (fun k => XS.ifNo X18.here hx rfl (hb hby d4_71) rfl ((if0 _ _).trans (feq hc119).1) k) ?_
          show own_Go p e below s _ _ (T18.setTop (mkF m 74 #[rv a0, iv p1, iv z2, iv z16, .unset] []))
          refine own_via (fun k => XS.iloadN X18.here hx rfl (hb hby d4_74) rfl  (XS.bipush X18.here hx rfl (hb hby d4_75) k)) ?_
          show own_Go p e below s _ _ (T18.setTop (mkF m 77 #[rv a0, iv p1, iv z2, iv z16, .unset] [(.int 10), (.int p1)]))
          by_cases hc120 : p1 = (10 : Int32)
          · refine own_via (fun k => XS.icmpYes X18.here hx rfl (pc0 := 77) (pc' := 94) rfl (hb hby d4_77) rfl (teq hc120).1 (by decide) (by decide) k) ?_
            show own_Go p e below s _ _ (T18.setTop (mkF m 94 #[rv a0, iv p1, iv z2, iv z16, .unset] []))
            refine own_via (fun k => XS.iconst X18.here hx rfl (hb hby d4_94) (XS.goto X18.here hx rfl (pc0 := 95) (pc' := 99) rfl (hb hby d4_95) (by decide) (by decide) k)) ?_
            show own_Go p e below s _ _ (T18.setTop (mkF m 99 #[rv a0, iv p1, iv z2, iv z16, .unset] [(.int 1)]))
            exact J21 _ _ X18 N17 e18 (1 : Int32) (((if_neg hc119).trans ((if_pos hc120).trans rfl))).symm
          · refine own_via (fun k => XS.icmpNo X18.here hx rfl (hb hby d4_77) rfl (feq hc120).1 k) ?_
            show own_Go p e below s _ _ (T18.setTop (mkF m 80 #[rv a0, iv p1, iv z2, iv z16, .unset] []))
            refine own_via (fun k => XS.aloadN X18.here hx rfl (hb hby d4_80) rfl rfl  k) ?_
            show own_Go p e below s _ _ (T18.setTop (mkF m 81 #[rv a0, iv p1, iv z2, iv z16, .unset] [(.ref a0)]))
            obtain ⟨T121, X121, e121, st121⟩ := getF X18 hx hZ hown (host := "") (Or.inl (hw _ (List.mem_of_getElem? (i := 13) rfl))) Via.refl e18 B5 (g := (mkF m 81 #[rv a0, iv p1, iv z2, iv z16, .unset] [(.ref a0)])) rfl rfl (hb hby d4_81)
            refine own_via (fun k => st121 _ k) ?_
            show own_Go p e below s _ _ (T121.setTop (mkF m 84 #[rv a0, iv p1, iv z2, iv z16, .unset] [(.int x11)]))
            by_cases hc122 : x11 = (0 : Int32)
            · refine own_via (fun k => XS.ifYes X121.here hx rfl (pc0 := 84) (pc' := 98) rfl (hb hby d4_84) rfl ((if0 _ _).trans (teq hc122).1) (by decide) (by decide) k) ?_
              show own_Go p e below s _ _ (T121.setTop (mkF m 98 #[rv a0, iv p1, iv z2, iv z16, .unset] []))
              refine own_via (fun k => XS.iconst X121.here hx rfl (hb hby d4_98) k) ?_
              show own_Go p e below s _ _ (T121.setTop (mkF m 99 #[rv a0, iv p1, iv z2, iv z16, .unset] [(.int 0)]))
              exact J21 _ _ X121 N17 e121 (0 : Int32) (((if_neg hc119).trans ((if_neg hc120).trans ((if_pos hc122).trans rfl)))).symm
            · refine own_via (fun k => XS.ifNo X121.here hx rfl (hb hby d4_84) rfl ((if0 _ _).trans (feq hc122).1) k) ?_
              show own_Go p e below s _ _ (T121.setTop (mkF m 87 #[rv a0, iv p1, iv z2, iv z16, .unset] []))
              refine own_via (fun k => XS.iloadN X121.here hx rfl (hb hby d4_87) rfl  (XS.sipush X121.here hx rfl (hb hby d4_88) k)) ?_
              show own_Go p e below s _ _ (T121.setTop (mkF m 91 #[rv a0, iv p1, iv z2, iv z16, .unset] [(.int 133), (.int p1)]))
              by_cases hc123 : p1 = (133 : Int32)
              · refine own_via (fun k => XS.icmpNo X121.here hx rfl (hb hby d4_91) rfl (teq hc123).2 k) ?_
                show own_Go p e below s _ _ (T121.setTop (mkF m 94 #[rv a0, iv p1, iv z2, iv z16, .unset] []))
                refine own_via (fun k => XS.iconst X121.here hx rfl (hb hby d4_94) (XS.goto X121.here hx rfl (pc0 := 95) (pc' := 99) rfl (hb hby d4_95) (by decide) (by decide) k)) ?_
                show own_Go p e below s _ _ (T121.setTop (mkF m 99 #[rv a0, iv p1, iv z2, iv z16, .unset] [(.int 1)]))
                exact J21 _ _ X121 N17 e121 (1 : Int32) (((if_neg hc119).trans ((if_neg hc120).trans ((if_neg hc122).trans ((if_pos hc123).trans rfl))))).symm
              · refine own_via (fun k => XS.icmpYes X121.here hx rfl (pc0 := 91) (pc' := 98) rfl (hb hby d4_91) rfl (feq hc123).2 (by decide) (by decide) k) ?_
                show own_Go p e below s _ _ (T121.setTop (mkF m 98 #[rv a0, iv p1, iv z2, iv z16, .unset] []))
                refine own_via (fun k => XS.iconst X121.here hx rfl (hb hby d4_98) k) ?_
                show own_Go p e below s _ _ (T121.setTop (mkF m 99 #[rv a0, iv p1, iv z2, iv z16, .unset] [(.int 0)]))
                exact J21 _ _ X121 N17 e121 (0 : Int32) (((if_neg hc119).trans ((if_neg hc120).trans ((if_neg hc122).trans ((if_neg hc123).trans rfl))))).symm
      by_cases hc124 : p1 = (13 : Int32)
      · refine own_via (fun k => XS.icmpYes X4.here hx rfl (pc0 := 31) (pc' := 61) rfl (hb hby d4_31) rfl (teq hc124).1 (by decide) (by decide) k) ?_
        show own_Go p e below s _ _ (T4.setTop (mkF m 61 #[rv a0, iv p1, iv z2, .unset, .unset] []))
        refine own_via (fun k => XS.iconst X4.here hx rfl (hb hby d4_61) (XS.goto X4.here hx rfl (pc0 := 62) (pc' := 66) rfl (hb hby d4_62) (by decide) (by decide) k)) ?_
        show own_Go p e below s _ _ (T4.setTop (mkF m 66 #[rv a0, iv p1, iv z2, .unset, .unset] [(.int 1)]))
        exact J17 _ _ X4 N11 e4 (1 : Int32) (((if_pos hc124).trans rfl)).symm
      · refine own_via (fun k => XS.icmpNo X4.here hx rfl (hb hby d4_31) rfl (feq hc124).1 k) ?_
        show own_Go p e below s _ _ (T4.setTop (mkF m 34 #[rv a0, iv p1, iv z2, .unset, .unset] []))
        refine own_via (fun k => XS.iloadN X4.here hx rfl (hb hby d4_34) rfl  (XS.bipush X4.here hx rfl (hb hby d4_35) k)) ?_
        show own_Go p e below s _ _ (T4.setTop (mkF m 37 #[rv a0, iv p1, iv z2, .unset, .unset] [(.int 10), (.int p1)]))
        by_cases hc125 : p1 = (10 : Int32)
        · refine own_via (fun k => XS.icmpYes X4.here hx rfl (pc0 := 37) (pc' := 61) rfl (hb hby d4_37) rfl (teq hc125).1 (by decide) (by decide) k) ?_
          show own_Go p e below s _ _ (T4.setTop (mkF m 61 #[rv a0, iv p1, iv z2, .unset, .unset] []))
          refine own_via (fun k => XS.iconst X4.here hx rfl (hb hby d4_61) (XS.goto X4.here hx rfl (pc0 := 62) (pc' := 66) rfl (hb hby d4_62) (by decide) (by decide) k)) ?_
          show own_Go p e below s _ _ (T4.setTop (mkF m 66 #[rv a0, iv p1, iv z2, .unset, .unset] [(.int 1)]))
          exact J17 _ _ X4 N11 e4 (1 : Int32) (((if_neg hc124).trans ((if_pos hc125).trans rfl))).symm
        · refine own_via (fun k => XS.icmpNo X4.here hx rfl (hb hby d4_37) rfl (feq hc125).1 k) ?_
          show own_Go p e below s _ _ (T4.setTop (mkF m 40 #[rv a0, iv p1, iv z2, .unset, .unset] []))
          refine own_via (fun k => XS.aloadN X4.here hx rfl (hb hby d4_40) rfl rfl  k) ?_
          show own_Go p e below s _ _ (T4.setTop (mkF m 41 #[rv a0, iv p1, iv z2, .unset, .unset] [(.ref a0)]))
          obtain ⟨T126, X126, e126, st126⟩ := getF X4 hx hZ hown (host := "") (Or.inl (hw _ (List.mem_of_getElem? (i := 13) rfl))) Via.refl e4 B5 (g := (mkF m 41 #[rv a0, iv p1, iv z2, .unset, .unset] [(.ref a0)])) rfl rfl (hb hby d4_41)
          refine own_via (fun k => st126 _ k) ?_
          show own_Go p e below s _ _ (T126.setTop (mkF m 44 #[rv a0, iv p1, iv z2, .unset, .unset] [(.int x11)]))
          by_cases hc127 : x11 = (0 : Int32)
          · refine own_via (fun k => XS.ifYes X126.here hx rfl (pc0 := 44) (pc' := 65) rfl (hb hby d4_44) rfl ((if0 _ _).trans (teq hc127).1) (by decide) (by decide) k) ?_
            show own_Go p e below s _ _ (T126.setTop (mkF m 65 #[rv a0, iv p1, iv z2, .unset, .unset] []))
            refine own_via (fun k => XS.iconst X126.here hx rfl (hb hby d4_65) k) ?_
            show own_Go p e below s _ _ (T126.setTop (mkF m 66 #[rv a0, iv p1, iv z2, .unset, .unset] [(.int 0)]))
            exact J17 _ _ X126 N11 e126 (0 : Int32) (((if_neg hc124).trans ((if_neg hc125).trans ((if_pos hc127).trans rfl)))).symm
          · refine own_via (fun k => XS.ifNo X126.here hx rfl (hb hby d4_44) rfl ((if0 _ _).trans (feq hc127).1) k) ?_
            show own_Go p e below s _ _ (T126.setTop (mkF m 47 #[rv a0, iv p1, iv z2, .unset, .unset] []))
            refine own_via (fun k => XS.iloadN X126.here hx rfl (hb hby d4_47) rfl  (XS.sipush X126.here hx rfl (hb hby d4_48) k)) ?_
            show own_Go p e below s _ _ (T126.setTop (mkF m 51 #[rv a0, iv p1, iv z2, .unset, .unset] [(.int 133), (.int p1)]))
            by_cases hc128 : p1 = (133 : Int32)
            · refine own_via (fun k => XS.icmpYes X126.here hx rfl (pc0 := 51) (pc' := 61) rfl (hb hby d4_51) rfl (teq hc128).1 (by decide) (by decide) k) ?_
              show own_Go p e below s _ _ (T126.setTop (mkF m 61 #[rv a0, iv p1, iv z2, .unset, .unset] []))
              refine own_via (fun k => XS.iconst X126.here hx rfl (hb hby d4_61) (XS.goto X126.here hx rfl (pc0 := 62) (pc' := 66) rfl (hb hby d4_62) (by decide) (by decide) k)) ?_
              show own_Go p e below s _ _ (T126.setTop (mkF m 66 #[rv a0, iv p1, iv z2, .unset, .unset] [(.int 1)]))
              exact J17 _ _ X126 N11 e126 (1 : Int32) (((if_neg hc124).trans ((if_neg hc125).trans ((if_neg hc127).trans ((if_pos hc128).trans rfl))))).symm
            · refine own_via (fun k => XS.icmpNo X126.here hx rfl (hb hby d4_51) rfl (feq hc128).1 k) ?_
              show own_Go p e below s _ _ (T126.setTop (mkF m 54 #[rv a0, iv p1, iv z2, .unset, .unset] []))
              refine own_via (fun k => XS.iloadN X126.here hx rfl (hb hby d4_54) rfl  (XS.sipush X126.here hx rfl (hb hby d4_55) k)) ?_
              show own_Go p e below s _ _ (T126.setTop (mkF m 58 #[rv a0, iv p1, iv z2, .unset, .unset] [(.int 8232), (.int p1)]))
              by_cases hc129 : p1 = (8232 : Int32)
              · refine own_via (fun k => XS.icmpNo X126.here hx rfl (hb hby d4_58) rfl (teq hc129).2 k) ?_
                show own_Go p e below s _ _ (T126.setTop (mkF m 61 #[rv a0, iv p1, iv z2, .unset, .unset] []))
                refine own_via (fun k => XS.iconst X126.here hx rfl (hb hby d4_61) (XS.goto X126.here hx rfl (pc0 := 62) (pc' := 66) rfl (hb hby d4_62) (by decide) (by decide) k)) ?_
                show own_Go p e below s _ _ (T126.setTop (mkF m 66 #[rv a0, iv p1, iv z2, .unset, .unset] [(.int 1)]))
                exact J17 _ _ X126 N11 e126 (1 : Int32) (((if_neg hc124).trans ((if_neg hc125).trans ((if_neg hc127).trans ((if_neg hc128).trans ((if_pos hc129).trans rfl)))))).symm
              · refine own_via (fun k => XS.icmpYes X126.here hx rfl (pc0 := 58) (pc' := 65) rfl (hb hby d4_58) rfl (feq hc129).2 (by decide) (by decide) k) ?_
                show own_Go p e below s _ _ (T126.setTop (mkF m 65 #[rv a0, iv p1, iv z2, .unset, .unset] []))
                refine own_via (fun k => XS.iconst X126.here hx rfl (hb hby d4_65) k) ?_
                show own_Go p e below s _ _ (T126.setTop (mkF m 66 #[rv a0, iv p1, iv z2, .unset, .unset] [(.int 0)]))
                exact J17 _ _ X126 N11 e126 (0 : Int32) (((if_neg hc124).trans ((if_neg hc125).trans ((if_neg hc127).trans ((if_neg hc128).trans ((if_neg hc129).trans rfl)))))).symm
    · refine own_via (fun k => XS.ifYes X4.here hx rfl (pc0 := 25) (pc' := 157) rfl (hb hby d4_25) rfl ((if0 _ _).trans (feq hc14).2) (by decide) (by decide) k) ?_
      show own_Go p e below s _ _ (T4.setTop (mkF m 157 #[rv a0, iv p1, iv z2, .unset, .unset] []))
      exact own_ret0 X4 hx hlk Bd.returns (hb hby d4_157) (Q := (Q4 Z a0 p1 x11 fc acr ln cl h0 n0)) ⟨rfl, N11, (by rw [e4]; exact K12), (by rw [e4]; exact B5), (by rw [e4]; exact B10), (by rw [e4]; exact own_fldI (show acr = (own_f4a p1 x11 fc acr) from (by subst hz2; unfold own_f4a; exact ((if_neg hc14).trans rfl).symm)) B6), (by rw [e4]; exact own_fldI (show ln = (own_f4l p1 x11 fc acr ln) from (by subst hz2; unfold own_f4l; exact ((if_neg hc14).trans rfl).symm)) B7), (by rw [e4]; exact own_fldI (show cl = (own_f4k p1 x11 fc acr cl) from (by subst hz2; unfold own_f4k; exact ((if_neg hc14).trans rfl).symm)) B8)⟩ (by decide) (by decide)
  by_cases hc130 : fc = (0 : Int32)
  · refine own_via (fun k => XS.ifYes X1.here hx rfl (pc0 := 4) (pc' := 17) rfl (hb hby d4_4) rfl ((if0 _ _).trans (teq hc130).1) (by decide) (by decide) k) ?_
    show own_Go p e below s _ _ (T1.setTop (mkF m 17 #[rv a0, iv p1, .unset, .unset, .unset] []))
    refine own_via (fun k => XS.iconst X1.here hx rfl (hb hby d4_17) k) ?_
    show own_Go p e below s _ _ (T1.setTop (mkF m 18 #[rv a0, iv p1, .unset, .unset, .unset] [(.int 0)]))
    exact J3 (0 : Int32) (((if_pos hc130).trans rfl)).symm
  · refine own_via (fun k => XS.ifNo X1.here hx rfl (hb hby d4_4) rfl ((if0 _ _).trans (feq hc130).1) k) ?_
    show own_Go p e below s _ _ (T1.setTop (mkF m 7 #[rv a0, iv p1, .unset, .unset, .unset] []))
    refine own_via (fun k => XS.iloadN X1.here hx rfl (hb hby d4_7) rfl  (X1.ldcInt hx hown (mvT hZ (hw _ (List.mem_of_getElem? (i := 28) rfl))) (g := (mkF m 8 #[rv a0, iv p1, .unset, .unset, .unset] [(.int p1)])) rfl (hb hby d4_8) _ k)) ?_
    show own_Go p e below s _ _ (T1.setTop (mkF m 10 #[rv a0, iv p1, .unset, .unset, .unset] [(.int 65279), (.int p1)]))
    by_cases hc131 : p1 = (65279 : Int32)
    · refine own_via (fun k => XS.icmpNo X1.here hx rfl (hb hby d4_10) rfl (teq hc131).2 k) ?_
      show own_Go p e below s _ _ (T1.setTop (mkF m 13 #[rv a0, iv p1, .unset, .unset, .unset] []))
      refine own_via (fun k => XS.iconst X1.here hx rfl (hb hby d4_13) (XS.goto X1.here hx rfl (pc0 := 14) (pc' := 18) rfl (hb hby d4_14) (by decide) (by decide) k)) ?_
      show own_Go p e below s _ _ (T1.setTop (mkF m 18 #[rv a0, iv p1, .unset, .unset, .unset] [(.int 1)]))
      exact J3 (1 : Int32) (((if_neg hc130).trans ((if_pos hc131).trans rfl))).symm
    · refine own_via (fun k => XS.icmpYes X1.here hx rfl (pc0 := 10) (pc' := 17) rfl (hb hby d4_10) rfl (feq hc131).2 (by decide) (by decide) k) ?_
      show own_Go p e below s _ _ (T1.setTop (mkF m 17 #[rv a0, iv p1, .unset, .unset, .unset] []))
      refine own_via (fun k => XS.iconst X1.here hx rfl (hb hby d4_17) k) ?_
      show own_Go p e below s _ _ (T1.setTop (mkF m 18 #[rv a0, iv p1, .unset, .unset, .unset] [(.int 0)]))
      exact J3 (0 : Int32) (((if_neg hc130).trans ((if_neg hc131).trans rfl))).symm
theorem d5_0 : decode prog_92_method_5_code 0 = .ok (.aload_n 0, 1) := by decide +kernel
theorem d5_1 : decode prog_92_method_5_code 1 = .ok (.getfield 19, 3) := by decide +kernel
theorem d5_4 : decode prog_92_method_5_code 4 = .ok (.ireturn, 1) := by decide +kernel
theorem pn_5 : plainName "com/example/tree_to_rows/treetorows/xml/DocumentPlace" = true := by first | (simp [plainName, overriddenIn]; done) | decide +kernel
theorem ef_5 (m : MethodId) (x0 : Addr) : entryFrame m #[(.ref x0)] 1 = mkF m 0 #[rv x0] [] := by first | (simp [entryFrame, mkF, argsToLocals, Value.category]; done) | rfl
def Q5 (Z : State) (a0 : Addr) (ln : Int32) (h0 : Heap) (n0 : Nat) (v : Option Value) (h : Heap) (L : List Loc) : Prop := v = some (.int ln) ∧ Fr n0 L ∧ h = h0
set_option maxRecDepth 65536 in
set_option maxHeartbeats 40000000 in
theorem rm5 (l : Launch) (Z : State) (aw : Array Value) (hw : ∀ d ∈ tables_1, d.before aw Z = true) (ws : List Jvm.Cond) (a0 : Addr) (ln : Int32) (h0 : Heap) (n0 : Nat) (Z0 : n0 ≤ h0.size) (P0 : Fld Z h0 a0 "com/example/tree_to_rows/treetorows/xml/DocumentPlace" "line" "I" (.int ln)) :
    MetFree l (⟨"com/example/tree_to_rows/treetorows/xml/DocumentPlace", "line", "()I"⟩ : MethodName) (head1 (Jvm.Cond.code (⟨"com/example/tree_to_rows/treetorows/xml/DocumentPlace", "line", "()I"⟩ : MethodName) prog_92_method_5_code 1 (some .int) :: ws) ({ frames := 0, cells := 0, slots := 0, locals := 0 } : Room)) (fun a U => a = #[(.ref a0)] ∧ Z.Warmed39 U.vm ∧ U.heap = h0) (fun _ _ _ _ _ => True) (fun _ U o U' => ∃ v L, o = .returned v ∧ Q5 Z a0 ln h0 n0 v U'.heap L ∧ FrameEnd U o U' L ({ frames := 0, cells := 0, slots := 0, locals := 0 } : Room).cells ({ frames := 0, cells := 0, slots := 0, locals := 0 } : Room).slots) := by
  refine MetFree.of_bodySF (plainFor_of_name pn_5) hisR ?_
  intro p e s m args below meth c s₁ Bd hml0 hP hK
  obtain ⟨rfl, hZ, hh⟩ := hP
  have hx := Bd.exec
  have hby := Bd.bytes
  have hml : c.maxLocals = 1 := hml0
  have hown : s.vm.findClass "com/example/tree_to_rows/treetorows/xml/DocumentPlace" = some m.cls := findClass_of_methodNamed Bd.named
  have hnm := (name_of_methodNamed Bd.named Bd.method).1
  have hlk : meth.locks = false := by first | exact BodyLoose.notSynchronized (by assumption) | exact Body.notSynchronized (by assumption)
  have X0 : Stand p l e ({ frames := 0, cells := 0, slots := 0, locals := 0 } : Room) s m #[(.ref a0)] below meth c s₁ [] 0 0 := Stand.of_body Bd
  have e0 : s₁.heap = h0 := by rw [← hh, Bd.state]; rfl
  have N0 := Fr.nil n0
  have K0 : Keep h0 h0 [] := Keep.refl _ _
  refine own_start (CS := (0, 0)) (Q := (Q5 Z a0 ln h0 n0)) (ef_5 m a0) ?_
  show own_Go p e below s _ _ (s₁.setTop (mkF m 0 #[rv a0] []))
  refine own_via (fun k => XS.aloadN X0.here hx rfl (hb hby d5_0) rfl rfl  k) ?_
  show own_Go p e below s _ _ (s₁.setTop (mkF m 1 #[rv a0] [(.ref a0)]))
  obtain ⟨T1, X1, e1, st1⟩ := getF X0 hx hZ hown (host := "") (Or.inl (hw _ (List.mem_of_getElem? (i := 19) rfl))) Via.refl e0 P0 (g := (mkF m 1 #[rv a0] [(.ref a0)])) rfl rfl (hb hby d5_1)
  refine own_via (fun k => st1 _ k) ?_
  show own_Go p e below s _ _ (T1.setTop (mkF m 4 #[rv a0] [(.int ln)]))
  exact own_retI X1 hx hlk Bd.returns (hb hby d5_4) (Q := (Q5 Z a0 ln h0 n0)) ⟨rfl, N0, e1⟩ (by decide) (by decide)
theorem d6_0 : decode prog_92_method_6_code 0 = .ok (.aload_n 0, 1) := by decide +kernel
theorem d6_1 : decode prog_92_method_6_code 1 = .ok (.getfield 23, 3) := by decide +kernel
theorem d6_4 : decode prog_92_method_6_code 4 = .ok (.ireturn, 1) := by decide +kernel
theorem pn_6 : plainName "com/example/tree_to_rows/treetorows/xml/DocumentPlace" = true := by first | (simp [plainName, overriddenIn]; done) | decide +kernel
theorem ef_6 (m : MethodId) (x0 : Addr) : entryFrame m #[(.ref x0)] 1 = mkF m 0 #[rv x0] [] := by first | (simp [entryFrame, mkF, argsToLocals, Value.category]; done) | rfl
def Q6 (Z : State) (a0 : Addr) (cl : Int32) (h0 : Heap) (n0 : Nat) (v : Option Value) (h : Heap) (L : List Loc) : Prop := v = some (.int cl) ∧ Fr n0 L ∧ h = h0
set_option maxRecDepth 65536 in
set_option maxHeartbeats 40000000 in
theorem rm6 (l : Launch) (Z : State) (aw : Array Value) (hw : ∀ d ∈ tables_1, d.before aw Z = true) (ws : List Jvm.Cond) (a0 : Addr) (cl : Int32) (h0 : Heap) (n0 : Nat) (Z0 : n0 ≤ h0.size) (P0 : Fld Z h0 a0 "com/example/tree_to_rows/treetorows/xml/DocumentPlace" "column" "I" (.int cl)) :
    MetFree l (⟨"com/example/tree_to_rows/treetorows/xml/DocumentPlace", "column", "()I"⟩ : MethodName) (head1 (Jvm.Cond.code (⟨"com/example/tree_to_rows/treetorows/xml/DocumentPlace", "column", "()I"⟩ : MethodName) prog_92_method_6_code 1 (some .int) :: ws) ({ frames := 0, cells := 0, slots := 0, locals := 0 } : Room)) (fun a U => a = #[(.ref a0)] ∧ Z.Warmed39 U.vm ∧ U.heap = h0) (fun _ _ _ _ _ => True) (fun _ U o U' => ∃ v L, o = .returned v ∧ Q6 Z a0 cl h0 n0 v U'.heap L ∧ FrameEnd U o U' L ({ frames := 0, cells := 0, slots := 0, locals := 0 } : Room).cells ({ frames := 0, cells := 0, slots := 0, locals := 0 } : Room).slots) := by
  refine MetFree.of_bodySF (plainFor_of_name pn_6) hisR ?_
  intro p e s m args below meth c s₁ Bd hml0 hP hK
  obtain ⟨rfl, hZ, hh⟩ := hP
  have hx := Bd.exec
  have hby := Bd.bytes
  have hml : c.maxLocals = 1 := hml0
  have hown : s.vm.findClass "com/example/tree_to_rows/treetorows/xml/DocumentPlace" = some m.cls := findClass_of_methodNamed Bd.named
  have hnm := (name_of_methodNamed Bd.named Bd.method).1
  have hlk : meth.locks = false := by first | exact BodyLoose.notSynchronized (by assumption) | exact Body.notSynchronized (by assumption)
  have X0 : Stand p l e ({ frames := 0, cells := 0, slots := 0, locals := 0 } : Room) s m #[(.ref a0)] below meth c s₁ [] 0 0 := Stand.of_body Bd
  have e0 : s₁.heap = h0 := by rw [← hh, Bd.state]; rfl
  have N0 := Fr.nil n0
  have K0 : Keep h0 h0 [] := Keep.refl _ _
  refine own_start (CS := (0, 0)) (Q := (Q6 Z a0 cl h0 n0)) (ef_6 m a0) ?_
  show own_Go p e below s _ _ (s₁.setTop (mkF m 0 #[rv a0] []))
  refine own_via (fun k => XS.aloadN X0.here hx rfl (hb hby d6_0) rfl rfl  k) ?_
  show own_Go p e below s _ _ (s₁.setTop (mkF m 1 #[rv a0] [(.ref a0)]))
  obtain ⟨T1, X1, e1, st1⟩ := getF X0 hx hZ hown (host := "") (Or.inl (hw _ (List.mem_of_getElem? (i := 21) rfl))) Via.refl e0 P0 (g := (mkF m 1 #[rv a0] [(.ref a0)])) rfl rfl (hb hby d6_1)
  refine own_via (fun k => st1 _ k) ?_
  show own_Go p e below s _ _ (T1.setTop (mkF m 4 #[rv a0] [(.int cl)]))
  exact own_retI X1 hx hlk Bd.returns (hb hby d6_4) (Q := (Q6 Z a0 cl h0 n0)) ⟨rfl, N0, e1⟩ (by decide) (by decide)
theorem d8_0 : decode method_3_code 0 = .ok (.iload_n 0, 1) := by decide +kernel
theorem d8_1 : decode method_3_code 1 = .ok (.bipush 13, 2) := by decide +kernel
theorem d8_3 : decode method_3_code 3 = .ok (.if_icmp .eq 9, 3) := by decide +kernel
theorem d8_6 : decode method_3_code 6 = .ok (.iload_n 0, 1) := by decide +kernel
theorem d8_7 : decode method_3_code 7 = .ok (.bipush 10, 2) := by decide +kernel
theorem d8_9 : decode method_3_code 9 = .ok (.if_icmp .ne 5, 3) := by decide +kernel
theorem d8_12 : decode method_3_code 12 = .ok (.iconst 1, 1) := by decide +kernel
theorem d8_13 : decode method_3_code 13 = .ok (.ireturn, 1) := by decide +kernel
theorem d8_14 : decode method_3_code 14 = .ok (.iload_n 1, 1) := by decide +kernel
theorem d8_15 : decode method_3_code 15 = .ok (.ifCond .eq 19, 3) := by decide +kernel
theorem d8_18 : decode method_3_code 18 = .ok (.iload_n 0, 1) := by decide +kernel
theorem d8_19 : decode method_3_code 19 = .ok (.sipush 133, 3) := by decide +kernel
theorem d8_22 : decode method_3_code 22 = .ok (.if_icmp .eq 10, 3) := by decide +kernel
theorem d8_25 : decode method_3_code 25 = .ok (.iload_n 0, 1) := by decide +kernel
theorem d8_26 : decode method_3_code 26 = .ok (.sipush 8232, 3) := by decide +kernel
theorem d8_29 : decode method_3_code 29 = .ok (.if_icmp .ne 5, 3) := by decide +kernel
theorem d8_32 : decode method_3_code 32 = .ok (.iconst 1, 1) := by decide +kernel
theorem d8_33 : decode method_3_code 33 = .ok (.ireturn, 1) := by decide +kernel
theorem d8_34 : decode method_3_code 34 = .ok (.iconst 0, 1) := by decide +kernel
theorem d8_35 : decode method_3_code 35 = .ok (.ireturn, 1) := by decide +kernel
theorem pn_8 : plainName "com/example/tree_to_rows/treetorows/xml/DocumentPlacePassPinLaw" = true := by first | (simp [plainName, overriddenIn]; done) | decide +kernel
theorem ef_8 (m : MethodId) (x0 : Int32) (x1 : Int32) : entryFrame m #[(.int x0), (.int x1)] 2 = mkF m 0 #[iv x0, iv x1] [] := by first | (simp [entryFrame, mkF, argsToLocals, Value.category]; done) | rfl
def own_f8 (p0 : Int32) (p1 : Int32) : Int32 := (if p0 = (13 : Int32) then (1 : Int32) else (if p0 = (10 : Int32) then (1 : Int32) else (if p1 = (0 : Int32) then (0 : Int32) else (if p0 = (133 : Int32) then (1 : Int32) else (if p0 = (8232 : Int32) then (1 : Int32) else (0 : Int32))))))
def Q8 (Z : State) (p0 : Int32) (p1 : Int32) (h0 : Heap) (n0 : Nat) (v : Option Value) (h : Heap) (L : List Loc) : Prop := v = some (.int (own_f8 p0 p1)) ∧ Fr n0 L ∧ h = h0
set_option maxRecDepth 65536 in
set_option maxHeartbeats 40000000 in
theorem rm8 (l : Launch) (Z : State) (aw : Array Value) (hw : ∀ d ∈ tables_1, d.before aw Z = true) (ws : List Jvm.Cond) (p0 : Int32) (p1 : Int32) (h0 : Heap) (n0 : Nat) (Z0 : n0 ≤ h0.size)  :
    MetFree l (⟨"com/example/tree_to_rows/treetorows/xml/DocumentPlacePassPinLaw", "endsLine", "(CZ)Z"⟩ : MethodName) (head1 (Jvm.Cond.code (⟨"com/example/tree_to_rows/treetorows/xml/DocumentPlacePassPinLaw", "endsLine", "(CZ)Z"⟩ : MethodName) method_3_code 2 (some .boolean) :: ws) ({ frames := 0, cells := 0, slots := 0, locals := 0 } : Room)) (fun a U => a = #[(.int p0), (.int p1)] ∧ Z.Warmed39 U.vm ∧ U.heap = h0) (fun _ _ _ _ _ => True) (fun _ U o U' => ∃ v L, o = .returned v ∧ Q8 Z p0 p1 h0 n0 v U'.heap L ∧ FrameEnd U o U' L ({ frames := 0, cells := 0, slots := 0, locals := 0 } : Room).cells ({ frames := 0, cells := 0, slots := 0, locals := 0 } : Room).slots) := by
  refine MetFree.of_bodySF (plainFor_of_name pn_8) hisR ?_
  intro p e s m args below meth c s₁ Bd hml0 hP hK
  obtain ⟨rfl, hZ, hh⟩ := hP
  have hx := Bd.exec
  have hby := Bd.bytes
  have hml : c.maxLocals = 2 := hml0
  have hown : s.vm.findClass "com/example/tree_to_rows/treetorows/xml/DocumentPlacePassPinLaw" = some m.cls := findClass_of_methodNamed Bd.named
  have hnm := (name_of_methodNamed Bd.named Bd.method).1
  have hlk : meth.locks = false := by first | exact BodyLoose.notSynchronized (by assumption) | exact Body.notSynchronized (by assumption)
  have X0 : Stand p l e ({ frames := 0, cells := 0, slots := 0, locals := 0 } : Room) s m #[(.int p0), (.int p1)] below meth c s₁ [] 0 0 := Stand.of_body Bd
  have e0 : s₁.heap = h0 := by rw [← hh, Bd.state]; rfl
  have N0 := Fr.nil n0
  have K0 : Keep h0 h0 [] := Keep.refl _ _
  refine own_start (CS := (0, 0)) (Q := (Q8 Z p0 p1 h0 n0)) (ef_8 m p0 p1) ?_
  show own_Go p e below s _ _ (s₁.setTop (mkF m 0 #[iv p0, iv p1] []))
  refine own_via (fun k => XS.iloadN X0.here hx rfl (hb hby d8_0) rfl  (XS.bipush X0.here hx rfl (hb hby d8_1) k)) ?_
  show own_Go p e below s _ _ (s₁.setTop (mkF m 3 #[iv p0, iv p1] [(.int 13), (.int p0)]))
  by_cases hc1 : p0 = (13 : Int32)
  · refine own_via (fun k => XS.icmpYes X0.here hx rfl (pc0 := 3) (pc' := 12) rfl (hb hby d8_3) rfl (teq hc1).1 (by decide) (by decide) k) ?_
    show own_Go p e below s _ _ (s₁.setTop (mkF m 12 #[iv p0, iv p1] []))
    refine own_via (fun k => XS.iconst X0.here hx rfl (hb hby d8_12) k) ?_
    show own_Go p e below s _ _ (s₁.setTop (mkF m 13 #[iv p0, iv p1] [(.int 1)]))
    exact own_retN X0 hx hlk (t := .boolean) Bd.returns (by simp) (hb hby d8_13) (Q := (Q8 Z p0 p1 h0 n0)) ⟨(congrArg (fun z => some (Value.int z)) (show (1 : Int32) = (own_f8 p0 p1) from (by unfold own_f8; exact ((if_pos hc1).trans rfl).symm))), N0, e0⟩ (by decide) (by decide)
  · refine own_via (fun k => XS.icmpNo X0.here hx rfl (hb hby d8_3) rfl (feq hc1).1 k) ?_
    show own_Go p e below s _ _ (s₁.setTop (mkF m 6 #[iv p0, iv p1] []))
    refine own_via (fun k => XS.iloadN X0.here hx rfl (hb hby d8_6) rfl  (XS.bipush X0.here hx rfl (hb hby d8_7) k)) ?_
    show own_Go p e below s _ _ (s₁.setTop (mkF m 9 #[iv p0, iv p1] [(.int 10), (.int p0)]))
    by_cases hc2 : p0 = (10 : Int32)
    · refine own_via (fun k => XS.icmpNo X0.here hx rfl (hb hby d8_9) rfl (teq hc2).2 k) ?_
      show own_Go p e below s _ _ (s₁.setTop (mkF m 12 #[iv p0, iv p1] []))
      refine own_via (fun k => XS.iconst X0.here hx rfl (hb hby d8_12) k) ?_
      show own_Go p e below s _ _ (s₁.setTop (mkF m 13 #[iv p0, iv p1] [(.int 1)]))
      exact own_retN X0 hx hlk (t := .boolean) Bd.returns (by simp) (hb hby d8_13) (Q := (Q8 Z p0 p1 h0 n0)) ⟨(congrArg (fun z => some (Value.int z)) (show (1 : Int32) = (own_f8 p0 p1) from (by unfold own_f8; exact ((if_neg hc1).trans ((if_pos hc2).trans rfl)).symm))), N0, e0⟩ (by decide) (by decide)
    · refine own_via (fun k => XS.icmpYes X0.here hx rfl (pc0 := 9) (pc' := 14) rfl (hb hby d8_9) rfl (feq hc2).2 (by decide) (by decide) k) ?_
      show own_Go p e below s _ _ (s₁.setTop (mkF m 14 #[iv p0, iv p1] []))
      refine own_via (fun k => XS.iloadN X0.here hx rfl (hb hby d8_14) rfl  k) ?_
      show own_Go p e below s _ _ (s₁.setTop (mkF m 15 #[iv p0, iv p1] [(.int p1)]))
      by_cases hc3 : p1 = (0 : Int32)
      · refine own_via (fun k => XS.ifYes X0.here hx rfl (pc0 := 15) (pc' := 34) rfl (hb hby d8_15) rfl ((if0 _ _).trans (teq hc3).1) (by decide) (by decide) k) ?_
        show own_Go p e below s _ _ (s₁.setTop (mkF m 34 #[iv p0, iv p1] []))
        refine own_via (fun k => XS.iconst X0.here hx rfl (hb hby d8_34) k) ?_
        show own_Go p e below s _ _ (s₁.setTop (mkF m 35 #[iv p0, iv p1] [(.int 0)]))
        exact own_retN X0 hx hlk (t := .boolean) Bd.returns (by simp) (hb hby d8_35) (Q := (Q8 Z p0 p1 h0 n0)) ⟨(congrArg (fun z => some (Value.int z)) (show (0 : Int32) = (own_f8 p0 p1) from (by unfold own_f8; exact ((if_neg hc1).trans ((if_neg hc2).trans ((if_pos hc3).trans rfl))).symm))), N0, e0⟩ (by decide) (by decide)
      · refine own_via (fun k => XS.ifNo X0.here hx rfl (hb hby d8_15) rfl ((if0 _ _).trans (feq hc3).1) k) ?_
        show own_Go p e below s _ _ (s₁.setTop (mkF m 18 #[iv p0, iv p1] []))
        refine own_via (fun k => XS.iloadN X0.here hx rfl (hb hby d8_18) rfl  (XS.sipush X0.here hx rfl (hb hby d8_19) k)) ?_
        show own_Go p e below s _ _ (s₁.setTop (mkF m 22 #[iv p0, iv p1] [(.int 133), (.int p0)]))
        by_cases hc4 : p0 = (133 : Int32)
        · refine own_via (fun k => XS.icmpYes X0.here hx rfl (pc0 := 22) (pc' := 32) rfl (hb hby d8_22) rfl (teq hc4).1 (by decide) (by decide) k) ?_
          show own_Go p e below s _ _ (s₁.setTop (mkF m 32 #[iv p0, iv p1] []))
          refine own_via (fun k => XS.iconst X0.here hx rfl (hb hby d8_32) k) ?_
          show own_Go p e below s _ _ (s₁.setTop (mkF m 33 #[iv p0, iv p1] [(.int 1)]))
          exact own_retN X0 hx hlk (t := .boolean) Bd.returns (by simp) (hb hby d8_33) (Q := (Q8 Z p0 p1 h0 n0)) ⟨(congrArg (fun z => some (Value.int z)) (show (1 : Int32) = (own_f8 p0 p1) from (by unfold own_f8; exact ((if_neg hc1).trans ((if_neg hc2).trans ((if_neg hc3).trans ((if_pos hc4).trans rfl)))).symm))), N0, e0⟩ (by decide) (by decide)
        · refine own_via (fun k => XS.icmpNo X0.here hx rfl (hb hby d8_22) rfl (feq hc4).1 k) ?_
          show own_Go p e below s _ _ (s₁.setTop (mkF m 25 #[iv p0, iv p1] []))
          refine own_via (fun k => XS.iloadN X0.here hx rfl (hb hby d8_25) rfl  (XS.sipush X0.here hx rfl (hb hby d8_26) k)) ?_
          show own_Go p e below s _ _ (s₁.setTop (mkF m 29 #[iv p0, iv p1] [(.int 8232), (.int p0)]))
          by_cases hc5 : p0 = (8232 : Int32)
          · refine own_via (fun k => XS.icmpNo X0.here hx rfl (hb hby d8_29) rfl (teq hc5).2 k) ?_
            show own_Go p e below s _ _ (s₁.setTop (mkF m 32 #[iv p0, iv p1] []))
            refine own_via (fun k => XS.iconst X0.here hx rfl (hb hby d8_32) k) ?_
            show own_Go p e below s _ _ (s₁.setTop (mkF m 33 #[iv p0, iv p1] [(.int 1)]))
            exact own_retN X0 hx hlk (t := .boolean) Bd.returns (by simp) (hb hby d8_33) (Q := (Q8 Z p0 p1 h0 n0)) ⟨(congrArg (fun z => some (Value.int z)) (show (1 : Int32) = (own_f8 p0 p1) from (by unfold own_f8; exact ((if_neg hc1).trans ((if_neg hc2).trans ((if_neg hc3).trans ((if_neg hc4).trans ((if_pos hc5).trans rfl))))).symm))), N0, e0⟩ (by decide) (by decide)
          · refine own_via (fun k => XS.icmpYes X0.here hx rfl (pc0 := 29) (pc' := 34) rfl (hb hby d8_29) rfl (feq hc5).2 (by decide) (by decide) k) ?_
            show own_Go p e below s _ _ (s₁.setTop (mkF m 34 #[iv p0, iv p1] []))
            refine own_via (fun k => XS.iconst X0.here hx rfl (hb hby d8_34) k) ?_
            show own_Go p e below s _ _ (s₁.setTop (mkF m 35 #[iv p0, iv p1] [(.int 0)]))
            exact own_retN X0 hx hlk (t := .boolean) Bd.returns (by simp) (hb hby d8_35) (Q := (Q8 Z p0 p1 h0 n0)) ⟨(congrArg (fun z => some (Value.int z)) (show (0 : Int32) = (own_f8 p0 p1) from (by unfold own_f8; exact ((if_neg hc1).trans ((if_neg hc2).trans ((if_neg hc3).trans ((if_neg hc4).trans ((if_neg hc5).trans rfl))))).symm))), N0, e0⟩ (by decide) (by decide)
theorem d7_0 : decode method_4_code 0 = .ok (.iload 5, 2) := by decide +kernel
theorem d7_2 : decode method_4_code 2 = .ok (.ifCond .eq 26, 3) := by decide +kernel
theorem d7_5 : decode method_4_code 5 = .ok (.iload 4, 2) := by decide +kernel
theorem d7_7 : decode method_4_code 7 = .ok (.ldc 7, 2) := by decide +kernel
theorem d7_9 : decode method_4_code 9 = .ok (.if_icmp .ne 19, 3) := by decide +kernel
theorem d7_12 : decode method_4_code 12 = .ok (.iload_n 2, 1) := by decide +kernel
theorem d7_13 : decode method_4_code 13 = .ok (.iload_n 0, 1) := by decide +kernel
theorem d7_14 : decode method_4_code 14 = .ok (.if_icmp .ne 12, 3) := by decide +kernel
theorem d7_17 : decode method_4_code 17 = .ok (.iload_n 3, 1) := by decide +kernel
theorem d7_18 : decode method_4_code 18 = .ok (.iload_n 1, 1) := by decide +kernel
theorem d7_19 : decode method_4_code 19 = .ok (.if_icmp .ne 7, 3) := by decide +kernel
theorem d7_22 : decode method_4_code 22 = .ok (.iconst 1, 1) := by decide +kernel
theorem d7_23 : decode method_4_code 23 = .ok (.goto 4, 3) := by decide +kernel
theorem d7_26 : decode method_4_code 26 = .ok (.iconst 0, 1) := by decide +kernel
theorem d7_27 : decode method_4_code 27 = .ok (.ireturn, 1) := by decide +kernel
theorem d7_28 : decode method_4_code 28 = .ok (.iload 4, 2) := by decide +kernel
theorem d7_30 : decode method_4_code 30 = .ok (.iload 7, 2) := by decide +kernel
theorem d7_32 : decode method_4_code 32 = .ok (.invokestatic 9, 3) := by decide +kernel
theorem d7_35 : decode method_4_code 35 = .ok (.ifCond .eq 62, 3) := by decide +kernel
theorem d7_38 : decode method_4_code 38 = .ok (.iload 6, 2) := by decide +kernel
theorem d7_40 : decode method_4_code 40 = .ok (.ifCond .eq 39, 3) := by decide +kernel
theorem d7_43 : decode method_4_code 43 = .ok (.iload 4, 2) := by decide +kernel
theorem d7_45 : decode method_4_code 45 = .ok (.bipush 10, 2) := by decide +kernel
theorem d7_47 : decode method_4_code 47 = .ok (.if_icmp .eq 16, 3) := by decide +kernel
theorem d7_50 : decode method_4_code 50 = .ok (.iload 7, 2) := by decide +kernel
theorem d7_52 : decode method_4_code 52 = .ok (.ifCond .eq 27, 3) := by decide +kernel
theorem d7_55 : decode method_4_code 55 = .ok (.iload 4, 2) := by decide +kernel
theorem d7_57 : decode method_4_code 57 = .ok (.sipush 133, 3) := by decide +kernel
theorem d7_60 : decode method_4_code 60 = .ok (.if_icmp .ne 19, 3) := by decide +kernel
theorem d7_63 : decode method_4_code 63 = .ok (.iload_n 2, 1) := by decide +kernel
theorem d7_64 : decode method_4_code 64 = .ok (.iload_n 0, 1) := by decide +kernel
theorem d7_65 : decode method_4_code 65 = .ok (.if_icmp .ne 12, 3) := by decide +kernel
theorem d7_68 : decode method_4_code 68 = .ok (.iload_n 3, 1) := by decide +kernel
theorem d7_69 : decode method_4_code 69 = .ok (.iload_n 1, 1) := by decide +kernel
theorem d7_70 : decode method_4_code 70 = .ok (.if_icmp .ne 7, 3) := by decide +kernel
theorem d7_73 : decode method_4_code 73 = .ok (.iconst 1, 1) := by decide +kernel
theorem d7_74 : decode method_4_code 74 = .ok (.goto 4, 3) := by decide +kernel
theorem d7_77 : decode method_4_code 77 = .ok (.iconst 0, 1) := by decide +kernel
theorem d7_78 : decode method_4_code 78 = .ok (.ireturn, 1) := by decide +kernel
theorem d7_79 : decode method_4_code 79 = .ok (.iload_n 2, 1) := by decide +kernel
theorem d7_80 : decode method_4_code 80 = .ok (.iload_n 0, 1) := by decide +kernel
theorem d7_81 : decode method_4_code 81 = .ok (.iconst 1, 1) := by decide +kernel
theorem d7_82 : decode method_4_code 82 = .ok (.iadd, 1) := by decide +kernel
theorem d7_83 : decode method_4_code 83 = .ok (.if_icmp .ne 12, 3) := by decide +kernel
theorem d7_86 : decode method_4_code 86 = .ok (.iload_n 3, 1) := by decide +kernel
theorem d7_87 : decode method_4_code 87 = .ok (.iconst 1, 1) := by decide +kernel
theorem d7_88 : decode method_4_code 88 = .ok (.if_icmp .ne 7, 3) := by decide +kernel
theorem d7_91 : decode method_4_code 91 = .ok (.iconst 1, 1) := by decide +kernel
theorem d7_92 : decode method_4_code 92 = .ok (.goto 4, 3) := by decide +kernel
theorem d7_95 : decode method_4_code 95 = .ok (.iconst 0, 1) := by decide +kernel
theorem d7_96 : decode method_4_code 96 = .ok (.ireturn, 1) := by decide +kernel
theorem d7_97 : decode method_4_code 97 = .ok (.iload_n 2, 1) := by decide +kernel
theorem d7_98 : decode method_4_code 98 = .ok (.iload_n 0, 1) := by decide +kernel
theorem d7_99 : decode method_4_code 99 = .ok (.if_icmp .ne 14, 3) := by decide +kernel
theorem d7_102 : decode method_4_code 102 = .ok (.iload_n 3, 1) := by decide +kernel
theorem d7_103 : decode method_4_code 103 = .ok (.iload_n 1, 1) := by decide +kernel
theorem d7_104 : decode method_4_code 104 = .ok (.iconst 1, 1) := by decide +kernel
theorem d7_105 : decode method_4_code 105 = .ok (.iadd, 1) := by decide +kernel
theorem d7_106 : decode method_4_code 106 = .ok (.if_icmp .ne 7, 3) := by decide +kernel
theorem d7_109 : decode method_4_code 109 = .ok (.iconst 1, 1) := by decide +kernel
theorem d7_110 : decode method_4_code 110 = .ok (.goto 4, 3) := by decide +kernel
theorem d7_113 : decode method_4_code 113 = .ok (.iconst 0, 1) := by decide +kernel
theorem d7_114 : decode method_4_code 114 = .ok (.ireturn, 1) := by decide +kernel
theorem pn_7 : plainName "com/example/tree_to_rows/treetorows/xml/DocumentPlacePassPinLaw" = true := by first | (simp [plainName, overriddenIn]; done) | decide +kernel
theorem pd_6 : parseMethodDescriptor "(CZ)Z" = some ⟨[.char, .boolean], some .boolean⟩ := by decide +kernel
theorem ef_7 (m : MethodId) (x0 : Int32) (x1 : Int32) (x2 : Int32) (x3 : Int32) (x4 : Int32) (x5 : Int32) (x6 : Int32) (x7 : Int32) : entryFrame m #[(.int x0), (.int x1), (.int x2), (.int x3), (.int x4), (.int x5), (.int x6), (.int x7)] 8 = mkF m 0 #[iv x0, iv x1, iv x2, iv x3, iv x4, iv x5, iv x6, iv x7] [] := by first | (simp [entryFrame, mkF, argsToLocals, Value.category]; done) | rfl
def own_f7 (p0 : Int32) (p1 : Int32) (p2 : Int32) (p3 : Int32) (p4 : Int32) (p5 : Int32) (p6 : Int32) (p7 : Int32) : Int32 := (if p5 = (0 : Int32) then (if (own_f8 p4 p7) = (0 : Int32) then (if p2 = p0 then (if p3 = (p1 + (1 : Int32)) then (1 : Int32) else (0 : Int32)) else (0 : Int32)) else (if p6 = (0 : Int32) then (if p2 = (p0 + (1 : Int32)) then (if p3 = (1 : Int32) then (1 : Int32) else (0 : Int32)) else (0 : Int32)) else (if p4 = (10 : Int32) then (if p2 = p0 then (if p3 = p1 then (1 : Int32) else (0 : Int32)) else (0 : Int32)) else (if p7 = (0 : Int32) then (if p2 = (p0 + (1 : Int32)) then (if p3 = (1 : Int32) then (1 : Int32) else (0 : Int32)) else (0 : Int32)) else (if p4 = (133 : Int32) then (if p2 = p0 then (if p3 = p1 then (1 : Int32) else (0 : Int32)) else (0 : Int32)) else (if p2 = (p0 + (1 : Int32)) then (if p3 = (1 : Int32) then (1 : Int32) else (0 : Int32)) else (0 : Int32))))))) else (if p4 = (65279 : Int32) then (if p2 = p0 then (if p3 = p1 then (1 : Int32) else (0 : Int32)) else (0 : Int32)) else (if (own_f8 p4 p7) = (0 : Int32) then (if p2 = p0 then (if p3 = (p1 + (1 : Int32)) then (1 : Int32) else (0 : Int32)) else (0 : Int32)) else (if p6 = (0 : Int32) then (if p2 = (p0 + (1 : Int32)) then (if p3 = (1 : Int32) then (1 : Int32) else (0 : Int32)) else (0 : Int32)) else (if p4 = (10 : Int32) then (if p2 = p0 then (if p3 = p1 then (1 : Int32) else (0 : Int32)) else (0 : Int32)) else (if p7 = (0 : Int32) then (if p2 = (p0 + (1 : Int32)) then (if p3 = (1 : Int32) then (1 : Int32) else (0 : Int32)) else (0 : Int32)) else (if p4 = (133 : Int32) then (if p2 = p0 then (if p3 = p1 then (1 : Int32) else (0 : Int32)) else (0 : Int32)) else (if p2 = (p0 + (1 : Int32)) then (if p3 = (1 : Int32) then (1 : Int32) else (0 : Int32)) else (0 : Int32)))))))))
def Q7 (Z : State) (p0 : Int32) (p1 : Int32) (p2 : Int32) (p3 : Int32) (p4 : Int32) (p5 : Int32) (p6 : Int32) (p7 : Int32) (h0 : Heap) (n0 : Nat) (v : Option Value) (h : Heap) (L : List Loc) : Prop := v = some (.int (own_f7 p0 p1 p2 p3 p4 p5 p6 p7)) ∧ Fr n0 L ∧ h = h0
set_option maxRecDepth 65536 in
set_option maxHeartbeats 40000000 in
theorem rm7 (l : Launch) (Z : State) (aw : Array Value) (hw : ∀ d ∈ tables_1, d.before aw Z = true) (ws : List Jvm.Cond) (p0 : Int32) (p1 : Int32) (p2 : Int32) (p3 : Int32) (p4 : Int32) (p5 : Int32) (p6 : Int32) (p7 : Int32) (h0 : Heap) (n0 : Nat) (Z0 : n0 ≤ h0.size)  :
    MetFree l (⟨"com/example/tree_to_rows/treetorows/xml/DocumentPlacePassPinLaw", "step", "(IIIICZZZ)Z"⟩ : MethodName) (head1 (Jvm.Cond.code (⟨"com/example/tree_to_rows/treetorows/xml/DocumentPlacePassPinLaw", "step", "(IIIICZZZ)Z"⟩ : MethodName) method_4_code 8 (some .boolean) :: ws) ({ frames := 1, cells := 0, slots := 0, locals := 13 } : Room)) (fun a U => a = #[(.int p0), (.int p1), (.int p2), (.int p3), (.int p4), (.int p5), (.int p6), (.int p7)] ∧ Z.Warmed39 U.vm ∧ U.heap = h0) (fun _ _ _ _ _ => True) (fun _ U o U' => ∃ v L, o = .returned v ∧ Q7 Z p0 p1 p2 p3 p4 p5 p6 p7 h0 n0 v U'.heap L ∧ FrameEnd U o U' L ({ frames := 1, cells := 0, slots := 0, locals := 13 } : Room).cells ({ frames := 1, cells := 0, slots := 0, locals := 13 } : Room).slots) := by
  refine MetFree.of_bodySF (plainFor_of_name pn_7) hisR ?_
  intro p e s m args below meth c s₁ Bd hml0 hP hK
  obtain ⟨rfl, hZ, hh⟩ := hP
  have hx := Bd.exec
  have hby := Bd.bytes
  have hml : c.maxLocals = 8 := hml0
  have hown : s.vm.findClass "com/example/tree_to_rows/treetorows/xml/DocumentPlacePassPinLaw" = some m.cls := findClass_of_methodNamed Bd.named
  have hnm := (name_of_methodNamed Bd.named Bd.method).1
  have hlk : meth.locks = false := by first | exact BodyLoose.notSynchronized (by assumption) | exact Body.notSynchronized (by assumption)
  have X0 : Stand p l e ({ frames := 1, cells := 0, slots := 0, locals := 13 } : Room) s m #[(.int p0), (.int p1), (.int p2), (.int p3), (.int p4), (.int p5), (.int p6), (.int p7)] below meth c s₁ [] 0 0 := Stand.of_body Bd
  have e0 : s₁.heap = h0 := by rw [← hh, Bd.state]; rfl
  have N0 := Fr.nil n0
  have K0 : Keep h0 h0 [] := Keep.refl _ _
  refine own_start (CS := (0, 0)) (Q := (Q7 Z p0 p1 p2 p3 p4 p5 p6 p7 h0 n0)) (ef_7 m p0 p1 p2 p3 p4 p5 p6 p7) ?_
  show own_Go p e below s _ _ (s₁.setTop (mkF m 0 #[iv p0, iv p1, iv p2, iv p3, iv p4, iv p5, iv p6, iv p7] []))
  refine own_via (fun k => XS.iload X0.here hx rfl (hb hby d7_0) rfl  k) ?_
  show own_Go p e below s _ _ (s₁.setTop (mkF m 2 #[iv p0, iv p1, iv p2, iv p3, iv p4, iv p5, iv p6, iv p7] [(.int p5)]))
  by_cases hc1 : p5 = (0 : Int32)
  · refine own_via (fun k => XS.ifYes X0.here hx rfl (pc0 := 2) (pc' := 28) rfl (hb hby d7_2) rfl ((if0 _ _).trans (teq hc1).1) (by decide) (by decide) k) ?_
    show own_Go p e below s _ _ (s₁.setTop (mkF m 28 #[iv p0, iv p1, iv p2, iv p3, iv p4, iv p5, iv p6, iv p7] []))
    refine own_via (fun k => XS.iload X0.here hx rfl (hb hby d7_28) rfl  (XS.iload X0.here hx rfl (hb hby d7_30) rfl  k)) ?_
    show own_Go p e below s _ _ (s₁.setTop (mkF m 32 #[iv p0, iv p1, iv p2, iv p3, iv p4, iv p5, iv p6, iv p7] [(.int p7), (.int p4)]))
    obtain ⟨_, _, ⟨T2, L2, k2, n2⟩, -, X2, ⟨Lc2, hQ2, l2, y2, z2⟩, st2⟩ := Jvm.LawKit.callS X0 hx (y := (⟨"com/example/tree_to_rows/treetorows/xml/DocumentPlacePassPinLaw", "endsLine", "(CZ)Z"⟩ : MethodName)) hown (mvT hZ (hw _ (List.mem_of_getElem? (i := 43) rfl))) (mvT hZ (hw _ (List.mem_of_getElem? (i := 44) rfl))) (mvT hZ (hw _ (List.mem_of_getElem? (i := 2) rfl))) (mvT hZ (hw _ (List.mem_of_getElem? (i := 45) rfl))) (by decide) (backOf (W := 0) (rm8 l Z aw hw [] p4 p7 h0 n0 Z0) hZ (hw _ (List.mem_of_getElem? (i := 45) rfl)) (hw _ (List.mem_of_getElem? (i := 2) rfl)) (by decide) (by decide)) (g := (mkF m 32 #[iv p0, iv p1, iv p2, iv p3, iv p4, iv p5, iv p6, iv p7] [(.int p7), (.int p4)])) rfl (by rw [hml]; rfl) (argsL := [(.int p4), (.int p7)]) (rest := []) (lenOf pd_6 rfl) rfl (by show 2 * 0 + _ ≤ _; exact Nat.le_of_eq rfl) (hb hby d7_32) (fun _ _ => ⟨rfl, e0, (by decide : 0 + 0 ≤ _), (by decide : 0 + 0 ≤ _)⟩)
    dsimp only [Pt.U, Pt.locs, Pt.cells, Pt.slots] at X2 l2 y2 z2 st2 hQ2
    subst l2 y2 z2
    obtain ⟨rfl, N2q, eh2⟩ := hQ2
    have N3 := Fr.app N0 N2q
    refine own_via (fun k => st2 _ k) ?_
    show own_Go p e below s _ _ (T2.setTop (mkF m 35 #[iv p0, iv p1, iv p2, iv p3, iv p4, iv p5, iv p6, iv p7] [(.int (own_f8 p4 p7))]))
    by_cases hc4 : (own_f8 p4 p7) = (0 : Int32)
    · refine own_via (fun k => XS.ifYes X2.here hx rfl (pc0 := 35) (pc' := 97) rfl (hb hby d7_35) rfl ((if0 _ _).trans (teq hc4).1) (by decide) (by decide) k) ?_
      show own_Go p e below s _ _ (T2.setTop (mkF m 97 #[iv p0, iv p1, iv p2, iv p3, iv p4, iv p5, iv p6, iv p7] []))
      refine own_via (fun k => XS.iloadN X2.here hx rfl (hb hby d7_97) rfl  (XS.iloadN X2.here hx rfl (hb hby d7_98) rfl  k)) ?_
      show own_Go p e below s _ _ (T2.setTop (mkF m 99 #[iv p0, iv p1, iv p2, iv p3, iv p4, iv p5, iv p6, iv p7] [(.int p0), (.int p2)]))
      by_cases hc5 : p2 = p0
      · refine own_via (fun k => XS.icmpNo X2.here hx rfl (hb hby d7_99) rfl (teq hc5).2 k) ?_
        show own_Go p e below s _ _ (T2.setTop (mkF m 102 #[iv p0, iv p1, iv p2, iv p3, iv p4, iv p5, iv p6, iv p7] []))
        refine own_via (fun k => XS.iloadN X2.here hx rfl (hb hby d7_102) rfl  (XS.iloadN X2.here hx rfl (hb hby d7_103) rfl  (XS.iconst X2.here hx rfl (hb hby d7_104) (XS.iadd X2.here hx rfl (hb hby d7_105) rfl k)))) ?_
        show own_Go p e below s _ _ (T2.setTop (mkF m 106 #[iv p0, iv p1, iv p2, iv p3, iv p4, iv p5, iv p6, iv p7] [(.int (p1 + (1 : Int32))), (.int p3)]))
        by_cases hc6 : p3 = (p1 + (1 : Int32))
        · refine own_via (fun k => XS.icmpNo X2.here hx rfl (hb hby d7_106) rfl (teq hc6).2 k) ?_
          show own_Go p e below s _ _ (T2.setTop (mkF m 109 #[iv p0, iv p1, iv p2, iv p3, iv p4, iv p5, iv p6, iv p7] []))
          refine own_via (fun k => XS.iconst X2.here hx rfl (hb hby d7_109) (XS.goto X2.here hx rfl (pc0 := 110) (pc' := 114) rfl (hb hby d7_110) (by decide) (by decide) k)) ?_
          show own_Go p e below s _ _ (T2.setTop (mkF m 114 #[iv p0, iv p1, iv p2, iv p3, iv p4, iv p5, iv p6, iv p7] [(.int 1)]))
          exact own_retN X2 hx hlk (t := .boolean) Bd.returns (by simp) (hb hby d7_114) (Q := (Q7 Z p0 p1 p2 p3 p4 p5 p6 p7 h0 n0)) ⟨(congrArg (fun z => some (Value.int z)) (show (1 : Int32) = (own_f7 p0 p1 p2 p3 p4 p5 p6 p7) from (by unfold own_f7; exact ((if_pos hc1).trans ((if_pos hc4).trans ((if_pos hc5).trans ((if_pos hc6).trans rfl)))).symm))), N3, eh2⟩ (by decide) (by decide)
        · refine own_via (fun k => XS.icmpYes X2.here hx rfl (pc0 := 106) (pc' := 113) rfl (hb hby d7_106) rfl (feq hc6).2 (by decide) (by decide) k) ?_
          show own_Go p e below s _ _ (T2.setTop (mkF m 113 #[iv p0, iv p1, iv p2, iv p3, iv p4, iv p5, iv p6, iv p7] []))
          refine own_via (fun k => XS.iconst X2.here hx rfl (hb hby d7_113) k) ?_
          show own_Go p e below s _ _ (T2.setTop (mkF m 114 #[iv p0, iv p1, iv p2, iv p3, iv p4, iv p5, iv p6, iv p7] [(.int 0)]))
          exact own_retN X2 hx hlk (t := .boolean) Bd.returns (by simp) (hb hby d7_114) (Q := (Q7 Z p0 p1 p2 p3 p4 p5 p6 p7 h0 n0)) ⟨(congrArg (fun z => some (Value.int z)) (show (0 : Int32) = (own_f7 p0 p1 p2 p3 p4 p5 p6 p7) from (by unfold own_f7; exact ((if_pos hc1).trans ((if_pos hc4).trans ((if_pos hc5).trans ((if_neg hc6).trans rfl)))).symm))), N3, eh2⟩ (by decide) (by decide)
      · refine own_via (fun k => XS.icmpYes X2.here hx rfl (pc0 := 99) (pc' := 113) rfl (hb hby d7_99) rfl (feq hc5).2 (by decide) (by decide) k) ?_
        show own_Go p e below s _ _ (T2.setTop (mkF m 113 #[iv p0, iv p1, iv p2, iv p3, iv p4, iv p5, iv p6, iv p7] []))
        refine own_via (fun k => XS.iconst X2.here hx rfl (hb hby d7_113) k) ?_
        show own_Go p e below s _ _ (T2.setTop (mkF m 114 #[iv p0, iv p1, iv p2, iv p3, iv p4, iv p5, iv p6, iv p7] [(.int 0)]))
        exact own_retN X2 hx hlk (t := .boolean) Bd.returns (by simp) (hb hby d7_114) (Q := (Q7 Z p0 p1 p2 p3 p4 p5 p6 p7 h0 n0)) ⟨(congrArg (fun z => some (Value.int z)) (show (0 : Int32) = (own_f7 p0 p1 p2 p3 p4 p5 p6 p7) from (by unfold own_f7; exact ((if_pos hc1).trans ((if_pos hc4).trans ((if_neg hc5).trans rfl))).symm))), N3, eh2⟩ (by decide) (by decide)
    · refine own_via (fun k => XS.ifNo X2.here hx rfl (hb hby d7_35) rfl ((if0 _ _).trans (feq hc4).1) k) ?_
      show own_Go p e below s _ _ (T2.setTop (mkF m 38 #[iv p0, iv p1, iv p2, iv p3, iv p4, iv p5, iv p6, iv p7] []))
      refine own_via (fun k => XS.iload X2.here hx rfl (hb hby d7_38) rfl  k) ?_
      show own_Go p e below s _ _ (T2.setTop (mkF m 40 #[iv p0, iv p1, iv p2, iv p3, iv p4, iv p5, iv p6, iv p7] [(.int p6)]))
      by_cases hc7 : p6 = (0 : Int32)
      · refine own_via (fun k => XS.ifYes X2.here hx rfl (pc0 := 40) (pc' := 79) rfl (hb hby d7_40) rfl ((if0 _ _).trans (teq hc7).1) (by decide) (by decide) k) ?_
        show own_Go p e below s _ _ (T2.setTop (mkF m 79 #[iv p0, iv p1, iv p2, iv p3, iv p4, iv p5, iv p6, iv p7] []))
        refine own_via (fun k => XS.iloadN X2.here hx rfl (hb hby d7_79) rfl  (XS.iloadN X2.here hx rfl (hb hby d7_80) rfl  (XS.iconst X2.here hx rfl (hb hby d7_81) (XS.iadd X2.here hx rfl (hb hby d7_82) rfl k)))) ?_
        show own_Go p e below s _ _ (T2.setTop (mkF m 83 #[iv p0, iv p1, iv p2, iv p3, iv p4, iv p5, iv p6, iv p7] [(.int (p0 + (1 : Int32))), (.int p2)]))
        by_cases hc8 : p2 = (p0 + (1 : Int32))
        · refine own_via (fun k => XS.icmpNo X2.here hx rfl (hb hby d7_83) rfl (teq hc8).2 k) ?_
          show own_Go p e below s _ _ (T2.setTop (mkF m 86 #[iv p0, iv p1, iv p2, iv p3, iv p4, iv p5, iv p6, iv p7] []))
          refine own_via (fun k => XS.iloadN X2.here hx rfl (hb hby d7_86) rfl  (XS.iconst X2.here hx rfl (hb hby d7_87) k)) ?_
          show own_Go p e below s _ _ (T2.setTop (mkF m 88 #[iv p0, iv p1, iv p2, iv p3, iv p4, iv p5, iv p6, iv p7] [(.int 1), (.int p3)]))
          by_cases hc9 : p3 = (1 : Int32)
          · refine own_via (fun k => XS.icmpNo X2.here hx rfl (hb hby d7_88) rfl (teq hc9).2 k) ?_
            show own_Go p e below s _ _ (T2.setTop (mkF m 91 #[iv p0, iv p1, iv p2, iv p3, iv p4, iv p5, iv p6, iv p7] []))
            refine own_via (fun k => XS.iconst X2.here hx rfl (hb hby d7_91) (XS.goto X2.here hx rfl (pc0 := 92) (pc' := 96) rfl (hb hby d7_92) (by decide) (by decide) k)) ?_
            show own_Go p e below s _ _ (T2.setTop (mkF m 96 #[iv p0, iv p1, iv p2, iv p3, iv p4, iv p5, iv p6, iv p7] [(.int 1)]))
            exact own_retN X2 hx hlk (t := .boolean) Bd.returns (by simp) (hb hby d7_96) (Q := (Q7 Z p0 p1 p2 p3 p4 p5 p6 p7 h0 n0)) ⟨(congrArg (fun z => some (Value.int z)) (show (1 : Int32) = (own_f7 p0 p1 p2 p3 p4 p5 p6 p7) from (by unfold own_f7; exact ((if_pos hc1).trans ((if_neg hc4).trans ((if_pos hc7).trans ((if_pos hc8).trans ((if_pos hc9).trans rfl))))).symm))), N3, eh2⟩ (by decide) (by decide)
          · refine own_via (fun k => XS.icmpYes X2.here hx rfl (pc0 := 88) (pc' := 95) rfl (hb hby d7_88) rfl (feq hc9).2 (by decide) (by decide) k) ?_
            show own_Go p e below s _ _ (T2.setTop (mkF m 95 #[iv p0, iv p1, iv p2, iv p3, iv p4, iv p5, iv p6, iv p7] []))
            refine own_via (fun k => XS.iconst X2.here hx rfl (hb hby d7_95) k) ?_
            show own_Go p e below s _ _ (T2.setTop (mkF m 96 #[iv p0, iv p1, iv p2, iv p3, iv p4, iv p5, iv p6, iv p7] [(.int 0)]))
            exact own_retN X2 hx hlk (t := .boolean) Bd.returns (by simp) (hb hby d7_96) (Q := (Q7 Z p0 p1 p2 p3 p4 p5 p6 p7 h0 n0)) ⟨(congrArg (fun z => some (Value.int z)) (show (0 : Int32) = (own_f7 p0 p1 p2 p3 p4 p5 p6 p7) from (by unfold own_f7; exact ((if_pos hc1).trans ((if_neg hc4).trans ((if_pos hc7).trans ((if_pos hc8).trans ((if_neg hc9).trans rfl))))).symm))), N3, eh2⟩ (by decide) (by decide)
        · refine own_via (fun k => XS.icmpYes X2.here hx rfl (pc0 := 83) (pc' := 95) rfl (hb hby d7_83) rfl (feq hc8).2 (by decide) (by decide) k) ?_
          show own_Go p e below s _ _ (T2.setTop (mkF m 95 #[iv p0, iv p1, iv p2, iv p3, iv p4, iv p5, iv p6, iv p7] []))
          refine own_via (fun k => XS.iconst X2.here hx rfl (hb hby d7_95) k) ?_
          show own_Go p e below s _ _ (T2.setTop (mkF m 96 #[iv p0, iv p1, iv p2, iv p3, iv p4, iv p5, iv p6, iv p7] [(.int 0)]))
          exact own_retN X2 hx hlk (t := .boolean) Bd.returns (by simp) (hb hby d7_96) (Q := (Q7 Z p0 p1 p2 p3 p4 p5 p6 p7 h0 n0)) ⟨(congrArg (fun z => some (Value.int z)) (show (0 : Int32) = (own_f7 p0 p1 p2 p3 p4 p5 p6 p7) from (by unfold own_f7; exact ((if_pos hc1).trans ((if_neg hc4).trans ((if_pos hc7).trans ((if_neg hc8).trans rfl)))).symm))), N3, eh2⟩ (by decide) (by decide)
      · refine own_via (fun k => XS.ifNo X2.here hx rfl (hb hby d7_40) rfl ((if0 _ _).trans (feq hc7).1) k) ?_
        show own_Go p e below s _ _ (T2.setTop (mkF m 43 #[iv p0, iv p1, iv p2, iv p3, iv p4, iv p5, iv p6, iv p7] []))
        refine own_via (fun k => XS.iload X2.here hx rfl (hb hby d7_43) rfl  (XS.bipush X2.here hx rfl (hb hby d7_45) k)) ?_
        show own_Go p e below s _ _ (T2.setTop (mkF m 47 #[iv p0, iv p1, iv p2, iv p3, iv p4, iv p5, iv p6, iv p7] [(.int 10), (.int p4)]))
        by_cases hc10 : p4 = (10 : Int32)
        · refine own_via (fun k => XS.icmpYes X2.here hx rfl (pc0 := 47) (pc' := 63) rfl (hb hby d7_47) rfl (teq hc10).1 (by decide) (by decide) k) ?_
          show own_Go p e below s _ _ (T2.setTop (mkF m 63 #[iv p0, iv p1, iv p2, iv p3, iv p4, iv p5, iv p6, iv p7] []))
          refine own_via (fun k => XS.iloadN X2.here hx rfl (hb hby d7_63) rfl  (XS.iloadN X2.here hx rfl (hb hby d7_64) rfl  k)) ?_
          show own_Go p e below s _ _ (T2.setTop (mkF m 65 #[iv p0, iv p1, iv p2, iv p3, iv p4, iv p5, iv p6, iv p7] [(.int p0), (.int p2)]))
          by_cases hc11 : p2 = p0
          · refine own_via (fun k => XS.icmpNo X2.here hx rfl (hb hby d7_65) rfl (teq hc11).2 k) ?_
            show own_Go p e below s _ _ (T2.setTop (mkF m 68 #[iv p0, iv p1, iv p2, iv p3, iv p4, iv p5, iv p6, iv p7] []))
            refine own_via (fun k => XS.iloadN X2.here hx rfl (hb hby d7_68) rfl  (XS.iloadN X2.here hx rfl (hb hby d7_69) rfl  k)) ?_
            show own_Go p e below s _ _ (T2.setTop (mkF m 70 #[iv p0, iv p1, iv p2, iv p3, iv p4, iv p5, iv p6, iv p7] [(.int p1), (.int p3)]))
            by_cases hc12 : p3 = p1
            · refine own_via (fun k => XS.icmpNo X2.here hx rfl (hb hby d7_70) rfl (teq hc12).2 k) ?_
              show own_Go p e below s _ _ (T2.setTop (mkF m 73 #[iv p0, iv p1, iv p2, iv p3, iv p4, iv p5, iv p6, iv p7] []))
              refine own_via (fun k => XS.iconst X2.here hx rfl (hb hby d7_73) (XS.goto X2.here hx rfl (pc0 := 74) (pc' := 78) rfl (hb hby d7_74) (by decide) (by decide) k)) ?_
              show own_Go p e below s _ _ (T2.setTop (mkF m 78 #[iv p0, iv p1, iv p2, iv p3, iv p4, iv p5, iv p6, iv p7] [(.int 1)]))
              exact own_retN X2 hx hlk (t := .boolean) Bd.returns (by simp) (hb hby d7_78) (Q := (Q7 Z p0 p1 p2 p3 p4 p5 p6 p7 h0 n0)) ⟨(congrArg (fun z => some (Value.int z)) (show (1 : Int32) = (own_f7 p0 p1 p2 p3 p4 p5 p6 p7) from (by unfold own_f7; exact ((if_pos hc1).trans ((if_neg hc4).trans ((if_neg hc7).trans ((if_pos hc10).trans ((if_pos hc11).trans ((if_pos hc12).trans rfl)))))).symm))), N3, eh2⟩ (by decide) (by decide)
            · refine own_via (fun k => XS.icmpYes X2.here hx rfl (pc0 := 70) (pc' := 77) rfl (hb hby d7_70) rfl (feq hc12).2 (by decide) (by decide) k) ?_
              show own_Go p e below s _ _ (T2.setTop (mkF m 77 #[iv p0, iv p1, iv p2, iv p3, iv p4, iv p5, iv p6, iv p7] []))
              refine own_via (fun k => XS.iconst X2.here hx rfl (hb hby d7_77) k) ?_
              show own_Go p e below s _ _ (T2.setTop (mkF m 78 #[iv p0, iv p1, iv p2, iv p3, iv p4, iv p5, iv p6, iv p7] [(.int 0)]))
              exact own_retN X2 hx hlk (t := .boolean) Bd.returns (by simp) (hb hby d7_78) (Q := (Q7 Z p0 p1 p2 p3 p4 p5 p6 p7 h0 n0)) ⟨(congrArg (fun z => some (Value.int z)) (show (0 : Int32) = (own_f7 p0 p1 p2 p3 p4 p5 p6 p7) from (by unfold own_f7; exact ((if_pos hc1).trans ((if_neg hc4).trans ((if_neg hc7).trans ((if_pos hc10).trans ((if_pos hc11).trans ((if_neg hc12).trans rfl)))))).symm))), N3, eh2⟩ (by decide) (by decide)
          · refine own_via (fun k => XS.icmpYes X2.here hx rfl (pc0 := 65) (pc' := 77) rfl (hb hby d7_65) rfl (feq hc11).2 (by decide) (by decide) k) ?_
            show own_Go p e below s _ _ (T2.setTop (mkF m 77 #[iv p0, iv p1, iv p2, iv p3, iv p4, iv p5, iv p6, iv p7] []))
            refine own_via (fun k => XS.iconst X2.here hx rfl (hb hby d7_77) k) ?_
            show own_Go p e below s _ _ (T2.setTop (mkF m 78 #[iv p0, iv p1, iv p2, iv p3, iv p4, iv p5, iv p6, iv p7] [(.int 0)]))
            exact own_retN X2 hx hlk (t := .boolean) Bd.returns (by simp) (hb hby d7_78) (Q := (Q7 Z p0 p1 p2 p3 p4 p5 p6 p7 h0 n0)) ⟨(congrArg (fun z => some (Value.int z)) (show (0 : Int32) = (own_f7 p0 p1 p2 p3 p4 p5 p6 p7) from (by unfold own_f7; exact ((if_pos hc1).trans ((if_neg hc4).trans ((if_neg hc7).trans ((if_pos hc10).trans ((if_neg hc11).trans rfl))))).symm))), N3, eh2⟩ (by decide) (by decide)
        · refine own_via (fun k => XS.icmpNo X2.here hx rfl (hb hby d7_47) rfl (feq hc10).1 k) ?_
          show own_Go p e below s _ _ (T2.setTop (mkF m 50 #[iv p0, iv p1, iv p2, iv p3, iv p4, iv p5, iv p6, iv p7] []))
          refine own_via (fun k => XS.iload X2.here hx rfl (hb hby d7_50) rfl  k) ?_
          show own_Go p e below s _ _ (T2.setTop (mkF m 52 #[iv p0, iv p1, iv p2, iv p3, iv p4, iv p5, iv p6, iv p7] [(.int p7)]))
          by_cases hc13 : p7 = (0 : Int32)
          · refine own_via (fun k => XS.ifYes X2.here hx rfl (pc0 := 52) (pc' := 79) rfl (hb hby d7_52) rfl ((if0 _ _).trans (teq hc13).1) (by decide) (by decide) k) ?_
            show own_Go p e below s _ _ (T2.setTop (mkF m 79 #[iv p0, iv p1, iv p2, iv p3, iv p4, iv p5, iv p6, iv p7] []))
            refine own_via (fun k => XS.iloadN X2.here hx rfl (hb hby d7_79) rfl  (XS.iloadN X2.here hx rfl (hb hby d7_80) rfl  (XS.iconst X2.here hx rfl (hb hby d7_81) (XS.iadd X2.here hx rfl (hb hby d7_82) rfl k)))) ?_
            show own_Go p e below s _ _ (T2.setTop (mkF m 83 #[iv p0, iv p1, iv p2, iv p3, iv p4, iv p5, iv p6, iv p7] [(.int (p0 + (1 : Int32))), (.int p2)]))
            by_cases hc14 : p2 = (p0 + (1 : Int32))
            · refine own_via (fun k => XS.icmpNo X2.here hx rfl (hb hby d7_83) rfl (teq hc14).2 k) ?_
              show own_Go p e below s _ _ (T2.setTop (mkF m 86 #[iv p0, iv p1, iv p2, iv p3, iv p4, iv p5, iv p6, iv p7] []))
              refine own_via (fun k => XS.iloadN X2.here hx rfl (hb hby d7_86) rfl  (XS.iconst X2.here hx rfl (hb hby d7_87) k)) ?_
              show own_Go p e below s _ _ (T2.setTop (mkF m 88 #[iv p0, iv p1, iv p2, iv p3, iv p4, iv p5, iv p6, iv p7] [(.int 1), (.int p3)]))
              by_cases hc15 : p3 = (1 : Int32)
              · refine own_via (fun k => XS.icmpNo X2.here hx rfl (hb hby d7_88) rfl (teq hc15).2 k) ?_
                show own_Go p e below s _ _ (T2.setTop (mkF m 91 #[iv p0, iv p1, iv p2, iv p3, iv p4, iv p5, iv p6, iv p7] []))
                refine own_via (fun k => XS.iconst X2.here hx rfl (hb hby d7_91) (XS.goto X2.here hx rfl (pc0 := 92) (pc' := 96) rfl (hb hby d7_92) (by decide) (by decide) k)) ?_
                show own_Go p e below s _ _ (T2.setTop (mkF m 96 #[iv p0, iv p1, iv p2, iv p3, iv p4, iv p5, iv p6, iv p7] [(.int 1)]))
                exact own_retN X2 hx hlk (t := .boolean) Bd.returns (by simp) (hb hby d7_96) (Q := (Q7 Z p0 p1 p2 p3 p4 p5 p6 p7 h0 n0)) ⟨(congrArg (fun z => some (Value.int z)) (show (1 : Int32) = (own_f7 p0 p1 p2 p3 p4 p5 p6 p7) from (by unfold own_f7; exact ((if_pos hc1).trans ((if_neg hc4).trans ((if_neg hc7).trans ((if_neg hc10).trans ((if_pos hc13).trans ((if_pos hc14).trans ((if_pos hc15).trans rfl))))))).symm))), N3, eh2⟩ (by decide) (by decide)
              · refine own_via (fun k => XS.icmpYes X2.here hx rfl (pc0 := 88) (pc' := 95) rfl (hb hby d7_88) rfl (feq hc15).2 (by decide) (by decide) k) ?_
                show own_Go p e below s _ _ (T2.setTop (mkF m 95 #[iv p0, iv p1, iv p2, iv p3, iv p4, iv p5, iv p6, iv p7] []))
                refine own_via (fun k => XS.iconst X2.here hx rfl (hb hby d7_95) k) ?_
                show own_Go p e below s _ _ (T2.setTop (mkF m 96 #[iv p0, iv p1, iv p2, iv p3, iv p4, iv p5, iv p6, iv p7] [(.int 0)]))
                exact own_retN X2 hx hlk (t := .boolean) Bd.returns (by simp) (hb hby d7_96) (Q := (Q7 Z p0 p1 p2 p3 p4 p5 p6 p7 h0 n0)) ⟨(congrArg (fun z => some (Value.int z)) (show (0 : Int32) = (own_f7 p0 p1 p2 p3 p4 p5 p6 p7) from (by unfold own_f7; exact ((if_pos hc1).trans ((if_neg hc4).trans ((if_neg hc7).trans ((if_neg hc10).trans ((if_pos hc13).trans ((if_pos hc14).trans ((if_neg hc15).trans rfl))))))).symm))), N3, eh2⟩ (by decide) (by decide)
            · refine own_via (fun k => XS.icmpYes X2.here hx rfl (pc0 := 83) (pc' := 95) rfl (hb hby d7_83) rfl (feq hc14).2 (by decide) (by decide) k) ?_
              show own_Go p e below s _ _ (T2.setTop (mkF m 95 #[iv p0, iv p1, iv p2, iv p3, iv p4, iv p5, iv p6, iv p7] []))
              refine own_via (fun k => XS.iconst X2.here hx rfl (hb hby d7_95) k) ?_
              show own_Go p e below s _ _ (T2.setTop (mkF m 96 #[iv p0, iv p1, iv p2, iv p3, iv p4, iv p5, iv p6, iv p7] [(.int 0)]))
              exact own_retN X2 hx hlk (t := .boolean) Bd.returns (by simp) (hb hby d7_96) (Q := (Q7 Z p0 p1 p2 p3 p4 p5 p6 p7 h0 n0)) ⟨(congrArg (fun z => some (Value.int z)) (show (0 : Int32) = (own_f7 p0 p1 p2 p3 p4 p5 p6 p7) from (by unfold own_f7; exact ((if_pos hc1).trans ((if_neg hc4).trans ((if_neg hc7).trans ((if_neg hc10).trans ((if_pos hc13).trans ((if_neg hc14).trans rfl)))))).symm))), N3, eh2⟩ (by decide) (by decide)
          · refine own_via (fun k => XS.ifNo X2.here hx rfl (hb hby d7_52) rfl ((if0 _ _).trans (feq hc13).1) k) ?_
            show own_Go p e below s _ _ (T2.setTop (mkF m 55 #[iv p0, iv p1, iv p2, iv p3, iv p4, iv p5, iv p6, iv p7] []))
            refine own_via (fun k => XS.iload X2.here hx rfl (hb hby d7_55) rfl  (XS.sipush X2.here hx rfl (hb hby d7_57) k)) ?_
            show own_Go p e below s _ _ (T2.setTop (mkF m 60 #[iv p0, iv p1, iv p2, iv p3, iv p4, iv p5, iv p6, iv p7] [(.int 133), (.int p4)]))
            by_cases hc16 : p4 = (133 : Int32)
            · refine own_via (fun k => XS.icmpNo X2.here hx rfl (hb hby d7_60) rfl (teq hc16).2 k) ?_
              show own_Go p e below s _ _ (T2.setTop (mkF m 63 #[iv p0, iv p1, iv p2, iv p3, iv p4, iv p5, iv p6, iv p7] []))
              refine own_via (fun k => XS.iloadN X2.here hx rfl (hb hby d7_63) rfl  (XS.iloadN X2.here hx rfl (hb hby d7_64) rfl  k)) ?_
              show own_Go p e below s _ _ (T2.setTop (mkF m 65 #[iv p0, iv p1, iv p2, iv p3, iv p4, iv p5, iv p6, iv p7] [(.int p0), (.int p2)]))
              by_cases hc17 : p2 = p0
              · refine own_via (fun k => XS.icmpNo X2.here hx rfl (hb hby d7_65) rfl (teq hc17).2 k) ?_
                show own_Go p e below s _ _ (T2.setTop (mkF m 68 #[iv p0, iv p1, iv p2, iv p3, iv p4, iv p5, iv p6, iv p7] []))
                refine own_via (fun k => XS.iloadN X2.here hx rfl (hb hby d7_68) rfl  (XS.iloadN X2.here hx rfl (hb hby d7_69) rfl  k)) ?_
                show own_Go p e below s _ _ (T2.setTop (mkF m 70 #[iv p0, iv p1, iv p2, iv p3, iv p4, iv p5, iv p6, iv p7] [(.int p1), (.int p3)]))
                by_cases hc18 : p3 = p1
                · refine own_via (fun k => XS.icmpNo X2.here hx rfl (hb hby d7_70) rfl (teq hc18).2 k) ?_
                  show own_Go p e below s _ _ (T2.setTop (mkF m 73 #[iv p0, iv p1, iv p2, iv p3, iv p4, iv p5, iv p6, iv p7] []))
                  refine own_via (fun k => XS.iconst X2.here hx rfl (hb hby d7_73) (XS.goto X2.here hx rfl (pc0 := 74) (pc' := 78) rfl (hb hby d7_74) (by decide) (by decide) k)) ?_
                  show own_Go p e below s _ _ (T2.setTop (mkF m 78 #[iv p0, iv p1, iv p2, iv p3, iv p4, iv p5, iv p6, iv p7] [(.int 1)]))
                  exact own_retN X2 hx hlk (t := .boolean) Bd.returns (by simp) (hb hby d7_78) (Q := (Q7 Z p0 p1 p2 p3 p4 p5 p6 p7 h0 n0)) ⟨(congrArg (fun z => some (Value.int z)) (show (1 : Int32) = (own_f7 p0 p1 p2 p3 p4 p5 p6 p7) from (by unfold own_f7; exact ((if_pos hc1).trans ((if_neg hc4).trans ((if_neg hc7).trans ((if_neg hc10).trans ((if_neg hc13).trans ((if_pos hc16).trans ((if_pos hc17).trans ((if_pos hc18).trans rfl)))))))).symm))), N3, eh2⟩ (by decide) (by decide)
                · refine own_via (fun k => XS.icmpYes X2.here hx rfl (pc0 := 70) (pc' := 77) rfl (hb hby d7_70) rfl (feq hc18).2 (by decide) (by decide) k) ?_
                  show own_Go p e below s _ _ (T2.setTop (mkF m 77 #[iv p0, iv p1, iv p2, iv p3, iv p4, iv p5, iv p6, iv p7] []))
                  refine own_via (fun k => XS.iconst X2.here hx rfl (hb hby d7_77) k) ?_
                  show own_Go p e below s _ _ (T2.setTop (mkF m 78 #[iv p0, iv p1, iv p2, iv p3, iv p4, iv p5, iv p6, iv p7] [(.int 0)]))
                  exact own_retN X2 hx hlk (t := .boolean) Bd.returns (by simp) (hb hby d7_78) (Q := (Q7 Z p0 p1 p2 p3 p4 p5 p6 p7 h0 n0)) ⟨(congrArg (fun z => some (Value.int z)) (show (0 : Int32) = (own_f7 p0 p1 p2 p3 p4 p5 p6 p7) from (by unfold own_f7; exact ((if_pos hc1).trans ((if_neg hc4).trans ((if_neg hc7).trans ((if_neg hc10).trans ((if_neg hc13).trans ((if_pos hc16).trans ((if_pos hc17).trans ((if_neg hc18).trans rfl)))))))).symm))), N3, eh2⟩ (by decide) (by decide)
              · refine own_via (fun k => XS.icmpYes X2.here hx rfl (pc0 := 65) (pc' := 77) rfl (hb hby d7_65) rfl (feq hc17).2 (by decide) (by decide) k) ?_
                show own_Go p e below s _ _ (T2.setTop (mkF m 77 #[iv p0, iv p1, iv p2, iv p3, iv p4, iv p5, iv p6, iv p7] []))
                refine own_via (fun k => XS.iconst X2.here hx rfl (hb hby d7_77) k) ?_
                show own_Go p e below s _ _ (T2.setTop (mkF m 78 #[iv p0, iv p1, iv p2, iv p3, iv p4, iv p5, iv p6, iv p7] [(.int 0)]))
                exact own_retN X2 hx hlk (t := .boolean) Bd.returns (by simp) (hb hby d7_78) (Q := (Q7 Z p0 p1 p2 p3 p4 p5 p6 p7 h0 n0)) ⟨(congrArg (fun z => some (Value.int z)) (show (0 : Int32) = (own_f7 p0 p1 p2 p3 p4 p5 p6 p7) from (by unfold own_f7; exact ((if_pos hc1).trans ((if_neg hc4).trans ((if_neg hc7).trans ((if_neg hc10).trans ((if_neg hc13).trans ((if_pos hc16).trans ((if_neg hc17).trans rfl))))))).symm))), N3, eh2⟩ (by decide) (by decide)
            · refine own_via (fun k => XS.icmpYes X2.here hx rfl (pc0 := 60) (pc' := 79) rfl (hb hby d7_60) rfl (feq hc16).2 (by decide) (by decide) k) ?_
              show own_Go p e below s _ _ (T2.setTop (mkF m 79 #[iv p0, iv p1, iv p2, iv p3, iv p4, iv p5, iv p6, iv p7] []))
              refine own_via (fun k => XS.iloadN X2.here hx rfl (hb hby d7_79) rfl  (XS.iloadN X2.here hx rfl (hb hby d7_80) rfl  (XS.iconst X2.here hx rfl (hb hby d7_81) (XS.iadd X2.here hx rfl (hb hby d7_82) rfl k)))) ?_
              show own_Go p e below s _ _ (T2.setTop (mkF m 83 #[iv p0, iv p1, iv p2, iv p3, iv p4, iv p5, iv p6, iv p7] [(.int (p0 + (1 : Int32))), (.int p2)]))
              by_cases hc19 : p2 = (p0 + (1 : Int32))
              · refine own_via (fun k => XS.icmpNo X2.here hx rfl (hb hby d7_83) rfl (teq hc19).2 k) ?_
                show own_Go p e below s _ _ (T2.setTop (mkF m 86 #[iv p0, iv p1, iv p2, iv p3, iv p4, iv p5, iv p6, iv p7] []))
                refine own_via (fun k => XS.iloadN X2.here hx rfl (hb hby d7_86) rfl  (XS.iconst X2.here hx rfl (hb hby d7_87) k)) ?_
                show own_Go p e below s _ _ (T2.setTop (mkF m 88 #[iv p0, iv p1, iv p2, iv p3, iv p4, iv p5, iv p6, iv p7] [(.int 1), (.int p3)]))
                by_cases hc20 : p3 = (1 : Int32)
                · refine own_via (fun k => XS.icmpNo X2.here hx rfl (hb hby d7_88) rfl (teq hc20).2 k) ?_
                  show own_Go p e below s _ _ (T2.setTop (mkF m 91 #[iv p0, iv p1, iv p2, iv p3, iv p4, iv p5, iv p6, iv p7] []))
                  refine own_via (fun k => XS.iconst X2.here hx rfl (hb hby d7_91) (XS.goto X2.here hx rfl (pc0 := 92) (pc' := 96) rfl (hb hby d7_92) (by decide) (by decide) k)) ?_
                  show own_Go p e below s _ _ (T2.setTop (mkF m 96 #[iv p0, iv p1, iv p2, iv p3, iv p4, iv p5, iv p6, iv p7] [(.int 1)]))
                  exact own_retN X2 hx hlk (t := .boolean) Bd.returns (by simp) (hb hby d7_96) (Q := (Q7 Z p0 p1 p2 p3 p4 p5 p6 p7 h0 n0)) ⟨(congrArg (fun z => some (Value.int z)) (show (1 : Int32) = (own_f7 p0 p1 p2 p3 p4 p5 p6 p7) from (by unfold own_f7; exact ((if_pos hc1).trans ((if_neg hc4).trans ((if_neg hc7).trans ((if_neg hc10).trans ((if_neg hc13).trans ((if_neg hc16).trans ((if_pos hc19).trans ((if_pos hc20).trans rfl)))))))).symm))), N3, eh2⟩ (by decide) (by decide)
                · refine own_via (fun k => XS.icmpYes X2.here hx rfl (pc0 := 88) (pc' := 95) rfl (hb hby d7_88) rfl (feq hc20).2 (by decide) (by decide) k) ?_
                  show own_Go p e below s _ _ (T2.setTop (mkF m 95 #[iv p0, iv p1, iv p2, iv p3, iv p4, iv p5, iv p6, iv p7] []))
                  refine own_via (fun k => XS.iconst X2.here hx rfl (hb hby d7_95) k) ?_
                  show own_Go p e below s _ _ (T2.setTop (mkF m 96 #[iv p0, iv p1, iv p2, iv p3, iv p4, iv p5, iv p6, iv p7] [(.int 0)]))
                  exact own_retN X2 hx hlk (t := .boolean) Bd.returns (by simp) (hb hby d7_96) (Q := (Q7 Z p0 p1 p2 p3 p4 p5 p6 p7 h0 n0)) ⟨(congrArg (fun z => some (Value.int z)) (show (0 : Int32) = (own_f7 p0 p1 p2 p3 p4 p5 p6 p7) from (by unfold own_f7; exact ((if_pos hc1).trans ((if_neg hc4).trans ((if_neg hc7).trans ((if_neg hc10).trans ((if_neg hc13).trans ((if_neg hc16).trans ((if_pos hc19).trans ((if_neg hc20).trans rfl)))))))).symm))), N3, eh2⟩ (by decide) (by decide)
              · refine own_via (fun k => XS.icmpYes X2.here hx rfl (pc0 := 83) (pc' := 95) rfl (hb hby d7_83) rfl (feq hc19).2 (by decide) (by decide) k) ?_
                show own_Go p e below s _ _ (T2.setTop (mkF m 95 #[iv p0, iv p1, iv p2, iv p3, iv p4, iv p5, iv p6, iv p7] []))
                refine own_via (fun k => XS.iconst X2.here hx rfl (hb hby d7_95) k) ?_
                show own_Go p e below s _ _ (T2.setTop (mkF m 96 #[iv p0, iv p1, iv p2, iv p3, iv p4, iv p5, iv p6, iv p7] [(.int 0)]))
                exact own_retN X2 hx hlk (t := .boolean) Bd.returns (by simp) (hb hby d7_96) (Q := (Q7 Z p0 p1 p2 p3 p4 p5 p6 p7 h0 n0)) ⟨(congrArg (fun z => some (Value.int z)) (show (0 : Int32) = (own_f7 p0 p1 p2 p3 p4 p5 p6 p7) from (by unfold own_f7; exact ((if_pos hc1).trans ((if_neg hc4).trans ((if_neg hc7).trans ((if_neg hc10).trans ((if_neg hc13).trans ((if_neg hc16).trans ((if_neg hc19).trans rfl))))))).symm))), N3, eh2⟩ (by decide) (by decide)
  · refine own_via (fun k => XS.ifNo X0.here hx rfl (hb hby d7_2) rfl ((if0 _ _).trans (feq hc1).1) k) ?_
    show own_Go p e below s _ _ (s₁.setTop (mkF m 5 #[iv p0, iv p1, iv p2, iv p3, iv p4, iv p5, iv p6, iv p7] []))
    refine own_via (fun k => XS.iload X0.here hx rfl (hb hby d7_5) rfl  (X0.ldcInt hx hown (mvT hZ (hw _ (List.mem_of_getElem? (i := 42) rfl))) (g := (mkF m 7 #[iv p0, iv p1, iv p2, iv p3, iv p4, iv p5, iv p6, iv p7] [(.int p4)])) rfl (hb hby d7_7) _ k)) ?_
    show own_Go p e below s _ _ (s₁.setTop (mkF m 9 #[iv p0, iv p1, iv p2, iv p3, iv p4, iv p5, iv p6, iv p7] [(.int 65279), (.int p4)]))
    by_cases hc21 : p4 = (65279 : Int32)
    · refine own_via (fun k => XS.icmpNo X0.here hx rfl (hb hby d7_9) rfl (teq hc21).2 k) ?_
      show own_Go p e below s _ _ (s₁.setTop (mkF m 12 #[iv p0, iv p1, iv p2, iv p3, iv p4, iv p5, iv p6, iv p7] []))
      refine own_via (fun k => XS.iloadN X0.here hx rfl (hb hby d7_12) rfl  (XS.iloadN X0.here hx rfl (hb hby d7_13) rfl  k)) ?_
      show own_Go p e below s _ _ (s₁.setTop (mkF m 14 #[iv p0, iv p1, iv p2, iv p3, iv p4, iv p5, iv p6, iv p7] [(.int p0), (.int p2)]))
      by_cases hc22 : p2 = p0
      · refine own_via (fun k => XS.icmpNo X0.here hx rfl (hb hby d7_14) rfl (teq hc22).2 k) ?_
        show own_Go p e below s _ _ (s₁.setTop (mkF m 17 #[iv p0, iv p1, iv p2, iv p3, iv p4, iv p5, iv p6, iv p7] []))
        refine own_via (fun k => XS.iloadN X0.here hx rfl (hb hby d7_17) rfl  (XS.iloadN X0.here hx rfl (hb hby d7_18) rfl  k)) ?_
        show own_Go p e below s _ _ (s₁.setTop (mkF m 19 #[iv p0, iv p1, iv p2, iv p3, iv p4, iv p5, iv p6, iv p7] [(.int p1), (.int p3)]))
        by_cases hc23 : p3 = p1
        · refine own_via (fun k => XS.icmpNo X0.here hx rfl (hb hby d7_19) rfl (teq hc23).2 k) ?_
          show own_Go p e below s _ _ (s₁.setTop (mkF m 22 #[iv p0, iv p1, iv p2, iv p3, iv p4, iv p5, iv p6, iv p7] []))
          refine own_via (fun k => XS.iconst X0.here hx rfl (hb hby d7_22) (XS.goto X0.here hx rfl (pc0 := 23) (pc' := 27) rfl (hb hby d7_23) (by decide) (by decide) k)) ?_
          show own_Go p e below s _ _ (s₁.setTop (mkF m 27 #[iv p0, iv p1, iv p2, iv p3, iv p4, iv p5, iv p6, iv p7] [(.int 1)]))
          exact own_retN X0 hx hlk (t := .boolean) Bd.returns (by simp) (hb hby d7_27) (Q := (Q7 Z p0 p1 p2 p3 p4 p5 p6 p7 h0 n0)) ⟨(congrArg (fun z => some (Value.int z)) (show (1 : Int32) = (own_f7 p0 p1 p2 p3 p4 p5 p6 p7) from (by unfold own_f7; exact ((if_neg hc1).trans ((if_pos hc21).trans ((if_pos hc22).trans ((if_pos hc23).trans rfl)))).symm))), N0, e0⟩ (by decide) (by decide)
        · refine own_via (fun k => XS.icmpYes X0.here hx rfl (pc0 := 19) (pc' := 26) rfl (hb hby d7_19) rfl (feq hc23).2 (by decide) (by decide) k) ?_
          show own_Go p e below s _ _ (s₁.setTop (mkF m 26 #[iv p0, iv p1, iv p2, iv p3, iv p4, iv p5, iv p6, iv p7] []))
          refine own_via (fun k => XS.iconst X0.here hx rfl (hb hby d7_26) k) ?_
          show own_Go p e below s _ _ (s₁.setTop (mkF m 27 #[iv p0, iv p1, iv p2, iv p3, iv p4, iv p5, iv p6, iv p7] [(.int 0)]))
          exact own_retN X0 hx hlk (t := .boolean) Bd.returns (by simp) (hb hby d7_27) (Q := (Q7 Z p0 p1 p2 p3 p4 p5 p6 p7 h0 n0)) ⟨(congrArg (fun z => some (Value.int z)) (show (0 : Int32) = (own_f7 p0 p1 p2 p3 p4 p5 p6 p7) from (by unfold own_f7; exact ((if_neg hc1).trans ((if_pos hc21).trans ((if_pos hc22).trans ((if_neg hc23).trans rfl)))).symm))), N0, e0⟩ (by decide) (by decide)
      · refine own_via (fun k => XS.icmpYes X0.here hx rfl (pc0 := 14) (pc' := 26) rfl (hb hby d7_14) rfl (feq hc22).2 (by decide) (by decide) k) ?_
        show own_Go p e below s _ _ (s₁.setTop (mkF m 26 #[iv p0, iv p1, iv p2, iv p3, iv p4, iv p5, iv p6, iv p7] []))
        refine own_via (fun k => XS.iconst X0.here hx rfl (hb hby d7_26) k) ?_
        show own_Go p e below s _ _ (s₁.setTop (mkF m 27 #[iv p0, iv p1, iv p2, iv p3, iv p4, iv p5, iv p6, iv p7] [(.int 0)]))
        exact own_retN X0 hx hlk (t := .boolean) Bd.returns (by simp) (hb hby d7_27) (Q := (Q7 Z p0 p1 p2 p3 p4 p5 p6 p7 h0 n0)) ⟨(congrArg (fun z => some (Value.int z)) (show (0 : Int32) = (own_f7 p0 p1 p2 p3 p4 p5 p6 p7) from (by unfold own_f7; exact ((if_neg hc1).trans ((if_pos hc21).trans ((if_neg hc22).trans rfl))).symm))), N0, e0⟩ (by decide) (by decide)
    · refine own_via (fun k => XS.icmpYes X0.here hx rfl (pc0 := 9) (pc' := 28) rfl (hb hby d7_9) rfl (feq hc21).2 (by decide) (by decide) k) ?_
      show own_Go p e below s _ _ (s₁.setTop (mkF m 28 #[iv p0, iv p1, iv p2, iv p3, iv p4, iv p5, iv p6, iv p7] []))
      refine own_via (fun k => XS.iload X0.here hx rfl (hb hby d7_28) rfl  (XS.iload X0.here hx rfl (hb hby d7_30) rfl  k)) ?_
      show own_Go p e below s _ _ (s₁.setTop (mkF m 32 #[iv p0, iv p1, iv p2, iv p3, iv p4, iv p5, iv p6, iv p7] [(.int p7), (.int p4)]))
      obtain ⟨_, _, ⟨T24, L24, k24, n24⟩, -, X24, ⟨Lc24, hQ24, l24, y24, z24⟩, st24⟩ := Jvm.LawKit.callS X0 hx (y := (⟨"com/example/tree_to_rows/treetorows/xml/DocumentPlacePassPinLaw", "endsLine", "(CZ)Z"⟩ : MethodName)) hown (mvT hZ (hw _ (List.mem_of_getElem? (i := 43) rfl))) (mvT hZ (hw _ (List.mem_of_getElem? (i := 44) rfl))) (mvT hZ (hw _ (List.mem_of_getElem? (i := 2) rfl))) (mvT hZ (hw _ (List.mem_of_getElem? (i := 45) rfl))) (by decide) (backOf (W := 0) (rm8 l Z aw hw [] p4 p7 h0 n0 Z0) hZ (hw _ (List.mem_of_getElem? (i := 45) rfl)) (hw _ (List.mem_of_getElem? (i := 2) rfl)) (by decide) (by decide)) (g := (mkF m 32 #[iv p0, iv p1, iv p2, iv p3, iv p4, iv p5, iv p6, iv p7] [(.int p7), (.int p4)])) rfl (by rw [hml]; rfl) (argsL := [(.int p4), (.int p7)]) (rest := []) (lenOf pd_6 rfl) rfl (by show 2 * 0 + _ ≤ _; exact Nat.le_of_eq rfl) (hb hby d7_32) (fun _ _ => ⟨rfl, e0, (by decide : 0 + 0 ≤ _), (by decide : 0 + 0 ≤ _)⟩)
      dsimp only [Pt.U, Pt.locs, Pt.cells, Pt.slots] at X24 l24 y24 z24 st24 hQ24
      subst l24 y24 z24
      obtain ⟨rfl, N24q, eh24⟩ := hQ24
      have N25 := Fr.app N0 N24q
      refine own_via (fun k => st24 _ k) ?_
      show own_Go p e below s _ _ (T24.setTop (mkF m 35 #[iv p0, iv p1, iv p2, iv p3, iv p4, iv p5, iv p6, iv p7] [(.int (own_f8 p4 p7))]))
      by_cases hc26 : (own_f8 p4 p7) = (0 : Int32)
      · refine own_via (fun k => XS.ifYes X24.here hx rfl (pc0 := 35) (pc' := 97) rfl (hb hby d7_35) rfl ((if0 _ _).trans (teq hc26).1) (by decide) (by decide) k) ?_
        show own_Go p e below s _ _ (T24.setTop (mkF m 97 #[iv p0, iv p1, iv p2, iv p3, iv p4, iv p5, iv p6, iv p7] []))
        refine own_via (fun k => XS.iloadN X24.here hx rfl (hb hby d7_97) rfl  (XS.iloadN X24.here hx rfl (hb hby d7_98) rfl  k)) ?_
        show own_Go p e below s _ _ (T24.setTop (mkF m 99 #[iv p0, iv p1, iv p2, iv p3, iv p4, iv p5, iv p6, iv p7] [(.int p0), (.int p2)]))
        by_cases hc27 : p2 = p0
        · refine own_via (fun k => XS.icmpNo X24.here hx rfl (hb hby d7_99) rfl (teq hc27).2 k) ?_
          show own_Go p e below s _ _ (T24.setTop (mkF m 102 #[iv p0, iv p1, iv p2, iv p3, iv p4, iv p5, iv p6, iv p7] []))
          refine own_via (fun k => XS.iloadN X24.here hx rfl (hb hby d7_102) rfl  (XS.iloadN X24.here hx rfl (hb hby d7_103) rfl  (XS.iconst X24.here hx rfl (hb hby d7_104) (XS.iadd X24.here hx rfl (hb hby d7_105) rfl k)))) ?_
          show own_Go p e below s _ _ (T24.setTop (mkF m 106 #[iv p0, iv p1, iv p2, iv p3, iv p4, iv p5, iv p6, iv p7] [(.int (p1 + (1 : Int32))), (.int p3)]))
          by_cases hc28 : p3 = (p1 + (1 : Int32))
          · refine own_via (fun k => XS.icmpNo X24.here hx rfl (hb hby d7_106) rfl (teq hc28).2 k) ?_
            show own_Go p e below s _ _ (T24.setTop (mkF m 109 #[iv p0, iv p1, iv p2, iv p3, iv p4, iv p5, iv p6, iv p7] []))
            refine own_via (fun k => XS.iconst X24.here hx rfl (hb hby d7_109) (XS.goto X24.here hx rfl (pc0 := 110) (pc' := 114) rfl (hb hby d7_110) (by decide) (by decide) k)) ?_
            show own_Go p e below s _ _ (T24.setTop (mkF m 114 #[iv p0, iv p1, iv p2, iv p3, iv p4, iv p5, iv p6, iv p7] [(.int 1)]))
            exact own_retN X24 hx hlk (t := .boolean) Bd.returns (by simp) (hb hby d7_114) (Q := (Q7 Z p0 p1 p2 p3 p4 p5 p6 p7 h0 n0)) ⟨(congrArg (fun z => some (Value.int z)) (show (1 : Int32) = (own_f7 p0 p1 p2 p3 p4 p5 p6 p7) from (by unfold own_f7; exact ((if_neg hc1).trans ((if_neg hc21).trans ((if_pos hc26).trans ((if_pos hc27).trans ((if_pos hc28).trans rfl))))).symm))), N25, eh24⟩ (by decide) (by decide)
          · refine own_via (fun k => XS.icmpYes X24.here hx rfl (pc0 := 106) (pc' := 113) rfl (hb hby d7_106) rfl (feq hc28).2 (by decide) (by decide) k) ?_
            show own_Go p e below s _ _ (T24.setTop (mkF m 113 #[iv p0, iv p1, iv p2, iv p3, iv p4, iv p5, iv p6, iv p7] []))
            refine own_via (fun k => XS.iconst X24.here hx rfl (hb hby d7_113) k) ?_
            show own_Go p e below s _ _ (T24.setTop (mkF m 114 #[iv p0, iv p1, iv p2, iv p3, iv p4, iv p5, iv p6, iv p7] [(.int 0)]))
            exact own_retN X24 hx hlk (t := .boolean) Bd.returns (by simp) (hb hby d7_114) (Q := (Q7 Z p0 p1 p2 p3 p4 p5 p6 p7 h0 n0)) ⟨(congrArg (fun z => some (Value.int z)) (show (0 : Int32) = (own_f7 p0 p1 p2 p3 p4 p5 p6 p7) from (by unfold own_f7; exact ((if_neg hc1).trans ((if_neg hc21).trans ((if_pos hc26).trans ((if_pos hc27).trans ((if_neg hc28).trans rfl))))).symm))), N25, eh24⟩ (by decide) (by decide)
        · refine own_via (fun k => XS.icmpYes X24.here hx rfl (pc0 := 99) (pc' := 113) rfl (hb hby d7_99) rfl (feq hc27).2 (by decide) (by decide) k) ?_
          show own_Go p e below s _ _ (T24.setTop (mkF m 113 #[iv p0, iv p1, iv p2, iv p3, iv p4, iv p5, iv p6, iv p7] []))
          refine own_via (fun k => XS.iconst X24.here hx rfl (hb hby d7_113) k) ?_
          show own_Go p e below s _ _ (T24.setTop (mkF m 114 #[iv p0, iv p1, iv p2, iv p3, iv p4, iv p5, iv p6, iv p7] [(.int 0)]))
          exact own_retN X24 hx hlk (t := .boolean) Bd.returns (by simp) (hb hby d7_114) (Q := (Q7 Z p0 p1 p2 p3 p4 p5 p6 p7 h0 n0)) ⟨(congrArg (fun z => some (Value.int z)) (show (0 : Int32) = (own_f7 p0 p1 p2 p3 p4 p5 p6 p7) from (by unfold own_f7; exact ((if_neg hc1).trans ((if_neg hc21).trans ((if_pos hc26).trans ((if_neg hc27).trans rfl)))).symm))), N25, eh24⟩ (by decide) (by decide)
      · refine own_via (fun k => XS.ifNo X24.here hx rfl (hb hby d7_35) rfl ((if0 _ _).trans (feq hc26).1) k) ?_
        show own_Go p e below s _ _ (T24.setTop (mkF m 38 #[iv p0, iv p1, iv p2, iv p3, iv p4, iv p5, iv p6, iv p7] []))
        refine own_via (fun k => XS.iload X24.here hx rfl (hb hby d7_38) rfl  k) ?_
        show own_Go p e below s _ _ (T24.setTop (mkF m 40 #[iv p0, iv p1, iv p2, iv p3, iv p4, iv p5, iv p6, iv p7] [(.int p6)]))
        by_cases hc29 : p6 = (0 : Int32)
        · refine own_via (fun k => XS.ifYes X24.here hx rfl (pc0 := 40) (pc' := 79) rfl (hb hby d7_40) rfl ((if0 _ _).trans (teq hc29).1) (by decide) (by decide) k) ?_
          show own_Go p e below s _ _ (T24.setTop (mkF m 79 #[iv p0, iv p1, iv p2, iv p3, iv p4, iv p5, iv p6, iv p7] []))
          refine own_via (fun k => XS.iloadN X24.here hx rfl (hb hby d7_79) rfl  (XS.iloadN X24.here hx rfl (hb hby d7_80) rfl  (XS.iconst X24.here hx rfl (hb hby d7_81) (XS.iadd X24.here hx rfl (hb hby d7_82) rfl k)))) ?_
          show own_Go p e below s _ _ (T24.setTop (mkF m 83 #[iv p0, iv p1, iv p2, iv p3, iv p4, iv p5, iv p6, iv p7] [(.int (p0 + (1 : Int32))), (.int p2)]))
          by_cases hc30 : p2 = (p0 + (1 : Int32))
          · refine own_via (fun k => XS.icmpNo X24.here hx rfl (hb hby d7_83) rfl (teq hc30).2 k) ?_
            show own_Go p e below s _ _ (T24.setTop (mkF m 86 #[iv p0, iv p1, iv p2, iv p3, iv p4, iv p5, iv p6, iv p7] []))
            refine own_via (fun k => XS.iloadN X24.here hx rfl (hb hby d7_86) rfl  (XS.iconst X24.here hx rfl (hb hby d7_87) k)) ?_
            show own_Go p e below s _ _ (T24.setTop (mkF m 88 #[iv p0, iv p1, iv p2, iv p3, iv p4, iv p5, iv p6, iv p7] [(.int 1), (.int p3)]))
            by_cases hc31 : p3 = (1 : Int32)
            · refine own_via (fun k => XS.icmpNo X24.here hx rfl (hb hby d7_88) rfl (teq hc31).2 k) ?_
              show own_Go p e below s _ _ (T24.setTop (mkF m 91 #[iv p0, iv p1, iv p2, iv p3, iv p4, iv p5, iv p6, iv p7] []))
              refine own_via (fun k => XS.iconst X24.here hx rfl (hb hby d7_91) (XS.goto X24.here hx rfl (pc0 := 92) (pc' := 96) rfl (hb hby d7_92) (by decide) (by decide) k)) ?_
              show own_Go p e below s _ _ (T24.setTop (mkF m 96 #[iv p0, iv p1, iv p2, iv p3, iv p4, iv p5, iv p6, iv p7] [(.int 1)]))
              exact own_retN X24 hx hlk (t := .boolean) Bd.returns (by simp) (hb hby d7_96) (Q := (Q7 Z p0 p1 p2 p3 p4 p5 p6 p7 h0 n0)) ⟨(congrArg (fun z => some (Value.int z)) (show (1 : Int32) = (own_f7 p0 p1 p2 p3 p4 p5 p6 p7) from (by unfold own_f7; exact ((if_neg hc1).trans ((if_neg hc21).trans ((if_neg hc26).trans ((if_pos hc29).trans ((if_pos hc30).trans ((if_pos hc31).trans rfl)))))).symm))), N25, eh24⟩ (by decide) (by decide)
            · refine own_via (fun k => XS.icmpYes X24.here hx rfl (pc0 := 88) (pc' := 95) rfl (hb hby d7_88) rfl (feq hc31).2 (by decide) (by decide) k) ?_
              show own_Go p e below s _ _ (T24.setTop (mkF m 95 #[iv p0, iv p1, iv p2, iv p3, iv p4, iv p5, iv p6, iv p7] []))
              refine own_via (fun k => XS.iconst X24.here hx rfl (hb hby d7_95) k) ?_
              show own_Go p e below s _ _ (T24.setTop (mkF m 96 #[iv p0, iv p1, iv p2, iv p3, iv p4, iv p5, iv p6, iv p7] [(.int 0)]))
              exact own_retN X24 hx hlk (t := .boolean) Bd.returns (by simp) (hb hby d7_96) (Q := (Q7 Z p0 p1 p2 p3 p4 p5 p6 p7 h0 n0)) ⟨(congrArg (fun z => some (Value.int z)) (show (0 : Int32) = (own_f7 p0 p1 p2 p3 p4 p5 p6 p7) from (by unfold own_f7; exact ((if_neg hc1).trans ((if_neg hc21).trans ((if_neg hc26).trans ((if_pos hc29).trans ((if_pos hc30).trans ((if_neg hc31).trans rfl)))))).symm))), N25, eh24⟩ (by decide) (by decide)
          · refine own_via (fun k => XS.icmpYes X24.here hx rfl (pc0 := 83) (pc' := 95) rfl (hb hby d7_83) rfl (feq hc30).2 (by decide) (by decide) k) ?_
            show own_Go p e below s _ _ (T24.setTop (mkF m 95 #[iv p0, iv p1, iv p2, iv p3, iv p4, iv p5, iv p6, iv p7] []))
            refine own_via (fun k => XS.iconst X24.here hx rfl (hb hby d7_95) k) ?_
            show own_Go p e below s _ _ (T24.setTop (mkF m 96 #[iv p0, iv p1, iv p2, iv p3, iv p4, iv p5, iv p6, iv p7] [(.int 0)]))
            exact own_retN X24 hx hlk (t := .boolean) Bd.returns (by simp) (hb hby d7_96) (Q := (Q7 Z p0 p1 p2 p3 p4 p5 p6 p7 h0 n0)) ⟨(congrArg (fun z => some (Value.int z)) (show (0 : Int32) = (own_f7 p0 p1 p2 p3 p4 p5 p6 p7) from (by unfold own_f7; exact ((if_neg hc1).trans ((if_neg hc21).trans ((if_neg hc26).trans ((if_pos hc29).trans ((if_neg hc30).trans rfl))))).symm))), N25, eh24⟩ (by decide) (by decide)
        · refine own_via (fun k => XS.ifNo X24.here hx rfl (hb hby d7_40) rfl ((if0 _ _).trans (feq hc29).1) k) ?_
          show own_Go p e below s _ _ (T24.setTop (mkF m 43 #[iv p0, iv p1, iv p2, iv p3, iv p4, iv p5, iv p6, iv p7] []))
          refine own_via (fun k => XS.iload X24.here hx rfl (hb hby d7_43) rfl  (XS.bipush X24.here hx rfl (hb hby d7_45) k)) ?_
          show own_Go p e below s _ _ (T24.setTop (mkF m 47 #[iv p0, iv p1, iv p2, iv p3, iv p4, iv p5, iv p6, iv p7] [(.int 10), (.int p4)]))
          by_cases hc32 : p4 = (10 : Int32)
          · refine own_via (fun k => XS.icmpYes X24.here hx rfl (pc0 := 47) (pc' := 63) rfl (hb hby d7_47) rfl (teq hc32).1 (by decide) (by decide) k) ?_
            show own_Go p e below s _ _ (T24.setTop (mkF m 63 #[iv p0, iv p1, iv p2, iv p3, iv p4, iv p5, iv p6, iv p7] []))
            refine own_via (fun k => XS.iloadN X24.here hx rfl (hb hby d7_63) rfl  (XS.iloadN X24.here hx rfl (hb hby d7_64) rfl  k)) ?_
            show own_Go p e below s _ _ (T24.setTop (mkF m 65 #[iv p0, iv p1, iv p2, iv p3, iv p4, iv p5, iv p6, iv p7] [(.int p0), (.int p2)]))
            by_cases hc33 : p2 = p0
            · refine own_via (fun k => XS.icmpNo X24.here hx rfl (hb hby d7_65) rfl (teq hc33).2 k) ?_
              show own_Go p e below s _ _ (T24.setTop (mkF m 68 #[iv p0, iv p1, iv p2, iv p3, iv p4, iv p5, iv p6, iv p7] []))
              refine own_via (fun k => XS.iloadN X24.here hx rfl (hb hby d7_68) rfl  (XS.iloadN X24.here hx rfl (hb hby d7_69) rfl  k)) ?_
              show own_Go p e below s _ _ (T24.setTop (mkF m 70 #[iv p0, iv p1, iv p2, iv p3, iv p4, iv p5, iv p6, iv p7] [(.int p1), (.int p3)]))
              by_cases hc34 : p3 = p1
              · refine own_via (fun k => XS.icmpNo X24.here hx rfl (hb hby d7_70) rfl (teq hc34).2 k) ?_
                show own_Go p e below s _ _ (T24.setTop (mkF m 73 #[iv p0, iv p1, iv p2, iv p3, iv p4, iv p5, iv p6, iv p7] []))
                refine own_via (fun k => XS.iconst X24.here hx rfl (hb hby d7_73) (XS.goto X24.here hx rfl (pc0 := 74) (pc' := 78) rfl (hb hby d7_74) (by decide) (by decide) k)) ?_
                show own_Go p e below s _ _ (T24.setTop (mkF m 78 #[iv p0, iv p1, iv p2, iv p3, iv p4, iv p5, iv p6, iv p7] [(.int 1)]))
                exact own_retN X24 hx hlk (t := .boolean) Bd.returns (by simp) (hb hby d7_78) (Q := (Q7 Z p0 p1 p2 p3 p4 p5 p6 p7 h0 n0)) ⟨(congrArg (fun z => some (Value.int z)) (show (1 : Int32) = (own_f7 p0 p1 p2 p3 p4 p5 p6 p7) from (by unfold own_f7; exact ((if_neg hc1).trans ((if_neg hc21).trans ((if_neg hc26).trans ((if_neg hc29).trans ((if_pos hc32).trans ((if_pos hc33).trans ((if_pos hc34).trans rfl))))))).symm))), N25, eh24⟩ (by decide) (by decide)
              · refine own_via (fun k => XS.icmpYes X24.here hx rfl (pc0 := 70) (pc' := 77) rfl (hb hby d7_70) rfl (feq hc34).2 (by decide) (by decide) k) ?_
                show own_Go p e below s _ _ (T24.setTop (mkF m 77 #[iv p0, iv p1, iv p2, iv p3, iv p4, iv p5, iv p6, iv p7] []))
                refine own_via (fun k => XS.iconst X24.here hx rfl (hb hby d7_77) k) ?_
                show own_Go p e below s _ _ (T24.setTop (mkF m 78 #[iv p0, iv p1, iv p2, iv p3, iv p4, iv p5, iv p6, iv p7] [(.int 0)]))
                exact own_retN X24 hx hlk (t := .boolean) Bd.returns (by simp) (hb hby d7_78) (Q := (Q7 Z p0 p1 p2 p3 p4 p5 p6 p7 h0 n0)) ⟨(congrArg (fun z => some (Value.int z)) (show (0 : Int32) = (own_f7 p0 p1 p2 p3 p4 p5 p6 p7) from (by unfold own_f7; exact ((if_neg hc1).trans ((if_neg hc21).trans ((if_neg hc26).trans ((if_neg hc29).trans ((if_pos hc32).trans ((if_pos hc33).trans ((if_neg hc34).trans rfl))))))).symm))), N25, eh24⟩ (by decide) (by decide)
            · refine own_via (fun k => XS.icmpYes X24.here hx rfl (pc0 := 65) (pc' := 77) rfl (hb hby d7_65) rfl (feq hc33).2 (by decide) (by decide) k) ?_
              show own_Go p e below s _ _ (T24.setTop (mkF m 77 #[iv p0, iv p1, iv p2, iv p3, iv p4, iv p5, iv p6, iv p7] []))
              refine own_via (fun k => XS.iconst X24.here hx rfl (hb hby d7_77) k) ?_
              show own_Go p e below s _ _ (T24.setTop (mkF m 78 #[iv p0, iv p1, iv p2, iv p3, iv p4, iv p5, iv p6, iv p7] [(.int 0)]))
              exact own_retN X24 hx hlk (t := .boolean) Bd.returns (by simp) (hb hby d7_78) (Q := (Q7 Z p0 p1 p2 p3 p4 p5 p6 p7 h0 n0)) ⟨(congrArg (fun z => some (Value.int z)) (show (0 : Int32) = (own_f7 p0 p1 p2 p3 p4 p5 p6 p7) from (by unfold own_f7; exact ((if_neg hc1).trans ((if_neg hc21).trans ((if_neg hc26).trans ((if_neg hc29).trans ((if_pos hc32).trans ((if_neg hc33).trans rfl)))))).symm))), N25, eh24⟩ (by decide) (by decide)
          · refine own_via (fun k => XS.icmpNo X24.here hx rfl (hb hby d7_47) rfl (feq hc32).1 k) ?_
            show own_Go p e below s _ _ (T24.setTop (mkF m 50 #[iv p0, iv p1, iv p2, iv p3, iv p4, iv p5, iv p6, iv p7] []))
            refine own_via (fun k => XS.iload X24.here hx rfl (hb hby d7_50) rfl  k) ?_
            show own_Go p e below s _ _ (T24.setTop (mkF m 52 #[iv p0, iv p1, iv p2, iv p3, iv p4, iv p5, iv p6, iv p7] [(.int p7)]))
            by_cases hc35 : p7 = (0 : Int32)
            · refine own_via (fun k => XS.ifYes X24.here hx rfl (pc0 := 52) (pc' := 79) rfl (hb hby d7_52) rfl ((if0 _ _).trans (teq hc35).1) (by decide) (by decide) k) ?_
              show own_Go p e below s _ _ (T24.setTop (mkF m 79 #[iv p0, iv p1, iv p2, iv p3, iv p4, iv p5, iv p6, iv p7] []))
              refine own_via (fun k => XS.iloadN X24.here hx rfl (hb hby d7_79) rfl  (XS.iloadN X24.here hx rfl (hb hby d7_80) rfl  (XS.iconst X24.here hx rfl (hb hby d7_81) (XS.iadd X24.here hx rfl (hb hby d7_82) rfl k)))) ?_
              show own_Go p e below s _ _ (T24.setTop (mkF m 83 #[iv p0, iv p1, iv p2, iv p3, iv p4, iv p5, iv p6, iv p7] [(.int (p0 + (1 : Int32))), (.int p2)]))
              by_cases hc36 : p2 = (p0 + (1 : Int32))
              · refine own_via (fun k => XS.icmpNo X24.here hx rfl (hb hby d7_83) rfl (teq hc36).2 k) ?_
                show own_Go p e below s _ _ (T24.setTop (mkF m 86 #[iv p0, iv p1, iv p2, iv p3, iv p4, iv p5, iv p6, iv p7] []))
                refine own_via (fun k => XS.iloadN X24.here hx rfl (hb hby d7_86) rfl  (XS.iconst X24.here hx rfl (hb hby d7_87) k)) ?_
                show own_Go p e below s _ _ (T24.setTop (mkF m 88 #[iv p0, iv p1, iv p2, iv p3, iv p4, iv p5, iv p6, iv p7] [(.int 1), (.int p3)]))
                by_cases hc37 : p3 = (1 : Int32)
                · refine own_via (fun k => XS.icmpNo X24.here hx rfl (hb hby d7_88) rfl (teq hc37).2 k) ?_
                  show own_Go p e below s _ _ (T24.setTop (mkF m 91 #[iv p0, iv p1, iv p2, iv p3, iv p4, iv p5, iv p6, iv p7] []))
                  refine own_via (fun k => XS.iconst X24.here hx rfl (hb hby d7_91) (XS.goto X24.here hx rfl (pc0 := 92) (pc' := 96) rfl (hb hby d7_92) (by decide) (by decide) k)) ?_
                  show own_Go p e below s _ _ (T24.setTop (mkF m 96 #[iv p0, iv p1, iv p2, iv p3, iv p4, iv p5, iv p6, iv p7] [(.int 1)]))
                  exact own_retN X24 hx hlk (t := .boolean) Bd.returns (by simp) (hb hby d7_96) (Q := (Q7 Z p0 p1 p2 p3 p4 p5 p6 p7 h0 n0)) ⟨(congrArg (fun z => some (Value.int z)) (show (1 : Int32) = (own_f7 p0 p1 p2 p3 p4 p5 p6 p7) from (by unfold own_f7; exact ((if_neg hc1).trans ((if_neg hc21).trans ((if_neg hc26).trans ((if_neg hc29).trans ((if_neg hc32).trans ((if_pos hc35).trans ((if_pos hc36).trans ((if_pos hc37).trans rfl)))))))).symm))), N25, eh24⟩ (by decide) (by decide)
                · refine own_via (fun k => XS.icmpYes X24.here hx rfl (pc0 := 88) (pc' := 95) rfl (hb hby d7_88) rfl (feq hc37).2 (by decide) (by decide) k) ?_
                  show own_Go p e below s _ _ (T24.setTop (mkF m 95 #[iv p0, iv p1, iv p2, iv p3, iv p4, iv p5, iv p6, iv p7] []))
                  refine own_via (fun k => XS.iconst X24.here hx rfl (hb hby d7_95) k) ?_
                  show own_Go p e below s _ _ (T24.setTop (mkF m 96 #[iv p0, iv p1, iv p2, iv p3, iv p4, iv p5, iv p6, iv p7] [(.int 0)]))
                  exact own_retN X24 hx hlk (t := .boolean) Bd.returns (by simp) (hb hby d7_96) (Q := (Q7 Z p0 p1 p2 p3 p4 p5 p6 p7 h0 n0)) ⟨(congrArg (fun z => some (Value.int z)) (show (0 : Int32) = (own_f7 p0 p1 p2 p3 p4 p5 p6 p7) from (by unfold own_f7; exact ((if_neg hc1).trans ((if_neg hc21).trans ((if_neg hc26).trans ((if_neg hc29).trans ((if_neg hc32).trans ((if_pos hc35).trans ((if_pos hc36).trans ((if_neg hc37).trans rfl)))))))).symm))), N25, eh24⟩ (by decide) (by decide)
              · refine own_via (fun k => XS.icmpYes X24.here hx rfl (pc0 := 83) (pc' := 95) rfl (hb hby d7_83) rfl (feq hc36).2 (by decide) (by decide) k) ?_
                show own_Go p e below s _ _ (T24.setTop (mkF m 95 #[iv p0, iv p1, iv p2, iv p3, iv p4, iv p5, iv p6, iv p7] []))
                refine own_via (fun k => XS.iconst X24.here hx rfl (hb hby d7_95) k) ?_
                show own_Go p e below s _ _ (T24.setTop (mkF m 96 #[iv p0, iv p1, iv p2, iv p3, iv p4, iv p5, iv p6, iv p7] [(.int 0)]))
                exact own_retN X24 hx hlk (t := .boolean) Bd.returns (by simp) (hb hby d7_96) (Q := (Q7 Z p0 p1 p2 p3 p4 p5 p6 p7 h0 n0)) ⟨(congrArg (fun z => some (Value.int z)) (show (0 : Int32) = (own_f7 p0 p1 p2 p3 p4 p5 p6 p7) from (by unfold own_f7; exact ((if_neg hc1).trans ((if_neg hc21).trans ((if_neg hc26).trans ((if_neg hc29).trans ((if_neg hc32).trans ((if_pos hc35).trans ((if_neg hc36).trans rfl))))))).symm))), N25, eh24⟩ (by decide) (by decide)
            · refine own_via (fun k => XS.ifNo X24.here hx rfl (hb hby d7_52) rfl ((if0 _ _).trans (feq hc35).1) k) ?_
              show own_Go p e below s _ _ (T24.setTop (mkF m 55 #[iv p0, iv p1, iv p2, iv p3, iv p4, iv p5, iv p6, iv p7] []))
              refine own_via (fun k => XS.iload X24.here hx rfl (hb hby d7_55) rfl  (XS.sipush X24.here hx rfl (hb hby d7_57) k)) ?_
              show own_Go p e below s _ _ (T24.setTop (mkF m 60 #[iv p0, iv p1, iv p2, iv p3, iv p4, iv p5, iv p6, iv p7] [(.int 133), (.int p4)]))
              by_cases hc38 : p4 = (133 : Int32)
              · refine own_via (fun k => XS.icmpNo X24.here hx rfl (hb hby d7_60) rfl (teq hc38).2 k) ?_
                show own_Go p e below s _ _ (T24.setTop (mkF m 63 #[iv p0, iv p1, iv p2, iv p3, iv p4, iv p5, iv p6, iv p7] []))
                refine own_via (fun k => XS.iloadN X24.here hx rfl (hb hby d7_63) rfl  (XS.iloadN X24.here hx rfl (hb hby d7_64) rfl  k)) ?_
                show own_Go p e below s _ _ (T24.setTop (mkF m 65 #[iv p0, iv p1, iv p2, iv p3, iv p4, iv p5, iv p6, iv p7] [(.int p0), (.int p2)]))
                by_cases hc39 : p2 = p0
                · refine own_via (fun k => XS.icmpNo X24.here hx rfl (hb hby d7_65) rfl (teq hc39).2 k) ?_
                  show own_Go p e below s _ _ (T24.setTop (mkF m 68 #[iv p0, iv p1, iv p2, iv p3, iv p4, iv p5, iv p6, iv p7] []))
                  refine own_via (fun k => XS.iloadN X24.here hx rfl (hb hby d7_68) rfl  (XS.iloadN X24.here hx rfl (hb hby d7_69) rfl  k)) ?_
                  show own_Go p e below s _ _ (T24.setTop (mkF m 70 #[iv p0, iv p1, iv p2, iv p3, iv p4, iv p5, iv p6, iv p7] [(.int p1), (.int p3)]))
                  by_cases hc40 : p3 = p1
                  · refine own_via (fun k => XS.icmpNo X24.here hx rfl (hb hby d7_70) rfl (teq hc40).2 k) ?_
                    show own_Go p e below s _ _ (T24.setTop (mkF m 73 #[iv p0, iv p1, iv p2, iv p3, iv p4, iv p5, iv p6, iv p7] []))
                    refine own_via (fun k => XS.iconst X24.here hx rfl (hb hby d7_73) (XS.goto X24.here hx rfl (pc0 := 74) (pc' := 78) rfl (hb hby d7_74) (by decide) (by decide) k)) ?_
                    show own_Go p e below s _ _ (T24.setTop (mkF m 78 #[iv p0, iv p1, iv p2, iv p3, iv p4, iv p5, iv p6, iv p7] [(.int 1)]))
                    exact own_retN X24 hx hlk (t := .boolean) Bd.returns (by simp) (hb hby d7_78) (Q := (Q7 Z p0 p1 p2 p3 p4 p5 p6 p7 h0 n0)) ⟨(congrArg (fun z => some (Value.int z)) (show (1 : Int32) = (own_f7 p0 p1 p2 p3 p4 p5 p6 p7) from (by unfold own_f7; exact ((if_neg hc1).trans ((if_neg hc21).trans ((if_neg hc26).trans ((if_neg hc29).trans ((if_neg hc32).trans ((if_neg hc35).trans ((if_pos hc38).trans ((if_pos hc39).trans ((if_pos hc40).trans rfl))))))))).symm))), N25, eh24⟩ (by decide) (by decide)
                  · refine own_via (fun k => XS.icmpYes X24.here hx rfl (pc0 := 70) (pc' := 77) rfl (hb hby d7_70) rfl (feq hc40).2 (by decide) (by decide) k) ?_
                    show own_Go p e below s _ _ (T24.setTop (mkF m 77 #[iv p0, iv p1, iv p2, iv p3, iv p4, iv p5, iv p6, iv p7] []))
                    refine own_via (fun k => XS.iconst X24.here hx rfl (hb hby d7_77) k) ?_
                    show own_Go p e below s _ _ (T24.setTop (mkF m 78 #[iv p0, iv p1, iv p2, iv p3, iv p4, iv p5, iv p6, iv p7] [(.int 0)]))
                    exact own_retN X24 hx hlk (t := .boolean) Bd.returns (by simp) (hb hby d7_78) (Q := (Q7 Z p0 p1 p2 p3 p4 p5 p6 p7 h0 n0)) ⟨(congrArg (fun z => some (Value.int z)) (show (0 : Int32) = (own_f7 p0 p1 p2 p3 p4 p5 p6 p7) from (by unfold own_f7; exact ((if_neg hc1).trans ((if_neg hc21).trans ((if_neg hc26).trans ((if_neg hc29).trans ((if_neg hc32).trans ((if_neg hc35).trans ((if_pos hc38).trans ((if_pos hc39).trans ((if_neg hc40).trans rfl))))))))).symm))), N25, eh24⟩ (by decide) (by decide)
                · refine own_via (fun k => XS.icmpYes X24.here hx rfl (pc0 := 65) (pc' := 77) rfl (hb hby d7_65) rfl (feq hc39).2 (by decide) (by decide) k) ?_
                  show own_Go p e below s _ _ (T24.setTop (mkF m 77 #[iv p0, iv p1, iv p2, iv p3, iv p4, iv p5, iv p6, iv p7] []))
                  refine own_via (fun k => XS.iconst X24.here hx rfl (hb hby d7_77) k) ?_
                  show own_Go p e below s _ _ (T24.setTop (mkF m 78 #[iv p0, iv p1, iv p2, iv p3, iv p4, iv p5, iv p6, iv p7] [(.int 0)]))
                  exact own_retN X24 hx hlk (t := .boolean) Bd.returns (by simp) (hb hby d7_78) (Q := (Q7 Z p0 p1 p2 p3 p4 p5 p6 p7 h0 n0)) ⟨(congrArg (fun z => some (Value.int z)) (show (0 : Int32) = (own_f7 p0 p1 p2 p3 p4 p5 p6 p7) from (by unfold own_f7; exact ((if_neg hc1).trans ((if_neg hc21).trans ((if_neg hc26).trans ((if_neg hc29).trans ((if_neg hc32).trans ((if_neg hc35).trans ((if_pos hc38).trans ((if_neg hc39).trans rfl)))))))).symm))), N25, eh24⟩ (by decide) (by decide)
              · refine own_via (fun k => XS.icmpYes X24.here hx rfl (pc0 := 60) (pc' := 79) rfl (hb hby d7_60) rfl (feq hc38).2 (by decide) (by decide) k) ?_
                show own_Go p e below s _ _ (T24.setTop (mkF m 79 #[iv p0, iv p1, iv p2, iv p3, iv p4, iv p5, iv p6, iv p7] []))
                refine own_via (fun k => XS.iloadN X24.here hx rfl (hb hby d7_79) rfl  (XS.iloadN X24.here hx rfl (hb hby d7_80) rfl  (XS.iconst X24.here hx rfl (hb hby d7_81) (XS.iadd X24.here hx rfl (hb hby d7_82) rfl k)))) ?_
                show own_Go p e below s _ _ (T24.setTop (mkF m 83 #[iv p0, iv p1, iv p2, iv p3, iv p4, iv p5, iv p6, iv p7] [(.int (p0 + (1 : Int32))), (.int p2)]))
                by_cases hc41 : p2 = (p0 + (1 : Int32))
                · refine own_via (fun k => XS.icmpNo X24.here hx rfl (hb hby d7_83) rfl (teq hc41).2 k) ?_
                  show own_Go p e below s _ _ (T24.setTop (mkF m 86 #[iv p0, iv p1, iv p2, iv p3, iv p4, iv p5, iv p6, iv p7] []))
                  refine own_via (fun k => XS.iloadN X24.here hx rfl (hb hby d7_86) rfl  (XS.iconst X24.here hx rfl (hb hby d7_87) k)) ?_
                  show own_Go p e below s _ _ (T24.setTop (mkF m 88 #[iv p0, iv p1, iv p2, iv p3, iv p4, iv p5, iv p6, iv p7] [(.int 1), (.int p3)]))
                  by_cases hc42 : p3 = (1 : Int32)
                  · refine own_via (fun k => XS.icmpNo X24.here hx rfl (hb hby d7_88) rfl (teq hc42).2 k) ?_
                    show own_Go p e below s _ _ (T24.setTop (mkF m 91 #[iv p0, iv p1, iv p2, iv p3, iv p4, iv p5, iv p6, iv p7] []))
                    refine own_via (fun k => XS.iconst X24.here hx rfl (hb hby d7_91) (XS.goto X24.here hx rfl (pc0 := 92) (pc' := 96) rfl (hb hby d7_92) (by decide) (by decide) k)) ?_
                    show own_Go p e below s _ _ (T24.setTop (mkF m 96 #[iv p0, iv p1, iv p2, iv p3, iv p4, iv p5, iv p6, iv p7] [(.int 1)]))
                    exact own_retN X24 hx hlk (t := .boolean) Bd.returns (by simp) (hb hby d7_96) (Q := (Q7 Z p0 p1 p2 p3 p4 p5 p6 p7 h0 n0)) ⟨(congrArg (fun z => some (Value.int z)) (show (1 : Int32) = (own_f7 p0 p1 p2 p3 p4 p5 p6 p7) from (by unfold own_f7; exact ((if_neg hc1).trans ((if_neg hc21).trans ((if_neg hc26).trans ((if_neg hc29).trans ((if_neg hc32).trans ((if_neg hc35).trans ((if_neg hc38).trans ((if_pos hc41).trans ((if_pos hc42).trans rfl))))))))).symm))), N25, eh24⟩ (by decide) (by decide)
                  · refine own_via (fun k => XS.icmpYes X24.here hx rfl (pc0 := 88) (pc' := 95) rfl (hb hby d7_88) rfl (feq hc42).2 (by decide) (by decide) k) ?_
                    show own_Go p e below s _ _ (T24.setTop (mkF m 95 #[iv p0, iv p1, iv p2, iv p3, iv p4, iv p5, iv p6, iv p7] []))
                    refine own_via (fun k => XS.iconst X24.here hx rfl (hb hby d7_95) k) ?_
                    show own_Go p e below s _ _ (T24.setTop (mkF m 96 #[iv p0, iv p1, iv p2, iv p3, iv p4, iv p5, iv p6, iv p7] [(.int 0)]))
                    exact own_retN X24 hx hlk (t := .boolean) Bd.returns (by simp) (hb hby d7_96) (Q := (Q7 Z p0 p1 p2 p3 p4 p5 p6 p7 h0 n0)) ⟨(congrArg (fun z => some (Value.int z)) (show (0 : Int32) = (own_f7 p0 p1 p2 p3 p4 p5 p6 p7) from (by unfold own_f7; exact ((if_neg hc1).trans ((if_neg hc21).trans ((if_neg hc26).trans ((if_neg hc29).trans ((if_neg hc32).trans ((if_neg hc35).trans ((if_neg hc38).trans ((if_pos hc41).trans ((if_neg hc42).trans rfl))))))))).symm))), N25, eh24⟩ (by decide) (by decide)
                · refine own_via (fun k => XS.icmpYes X24.here hx rfl (pc0 := 83) (pc' := 95) rfl (hb hby d7_83) rfl (feq hc41).2 (by decide) (by decide) k) ?_
                  show own_Go p e below s _ _ (T24.setTop (mkF m 95 #[iv p0, iv p1, iv p2, iv p3, iv p4, iv p5, iv p6, iv p7] []))
                  refine own_via (fun k => XS.iconst X24.here hx rfl (hb hby d7_95) k) ?_
                  show own_Go p e below s _ _ (T24.setTop (mkF m 96 #[iv p0, iv p1, iv p2, iv p3, iv p4, iv p5, iv p6, iv p7] [(.int 0)]))
                  exact own_retN X24 hx hlk (t := .boolean) Bd.returns (by simp) (hb hby d7_96) (Q := (Q7 Z p0 p1 p2 p3 p4 p5 p6 p7 h0 n0)) ⟨(congrArg (fun z => some (Value.int z)) (show (0 : Int32) = (own_f7 p0 p1 p2 p3 p4 p5 p6 p7) from (by unfold own_f7; exact ((if_neg hc1).trans ((if_neg hc21).trans ((if_neg hc26).trans ((if_neg hc29).trans ((if_neg hc32).trans ((if_neg hc35).trans ((if_neg hc38).trans ((if_neg hc41).trans rfl)))))))).symm))), N25, eh24⟩ (by decide) (by decide)
theorem pn_0 : plainName "com/example/tree_to_rows/treetorows/xml/DocumentPlacePassPinLaw" = true := by first | (simp [plainName, overriddenIn]; done) | decide +kernel
theorem pd_0 : parseMethodDescriptor "(I)C" = some ⟨[.int], some .char⟩ := by decide +kernel
theorem pd_1 : parseMethodDescriptor "(Z)V" = some ⟨[.boolean], none⟩ := by decide +kernel
theorem pd_3 : parseMethodDescriptor "(C)V" = some ⟨[.char], none⟩ := by decide +kernel
theorem pd_4 : parseMethodDescriptor "()I" = some ⟨[], some .int⟩ := by decide +kernel
theorem pd_5 : parseMethodDescriptor "(IIIICZZZ)Z" = some ⟨[.int, .int, .int, .int, .char, .boolean, .boolean, .boolean], some .boolean⟩ := by decide +kernel
theorem ef_0 (m : MethodId) (x0 : Int32) (x1 : Int32) (x2 : Int32) (x3 : Int32) : entryFrame m #[(.int x0), (.int x1), (.int x2), (.int x3)] maxLocals = mkF m 0 #[iv x0, iv x1, iv x2, iv x3, .unset, .unset, .unset, .unset, .unset, .unset, .unset, .unset, .unset, .unset, .unset] [] := by first | (simp [entryFrame, mkF, argsToLocals, Value.category, maxLocals]; done) | rfl
theorem own_step (x fc a l k c : Int32) : own_f7 l k (own_f4l c x fc a l) (own_f4k c x fc a k) c fc a x = 1 := by
  simp only [own_f7, own_f8, own_f4l, own_f4k]
  by_cases h1 : c = 13
  · subst h1; by_cases hf : fc = 0 <;> by_cases hx : x = 0 <;> by_cases ha : a = 0 <;> simp [hf, hx, ha]
  · by_cases h2 : c = 10
    · subst h2; by_cases hf : fc = 0 <;> by_cases hx : x = 0 <;> by_cases ha : a = 0 <;> simp [hf, hx, ha]
    · by_cases h3 : c = 133
      · subst h3; by_cases hf : fc = 0 <;> by_cases hx : x = 0 <;> by_cases ha : a = 0 <;> simp [hf, hx, ha]
      · by_cases h4 : c = 8232
        · subst h4; by_cases hf : fc = 0 <;> by_cases hx : x = 0 <;> by_cases ha : a = 0 <;> simp [hf, hx, ha]
        · by_cases h5 : c = 65279
          · subst h5; by_cases hf : fc = 0 <;> by_cases hx : x = 0 <;> by_cases ha : a = 0 <;> simp [hf, hx, ha]
          · by_cases hf : fc = 0 <;> by_cases hx : x = 0 <;> by_cases ha : a = 0 <;> simp [h1, h2, h3, h4, h5, hf, hx, ha]
theorem own_ac1 (c x : Int32) : own_f4a c x 1 0 = (if c = 13 then 1 else 0) := by
  simp only [own_f4a]
  by_cases h1 : c = 13
  · subst h1; by_cases hx : x = 0 <;> simp [hx]
  · by_cases h5 : c = 65279
    · subst h5; simp
    · simp [h1, h5]
theorem own_ac0 (c x a : Int32) : own_f4a c x 0 a = (if c = 13 then 1 else 0) := by
  simp only [own_f4a]
  by_cases h1 : c = 13
  · subst h1; by_cases hx : x = 0 <;> by_cases ha : a = 0 <;> simp [hx, ha]
  · simp [h1]
theorem own_hb (p0 : Int32) (z1 : Int32) (hz1 : z1 = (if (p0 &&& (1 : Int32)) = (0 : Int32) then (0 : Int32) else (1 : Int32))) : nar .boolean z1 = z1 := by subst hz1; split <;> rfl
theorem own_l120 (p0 : Int32) (p1 : Int32) (z1 : Int32) (hz1 : z1 = (if (p0 &&& (1 : Int32)) = (0 : Int32) then (0 : Int32) else (1 : Int32))) : ¬ ((own_f7 (1 : Int32) (1 : Int32) (own_f4l (own_f1 p1) z1 (1 : Int32) (0 : Int32) (1 : Int32)) (own_f4k (own_f1 p1) z1 (1 : Int32) (0 : Int32) (1 : Int32)) (own_f1 p1) (1 : Int32) (0 : Int32) z1) = (0 : Int32)) := by rw [own_step]; decide
theorem own_l151 (p0 : Int32) (p1 : Int32) (p2 : Int32) (z1 : Int32) (hz1 : z1 = (if (p0 &&& (1 : Int32)) = (0 : Int32) then (0 : Int32) else (1 : Int32))) (z67 : Int32) (hz67 : z67 = (if (own_f1 p1) = (13 : Int32) then (1 : Int32) else (0 : Int32))) : ¬ ((own_f7 (own_f4l (own_f1 p1) z1 (1 : Int32) (0 : Int32) (1 : Int32)) (own_f4k (own_f1 p1) z1 (1 : Int32) (0 : Int32) (1 : Int32)) (own_f4l (own_f1 p2) z1 (0 : Int32) (own_f4a (own_f1 p1) z1 (1 : Int32) (0 : Int32)) (own_f4l (own_f1 p1) z1 (1 : Int32) (0 : Int32) (1 : Int32))) (own_f4k (own_f1 p2) z1 (0 : Int32) (own_f4a (own_f1 p1) z1 (1 : Int32) (0 : Int32)) (own_f4k (own_f1 p1) z1 (1 : Int32) (0 : Int32) (1 : Int32))) (own_f1 p2) (0 : Int32) z67 z1) = (0 : Int32)) := by rw [hz67, ← own_ac1 (own_f1 p1) z1, own_step]; decide
theorem own_l182 (p0 : Int32) (p1 : Int32) (p2 : Int32) (p3 : Int32) (z1 : Int32) (hz1 : z1 = (if (p0 &&& (1 : Int32)) = (0 : Int32) then (0 : Int32) else (1 : Int32))) (z71 : Int32) (hz71 : z71 = (if (own_f1 p2) = (13 : Int32) then (1 : Int32) else (0 : Int32))) : ¬ ((own_f7 (own_f4l (own_f1 p2) z1 (0 : Int32) (own_f4a (own_f1 p1) z1 (1 : Int32) (0 : Int32)) (own_f4l (own_f1 p1) z1 (1 : Int32) (0 : Int32) (1 : Int32))) (own_f4k (own_f1 p2) z1 (0 : Int32) (own_f4a (own_f1 p1) z1 (1 : Int32) (0 : Int32)) (own_f4k (own_f1 p1) z1 (1 : Int32) (0 : Int32) (1 : Int32))) (own_f4l (own_f1 p3) z1 (0 : Int32) (own_f4a (own_f1 p2) z1 (0 : Int32) (own_f4a (own_f1 p1) z1 (1 : Int32) (0 : Int32))) (own_f4l (own_f1 p2) z1 (0 : Int32) (own_f4a (own_f1 p1) z1 (1 : Int32) (0 : Int32)) (own_f4l (own_f1 p1) z1 (1 : Int32) (0 : Int32) (1 : Int32)))) (own_f4k (own_f1 p3) z1 (0 : Int32) (own_f4a (own_f1 p2) z1 (0 : Int32) (own_f4a (own_f1 p1) z1 (1 : Int32) (0 : Int32))) (own_f4k (own_f1 p2) z1 (0 : Int32) (own_f4a (own_f1 p1) z1 (1 : Int32) (0 : Int32)) (own_f4k (own_f1 p1) z1 (1 : Int32) (0 : Int32) (1 : Int32)))) (own_f1 p3) (0 : Int32) z71 z1) = (0 : Int32)) := by rw [hz71, ← own_ac0 (own_f1 p2) z1 (own_f4a (own_f1 p1) z1 1 0), own_step]; decide
def Q0 (Z : State) (p0 : Int32) (p1 : Int32) (p2 : Int32) (p3 : Int32) (h0 : Heap) (n0 : Nat) (v : Option Value) (h : Heap) (L : List Loc) : Prop := v = some (.int 1) ∧ Fr n0 L
set_option maxRecDepth 65536 in
set_option maxHeartbeats 40000000 in
theorem rm0 (l : Launch) (Z : State) (aw : Array Value) (hw : ∀ d ∈ tables_1, d.before aw Z = true) (ws : List Jvm.Cond) (p0 : Int32) (p1 : Int32) (p2 : Int32) (p3 : Int32) (h0 : Heap) (n0 : Nat) (Z0 : n0 ≤ h0.size)  :
    MetFree l x (head1 (Jvm.Cond.code x code maxLocals ret :: ws) room_1) (fun a U => a = #[(.int p0), (.int p1), (.int p2), (.int p3)] ∧ Z.Warmed39 U.vm ∧ U.heap = h0) (fun _ _ _ _ _ => True) (fun _ U o U' => ∃ v L, o = .returned v ∧ Q0 Z p0 p1 p2 p3 h0 n0 v U'.heap L ∧ FrameEnd U o U' L room_1.cells room_1.slots) := by
  refine MetFree.of_bodySF (plainFor_of_name pn_0) hisR ?_
  intro p e s m args below meth c s₁ Bd hml0 hP hK
  obtain ⟨rfl, hZ, hh⟩ := hP
  have hx := Bd.exec
  have hby := Bd.bytes
  have hml : c.maxLocals = 15 := hml0
  have hown : s.vm.findClass "com/example/tree_to_rows/treetorows/xml/DocumentPlacePassPinLaw" = some m.cls := findClass_of_methodNamed Bd.named
  have hnm := (name_of_methodNamed Bd.named Bd.method).1
  have hlk : meth.locks = false := by first | exact BodyLoose.notSynchronized (by assumption) | exact Body.notSynchronized (by assumption)
  have X0 : Stand p l e room_1 s m #[(.int p0), (.int p1), (.int p2), (.int p3)] below meth c s₁ [] 0 0 := Stand.of_body Bd
  have e0 : s₁.heap = h0 := by rw [← hh, Bd.state]; rfl
  have N0 := Fr.nil n0
  refine own_start (CS := (room_1.cells, room_1.slots)) (Q := (Q0 Z p0 p1 p2 p3 h0 n0)) (ef_0 m p0 p1 p2 p3) ?_
  show own_Go p e below s _ _ (s₁.setTop (mkF m 0 #[iv p0, iv p1, iv p2, iv p3, .unset, .unset, .unset, .unset, .unset, .unset, .unset, .unset, .unset, .unset, .unset] []))
  refine own_via (fun k => XS.iloadN X0.here hx rfl (hb hby at_0) rfl  (XS.iconst X0.here hx rfl (hb hby at_1) (XS.iand X0.here hx rfl (hb hby at_2) rfl k))) ?_
  show own_Go p e below s _ _ (s₁.setTop (mkF m 3 #[iv p0, iv p1, iv p2, iv p3, .unset, .unset, .unset, .unset, .unset, .unset, .unset, .unset, .unset, .unset, .unset] [(.int (p0 &&& (1 : Int32)))]))
  have J2 : ∀ (z1 : Int32), z1 = (if (p0 &&& (1 : Int32)) = (0 : Int32) then (0 : Int32) else (1 : Int32)) → own_Go p e below s (Q0 Z p0 p1 p2 p3 h0 n0) (room_1.cells, room_1.slots) (s₁.setTop (mkF m 11 #[iv p0, iv p1, iv p2, iv p3, .unset, .unset, .unset, .unset, .unset, .unset, .unset, .unset, .unset, .unset, .unset] [(.int z1)])) := by
    intro z1 hz1
    refine own_via (fun k => XS.istore X0.here hx rfl (hb hby at_11) rfl (l' := #[iv p0, iv p1, iv p2, iv p3, iv z1, .unset, .unset, .unset, .unset, .unset, .unset, .unset, .unset, .unset, .unset]) rfl (XS.iloadN X0.here hx rfl (hb hby at_13) rfl  k)) ?_
    show own_Go p e below s _ _ (s₁.setTop (mkF m 14 #[iv p0, iv p1, iv p2, iv p3, iv z1, .unset, .unset, .unset, .unset, .unset, .unset, .unset, .unset, .unset, .unset] [(.int p1)]))
    obtain ⟨_, _, ⟨T3, L3, k3, n3⟩, -, X3, ⟨Lc3, hQ3, l3, y3, z3⟩, st3⟩ := Jvm.LawKit.callS X0 hx (y := (⟨"com/example/tree_to_rows/treetorows/xml/DocumentPlacePassPinLaw", "draw", "(I)C"⟩ : MethodName)) hown (mvT hZ (hw _ (List.mem_of_getElem? (i := 0) rfl))) (mvT hZ (hw _ (List.mem_of_getElem? (i := 1) rfl))) (mvT hZ (hw _ (List.mem_of_getElem? (i := 2) rfl))) (mvT hZ (hw _ (List.mem_of_getElem? (i := 3) rfl))) (by decide) (backOf (W := 0) (rm1 l Z aw hw [] p1 h0 n0 Z0) hZ (hw _ (List.mem_of_getElem? (i := 3) rfl)) (hw _ (List.mem_of_getElem? (i := 2) rfl)) (by decide) (by decide)) (g := (mkF m 14 #[iv p0, iv p1, iv p2, iv p3, iv z1, .unset, .unset, .unset, .unset, .unset, .unset, .unset, .unset, .unset, .unset] [(.int p1)])) rfl (by rw [hml]; rfl) (argsL := [(.int p1)]) (rest := []) (lenOf pd_0 rfl) rfl (by show 2 * 0 + _ ≤ _; exact Nat.le_of_eq rfl) (hb hby at_14) (fun _ _ => ⟨rfl, e0, (by decide : 0 + 0 ≤ _), (by decide : 0 + 0 ≤ _)⟩)
    dsimp only [Pt.U, Pt.locs, Pt.cells, Pt.slots] at X3 l3 y3 z3 st3 hQ3
    subst l3 y3 z3
    obtain ⟨rfl, N3q, eh3⟩ := hQ3
    have N4 := Fr.app N0 N3q
    refine own_via (fun k => st3 _ k) ?_
    show own_Go p e below s _ _ (T3.setTop (mkF m 17 #[iv p0, iv p1, iv p2, iv p3, iv z1, .unset, .unset, .unset, .unset, .unset, .unset, .unset, .unset, .unset, .unset] [(.int (own_f1 p1))]))
    refine own_via (fun k => XS.istore X3.here hx rfl (hb hby at_17) rfl (l' := #[iv p0, iv p1, iv p2, iv p3, iv z1, iv (own_f1 p1), .unset, .unset, .unset, .unset, .unset, .unset, .unset, .unset, .unset]) rfl (XS.iloadN X3.here hx rfl (hb hby at_19) rfl  k)) ?_
    show own_Go p e below s _ _ (T3.setTop (mkF m 20 #[iv p0, iv p1, iv p2, iv p3, iv z1, iv (own_f1 p1), .unset, .unset, .unset, .unset, .unset, .unset, .unset, .unset, .unset] [(.int p2)]))
    obtain ⟨_, _, ⟨T5, L5, k5, n5⟩, -, X5, ⟨Lc5, hQ5, l5, y5, z5⟩, st5⟩ := Jvm.LawKit.callS X3 hx (y := (⟨"com/example/tree_to_rows/treetorows/xml/DocumentPlacePassPinLaw", "draw", "(I)C"⟩ : MethodName)) hown (mvT hZ (hw _ (List.mem_of_getElem? (i := 0) rfl))) (mvT hZ (hw _ (List.mem_of_getElem? (i := 1) rfl))) (mvT hZ (hw _ (List.mem_of_getElem? (i := 2) rfl))) (mvT hZ (hw _ (List.mem_of_getElem? (i := 3) rfl))) (by decide) (backOf (W := 0) (rm1 l Z aw hw [] p2 h0 n0 Z0) hZ (hw _ (List.mem_of_getElem? (i := 3) rfl)) (hw _ (List.mem_of_getElem? (i := 2) rfl)) (by decide) (by decide)) (g := (mkF m 20 #[iv p0, iv p1, iv p2, iv p3, iv z1, iv (own_f1 p1), .unset, .unset, .unset, .unset, .unset, .unset, .unset, .unset, .unset] [(.int p2)])) rfl (by rw [hml]; rfl) (argsL := [(.int p2)]) (rest := []) (lenOf pd_0 rfl) rfl (by show 2 * 0 + _ ≤ _; exact Nat.le_of_eq rfl) (hb hby at_20) (fun _ _ => ⟨rfl, eh3, (by decide : 0 + 0 ≤ _), (by decide : 0 + 0 ≤ _)⟩)
    dsimp only [Pt.U, Pt.locs, Pt.cells, Pt.slots] at X5 l5 y5 z5 st5 hQ5
    subst l5 y5 z5
    obtain ⟨rfl, N5q, eh5⟩ := hQ5
    have N6 := Fr.app N4 N5q
    refine own_via (fun k => st5 _ k) ?_
    show own_Go p e below s _ _ (T5.setTop (mkF m 23 #[iv p0, iv p1, iv p2, iv p3, iv z1, iv (own_f1 p1), .unset, .unset, .unset, .unset, .unset, .unset, .unset, .unset, .unset] [(.int (own_f1 p2))]))
    refine own_via (fun k => XS.istore X5.here hx rfl (hb hby at_23) rfl (l' := #[iv p0, iv p1, iv p2, iv p3, iv z1, iv (own_f1 p1), iv (own_f1 p2), .unset, .unset, .unset, .unset, .unset, .unset, .unset, .unset]) rfl (XS.iloadN X5.here hx rfl (hb hby at_25) rfl  k)) ?_
    show own_Go p e below s _ _ (T5.setTop (mkF m 26 #[iv p0, iv p1, iv p2, iv p3, iv z1, iv (own_f1 p1), iv (own_f1 p2), .unset, .unset, .unset, .unset, .unset, .unset, .unset, .unset] [(.int p3)]))
    obtain ⟨_, _, ⟨T7, L7, k7, n7⟩, -, X7, ⟨Lc7, hQ7, l7, y7, z7⟩, st7⟩ := Jvm.LawKit.callS X5 hx (y := (⟨"com/example/tree_to_rows/treetorows/xml/DocumentPlacePassPinLaw", "draw", "(I)C"⟩ : MethodName)) hown (mvT hZ (hw _ (List.mem_of_getElem? (i := 0) rfl))) (mvT hZ (hw _ (List.mem_of_getElem? (i := 1) rfl))) (mvT hZ (hw _ (List.mem_of_getElem? (i := 2) rfl))) (mvT hZ (hw _ (List.mem_of_getElem? (i := 3) rfl))) (by decide) (backOf (W := 0) (rm1 l Z aw hw [] p3 h0 n0 Z0) hZ (hw _ (List.mem_of_getElem? (i := 3) rfl)) (hw _ (List.mem_of_getElem? (i := 2) rfl)) (by decide) (by decide)) (g := (mkF m 26 #[iv p0, iv p1, iv p2, iv p3, iv z1, iv (own_f1 p1), iv (own_f1 p2), .unset, .unset, .unset, .unset, .unset, .unset, .unset, .unset] [(.int p3)])) rfl (by rw [hml]; rfl) (argsL := [(.int p3)]) (rest := []) (lenOf pd_0 rfl) rfl (by show 2 * 0 + _ ≤ _; exact Nat.le_of_eq rfl) (hb hby at_26) (fun _ _ => ⟨rfl, eh5, (by decide : 0 + 0 ≤ _), (by decide : 0 + 0 ≤ _)⟩)
    dsimp only [Pt.U, Pt.locs, Pt.cells, Pt.slots] at X7 l7 y7 z7 st7 hQ7
    subst l7 y7 z7
    obtain ⟨rfl, N7q, eh7⟩ := hQ7
    have N8 := Fr.app N6 N7q
    refine own_via (fun k => st7 _ k) ?_
    show own_Go p e below s _ _ (T7.setTop (mkF m 29 #[iv p0, iv p1, iv p2, iv p3, iv z1, iv (own_f1 p1), iv (own_f1 p2), .unset, .unset, .unset, .unset, .unset, .unset, .unset, .unset] [(.int (own_f1 p3))]))
    refine own_via (fun k => XS.istore X7.here hx rfl (hb hby at_29) rfl (l' := #[iv p0, iv p1, iv p2, iv p3, iv z1, iv (own_f1 p1), iv (own_f1 p2), iv (own_f1 p3), .unset, .unset, .unset, .unset, .unset, .unset, .unset]) rfl k) ?_
    show own_Go p e below s _ _ (T7.setTop (mkF m 31 #[iv p0, iv p1, iv p2, iv p3, iv z1, iv (own_f1 p1), iv (own_f1 p2), iv (own_f1 p3), .unset, .unset, .unset, .unset, .unset, .unset, .unset] []))
    obtain ⟨T9, h9, X9, e9, E9, A9, D9, -, st9⟩ := newO X7 hx hZ hown (hw _ (List.mem_of_getElem? (i := 4) rfl)) (hw _ (List.mem_of_getElem? (i := 5) rfl)) (hw _ (List.mem_of_getElem? (i := 6) rfl)) eh7 (g := (mkF m 31 #[iv p0, iv p1, iv p2, iv p3, iv z1, iv (own_f1 p1), iv (own_f1 p2), iv (own_f1 p3), .unset, .unset, .unset, .unset, .unset, .unset, .unset] [])) rfl (hb hby at_31) (by decide) (by decide)
    obtain ⟨b9, g9⟩ : ∃ z, z = h0.size := ⟨_, rfl⟩
    rw [← g9] at A9 D9 st9
    refine own_via (fun k => st9 _ k) ?_
    show own_Go p e below s _ _ (T9.setTop (mkF m 34 #[iv p0, iv p1, iv p2, iv p3, iv z1, iv (own_f1 p1), iv (own_f1 p2), iv (own_f1 p3), .unset, .unset, .unset, .unset, .unset, .unset, .unset] [(.ref b9)]))
    have g10 : n0 ≤ b9 := Nat.le_trans Z0 (Nat.le_of_eq g9.symm)
    have Z11 : n0 ≤ h9.size := Nat.le_trans Z0 E9.1
    have B12 : Fld Z h9 b9 "com/example/tree_to_rows/treetorows/xml/DocumentPlace" "xml11" "Z" (.int 0) := D9 (Or.inr (hw _ (List.mem_of_getElem? (i := 14) rfl))) (ty := .boolean) (by decide)
    have B13 : Fld Z h9 b9 "com/example/tree_to_rows/treetorows/xml/DocumentPlace" "firstCharacter" "Z" (.int 0) := D9 (Or.inl (hw _ (List.mem_of_getElem? (i := 16) rfl))) (ty := .boolean) (by decide)
    have B14 : Fld Z h9 b9 "com/example/tree_to_rows/treetorows/xml/DocumentPlace" "afterCarriageReturn" "Z" (.int 0) := D9 (Or.inl (hw _ (List.mem_of_getElem? (i := 18) rfl))) (ty := .boolean) (by decide)
    have B15 : Fld Z h9 b9 "com/example/tree_to_rows/treetorows/xml/DocumentPlace" "line" "I" (.int 0) := D9 (Or.inl (hw _ (List.mem_of_getElem? (i := 20) rfl))) (ty := .int) (by decide)
    have B16 : Fld Z h9 b9 "com/example/tree_to_rows/treetorows/xml/DocumentPlace" "column" "I" (.int 0) := D9 (Or.inl (hw _ (List.mem_of_getElem? (i := 22) rfl))) (ty := .int) (by decide)
    refine own_via (fun k => XS.dup X9.here hx rfl (hb hby at_34) rfl rfl (XS.iload X9.here hx rfl (hb hby at_35) rfl  k)) ?_
    show own_Go p e below s _ _ (T9.setTop (mkF m 37 #[iv p0, iv p1, iv p2, iv p3, iv z1, iv (own_f1 p1), iv (own_f1 p2), iv (own_f1 p3), .unset, .unset, .unset, .unset, .unset, .unset, .unset] [(.int z1), (.ref b9), (.ref b9)]))
    obtain ⟨_, _, ⟨T17, L17, k17, n17⟩, -, X17, ⟨Lc17, hQ17, l17, y17, z17⟩, st17⟩ := X9.specialBack hx (y := (⟨"com/example/tree_to_rows/treetorows/xml/DocumentPlace", "<init>", "(Z)V"⟩ : MethodName)) rfl hown (mvT hZ (hw _ (List.mem_of_getElem? (i := 7) rfl))) (mvT hZ (hw _ (List.mem_of_getElem? (i := 8) rfl))) (mvT hZ (hw _ (List.mem_of_getElem? (i := 9) rfl))) (by decide) (backOf (W := 1) (rm2 l Z aw hw [] b9 z1 h9 n0 Z11 B12 B13 B14 B15 B16 A9 g10 (own_hb p0 z1 hz1)) hZ (hw _ (List.mem_of_getElem? (i := 9) rfl)) (hw _ (List.mem_of_getElem? (i := 6) rfl)) (by decide) (by decide)) (g := (mkF m 37 #[iv p0, iv p1, iv p2, iv p3, iv z1, iv (own_f1 p1), iv (own_f1 p2), iv (own_f1 p3), .unset, .unset, .unset, .unset, .unset, .unset, .unset] [(.int z1), (.ref b9), (.ref b9)])) rfl (by rw [hml]; rfl) (Steps.refl _) (a := b9) (argsL := [(.int z1)]) (rest := [(.ref b9)]) (lenOf pd_1 rfl) rfl (by show 2 * 0 + _ ≤ _; exact Nat.le_of_eq rfl) (hb hby at_37) (fun _ _ => ⟨rfl, e9, (by decide : 1 + 0 ≤ _), (by decide : 5 + 0 ≤ _)⟩)
    dsimp only [Pt.U, Pt.locs, Pt.cells, Pt.slots] at X17 l17 y17 z17 st17 hQ17
    subst l17 y17 z17
    obtain ⟨rfl, N17q, K17, B18, B19, B20, B21, B22⟩ := hQ17
    have N23 := Fr.app N8 N17q
    have B24 := A9.keep K17
    have Z25 : n0 ≤ T17.heap.size := Nat.le_trans Z11 K17.1
    refine own_via (fun k => st17.trans k) ?_
    show own_Go p e below s _ _ (T17.setTop (mkF m 40 #[iv p0, iv p1, iv p2, iv p3, iv z1, iv (own_f1 p1), iv (own_f1 p2), iv (own_f1 p3), .unset, .unset, .unset, .unset, .unset, .unset, .unset] [(.ref b9)]))
    refine own_via (fun k => XS.astore X17.here hx rfl (hb hby at_40) rfl rfl (l' := #[iv p0, iv p1, iv p2, iv p3, iv z1, iv (own_f1 p1), iv (own_f1 p2), iv (own_f1 p3), rv b9, .unset, .unset, .unset, .unset, .unset, .unset]) rfl (XS.aload X17.here hx rfl (hb hby at_42) rfl rfl  (XS.iload X17.here hx rfl (hb hby at_44) rfl  k))) ?_
    show own_Go p e below s _ _ (T17.setTop (mkF m 46 #[iv p0, iv p1, iv p2, iv p3, iv z1, iv (own_f1 p1), iv (own_f1 p2), iv (own_f1 p3), rv b9, .unset, .unset, .unset, .unset, .unset, .unset] [(.int (own_f1 p1)), (.ref b9)]))
    obtain ⟨cq26, kq26, q26a, q26b, q26c⟩ := isOf hZ rfl B24
    obtain ⟨_, _, ⟨T26, L26, k26, n26⟩, -, X26, ⟨Lc26, hQ26, l26, y26, z26⟩, st26⟩ := X17.virtualBack hx (y := (⟨"com/example/tree_to_rows/treetorows/xml/DocumentPlace", "pass", "(C)V"⟩ : MethodName)) (z := (⟨"com/example/tree_to_rows/treetorows/xml/DocumentPlace", "pass", "(C)V"⟩ : MethodName)) hown (mvT hZ (hw _ (List.mem_of_getElem? (i := 23) rfl))) (mvT hZ (hw _ (List.mem_of_getElem? (i := 24) rfl))) (notFace_of_selects (args := #[]) (mvT hZ (hw _ (List.mem_of_getElem? (i := 26) rfl)))) (mvT hZ (hw _ (List.mem_of_getElem? (i := 26) rfl))) (mvT hZ (hw _ (List.mem_of_getElem? (i := 25) rfl))) (by decide) (backOf (W := 0) (rm4 l Z aw hw [] b9 (own_f1 p1) z1 (1 : Int32) (0 : Int32) (1 : Int32) (1 : Int32) T17.heap n0 Z25 B18 B19 B20 B21 B22 B24 g10) hZ (hw _ (List.mem_of_getElem? (i := 27) rfl)) (hw _ (List.mem_of_getElem? (i := 6) rfl)) (by decide) (by decide)) q26a q26c (g := (mkF m 46 #[iv p0, iv p1, iv p2, iv p3, iv z1, iv (own_f1 p1), iv (own_f1 p2), iv (own_f1 p3), rv b9, .unset, .unset, .unset, .unset, .unset, .unset] [(.int (own_f1 p1)), (.ref b9)])) rfl (by rw [hml]; rfl) (Steps.refl _) (argsL := [(.int (own_f1 p1))]) (rest := []) (lenOf pd_3 rfl) rfl (by show 2 * 0 + _ ≤ _; exact Nat.le_of_eq rfl) (hb hby at_46) (fun _ _ => ⟨rfl, rfl, (by decide : 1 + 0 ≤ _), (by decide : 5 + 0 ≤ _)⟩)
    dsimp only [Pt.U, Pt.locs, Pt.cells, Pt.slots] at X26 l26 y26 z26 st26 hQ26
    subst l26 y26 z26
    obtain ⟨rfl, N26q, K26, B27, B28, B29, B30, B31⟩ := hQ26
    have N32 := Fr.app N23 N26q
    have B33 := B24.keep K26
    have Z34 : n0 ≤ T26.heap.size := Nat.le_trans Z25 K26.1
    refine own_via (fun k => st26.trans k) ?_
    show own_Go p e below s _ _ (T26.setTop (mkF m 49 #[iv p0, iv p1, iv p2, iv p3, iv z1, iv (own_f1 p1), iv (own_f1 p2), iv (own_f1 p3), rv b9, .unset, .unset, .unset, .unset, .unset, .unset] []))
    refine own_via (fun k => XS.aload X26.here hx rfl (hb hby at_49) rfl rfl  k) ?_
    show own_Go p e below s _ _ (T26.setTop (mkF m 51 #[iv p0, iv p1, iv p2, iv p3, iv z1, iv (own_f1 p1), iv (own_f1 p2), iv (own_f1 p3), rv b9, .unset, .unset, .unset, .unset, .unset, .unset] [(.ref b9)]))
    obtain ⟨cq35, kq35, q35a, q35b, q35c⟩ := isOf hZ rfl B33
    obtain ⟨_, _, ⟨T35, L35, k35, n35⟩, -, X35, ⟨Lc35, hQ35, l35, y35, z35⟩, st35⟩ := X26.virtualBack hx (y := (⟨"com/example/tree_to_rows/treetorows/xml/DocumentPlace", "line", "()I"⟩ : MethodName)) (z := (⟨"com/example/tree_to_rows/treetorows/xml/DocumentPlace", "line", "()I"⟩ : MethodName)) hown (mvT hZ (hw _ (List.mem_of_getElem? (i := 29) rfl))) (mvT hZ (hw _ (List.mem_of_getElem? (i := 30) rfl))) (notFace_of_selects (args := #[]) (mvT hZ (hw _ (List.mem_of_getElem? (i := 32) rfl)))) (mvT hZ (hw _ (List.mem_of_getElem? (i := 32) rfl))) (mvT hZ (hw _ (List.mem_of_getElem? (i := 31) rfl))) (by decide) (backOf (W := 0) (rm5 l Z aw hw [] b9 (own_f4l (own_f1 p1) z1 (1 : Int32) (0 : Int32) (1 : Int32)) T26.heap n0 Z34 B30) hZ (hw _ (List.mem_of_getElem? (i := 33) rfl)) (hw _ (List.mem_of_getElem? (i := 6) rfl)) (by decide) (by decide)) q35a q35c (g := (mkF m 51 #[iv p0, iv p1, iv p2, iv p3, iv z1, iv (own_f1 p1), iv (own_f1 p2), iv (own_f1 p3), rv b9, .unset, .unset, .unset, .unset, .unset, .unset] [(.ref b9)])) rfl (by rw [hml]; rfl) (Steps.refl _) (argsL := []) (rest := []) (lenOf pd_4 rfl) rfl (by show 2 * 0 + _ ≤ _; exact Nat.le_of_eq rfl) (hb hby at_51) (fun _ _ => ⟨rfl, rfl, (by decide : 1 + 0 ≤ _), (by decide : 5 + 0 ≤ _)⟩)
    dsimp only [Pt.U, Pt.locs, Pt.cells, Pt.slots] at X35 l35 y35 z35 st35 hQ35
    subst l35 y35 z35
    obtain ⟨rfl, N35q, eh35⟩ := hQ35
    have N36 := Fr.app N32 N35q
    refine own_via (fun k => st35.trans k) ?_
    show own_Go p e below s _ _ (T35.setTop (mkF m 54 #[iv p0, iv p1, iv p2, iv p3, iv z1, iv (own_f1 p1), iv (own_f1 p2), iv (own_f1 p3), rv b9, .unset, .unset, .unset, .unset, .unset, .unset] [(.int (own_f4l (own_f1 p1) z1 (1 : Int32) (0 : Int32) (1 : Int32)))]))
    refine own_via (fun k => XS.istore X35.here hx rfl (hb hby at_54) rfl (l' := #[iv p0, iv p1, iv p2, iv p3, iv z1, iv (own_f1 p1), iv (own_f1 p2), iv (own_f1 p3), rv b9, iv (own_f4l (own_f1 p1) z1 (1 : Int32) (0 : Int32) (1 : Int32)), .unset, .unset, .unset, .unset, .unset]) rfl (XS.aload X35.here hx rfl (hb hby at_56) rfl rfl  k)) ?_
    show own_Go p e below s _ _ (T35.setTop (mkF m 58 #[iv p0, iv p1, iv p2, iv p3, iv z1, iv (own_f1 p1), iv (own_f1 p2), iv (own_f1 p3), rv b9, iv (own_f4l (own_f1 p1) z1 (1 : Int32) (0 : Int32) (1 : Int32)), .unset, .unset, .unset, .unset, .unset] [(.ref b9)]))
    obtain ⟨cq37, kq37, q37a, q37b, q37c⟩ := isOf hZ eh35 B33
    obtain ⟨_, _, ⟨T37, L37, k37, n37⟩, -, X37, ⟨Lc37, hQ37, l37, y37, z37⟩, st37⟩ := X35.virtualBack hx (y := (⟨"com/example/tree_to_rows/treetorows/xml/DocumentPlace", "column", "()I"⟩ : MethodName)) (z := (⟨"com/example/tree_to_rows/treetorows/xml/DocumentPlace", "column", "()I"⟩ : MethodName)) hown (mvT hZ (hw _ (List.mem_of_getElem? (i := 34) rfl))) (mvT hZ (hw _ (List.mem_of_getElem? (i := 35) rfl))) (notFace_of_selects (args := #[]) (mvT hZ (hw _ (List.mem_of_getElem? (i := 37) rfl)))) (mvT hZ (hw _ (List.mem_of_getElem? (i := 37) rfl))) (mvT hZ (hw _ (List.mem_of_getElem? (i := 36) rfl))) (by decide) (backOf (W := 0) (rm6 l Z aw hw [] b9 (own_f4k (own_f1 p1) z1 (1 : Int32) (0 : Int32) (1 : Int32)) T26.heap n0 Z34 B31) hZ (hw _ (List.mem_of_getElem? (i := 38) rfl)) (hw _ (List.mem_of_getElem? (i := 6) rfl)) (by decide) (by decide)) q37a q37c (g := (mkF m 58 #[iv p0, iv p1, iv p2, iv p3, iv z1, iv (own_f1 p1), iv (own_f1 p2), iv (own_f1 p3), rv b9, iv (own_f4l (own_f1 p1) z1 (1 : Int32) (0 : Int32) (1 : Int32)), .unset, .unset, .unset, .unset, .unset] [(.ref b9)])) rfl (by rw [hml]; rfl) (Steps.refl _) (argsL := []) (rest := []) (lenOf pd_4 rfl) rfl (by show 2 * 0 + _ ≤ _; exact Nat.le_of_eq rfl) (hb hby at_58) (fun _ _ => ⟨rfl, eh35, (by decide : 1 + 0 ≤ _), (by decide : 5 + 0 ≤ _)⟩)
    dsimp only [Pt.U, Pt.locs, Pt.cells, Pt.slots] at X37 l37 y37 z37 st37 hQ37
    subst l37 y37 z37
    obtain ⟨rfl, N37q, eh37⟩ := hQ37
    have N38 := Fr.app N36 N37q
    refine own_via (fun k => st37.trans k) ?_
    show own_Go p e below s _ _ (T37.setTop (mkF m 61 #[iv p0, iv p1, iv p2, iv p3, iv z1, iv (own_f1 p1), iv (own_f1 p2), iv (own_f1 p3), rv b9, iv (own_f4l (own_f1 p1) z1 (1 : Int32) (0 : Int32) (1 : Int32)), .unset, .unset, .unset, .unset, .unset] [(.int (own_f4k (own_f1 p1) z1 (1 : Int32) (0 : Int32) (1 : Int32)))]))
    refine own_via (fun k => XS.istore X37.here hx rfl (hb hby at_61) rfl (l' := #[iv p0, iv p1, iv p2, iv p3, iv z1, iv (own_f1 p1), iv (own_f1 p2), iv (own_f1 p3), rv b9, iv (own_f4l (own_f1 p1) z1 (1 : Int32) (0 : Int32) (1 : Int32)), iv (own_f4k (own_f1 p1) z1 (1 : Int32) (0 : Int32) (1 : Int32)), .unset, .unset, .unset, .unset]) rfl (XS.aload X37.here hx rfl (hb hby at_63) rfl rfl  (XS.iload X37.here hx rfl (hb hby at_65) rfl  k))) ?_
    show own_Go p e below s _ _ (T37.setTop (mkF m 67 #[iv p0, iv p1, iv p2, iv p3, iv z1, iv (own_f1 p1), iv (own_f1 p2), iv (own_f1 p3), rv b9, iv (own_f4l (own_f1 p1) z1 (1 : Int32) (0 : Int32) (1 : Int32)), iv (own_f4k (own_f1 p1) z1 (1 : Int32) (0 : Int32) (1 : Int32)), .unset, .unset, .unset, .unset] [(.int (own_f1 p2)), (.ref b9)]))
    obtain ⟨cq39, kq39, q39a, q39b, q39c⟩ := isOf hZ eh37 B33
    obtain ⟨_, _, ⟨T39, L39, k39, n39⟩, -, X39, ⟨Lc39, hQ39, l39, y39, z39⟩, st39⟩ := X37.virtualBack hx (y := (⟨"com/example/tree_to_rows/treetorows/xml/DocumentPlace", "pass", "(C)V"⟩ : MethodName)) (z := (⟨"com/example/tree_to_rows/treetorows/xml/DocumentPlace", "pass", "(C)V"⟩ : MethodName)) hown (mvT hZ (hw _ (List.mem_of_getElem? (i := 23) rfl))) (mvT hZ (hw _ (List.mem_of_getElem? (i := 24) rfl))) (notFace_of_selects (args := #[]) (mvT hZ (hw _ (List.mem_of_getElem? (i := 26) rfl)))) (mvT hZ (hw _ (List.mem_of_getElem? (i := 26) rfl))) (mvT hZ (hw _ (List.mem_of_getElem? (i := 25) rfl))) (by decide) (backOf (W := 0) (rm4 l Z aw hw [] b9 (own_f1 p2) z1 (0 : Int32) (own_f4a (own_f1 p1) z1 (1 : Int32) (0 : Int32)) (own_f4l (own_f1 p1) z1 (1 : Int32) (0 : Int32) (1 : Int32)) (own_f4k (own_f1 p1) z1 (1 : Int32) (0 : Int32) (1 : Int32)) T26.heap n0 Z34 B27 B28 B29 B30 B31 B33 g10) hZ (hw _ (List.mem_of_getElem? (i := 27) rfl)) (hw _ (List.mem_of_getElem? (i := 6) rfl)) (by decide) (by decide)) q39a q39c (g := (mkF m 67 #[iv p0, iv p1, iv p2, iv p3, iv z1, iv (own_f1 p1), iv (own_f1 p2), iv (own_f1 p3), rv b9, iv (own_f4l (own_f1 p1) z1 (1 : Int32) (0 : Int32) (1 : Int32)), iv (own_f4k (own_f1 p1) z1 (1 : Int32) (0 : Int32) (1 : Int32)), .unset, .unset, .unset, .unset] [(.int (own_f1 p2)), (.ref b9)])) rfl (by rw [hml]; rfl) (Steps.refl _) (argsL := [(.int (own_f1 p2))]) (rest := []) (lenOf pd_3 rfl) rfl (by show 2 * 0 + _ ≤ _; exact Nat.le_of_eq rfl) (hb hby at_67) (fun _ _ => ⟨rfl, eh37, (by decide : 1 + 0 ≤ _), (by decide : 5 + 0 ≤ _)⟩)
    dsimp only [Pt.U, Pt.locs, Pt.cells, Pt.slots] at X39 l39 y39 z39 st39 hQ39
    subst l39 y39 z39
    obtain ⟨rfl, N39q, K39, B40, B41, B42, B43, B44⟩ := hQ39
    have N45 := Fr.app N38 N39q
    have B46 := B33.keep K39
    have Z47 : n0 ≤ T39.heap.size := Nat.le_trans Z34 K39.1
    refine own_via (fun k => st39.trans k) ?_
    show own_Go p e below s _ _ (T39.setTop (mkF m 70 #[iv p0, iv p1, iv p2, iv p3, iv z1, iv (own_f1 p1), iv (own_f1 p2), iv (own_f1 p3), rv b9, iv (own_f4l (own_f1 p1) z1 (1 : Int32) (0 : Int32) (1 : Int32)), iv (own_f4k (own_f1 p1) z1 (1 : Int32) (0 : Int32) (1 : Int32)), .unset, .unset, .unset, .unset] []))
    refine own_via (fun k => XS.aload X39.here hx rfl (hb hby at_70) rfl rfl  k) ?_
    show own_Go p e below s _ _ (T39.setTop (mkF m 72 #[iv p0, iv p1, iv p2, iv p3, iv z1, iv (own_f1 p1), iv (own_f1 p2), iv (own_f1 p3), rv b9, iv (own_f4l (own_f1 p1) z1 (1 : Int32) (0 : Int32) (1 : Int32)), iv (own_f4k (own_f1 p1) z1 (1 : Int32) (0 : Int32) (1 : Int32)), .unset, .unset, .unset, .unset] [(.ref b9)]))
    obtain ⟨cq48, kq48, q48a, q48b, q48c⟩ := isOf hZ rfl B46
    obtain ⟨_, _, ⟨T48, L48, k48, n48⟩, -, X48, ⟨Lc48, hQ48, l48, y48, z48⟩, st48⟩ := X39.virtualBack hx (y := (⟨"com/example/tree_to_rows/treetorows/xml/DocumentPlace", "line", "()I"⟩ : MethodName)) (z := (⟨"com/example/tree_to_rows/treetorows/xml/DocumentPlace", "line", "()I"⟩ : MethodName)) hown (mvT hZ (hw _ (List.mem_of_getElem? (i := 29) rfl))) (mvT hZ (hw _ (List.mem_of_getElem? (i := 30) rfl))) (notFace_of_selects (args := #[]) (mvT hZ (hw _ (List.mem_of_getElem? (i := 32) rfl)))) (mvT hZ (hw _ (List.mem_of_getElem? (i := 32) rfl))) (mvT hZ (hw _ (List.mem_of_getElem? (i := 31) rfl))) (by decide) (backOf (W := 0) (rm5 l Z aw hw [] b9 (own_f4l (own_f1 p2) z1 (0 : Int32) (own_f4a (own_f1 p1) z1 (1 : Int32) (0 : Int32)) (own_f4l (own_f1 p1) z1 (1 : Int32) (0 : Int32) (1 : Int32))) T39.heap n0 Z47 B43) hZ (hw _ (List.mem_of_getElem? (i := 33) rfl)) (hw _ (List.mem_of_getElem? (i := 6) rfl)) (by decide) (by decide)) q48a q48c (g := (mkF m 72 #[iv p0, iv p1, iv p2, iv p3, iv z1, iv (own_f1 p1), iv (own_f1 p2), iv (own_f1 p3), rv b9, iv (own_f4l (own_f1 p1) z1 (1 : Int32) (0 : Int32) (1 : Int32)), iv (own_f4k (own_f1 p1) z1 (1 : Int32) (0 : Int32) (1 : Int32)), .unset, .unset, .unset, .unset] [(.ref b9)])) rfl (by rw [hml]; rfl) (Steps.refl _) (argsL := []) (rest := []) (lenOf pd_4 rfl) rfl (by show 2 * 0 + _ ≤ _; exact Nat.le_of_eq rfl) (hb hby at_72) (fun _ _ => ⟨rfl, rfl, (by decide : 1 + 0 ≤ _), (by decide : 5 + 0 ≤ _)⟩)
    dsimp only [Pt.U, Pt.locs, Pt.cells, Pt.slots] at X48 l48 y48 z48 st48 hQ48
    subst l48 y48 z48
    obtain ⟨rfl, N48q, eh48⟩ := hQ48
    have N49 := Fr.app N45 N48q
    refine own_via (fun k => st48.trans k) ?_
    show own_Go p e below s _ _ (T48.setTop (mkF m 75 #[iv p0, iv p1, iv p2, iv p3, iv z1, iv (own_f1 p1), iv (own_f1 p2), iv (own_f1 p3), rv b9, iv (own_f4l (own_f1 p1) z1 (1 : Int32) (0 : Int32) (1 : Int32)), iv (own_f4k (own_f1 p1) z1 (1 : Int32) (0 : Int32) (1 : Int32)), .unset, .unset, .unset, .unset] [(.int (own_f4l (own_f1 p2) z1 (0 : Int32) (own_f4a (own_f1 p1) z1 (1 : Int32) (0 : Int32)) (own_f4l (own_f1 p1) z1 (1 : Int32) (0 : Int32) (1 : Int32))))]))
    refine own_via (fun k => XS.istore X48.here hx rfl (hb hby at_75) rfl (l' := #[iv p0, iv p1, iv p2, iv p3, iv z1, iv (own_f1 p1), iv (own_f1 p2), iv (own_f1 p3), rv b9, iv (own_f4l (own_f1 p1) z1 (1 : Int32) (0 : Int32) (1 : Int32)), iv (own_f4k (own_f1 p1) z1 (1 : Int32) (0 : Int32) (1 : Int32)), iv (own_f4l (own_f1 p2) z1 (0 : Int32) (own_f4a (own_f1 p1) z1 (1 : Int32) (0 : Int32)) (own_f4l (own_f1 p1) z1 (1 : Int32) (0 : Int32) (1 : Int32))), .unset, .unset, .unset]) rfl (XS.aload X48.here hx rfl (hb hby at_77) rfl rfl  k)) ?_
    show own_Go p e below s _ _ (T48.setTop (mkF m 79 #[iv p0, iv p1, iv p2, iv p3, iv z1, iv (own_f1 p1), iv (own_f1 p2), iv (own_f1 p3), rv b9, iv (own_f4l (own_f1 p1) z1 (1 : Int32) (0 : Int32) (1 : Int32)), iv (own_f4k (own_f1 p1) z1 (1 : Int32) (0 : Int32) (1 : Int32)), iv (own_f4l (own_f1 p2) z1 (0 : Int32) (own_f4a (own_f1 p1) z1 (1 : Int32) (0 : Int32)) (own_f4l (own_f1 p1) z1 (1 : Int32) (0 : Int32) (1 : Int32))), .unset, .unset, .unset] [(.ref b9)]))
    obtain ⟨cq50, kq50, q50a, q50b, q50c⟩ := isOf hZ eh48 B46
    obtain ⟨_, _, ⟨T50, L50, k50, n50⟩, -, X50, ⟨Lc50, hQ50, l50, y50, z50⟩, st50⟩ := X48.virtualBack hx (y := (⟨"com/example/tree_to_rows/treetorows/xml/DocumentPlace", "column", "()I"⟩ : MethodName)) (z := (⟨"com/example/tree_to_rows/treetorows/xml/DocumentPlace", "column", "()I"⟩ : MethodName)) hown (mvT hZ (hw _ (List.mem_of_getElem? (i := 34) rfl))) (mvT hZ (hw _ (List.mem_of_getElem? (i := 35) rfl))) (notFace_of_selects (args := #[]) (mvT hZ (hw _ (List.mem_of_getElem? (i := 37) rfl)))) (mvT hZ (hw _ (List.mem_of_getElem? (i := 37) rfl))) (mvT hZ (hw _ (List.mem_of_getElem? (i := 36) rfl))) (by decide) (backOf (W := 0) (rm6 l Z aw hw [] b9 (own_f4k (own_f1 p2) z1 (0 : Int32) (own_f4a (own_f1 p1) z1 (1 : Int32) (0 : Int32)) (own_f4k (own_f1 p1) z1 (1 : Int32) (0 : Int32) (1 : Int32))) T39.heap n0 Z47 B44) hZ (hw _ (List.mem_of_getElem? (i := 38) rfl)) (hw _ (List.mem_of_getElem? (i := 6) rfl)) (by decide) (by decide)) q50a q50c (g := (mkF m 79 #[iv p0, iv p1, iv p2, iv p3, iv z1, iv (own_f1 p1), iv (own_f1 p2), iv (own_f1 p3), rv b9, iv (own_f4l (own_f1 p1) z1 (1 : Int32) (0 : Int32) (1 : Int32)), iv (own_f4k (own_f1 p1) z1 (1 : Int32) (0 : Int32) (1 : Int32)), iv (own_f4l (own_f1 p2) z1 (0 : Int32) (own_f4a (own_f1 p1) z1 (1 : Int32) (0 : Int32)) (own_f4l (own_f1 p1) z1 (1 : Int32) (0 : Int32) (1 : Int32))), .unset, .unset, .unset] [(.ref b9)])) rfl (by rw [hml]; rfl) (Steps.refl _) (argsL := []) (rest := []) (lenOf pd_4 rfl) rfl (by show 2 * 0 + _ ≤ _; exact Nat.le_of_eq rfl) (hb hby at_79) (fun _ _ => ⟨rfl, eh48, (by decide : 1 + 0 ≤ _), (by decide : 5 + 0 ≤ _)⟩)
    dsimp only [Pt.U, Pt.locs, Pt.cells, Pt.slots] at X50 l50 y50 z50 st50 hQ50
    subst l50 y50 z50
    obtain ⟨rfl, N50q, eh50⟩ := hQ50
    have N51 := Fr.app N49 N50q
    refine own_via (fun k => st50.trans k) ?_
    show own_Go p e below s _ _ (T50.setTop (mkF m 82 #[iv p0, iv p1, iv p2, iv p3, iv z1, iv (own_f1 p1), iv (own_f1 p2), iv (own_f1 p3), rv b9, iv (own_f4l (own_f1 p1) z1 (1 : Int32) (0 : Int32) (1 : Int32)), iv (own_f4k (own_f1 p1) z1 (1 : Int32) (0 : Int32) (1 : Int32)), iv (own_f4l (own_f1 p2) z1 (0 : Int32) (own_f4a (own_f1 p1) z1 (1 : Int32) (0 : Int32)) (own_f4l (own_f1 p1) z1 (1 : Int32) (0 : Int32) (1 : Int32))), .unset, .unset, .unset] [(.int (own_f4k (own_f1 p2) z1 (0 : Int32) (own_f4a (own_f1 p1) z1 (1 : Int32) (0 : Int32)) (own_f4k (own_f1 p1) z1 (1 : Int32) (0 : Int32) (1 : Int32))))]))
    refine own_via (fun k => XS.istore X50.here hx rfl (hb hby at_82) rfl (l' := #[iv p0, iv p1, iv p2, iv p3, iv z1, iv (own_f1 p1), iv (own_f1 p2), iv (own_f1 p3), rv b9, iv (own_f4l (own_f1 p1) z1 (1 : Int32) (0 : Int32) (1 : Int32)), iv (own_f4k (own_f1 p1) z1 (1 : Int32) (0 : Int32) (1 : Int32)), iv (own_f4l (own_f1 p2) z1 (0 : Int32) (own_f4a (own_f1 p1) z1 (1 : Int32) (0 : Int32)) (own_f4l (own_f1 p1) z1 (1 : Int32) (0 : Int32) (1 : Int32))), iv (own_f4k (own_f1 p2) z1 (0 : Int32) (own_f4a (own_f1 p1) z1 (1 : Int32) (0 : Int32)) (own_f4k (own_f1 p1) z1 (1 : Int32) (0 : Int32) (1 : Int32))), .unset, .unset]) rfl (XS.aload X50.here hx rfl (hb hby at_84) rfl rfl  (XS.iload X50.here hx rfl (hb hby at_86) rfl  k))) ?_
    show own_Go p e below s _ _ (T50.setTop (mkF m 88 #[iv p0, iv p1, iv p2, iv p3, iv z1, iv (own_f1 p1), iv (own_f1 p2), iv (own_f1 p3), rv b9, iv (own_f4l (own_f1 p1) z1 (1 : Int32) (0 : Int32) (1 : Int32)), iv (own_f4k (own_f1 p1) z1 (1 : Int32) (0 : Int32) (1 : Int32)), iv (own_f4l (own_f1 p2) z1 (0 : Int32) (own_f4a (own_f1 p1) z1 (1 : Int32) (0 : Int32)) (own_f4l (own_f1 p1) z1 (1 : Int32) (0 : Int32) (1 : Int32))), iv (own_f4k (own_f1 p2) z1 (0 : Int32) (own_f4a (own_f1 p1) z1 (1 : Int32) (0 : Int32)) (own_f4k (own_f1 p1) z1 (1 : Int32) (0 : Int32) (1 : Int32))), .unset, .unset] [(.int (own_f1 p3)), (.ref b9)]))
    obtain ⟨cq52, kq52, q52a, q52b, q52c⟩ := isOf hZ eh50 B46
    obtain ⟨_, _, ⟨T52, L52, k52, n52⟩, -, X52, ⟨Lc52, hQ52, l52, y52, z52⟩, st52⟩ := X50.virtualBack hx (y := (⟨"com/example/tree_to_rows/treetorows/xml/DocumentPlace", "pass", "(C)V"⟩ : MethodName)) (z := (⟨"com/example/tree_to_rows/treetorows/xml/DocumentPlace", "pass", "(C)V"⟩ : MethodName)) hown (mvT hZ (hw _ (List.mem_of_getElem? (i := 23) rfl))) (mvT hZ (hw _ (List.mem_of_getElem? (i := 24) rfl))) (notFace_of_selects (args := #[]) (mvT hZ (hw _ (List.mem_of_getElem? (i := 26) rfl)))) (mvT hZ (hw _ (List.mem_of_getElem? (i := 26) rfl))) (mvT hZ (hw _ (List.mem_of_getElem? (i := 25) rfl))) (by decide) (backOf (W := 0) (rm4 l Z aw hw [] b9 (own_f1 p3) z1 (0 : Int32) (own_f4a (own_f1 p2) z1 (0 : Int32) (own_f4a (own_f1 p1) z1 (1 : Int32) (0 : Int32))) (own_f4l (own_f1 p2) z1 (0 : Int32) (own_f4a (own_f1 p1) z1 (1 : Int32) (0 : Int32)) (own_f4l (own_f1 p1) z1 (1 : Int32) (0 : Int32) (1 : Int32))) (own_f4k (own_f1 p2) z1 (0 : Int32) (own_f4a (own_f1 p1) z1 (1 : Int32) (0 : Int32)) (own_f4k (own_f1 p1) z1 (1 : Int32) (0 : Int32) (1 : Int32))) T39.heap n0 Z47 B40 B41 B42 B43 B44 B46 g10) hZ (hw _ (List.mem_of_getElem? (i := 27) rfl)) (hw _ (List.mem_of_getElem? (i := 6) rfl)) (by decide) (by decide)) q52a q52c (g := (mkF m 88 #[iv p0, iv p1, iv p2, iv p3, iv z1, iv (own_f1 p1), iv (own_f1 p2), iv (own_f1 p3), rv b9, iv (own_f4l (own_f1 p1) z1 (1 : Int32) (0 : Int32) (1 : Int32)), iv (own_f4k (own_f1 p1) z1 (1 : Int32) (0 : Int32) (1 : Int32)), iv (own_f4l (own_f1 p2) z1 (0 : Int32) (own_f4a (own_f1 p1) z1 (1 : Int32) (0 : Int32)) (own_f4l (own_f1 p1) z1 (1 : Int32) (0 : Int32) (1 : Int32))), iv (own_f4k (own_f1 p2) z1 (0 : Int32) (own_f4a (own_f1 p1) z1 (1 : Int32) (0 : Int32)) (own_f4k (own_f1 p1) z1 (1 : Int32) (0 : Int32) (1 : Int32))), .unset, .unset] [(.int (own_f1 p3)), (.ref b9)])) rfl (by rw [hml]; rfl) (Steps.refl _) (argsL := [(.int (own_f1 p3))]) (rest := []) (lenOf pd_3 rfl) rfl (by show 2 * 0 + _ ≤ _; exact Nat.le_of_eq rfl) (hb hby at_88) (fun _ _ => ⟨rfl, eh50, (by decide : 1 + 0 ≤ _), (by decide : 5 + 0 ≤ _)⟩)
    dsimp only [Pt.U, Pt.locs, Pt.cells, Pt.slots] at X52 l52 y52 z52 st52 hQ52
    subst l52 y52 z52
    obtain ⟨rfl, N52q, K52, B53, B54, B55, B56, B57⟩ := hQ52
    have N58 := Fr.app N51 N52q
    have B59 := B46.keep K52
    have Z60 : n0 ≤ T52.heap.size := Nat.le_trans Z47 K52.1
    refine own_via (fun k => st52.trans k) ?_
    show own_Go p e below s _ _ (T52.setTop (mkF m 91 #[iv p0, iv p1, iv p2, iv p3, iv z1, iv (own_f1 p1), iv (own_f1 p2), iv (own_f1 p3), rv b9, iv (own_f4l (own_f1 p1) z1 (1 : Int32) (0 : Int32) (1 : Int32)), iv (own_f4k (own_f1 p1) z1 (1 : Int32) (0 : Int32) (1 : Int32)), iv (own_f4l (own_f1 p2) z1 (0 : Int32) (own_f4a (own_f1 p1) z1 (1 : Int32) (0 : Int32)) (own_f4l (own_f1 p1) z1 (1 : Int32) (0 : Int32) (1 : Int32))), iv (own_f4k (own_f1 p2) z1 (0 : Int32) (own_f4a (own_f1 p1) z1 (1 : Int32) (0 : Int32)) (own_f4k (own_f1 p1) z1 (1 : Int32) (0 : Int32) (1 : Int32))), .unset, .unset] []))
    refine own_via (fun k => XS.aload X52.here hx rfl (hb hby at_91) rfl rfl  k) ?_
    show own_Go p e below s _ _ (T52.setTop (mkF m 93 #[iv p0, iv p1, iv p2, iv p3, iv z1, iv (own_f1 p1), iv (own_f1 p2), iv (own_f1 p3), rv b9, iv (own_f4l (own_f1 p1) z1 (1 : Int32) (0 : Int32) (1 : Int32)), iv (own_f4k (own_f1 p1) z1 (1 : Int32) (0 : Int32) (1 : Int32)), iv (own_f4l (own_f1 p2) z1 (0 : Int32) (own_f4a (own_f1 p1) z1 (1 : Int32) (0 : Int32)) (own_f4l (own_f1 p1) z1 (1 : Int32) (0 : Int32) (1 : Int32))), iv (own_f4k (own_f1 p2) z1 (0 : Int32) (own_f4a (own_f1 p1) z1 (1 : Int32) (0 : Int32)) (own_f4k (own_f1 p1) z1 (1 : Int32) (0 : Int32) (1 : Int32))), .unset, .unset] [(.ref b9)]))
    obtain ⟨cq61, kq61, q61a, q61b, q61c⟩ := isOf hZ rfl B59
    obtain ⟨_, _, ⟨T61, L61, k61, n61⟩, -, X61, ⟨Lc61, hQ61, l61, y61, z61⟩, st61⟩ := X52.virtualBack hx (y := (⟨"com/example/tree_to_rows/treetorows/xml/DocumentPlace", "line", "()I"⟩ : MethodName)) (z := (⟨"com/example/tree_to_rows/treetorows/xml/DocumentPlace", "line", "()I"⟩ : MethodName)) hown (mvT hZ (hw _ (List.mem_of_getElem? (i := 29) rfl))) (mvT hZ (hw _ (List.mem_of_getElem? (i := 30) rfl))) (notFace_of_selects (args := #[]) (mvT hZ (hw _ (List.mem_of_getElem? (i := 32) rfl)))) (mvT hZ (hw _ (List.mem_of_getElem? (i := 32) rfl))) (mvT hZ (hw _ (List.mem_of_getElem? (i := 31) rfl))) (by decide) (backOf (W := 0) (rm5 l Z aw hw [] b9 (own_f4l (own_f1 p3) z1 (0 : Int32) (own_f4a (own_f1 p2) z1 (0 : Int32) (own_f4a (own_f1 p1) z1 (1 : Int32) (0 : Int32))) (own_f4l (own_f1 p2) z1 (0 : Int32) (own_f4a (own_f1 p1) z1 (1 : Int32) (0 : Int32)) (own_f4l (own_f1 p1) z1 (1 : Int32) (0 : Int32) (1 : Int32)))) T52.heap n0 Z60 B56) hZ (hw _ (List.mem_of_getElem? (i := 33) rfl)) (hw _ (List.mem_of_getElem? (i := 6) rfl)) (by decide) (by decide)) q61a q61c (g := (mkF m 93 #[iv p0, iv p1, iv p2, iv p3, iv z1, iv (own_f1 p1), iv (own_f1 p2), iv (own_f1 p3), rv b9, iv (own_f4l (own_f1 p1) z1 (1 : Int32) (0 : Int32) (1 : Int32)), iv (own_f4k (own_f1 p1) z1 (1 : Int32) (0 : Int32) (1 : Int32)), iv (own_f4l (own_f1 p2) z1 (0 : Int32) (own_f4a (own_f1 p1) z1 (1 : Int32) (0 : Int32)) (own_f4l (own_f1 p1) z1 (1 : Int32) (0 : Int32) (1 : Int32))), iv (own_f4k (own_f1 p2) z1 (0 : Int32) (own_f4a (own_f1 p1) z1 (1 : Int32) (0 : Int32)) (own_f4k (own_f1 p1) z1 (1 : Int32) (0 : Int32) (1 : Int32))), .unset, .unset] [(.ref b9)])) rfl (by rw [hml]; rfl) (Steps.refl _) (argsL := []) (rest := []) (lenOf pd_4 rfl) rfl (by show 2 * 0 + _ ≤ _; exact Nat.le_of_eq rfl) (hb hby at_93) (fun _ _ => ⟨rfl, rfl, (by decide : 1 + 0 ≤ _), (by decide : 5 + 0 ≤ _)⟩)
    dsimp only [Pt.U, Pt.locs, Pt.cells, Pt.slots] at X61 l61 y61 z61 st61 hQ61
    subst l61 y61 z61
    obtain ⟨rfl, N61q, eh61⟩ := hQ61
    have N62 := Fr.app N58 N61q
    refine own_via (fun k => st61.trans k) ?_
    show own_Go p e below s _ _ (T61.setTop (mkF m 96 #[iv p0, iv p1, iv p2, iv p3, iv z1, iv (own_f1 p1), iv (own_f1 p2), iv (own_f1 p3), rv b9, iv (own_f4l (own_f1 p1) z1 (1 : Int32) (0 : Int32) (1 : Int32)), iv (own_f4k (own_f1 p1) z1 (1 : Int32) (0 : Int32) (1 : Int32)), iv (own_f4l (own_f1 p2) z1 (0 : Int32) (own_f4a (own_f1 p1) z1 (1 : Int32) (0 : Int32)) (own_f4l (own_f1 p1) z1 (1 : Int32) (0 : Int32) (1 : Int32))), iv (own_f4k (own_f1 p2) z1 (0 : Int32) (own_f4a (own_f1 p1) z1 (1 : Int32) (0 : Int32)) (own_f4k (own_f1 p1) z1 (1 : Int32) (0 : Int32) (1 : Int32))), .unset, .unset] [(.int (own_f4l (own_f1 p3) z1 (0 : Int32) (own_f4a (own_f1 p2) z1 (0 : Int32) (own_f4a (own_f1 p1) z1 (1 : Int32) (0 : Int32))) (own_f4l (own_f1 p2) z1 (0 : Int32) (own_f4a (own_f1 p1) z1 (1 : Int32) (0 : Int32)) (own_f4l (own_f1 p1) z1 (1 : Int32) (0 : Int32) (1 : Int32)))))]))
    refine own_via (fun k => XS.istore X61.here hx rfl (hb hby at_96) rfl (l' := #[iv p0, iv p1, iv p2, iv p3, iv z1, iv (own_f1 p1), iv (own_f1 p2), iv (own_f1 p3), rv b9, iv (own_f4l (own_f1 p1) z1 (1 : Int32) (0 : Int32) (1 : Int32)), iv (own_f4k (own_f1 p1) z1 (1 : Int32) (0 : Int32) (1 : Int32)), iv (own_f4l (own_f1 p2) z1 (0 : Int32) (own_f4a (own_f1 p1) z1 (1 : Int32) (0 : Int32)) (own_f4l (own_f1 p1) z1 (1 : Int32) (0 : Int32) (1 : Int32))), iv (own_f4k (own_f1 p2) z1 (0 : Int32) (own_f4a (own_f1 p1) z1 (1 : Int32) (0 : Int32)) (own_f4k (own_f1 p1) z1 (1 : Int32) (0 : Int32) (1 : Int32))), iv (own_f4l (own_f1 p3) z1 (0 : Int32) (own_f4a (own_f1 p2) z1 (0 : Int32) (own_f4a (own_f1 p1) z1 (1 : Int32) (0 : Int32))) (own_f4l (own_f1 p2) z1 (0 : Int32) (own_f4a (own_f1 p1) z1 (1 : Int32) (0 : Int32)) (own_f4l (own_f1 p1) z1 (1 : Int32) (0 : Int32) (1 : Int32)))), .unset]) rfl (XS.aload X61.here hx rfl (hb hby at_98) rfl rfl  k)) ?_
    show own_Go p e below s _ _ (T61.setTop (mkF m 100 #[iv p0, iv p1, iv p2, iv p3, iv z1, iv (own_f1 p1), iv (own_f1 p2), iv (own_f1 p3), rv b9, iv (own_f4l (own_f1 p1) z1 (1 : Int32) (0 : Int32) (1 : Int32)), iv (own_f4k (own_f1 p1) z1 (1 : Int32) (0 : Int32) (1 : Int32)), iv (own_f4l (own_f1 p2) z1 (0 : Int32) (own_f4a (own_f1 p1) z1 (1 : Int32) (0 : Int32)) (own_f4l (own_f1 p1) z1 (1 : Int32) (0 : Int32) (1 : Int32))), iv (own_f4k (own_f1 p2) z1 (0 : Int32) (own_f4a (own_f1 p1) z1 (1 : Int32) (0 : Int32)) (own_f4k (own_f1 p1) z1 (1 : Int32) (0 : Int32) (1 : Int32))), iv (own_f4l (own_f1 p3) z1 (0 : Int32) (own_f4a (own_f1 p2) z1 (0 : Int32) (own_f4a (own_f1 p1) z1 (1 : Int32) (0 : Int32))) (own_f4l (own_f1 p2) z1 (0 : Int32) (own_f4a (own_f1 p1) z1 (1 : Int32) (0 : Int32)) (own_f4l (own_f1 p1) z1 (1 : Int32) (0 : Int32) (1 : Int32)))), .unset] [(.ref b9)]))
    obtain ⟨cq63, kq63, q63a, q63b, q63c⟩ := isOf hZ eh61 B59
    obtain ⟨_, _, ⟨T63, L63, k63, n63⟩, -, X63, ⟨Lc63, hQ63, l63, y63, z63⟩, st63⟩ := X61.virtualBack hx (y := (⟨"com/example/tree_to_rows/treetorows/xml/DocumentPlace", "column", "()I"⟩ : MethodName)) (z := (⟨"com/example/tree_to_rows/treetorows/xml/DocumentPlace", "column", "()I"⟩ : MethodName)) hown (mvT hZ (hw _ (List.mem_of_getElem? (i := 34) rfl))) (mvT hZ (hw _ (List.mem_of_getElem? (i := 35) rfl))) (notFace_of_selects (args := #[]) (mvT hZ (hw _ (List.mem_of_getElem? (i := 37) rfl)))) (mvT hZ (hw _ (List.mem_of_getElem? (i := 37) rfl))) (mvT hZ (hw _ (List.mem_of_getElem? (i := 36) rfl))) (by decide) (backOf (W := 0) (rm6 l Z aw hw [] b9 (own_f4k (own_f1 p3) z1 (0 : Int32) (own_f4a (own_f1 p2) z1 (0 : Int32) (own_f4a (own_f1 p1) z1 (1 : Int32) (0 : Int32))) (own_f4k (own_f1 p2) z1 (0 : Int32) (own_f4a (own_f1 p1) z1 (1 : Int32) (0 : Int32)) (own_f4k (own_f1 p1) z1 (1 : Int32) (0 : Int32) (1 : Int32)))) T52.heap n0 Z60 B57) hZ (hw _ (List.mem_of_getElem? (i := 38) rfl)) (hw _ (List.mem_of_getElem? (i := 6) rfl)) (by decide) (by decide)) q63a q63c (g := (mkF m 100 #[iv p0, iv p1, iv p2, iv p3, iv z1, iv (own_f1 p1), iv (own_f1 p2), iv (own_f1 p3), rv b9, iv (own_f4l (own_f1 p1) z1 (1 : Int32) (0 : Int32) (1 : Int32)), iv (own_f4k (own_f1 p1) z1 (1 : Int32) (0 : Int32) (1 : Int32)), iv (own_f4l (own_f1 p2) z1 (0 : Int32) (own_f4a (own_f1 p1) z1 (1 : Int32) (0 : Int32)) (own_f4l (own_f1 p1) z1 (1 : Int32) (0 : Int32) (1 : Int32))), iv (own_f4k (own_f1 p2) z1 (0 : Int32) (own_f4a (own_f1 p1) z1 (1 : Int32) (0 : Int32)) (own_f4k (own_f1 p1) z1 (1 : Int32) (0 : Int32) (1 : Int32))), iv (own_f4l (own_f1 p3) z1 (0 : Int32) (own_f4a (own_f1 p2) z1 (0 : Int32) (own_f4a (own_f1 p1) z1 (1 : Int32) (0 : Int32))) (own_f4l (own_f1 p2) z1 (0 : Int32) (own_f4a (own_f1 p1) z1 (1 : Int32) (0 : Int32)) (own_f4l (own_f1 p1) z1 (1 : Int32) (0 : Int32) (1 : Int32)))), .unset] [(.ref b9)])) rfl (by rw [hml]; rfl) (Steps.refl _) (argsL := []) (rest := []) (lenOf pd_4 rfl) rfl (by show 2 * 0 + _ ≤ _; exact Nat.le_of_eq rfl) (hb hby at_100) (fun _ _ => ⟨rfl, eh61, (by decide : 1 + 0 ≤ _), (by decide : 5 + 0 ≤ _)⟩)
    dsimp only [Pt.U, Pt.locs, Pt.cells, Pt.slots] at X63 l63 y63 z63 st63 hQ63
    subst l63 y63 z63
    obtain ⟨rfl, N63q, eh63⟩ := hQ63
    have N64 := Fr.app N62 N63q
    refine own_via (fun k => st63.trans k) ?_
    show own_Go p e below s _ _ (T63.setTop (mkF m 103 #[iv p0, iv p1, iv p2, iv p3, iv z1, iv (own_f1 p1), iv (own_f1 p2), iv (own_f1 p3), rv b9, iv (own_f4l (own_f1 p1) z1 (1 : Int32) (0 : Int32) (1 : Int32)), iv (own_f4k (own_f1 p1) z1 (1 : Int32) (0 : Int32) (1 : Int32)), iv (own_f4l (own_f1 p2) z1 (0 : Int32) (own_f4a (own_f1 p1) z1 (1 : Int32) (0 : Int32)) (own_f4l (own_f1 p1) z1 (1 : Int32) (0 : Int32) (1 : Int32))), iv (own_f4k (own_f1 p2) z1 (0 : Int32) (own_f4a (own_f1 p1) z1 (1 : Int32) (0 : Int32)) (own_f4k (own_f1 p1) z1 (1 : Int32) (0 : Int32) (1 : Int32))), iv (own_f4l (own_f1 p3) z1 (0 : Int32) (own_f4a (own_f1 p2) z1 (0 : Int32) (own_f4a (own_f1 p1) z1 (1 : Int32) (0 : Int32))) (own_f4l (own_f1 p2) z1 (0 : Int32) (own_f4a (own_f1 p1) z1 (1 : Int32) (0 : Int32)) (own_f4l (own_f1 p1) z1 (1 : Int32) (0 : Int32) (1 : Int32)))), .unset] [(.int (own_f4k (own_f1 p3) z1 (0 : Int32) (own_f4a (own_f1 p2) z1 (0 : Int32) (own_f4a (own_f1 p1) z1 (1 : Int32) (0 : Int32))) (own_f4k (own_f1 p2) z1 (0 : Int32) (own_f4a (own_f1 p1) z1 (1 : Int32) (0 : Int32)) (own_f4k (own_f1 p1) z1 (1 : Int32) (0 : Int32) (1 : Int32)))))]))
    refine own_via (fun k => XS.istore X63.here hx rfl (hb hby at_103) rfl (l' := #[iv p0, iv p1, iv p2, iv p3, iv z1, iv (own_f1 p1), iv (own_f1 p2), iv (own_f1 p3), rv b9, iv (own_f4l (own_f1 p1) z1 (1 : Int32) (0 : Int32) (1 : Int32)), iv (own_f4k (own_f1 p1) z1 (1 : Int32) (0 : Int32) (1 : Int32)), iv (own_f4l (own_f1 p2) z1 (0 : Int32) (own_f4a (own_f1 p1) z1 (1 : Int32) (0 : Int32)) (own_f4l (own_f1 p1) z1 (1 : Int32) (0 : Int32) (1 : Int32))), iv (own_f4k (own_f1 p2) z1 (0 : Int32) (own_f4a (own_f1 p1) z1 (1 : Int32) (0 : Int32)) (own_f4k (own_f1 p1) z1 (1 : Int32) (0 : Int32) (1 : Int32))), iv (own_f4l (own_f1 p3) z1 (0 : Int32) (own_f4a (own_f1 p2) z1 (0 : Int32) (own_f4a (own_f1 p1) z1 (1 : Int32) (0 : Int32))) (own_f4l (own_f1 p2) z1 (0 : Int32) (own_f4a (own_f1 p1) z1 (1 : Int32) (0 : Int32)) (own_f4l (own_f1 p1) z1 (1 : Int32) (0 : Int32) (1 : Int32)))), iv (own_f4k (own_f1 p3) z1 (0 : Int32) (own_f4a (own_f1 p2) z1 (0 : Int32) (own_f4a (own_f1 p1) z1 (1 : Int32) (0 : Int32))) (own_f4k (own_f1 p2) z1 (0 : Int32) (own_f4a (own_f1 p1) z1 (1 : Int32) (0 : Int32)) (own_f4k (own_f1 p1) z1 (1 : Int32) (0 : Int32) (1 : Int32))))]) rfl (XS.iconst X63.here hx rfl (hb hby at_105) (XS.iconst X63.here hx rfl (hb hby at_106) (XS.iload X63.here hx rfl (hb hby at_107) rfl  k)))) ?_
    show own_Go p e below s _ _ (T63.setTop (mkF m 109 #[iv p0, iv p1, iv p2, iv p3, iv z1, iv (own_f1 p1), iv (own_f1 p2), iv (own_f1 p3), rv b9, iv (own_f4l (own_f1 p1) z1 (1 : Int32) (0 : Int32) (1 : Int32)), iv (own_f4k (own_f1 p1) z1 (1 : Int32) (0 : Int32) (1 : Int32)), iv (own_f4l (own_f1 p2) z1 (0 : Int32) (own_f4a (own_f1 p1) z1 (1 : Int32) (0 : Int32)) (own_f4l (own_f1 p1) z1 (1 : Int32) (0 : Int32) (1 : Int32))), iv (own_f4k (own_f1 p2) z1 (0 : Int32) (own_f4a (own_f1 p1) z1 (1 : Int32) (0 : Int32)) (own_f4k (own_f1 p1) z1 (1 : Int32) (0 : Int32) (1 : Int32))), iv (own_f4l (own_f1 p3) z1 (0 : Int32) (own_f4a (own_f1 p2) z1 (0 : Int32) (own_f4a (own_f1 p1) z1 (1 : Int32) (0 : Int32))) (own_f4l (own_f1 p2) z1 (0 : Int32) (own_f4a (own_f1 p1) z1 (1 : Int32) (0 : Int32)) (own_f4l (own_f1 p1) z1 (1 : Int32) (0 : Int32) (1 : Int32)))), iv (own_f4k (own_f1 p3) z1 (0 : Int32) (own_f4a (own_f1 p2) z1 (0 : Int32) (own_f4a (own_f1 p1) z1 (1 : Int32) (0 : Int32))) (own_f4k (own_f1 p2) z1 (0 : Int32) (own_f4a (own_f1 p1) z1 (1 : Int32) (0 : Int32)) (own_f4k (own_f1 p1) z1 (1 : Int32) (0 : Int32) (1 : Int32))))] [(.int (own_f4l (own_f1 p1) z1 (1 : Int32) (0 : Int32) (1 : Int32))), (.int 1), (.int 1)]))
    refine own_via (fun k => XS.iload X63.here hx rfl (hb hby at_109) rfl  (XS.iload X63.here hx rfl (hb hby at_111) rfl  (XS.iconst X63.here hx rfl (hb hby at_113) (XS.iconst X63.here hx rfl (hb hby at_114) k)))) ?_
    show own_Go p e below s _ _ (T63.setTop (mkF m 115 #[iv p0, iv p1, iv p2, iv p3, iv z1, iv (own_f1 p1), iv (own_f1 p2), iv (own_f1 p3), rv b9, iv (own_f4l (own_f1 p1) z1 (1 : Int32) (0 : Int32) (1 : Int32)), iv (own_f4k (own_f1 p1) z1 (1 : Int32) (0 : Int32) (1 : Int32)), iv (own_f4l (own_f1 p2) z1 (0 : Int32) (own_f4a (own_f1 p1) z1 (1 : Int32) (0 : Int32)) (own_f4l (own_f1 p1) z1 (1 : Int32) (0 : Int32) (1 : Int32))), iv (own_f4k (own_f1 p2) z1 (0 : Int32) (own_f4a (own_f1 p1) z1 (1 : Int32) (0 : Int32)) (own_f4k (own_f1 p1) z1 (1 : Int32) (0 : Int32) (1 : Int32))), iv (own_f4l (own_f1 p3) z1 (0 : Int32) (own_f4a (own_f1 p2) z1 (0 : Int32) (own_f4a (own_f1 p1) z1 (1 : Int32) (0 : Int32))) (own_f4l (own_f1 p2) z1 (0 : Int32) (own_f4a (own_f1 p1) z1 (1 : Int32) (0 : Int32)) (own_f4l (own_f1 p1) z1 (1 : Int32) (0 : Int32) (1 : Int32)))), iv (own_f4k (own_f1 p3) z1 (0 : Int32) (own_f4a (own_f1 p2) z1 (0 : Int32) (own_f4a (own_f1 p1) z1 (1 : Int32) (0 : Int32))) (own_f4k (own_f1 p2) z1 (0 : Int32) (own_f4a (own_f1 p1) z1 (1 : Int32) (0 : Int32)) (own_f4k (own_f1 p1) z1 (1 : Int32) (0 : Int32) (1 : Int32))))] [(.int 0), (.int 1), (.int (own_f1 p1)), (.int (own_f4k (own_f1 p1) z1 (1 : Int32) (0 : Int32) (1 : Int32))), (.int (own_f4l (own_f1 p1) z1 (1 : Int32) (0 : Int32) (1 : Int32))), (.int 1), (.int 1)]))
    refine own_via (fun k => XS.iload X63.here hx rfl (hb hby at_115) rfl  k) ?_
    show own_Go p e below s _ _ (T63.setTop (mkF m 117 #[iv p0, iv p1, iv p2, iv p3, iv z1, iv (own_f1 p1), iv (own_f1 p2), iv (own_f1 p3), rv b9, iv (own_f4l (own_f1 p1) z1 (1 : Int32) (0 : Int32) (1 : Int32)), iv (own_f4k (own_f1 p1) z1 (1 : Int32) (0 : Int32) (1 : Int32)), iv (own_f4l (own_f1 p2) z1 (0 : Int32) (own_f4a (own_f1 p1) z1 (1 : Int32) (0 : Int32)) (own_f4l (own_f1 p1) z1 (1 : Int32) (0 : Int32) (1 : Int32))), iv (own_f4k (own_f1 p2) z1 (0 : Int32) (own_f4a (own_f1 p1) z1 (1 : Int32) (0 : Int32)) (own_f4k (own_f1 p1) z1 (1 : Int32) (0 : Int32) (1 : Int32))), iv (own_f4l (own_f1 p3) z1 (0 : Int32) (own_f4a (own_f1 p2) z1 (0 : Int32) (own_f4a (own_f1 p1) z1 (1 : Int32) (0 : Int32))) (own_f4l (own_f1 p2) z1 (0 : Int32) (own_f4a (own_f1 p1) z1 (1 : Int32) (0 : Int32)) (own_f4l (own_f1 p1) z1 (1 : Int32) (0 : Int32) (1 : Int32)))), iv (own_f4k (own_f1 p3) z1 (0 : Int32) (own_f4a (own_f1 p2) z1 (0 : Int32) (own_f4a (own_f1 p1) z1 (1 : Int32) (0 : Int32))) (own_f4k (own_f1 p2) z1 (0 : Int32) (own_f4a (own_f1 p1) z1 (1 : Int32) (0 : Int32)) (own_f4k (own_f1 p1) z1 (1 : Int32) (0 : Int32) (1 : Int32))))] [(.int z1), (.int 0), (.int 1), (.int (own_f1 p1)), (.int (own_f4k (own_f1 p1) z1 (1 : Int32) (0 : Int32) (1 : Int32))), (.int (own_f4l (own_f1 p1) z1 (1 : Int32) (0 : Int32) (1 : Int32))), (.int 1), (.int 1)]))
    obtain ⟨_, _, ⟨T65, L65, k65, n65⟩, -, X65, ⟨Lc65, hQ65, l65, y65, z65⟩, st65⟩ := Jvm.LawKit.callS X63 hx (y := (⟨"com/example/tree_to_rows/treetorows/xml/DocumentPlacePassPinLaw", "step", "(IIIICZZZ)Z"⟩ : MethodName)) hown (mvT hZ (hw _ (List.mem_of_getElem? (i := 39) rfl))) (mvT hZ (hw _ (List.mem_of_getElem? (i := 40) rfl))) (mvT hZ (hw _ (List.mem_of_getElem? (i := 2) rfl))) (mvT hZ (hw _ (List.mem_of_getElem? (i := 41) rfl))) (by decide) (backOf (W := 0) (rm7 l Z aw hw [] (1 : Int32) (1 : Int32) (own_f4l (own_f1 p1) z1 (1 : Int32) (0 : Int32) (1 : Int32)) (own_f4k (own_f1 p1) z1 (1 : Int32) (0 : Int32) (1 : Int32)) (own_f1 p1) (1 : Int32) (0 : Int32) z1 T52.heap n0 Z60) hZ (hw _ (List.mem_of_getElem? (i := 41) rfl)) (hw _ (List.mem_of_getElem? (i := 2) rfl)) (by decide) (by decide)) (g := (mkF m 117 #[iv p0, iv p1, iv p2, iv p3, iv z1, iv (own_f1 p1), iv (own_f1 p2), iv (own_f1 p3), rv b9, iv (own_f4l (own_f1 p1) z1 (1 : Int32) (0 : Int32) (1 : Int32)), iv (own_f4k (own_f1 p1) z1 (1 : Int32) (0 : Int32) (1 : Int32)), iv (own_f4l (own_f1 p2) z1 (0 : Int32) (own_f4a (own_f1 p1) z1 (1 : Int32) (0 : Int32)) (own_f4l (own_f1 p1) z1 (1 : Int32) (0 : Int32) (1 : Int32))), iv (own_f4k (own_f1 p2) z1 (0 : Int32) (own_f4a (own_f1 p1) z1 (1 : Int32) (0 : Int32)) (own_f4k (own_f1 p1) z1 (1 : Int32) (0 : Int32) (1 : Int32))), iv (own_f4l (own_f1 p3) z1 (0 : Int32) (own_f4a (own_f1 p2) z1 (0 : Int32) (own_f4a (own_f1 p1) z1 (1 : Int32) (0 : Int32))) (own_f4l (own_f1 p2) z1 (0 : Int32) (own_f4a (own_f1 p1) z1 (1 : Int32) (0 : Int32)) (own_f4l (own_f1 p1) z1 (1 : Int32) (0 : Int32) (1 : Int32)))), iv (own_f4k (own_f1 p3) z1 (0 : Int32) (own_f4a (own_f1 p2) z1 (0 : Int32) (own_f4a (own_f1 p1) z1 (1 : Int32) (0 : Int32))) (own_f4k (own_f1 p2) z1 (0 : Int32) (own_f4a (own_f1 p1) z1 (1 : Int32) (0 : Int32)) (own_f4k (own_f1 p1) z1 (1 : Int32) (0 : Int32) (1 : Int32))))] [(.int z1), (.int 0), (.int 1), (.int (own_f1 p1)), (.int (own_f4k (own_f1 p1) z1 (1 : Int32) (0 : Int32) (1 : Int32))), (.int (own_f4l (own_f1 p1) z1 (1 : Int32) (0 : Int32) (1 : Int32))), (.int 1), (.int 1)])) rfl (by rw [hml]; rfl) (argsL := [(.int 1), (.int 1), (.int (own_f4l (own_f1 p1) z1 (1 : Int32) (0 : Int32) (1 : Int32))), (.int (own_f4k (own_f1 p1) z1 (1 : Int32) (0 : Int32) (1 : Int32))), (.int (own_f1 p1)), (.int 1), (.int 0), (.int z1)]) (rest := []) (lenOf pd_5 rfl) rfl (by show 2 * 0 + _ ≤ _; exact Nat.le_of_eq rfl) (hb hby at_117) (fun _ _ => ⟨rfl, eh63, (by decide : 1 + 0 ≤ _), (by decide : 5 + 0 ≤ _)⟩)
    dsimp only [Pt.U, Pt.locs, Pt.cells, Pt.slots] at X65 l65 y65 z65 st65 hQ65
    subst l65 y65 z65
    obtain ⟨rfl, N65q, eh65⟩ := hQ65
    have N66 := Fr.app N64 N65q
    refine own_via (fun k => st65 _ k) ?_
    show own_Go p e below s _ _ (T65.setTop (mkF m 120 #[iv p0, iv p1, iv p2, iv p3, iv z1, iv (own_f1 p1), iv (own_f1 p2), iv (own_f1 p3), rv b9, iv (own_f4l (own_f1 p1) z1 (1 : Int32) (0 : Int32) (1 : Int32)), iv (own_f4k (own_f1 p1) z1 (1 : Int32) (0 : Int32) (1 : Int32)), iv (own_f4l (own_f1 p2) z1 (0 : Int32) (own_f4a (own_f1 p1) z1 (1 : Int32) (0 : Int32)) (own_f4l (own_f1 p1) z1 (1 : Int32) (0 : Int32) (1 : Int32))), iv (own_f4k (own_f1 p2) z1 (0 : Int32) (own_f4a (own_f1 p1) z1 (1 : Int32) (0 : Int32)) (own_f4k (own_f1 p1) z1 (1 : Int32) (0 : Int32) (1 : Int32))), iv (own_f4l (own_f1 p3) z1 (0 : Int32) (own_f4a (own_f1 p2) z1 (0 : Int32) (own_f4a (own_f1 p1) z1 (1 : Int32) (0 : Int32))) (own_f4l (own_f1 p2) z1 (0 : Int32) (own_f4a (own_f1 p1) z1 (1 : Int32) (0 : Int32)) (own_f4l (own_f1 p1) z1 (1 : Int32) (0 : Int32) (1 : Int32)))), iv (own_f4k (own_f1 p3) z1 (0 : Int32) (own_f4a (own_f1 p2) z1 (0 : Int32) (own_f4a (own_f1 p1) z1 (1 : Int32) (0 : Int32))) (own_f4k (own_f1 p2) z1 (0 : Int32) (own_f4a (own_f1 p1) z1 (1 : Int32) (0 : Int32)) (own_f4k (own_f1 p1) z1 (1 : Int32) (0 : Int32) (1 : Int32))))] [(.int (own_f7 (1 : Int32) (1 : Int32) (own_f4l (own_f1 p1) z1 (1 : Int32) (0 : Int32) (1 : Int32)) (own_f4k (own_f1 p1) z1 (1 : Int32) (0 : Int32) (1 : Int32)) (own_f1 p1) (1 : Int32) (0 : Int32) z1))]))
    refine own_via (fun k => XS.ifNo X65.here hx rfl (hb hby at_120) rfl ((if0 _ _).trans (feq (own_l120 p0 p1 z1 hz1)).1) k) ?_
    show own_Go p e below s _ _ (T65.setTop (mkF m 123 #[iv p0, iv p1, iv p2, iv p3, iv z1, iv (own_f1 p1), iv (own_f1 p2), iv (own_f1 p3), rv b9, iv (own_f4l (own_f1 p1) z1 (1 : Int32) (0 : Int32) (1 : Int32)), iv (own_f4k (own_f1 p1) z1 (1 : Int32) (0 : Int32) (1 : Int32)), iv (own_f4l (own_f1 p2) z1 (0 : Int32) (own_f4a (own_f1 p1) z1 (1 : Int32) (0 : Int32)) (own_f4l (own_f1 p1) z1 (1 : Int32) (0 : Int32) (1 : Int32))), iv (own_f4k (own_f1 p2) z1 (0 : Int32) (own_f4a (own_f1 p1) z1 (1 : Int32) (0 : Int32)) (own_f4k (own_f1 p1) z1 (1 : Int32) (0 : Int32) (1 : Int32))), iv (own_f4l (own_f1 p3) z1 (0 : Int32) (own_f4a (own_f1 p2) z1 (0 : Int32) (own_f4a (own_f1 p1) z1 (1 : Int32) (0 : Int32))) (own_f4l (own_f1 p2) z1 (0 : Int32) (own_f4a (own_f1 p1) z1 (1 : Int32) (0 : Int32)) (own_f4l (own_f1 p1) z1 (1 : Int32) (0 : Int32) (1 : Int32)))), iv (own_f4k (own_f1 p3) z1 (0 : Int32) (own_f4a (own_f1 p2) z1 (0 : Int32) (own_f4a (own_f1 p1) z1 (1 : Int32) (0 : Int32))) (own_f4k (own_f1 p2) z1 (0 : Int32) (own_f4a (own_f1 p1) z1 (1 : Int32) (0 : Int32)) (own_f4k (own_f1 p1) z1 (1 : Int32) (0 : Int32) (1 : Int32))))] []))
    refine own_via (fun k => XS.iload X65.here hx rfl (hb hby at_123) rfl  (XS.iload X65.here hx rfl (hb hby at_125) rfl  (XS.iload X65.here hx rfl (hb hby at_127) rfl  (XS.iload X65.here hx rfl (hb hby at_129) rfl  k)))) ?_
    show own_Go p e below s _ _ (T65.setTop (mkF m 131 #[iv p0, iv p1, iv p2, iv p3, iv z1, iv (own_f1 p1), iv (own_f1 p2), iv (own_f1 p3), rv b9, iv (own_f4l (own_f1 p1) z1 (1 : Int32) (0 : Int32) (1 : Int32)), iv (own_f4k (own_f1 p1) z1 (1 : Int32) (0 : Int32) (1 : Int32)), iv (own_f4l (own_f1 p2) z1 (0 : Int32) (own_f4a (own_f1 p1) z1 (1 : Int32) (0 : Int32)) (own_f4l (own_f1 p1) z1 (1 : Int32) (0 : Int32) (1 : Int32))), iv (own_f4k (own_f1 p2) z1 (0 : Int32) (own_f4a (own_f1 p1) z1 (1 : Int32) (0 : Int32)) (own_f4k (own_f1 p1) z1 (1 : Int32) (0 : Int32) (1 : Int32))), iv (own_f4l (own_f1 p3) z1 (0 : Int32) (own_f4a (own_f1 p2) z1 (0 : Int32) (own_f4a (own_f1 p1) z1 (1 : Int32) (0 : Int32))) (own_f4l (own_f1 p2) z1 (0 : Int32) (own_f4a (own_f1 p1) z1 (1 : Int32) (0 : Int32)) (own_f4l (own_f1 p1) z1 (1 : Int32) (0 : Int32) (1 : Int32)))), iv (own_f4k (own_f1 p3) z1 (0 : Int32) (own_f4a (own_f1 p2) z1 (0 : Int32) (own_f4a (own_f1 p1) z1 (1 : Int32) (0 : Int32))) (own_f4k (own_f1 p2) z1 (0 : Int32) (own_f4a (own_f1 p1) z1 (1 : Int32) (0 : Int32)) (own_f4k (own_f1 p1) z1 (1 : Int32) (0 : Int32) (1 : Int32))))] [(.int (own_f4k (own_f1 p2) z1 (0 : Int32) (own_f4a (own_f1 p1) z1 (1 : Int32) (0 : Int32)) (own_f4k (own_f1 p1) z1 (1 : Int32) (0 : Int32) (1 : Int32)))), (.int (own_f4l (own_f1 p2) z1 (0 : Int32) (own_f4a (own_f1 p1) z1 (1 : Int32) (0 : Int32)) (own_f4l (own_f1 p1) z1 (1 : Int32) (0 : Int32) (1 : Int32)))), (.int (own_f4k (own_f1 p1) z1 (1 : Int32) (0 : Int32) (1 : Int32))), (.int (own_f4l (own_f1 p1) z1 (1 : Int32) (0 : Int32) (1 : Int32)))]))
    refine own_via (fun k => XS.iload X65.here hx rfl (hb hby at_131) rfl  (XS.iconst X65.here hx rfl (hb hby at_133) (XS.iload X65.here hx rfl (hb hby at_134) rfl  (XS.bipush X65.here hx rfl (hb hby at_136) k)))) ?_
    show own_Go p e below s _ _ (T65.setTop (mkF m 138 #[iv p0, iv p1, iv p2, iv p3, iv z1, iv (own_f1 p1), iv (own_f1 p2), iv (own_f1 p3), rv b9, iv (own_f4l (own_f1 p1) z1 (1 : Int32) (0 : Int32) (1 : Int32)), iv (own_f4k (own_f1 p1) z1 (1 : Int32) (0 : Int32) (1 : Int32)), iv (own_f4l (own_f1 p2) z1 (0 : Int32) (own_f4a (own_f1 p1) z1 (1 : Int32) (0 : Int32)) (own_f4l (own_f1 p1) z1 (1 : Int32) (0 : Int32) (1 : Int32))), iv (own_f4k (own_f1 p2) z1 (0 : Int32) (own_f4a (own_f1 p1) z1 (1 : Int32) (0 : Int32)) (own_f4k (own_f1 p1) z1 (1 : Int32) (0 : Int32) (1 : Int32))), iv (own_f4l (own_f1 p3) z1 (0 : Int32) (own_f4a (own_f1 p2) z1 (0 : Int32) (own_f4a (own_f1 p1) z1 (1 : Int32) (0 : Int32))) (own_f4l (own_f1 p2) z1 (0 : Int32) (own_f4a (own_f1 p1) z1 (1 : Int32) (0 : Int32)) (own_f4l (own_f1 p1) z1 (1 : Int32) (0 : Int32) (1 : Int32)))), iv (own_f4k (own_f1 p3) z1 (0 : Int32) (own_f4a (own_f1 p2) z1 (0 : Int32) (own_f4a (own_f1 p1) z1 (1 : Int32) (0 : Int32))) (own_f4k (own_f1 p2) z1 (0 : Int32) (own_f4a (own_f1 p1) z1 (1 : Int32) (0 : Int32)) (own_f4k (own_f1 p1) z1 (1 : Int32) (0 : Int32) (1 : Int32))))] [(.int 13), (.int (own_f1 p1)), (.int 0), (.int (own_f1 p2)), (.int (own_f4k (own_f1 p2) z1 (0 : Int32) (own_f4a (own_f1 p1) z1 (1 : Int32) (0 : Int32)) (own_f4k (own_f1 p1) z1 (1 : Int32) (0 : Int32) (1 : Int32)))), (.int (own_f4l (own_f1 p2) z1 (0 : Int32) (own_f4a (own_f1 p1) z1 (1 : Int32) (0 : Int32)) (own_f4l (own_f1 p1) z1 (1 : Int32) (0 : Int32) (1 : Int32)))), (.int (own_f4k (own_f1 p1) z1 (1 : Int32) (0 : Int32) (1 : Int32))), (.int (own_f4l (own_f1 p1) z1 (1 : Int32) (0 : Int32) (1 : Int32)))]))
    have J68 : ∀ (z67 : Int32), z67 = (if (own_f1 p1) = (13 : Int32) then (1 : Int32) else (0 : Int32)) → own_Go p e below s (Q0 Z p0 p1 p2 p3 h0 n0) (room_1.cells, room_1.slots) (T65.setTop (mkF m 146 #[iv p0, iv p1, iv p2, iv p3, iv z1, iv (own_f1 p1), iv (own_f1 p2), iv (own_f1 p3), rv b9, iv (own_f4l (own_f1 p1) z1 (1 : Int32) (0 : Int32) (1 : Int32)), iv (own_f4k (own_f1 p1) z1 (1 : Int32) (0 : Int32) (1 : Int32)), iv (own_f4l (own_f1 p2) z1 (0 : Int32) (own_f4a (own_f1 p1) z1 (1 : Int32) (0 : Int32)) (own_f4l (own_f1 p1) z1 (1 : Int32) (0 : Int32) (1 : Int32))), iv (own_f4k (own_f1 p2) z1 (0 : Int32) (own_f4a (own_f1 p1) z1 (1 : Int32) (0 : Int32)) (own_f4k (own_f1 p1) z1 (1 : Int32) (0 : Int32) (1 : Int32))), iv (own_f4l (own_f1 p3) z1 (0 : Int32) (own_f4a (own_f1 p2) z1 (0 : Int32) (own_f4a (own_f1 p1) z1 (1 : Int32) (0 : Int32))) (own_f4l (own_f1 p2) z1 (0 : Int32) (own_f4a (own_f1 p1) z1 (1 : Int32) (0 : Int32)) (own_f4l (own_f1 p1) z1 (1 : Int32) (0 : Int32) (1 : Int32)))), iv (own_f4k (own_f1 p3) z1 (0 : Int32) (own_f4a (own_f1 p2) z1 (0 : Int32) (own_f4a (own_f1 p1) z1 (1 : Int32) (0 : Int32))) (own_f4k (own_f1 p2) z1 (0 : Int32) (own_f4a (own_f1 p1) z1 (1 : Int32) (0 : Int32)) (own_f4k (own_f1 p1) z1 (1 : Int32) (0 : Int32) (1 : Int32))))] [(.int z67), (.int 0), (.int (own_f1 p2)), (.int (own_f4k (own_f1 p2) z1 (0 : Int32) (own_f4a (own_f1 p1) z1 (1 : Int32) (0 : Int32)) (own_f4k (own_f1 p1) z1 (1 : Int32) (0 : Int32) (1 : Int32)))), (.int (own_f4l (own_f1 p2) z1 (0 : Int32) (own_f4a (own_f1 p1) z1 (1 : Int32) (0 : Int32)) (own_f4l (own_f1 p1) z1 (1 : Int32) (0 : Int32) (1 : Int32)))), (.int (own_f4k (own_f1 p1) z1 (1 : Int32) (0 : Int32) (1 : Int32))), (.int (own_f4l (own_f1 p1) z1 (1 : Int32) (0 : Int32) (1 : Int32)))])) := by
      intro z67 hz67
      refine own_via (fun k => XS.iload X65.here hx rfl (hb hby at_146) rfl  k) ?_
      show own_Go p e below s _ _ (T65.setTop (mkF m 148 #[iv p0, iv p1, iv p2, iv p3, iv z1, iv (own_f1 p1), iv (own_f1 p2), iv (own_f1 p3), rv b9, iv (own_f4l (own_f1 p1) z1 (1 : Int32) (0 : Int32) (1 : Int32)), iv (own_f4k (own_f1 p1) z1 (1 : Int32) (0 : Int32) (1 : Int32)), iv (own_f4l (own_f1 p2) z1 (0 : Int32) (own_f4a (own_f1 p1) z1 (1 : Int32) (0 : Int32)) (own_f4l (own_f1 p1) z1 (1 : Int32) (0 : Int32) (1 : Int32))), iv (own_f4k (own_f1 p2) z1 (0 : Int32) (own_f4a (own_f1 p1) z1 (1 : Int32) (0 : Int32)) (own_f4k (own_f1 p1) z1 (1 : Int32) (0 : Int32) (1 : Int32))), iv (own_f4l (own_f1 p3) z1 (0 : Int32) (own_f4a (own_f1 p2) z1 (0 : Int32) (own_f4a (own_f1 p1) z1 (1 : Int32) (0 : Int32))) (own_f4l (own_f1 p2) z1 (0 : Int32) (own_f4a (own_f1 p1) z1 (1 : Int32) (0 : Int32)) (own_f4l (own_f1 p1) z1 (1 : Int32) (0 : Int32) (1 : Int32)))), iv (own_f4k (own_f1 p3) z1 (0 : Int32) (own_f4a (own_f1 p2) z1 (0 : Int32) (own_f4a (own_f1 p1) z1 (1 : Int32) (0 : Int32))) (own_f4k (own_f1 p2) z1 (0 : Int32) (own_f4a (own_f1 p1) z1 (1 : Int32) (0 : Int32)) (own_f4k (own_f1 p1) z1 (1 : Int32) (0 : Int32) (1 : Int32))))] [(.int z1), (.int z67), (.int 0), (.int (own_f1 p2)), (.int (own_f4k (own_f1 p2) z1 (0 : Int32) (own_f4a (own_f1 p1) z1 (1 : Int32) (0 : Int32)) (own_f4k (own_f1 p1) z1 (1 : Int32) (0 : Int32) (1 : Int32)))), (.int (own_f4l (own_f1 p2) z1 (0 : Int32) (own_f4a (own_f1 p1) z1 (1 : Int32) (0 : Int32)) (own_f4l (own_f1 p1) z1 (1 : Int32) (0 : Int32) (1 : Int32)))), (.int (own_f4k (own_f1 p1) z1 (1 : Int32) (0 : Int32) (1 : Int32))), (.int (own_f4l (own_f1 p1) z1 (1 : Int32) (0 : Int32) (1 : Int32)))]))
      obtain ⟨_, _, ⟨T69, L69, k69, n69⟩, -, X69, ⟨Lc69, hQ69, l69, y69, z69⟩, st69⟩ := Jvm.LawKit.callS X65 hx (y := (⟨"com/example/tree_to_rows/treetorows/xml/DocumentPlacePassPinLaw", "step", "(IIIICZZZ)Z"⟩ : MethodName)) hown (mvT hZ (hw _ (List.mem_of_getElem? (i := 39) rfl))) (mvT hZ (hw _ (List.mem_of_getElem? (i := 40) rfl))) (mvT hZ (hw _ (List.mem_of_getElem? (i := 2) rfl))) (mvT hZ (hw _ (List.mem_of_getElem? (i := 41) rfl))) (by decide) (backOf (W := 0) (rm7 l Z aw hw [] (own_f4l (own_f1 p1) z1 (1 : Int32) (0 : Int32) (1 : Int32)) (own_f4k (own_f1 p1) z1 (1 : Int32) (0 : Int32) (1 : Int32)) (own_f4l (own_f1 p2) z1 (0 : Int32) (own_f4a (own_f1 p1) z1 (1 : Int32) (0 : Int32)) (own_f4l (own_f1 p1) z1 (1 : Int32) (0 : Int32) (1 : Int32))) (own_f4k (own_f1 p2) z1 (0 : Int32) (own_f4a (own_f1 p1) z1 (1 : Int32) (0 : Int32)) (own_f4k (own_f1 p1) z1 (1 : Int32) (0 : Int32) (1 : Int32))) (own_f1 p2) (0 : Int32) z67 z1 T52.heap n0 Z60) hZ (hw _ (List.mem_of_getElem? (i := 41) rfl)) (hw _ (List.mem_of_getElem? (i := 2) rfl)) (by decide) (by decide)) (g := (mkF m 148 #[iv p0, iv p1, iv p2, iv p3, iv z1, iv (own_f1 p1), iv (own_f1 p2), iv (own_f1 p3), rv b9, iv (own_f4l (own_f1 p1) z1 (1 : Int32) (0 : Int32) (1 : Int32)), iv (own_f4k (own_f1 p1) z1 (1 : Int32) (0 : Int32) (1 : Int32)), iv (own_f4l (own_f1 p2) z1 (0 : Int32) (own_f4a (own_f1 p1) z1 (1 : Int32) (0 : Int32)) (own_f4l (own_f1 p1) z1 (1 : Int32) (0 : Int32) (1 : Int32))), iv (own_f4k (own_f1 p2) z1 (0 : Int32) (own_f4a (own_f1 p1) z1 (1 : Int32) (0 : Int32)) (own_f4k (own_f1 p1) z1 (1 : Int32) (0 : Int32) (1 : Int32))), iv (own_f4l (own_f1 p3) z1 (0 : Int32) (own_f4a (own_f1 p2) z1 (0 : Int32) (own_f4a (own_f1 p1) z1 (1 : Int32) (0 : Int32))) (own_f4l (own_f1 p2) z1 (0 : Int32) (own_f4a (own_f1 p1) z1 (1 : Int32) (0 : Int32)) (own_f4l (own_f1 p1) z1 (1 : Int32) (0 : Int32) (1 : Int32)))), iv (own_f4k (own_f1 p3) z1 (0 : Int32) (own_f4a (own_f1 p2) z1 (0 : Int32) (own_f4a (own_f1 p1) z1 (1 : Int32) (0 : Int32))) (own_f4k (own_f1 p2) z1 (0 : Int32) (own_f4a (own_f1 p1) z1 (1 : Int32) (0 : Int32)) (own_f4k (own_f1 p1) z1 (1 : Int32) (0 : Int32) (1 : Int32))))] [(.int z1), (.int z67), (.int 0), (.int (own_f1 p2)), (.int (own_f4k (own_f1 p2) z1 (0 : Int32) (own_f4a (own_f1 p1) z1 (1 : Int32) (0 : Int32)) (own_f4k (own_f1 p1) z1 (1 : Int32) (0 : Int32) (1 : Int32)))), (.int (own_f4l (own_f1 p2) z1 (0 : Int32) (own_f4a (own_f1 p1) z1 (1 : Int32) (0 : Int32)) (own_f4l (own_f1 p1) z1 (1 : Int32) (0 : Int32) (1 : Int32)))), (.int (own_f4k (own_f1 p1) z1 (1 : Int32) (0 : Int32) (1 : Int32))), (.int (own_f4l (own_f1 p1) z1 (1 : Int32) (0 : Int32) (1 : Int32)))])) rfl (by rw [hml]; rfl) (argsL := [(.int (own_f4l (own_f1 p1) z1 (1 : Int32) (0 : Int32) (1 : Int32))), (.int (own_f4k (own_f1 p1) z1 (1 : Int32) (0 : Int32) (1 : Int32))), (.int (own_f4l (own_f1 p2) z1 (0 : Int32) (own_f4a (own_f1 p1) z1 (1 : Int32) (0 : Int32)) (own_f4l (own_f1 p1) z1 (1 : Int32) (0 : Int32) (1 : Int32)))), (.int (own_f4k (own_f1 p2) z1 (0 : Int32) (own_f4a (own_f1 p1) z1 (1 : Int32) (0 : Int32)) (own_f4k (own_f1 p1) z1 (1 : Int32) (0 : Int32) (1 : Int32)))), (.int (own_f1 p2)), (.int 0), (.int z67), (.int z1)]) (rest := []) (lenOf pd_5 rfl) rfl (by show 2 * 0 + _ ≤ _; exact Nat.le_of_eq rfl) (hb hby at_148) (fun _ _ => ⟨rfl, eh65, (by decide : 1 + 0 ≤ _), (by decide : 5 + 0 ≤ _)⟩)
      dsimp only [Pt.U, Pt.locs, Pt.cells, Pt.slots] at X69 l69 y69 z69 st69 hQ69
      subst l69 y69 z69
      obtain ⟨rfl, N69q, eh69⟩ := hQ69
      have N70 := Fr.app N66 N69q
      refine own_via (fun k => st69 _ k) ?_
      show own_Go p e below s _ _ (T69.setTop (mkF m 151 #[iv p0, iv p1, iv p2, iv p3, iv z1, iv (own_f1 p1), iv (own_f1 p2), iv (own_f1 p3), rv b9, iv (own_f4l (own_f1 p1) z1 (1 : Int32) (0 : Int32) (1 : Int32)), iv (own_f4k (own_f1 p1) z1 (1 : Int32) (0 : Int32) (1 : Int32)), iv (own_f4l (own_f1 p2) z1 (0 : Int32) (own_f4a (own_f1 p1) z1 (1 : Int32) (0 : Int32)) (own_f4l (own_f1 p1) z1 (1 : Int32) (0 : Int32) (1 : Int32))), iv (own_f4k (own_f1 p2) z1 (0 : Int32) (own_f4a (own_f1 p1) z1 (1 : Int32) (0 : Int32)) (own_f4k (own_f1 p1) z1 (1 : Int32) (0 : Int32) (1 : Int32))), iv (own_f4l (own_f1 p3) z1 (0 : Int32) (own_f4a (own_f1 p2) z1 (0 : Int32) (own_f4a (own_f1 p1) z1 (1 : Int32) (0 : Int32))) (own_f4l (own_f1 p2) z1 (0 : Int32) (own_f4a (own_f1 p1) z1 (1 : Int32) (0 : Int32)) (own_f4l (own_f1 p1) z1 (1 : Int32) (0 : Int32) (1 : Int32)))), iv (own_f4k (own_f1 p3) z1 (0 : Int32) (own_f4a (own_f1 p2) z1 (0 : Int32) (own_f4a (own_f1 p1) z1 (1 : Int32) (0 : Int32))) (own_f4k (own_f1 p2) z1 (0 : Int32) (own_f4a (own_f1 p1) z1 (1 : Int32) (0 : Int32)) (own_f4k (own_f1 p1) z1 (1 : Int32) (0 : Int32) (1 : Int32))))] [(.int (own_f7 (own_f4l (own_f1 p1) z1 (1 : Int32) (0 : Int32) (1 : Int32)) (own_f4k (own_f1 p1) z1 (1 : Int32) (0 : Int32) (1 : Int32)) (own_f4l (own_f1 p2) z1 (0 : Int32) (own_f4a (own_f1 p1) z1 (1 : Int32) (0 : Int32)) (own_f4l (own_f1 p1) z1 (1 : Int32) (0 : Int32) (1 : Int32))) (own_f4k (own_f1 p2) z1 (0 : Int32) (own_f4a (own_f1 p1) z1 (1 : Int32) (0 : Int32)) (own_f4k (own_f1 p1) z1 (1 : Int32) (0 : Int32) (1 : Int32))) (own_f1 p2) (0 : Int32) z67 z1))]))
      refine own_via (fun k => XS.ifNo X69.here hx rfl (hb hby at_151) rfl ((if0 _ _).trans (feq (own_l151 p0 p1 p2 z1 hz1 z67 hz67)).1) k) ?_
      show own_Go p e below s _ _ (T69.setTop (mkF m 154 #[iv p0, iv p1, iv p2, iv p3, iv z1, iv (own_f1 p1), iv (own_f1 p2), iv (own_f1 p3), rv b9, iv (own_f4l (own_f1 p1) z1 (1 : Int32) (0 : Int32) (1 : Int32)), iv (own_f4k (own_f1 p1) z1 (1 : Int32) (0 : Int32) (1 : Int32)), iv (own_f4l (own_f1 p2) z1 (0 : Int32) (own_f4a (own_f1 p1) z1 (1 : Int32) (0 : Int32)) (own_f4l (own_f1 p1) z1 (1 : Int32) (0 : Int32) (1 : Int32))), iv (own_f4k (own_f1 p2) z1 (0 : Int32) (own_f4a (own_f1 p1) z1 (1 : Int32) (0 : Int32)) (own_f4k (own_f1 p1) z1 (1 : Int32) (0 : Int32) (1 : Int32))), iv (own_f4l (own_f1 p3) z1 (0 : Int32) (own_f4a (own_f1 p2) z1 (0 : Int32) (own_f4a (own_f1 p1) z1 (1 : Int32) (0 : Int32))) (own_f4l (own_f1 p2) z1 (0 : Int32) (own_f4a (own_f1 p1) z1 (1 : Int32) (0 : Int32)) (own_f4l (own_f1 p1) z1 (1 : Int32) (0 : Int32) (1 : Int32)))), iv (own_f4k (own_f1 p3) z1 (0 : Int32) (own_f4a (own_f1 p2) z1 (0 : Int32) (own_f4a (own_f1 p1) z1 (1 : Int32) (0 : Int32))) (own_f4k (own_f1 p2) z1 (0 : Int32) (own_f4a (own_f1 p1) z1 (1 : Int32) (0 : Int32)) (own_f4k (own_f1 p1) z1 (1 : Int32) (0 : Int32) (1 : Int32))))] []))
      refine own_via (fun k => XS.iload X69.here hx rfl (hb hby at_154) rfl  (XS.iload X69.here hx rfl (hb hby at_156) rfl  (XS.iload X69.here hx rfl (hb hby at_158) rfl  (XS.iload X69.here hx rfl (hb hby at_160) rfl  k)))) ?_
      show own_Go p e below s _ _ (T69.setTop (mkF m 162 #[iv p0, iv p1, iv p2, iv p3, iv z1, iv (own_f1 p1), iv (own_f1 p2), iv (own_f1 p3), rv b9, iv (own_f4l (own_f1 p1) z1 (1 : Int32) (0 : Int32) (1 : Int32)), iv (own_f4k (own_f1 p1) z1 (1 : Int32) (0 : Int32) (1 : Int32)), iv (own_f4l (own_f1 p2) z1 (0 : Int32) (own_f4a (own_f1 p1) z1 (1 : Int32) (0 : Int32)) (own_f4l (own_f1 p1) z1 (1 : Int32) (0 : Int32) (1 : Int32))), iv (own_f4k (own_f1 p2) z1 (0 : Int32) (own_f4a (own_f1 p1) z1 (1 : Int32) (0 : Int32)) (own_f4k (own_f1 p1) z1 (1 : Int32) (0 : Int32) (1 : Int32))), iv (own_f4l (own_f1 p3) z1 (0 : Int32) (own_f4a (own_f1 p2) z1 (0 : Int32) (own_f4a (own_f1 p1) z1 (1 : Int32) (0 : Int32))) (own_f4l (own_f1 p2) z1 (0 : Int32) (own_f4a (own_f1 p1) z1 (1 : Int32) (0 : Int32)) (own_f4l (own_f1 p1) z1 (1 : Int32) (0 : Int32) (1 : Int32)))), iv (own_f4k (own_f1 p3) z1 (0 : Int32) (own_f4a (own_f1 p2) z1 (0 : Int32) (own_f4a (own_f1 p1) z1 (1 : Int32) (0 : Int32))) (own_f4k (own_f1 p2) z1 (0 : Int32) (own_f4a (own_f1 p1) z1 (1 : Int32) (0 : Int32)) (own_f4k (own_f1 p1) z1 (1 : Int32) (0 : Int32) (1 : Int32))))] [(.int (own_f4k (own_f1 p3) z1 (0 : Int32) (own_f4a (own_f1 p2) z1 (0 : Int32) (own_f4a (own_f1 p1) z1 (1 : Int32) (0 : Int32))) (own_f4k (own_f1 p2) z1 (0 : Int32) (own_f4a (own_f1 p1) z1 (1 : Int32) (0 : Int32)) (own_f4k (own_f1 p1) z1 (1 : Int32) (0 : Int32) (1 : Int32))))), (.int (own_f4l (own_f1 p3) z1 (0 : Int32) (own_f4a (own_f1 p2) z1 (0 : Int32) (own_f4a (own_f1 p1) z1 (1 : Int32) (0 : Int32))) (own_f4l (own_f1 p2) z1 (0 : Int32) (own_f4a (own_f1 p1) z1 (1 : Int32) (0 : Int32)) (own_f4l (own_f1 p1) z1 (1 : Int32) (0 : Int32) (1 : Int32))))), (.int (own_f4k (own_f1 p2) z1 (0 : Int32) (own_f4a (own_f1 p1) z1 (1 : Int32) (0 : Int32)) (own_f4k (own_f1 p1) z1 (1 : Int32) (0 : Int32) (1 : Int32)))), (.int (own_f4l (own_f1 p2) z1 (0 : Int32) (own_f4a (own_f1 p1) z1 (1 : Int32) (0 : Int32)) (own_f4l (own_f1 p1) z1 (1 : Int32) (0 : Int32) (1 : Int32))))]))
      refine own_via (fun k => XS.iload X69.here hx rfl (hb hby at_162) rfl  (XS.iconst X69.here hx rfl (hb hby at_164) (XS.iload X69.here hx rfl (hb hby at_165) rfl  (XS.bipush X69.here hx rfl (hb hby at_167) k)))) ?_
      show own_Go p e below s _ _ (T69.setTop (mkF m 169 #[iv p0, iv p1, iv p2, iv p3, iv z1, iv (own_f1 p1), iv (own_f1 p2), iv (own_f1 p3), rv b9, iv (own_f4l (own_f1 p1) z1 (1 : Int32) (0 : Int32) (1 : Int32)), iv (own_f4k (own_f1 p1) z1 (1 : Int32) (0 : Int32) (1 : Int32)), iv (own_f4l (own_f1 p2) z1 (0 : Int32) (own_f4a (own_f1 p1) z1 (1 : Int32) (0 : Int32)) (own_f4l (own_f1 p1) z1 (1 : Int32) (0 : Int32) (1 : Int32))), iv (own_f4k (own_f1 p2) z1 (0 : Int32) (own_f4a (own_f1 p1) z1 (1 : Int32) (0 : Int32)) (own_f4k (own_f1 p1) z1 (1 : Int32) (0 : Int32) (1 : Int32))), iv (own_f4l (own_f1 p3) z1 (0 : Int32) (own_f4a (own_f1 p2) z1 (0 : Int32) (own_f4a (own_f1 p1) z1 (1 : Int32) (0 : Int32))) (own_f4l (own_f1 p2) z1 (0 : Int32) (own_f4a (own_f1 p1) z1 (1 : Int32) (0 : Int32)) (own_f4l (own_f1 p1) z1 (1 : Int32) (0 : Int32) (1 : Int32)))), iv (own_f4k (own_f1 p3) z1 (0 : Int32) (own_f4a (own_f1 p2) z1 (0 : Int32) (own_f4a (own_f1 p1) z1 (1 : Int32) (0 : Int32))) (own_f4k (own_f1 p2) z1 (0 : Int32) (own_f4a (own_f1 p1) z1 (1 : Int32) (0 : Int32)) (own_f4k (own_f1 p1) z1 (1 : Int32) (0 : Int32) (1 : Int32))))] [(.int 13), (.int (own_f1 p2)), (.int 0), (.int (own_f1 p3)), (.int (own_f4k (own_f1 p3) z1 (0 : Int32) (own_f4a (own_f1 p2) z1 (0 : Int32) (own_f4a (own_f1 p1) z1 (1 : Int32) (0 : Int32))) (own_f4k (own_f1 p2) z1 (0 : Int32) (own_f4a (own_f1 p1) z1 (1 : Int32) (0 : Int32)) (own_f4k (own_f1 p1) z1 (1 : Int32) (0 : Int32) (1 : Int32))))), (.int (own_f4l (own_f1 p3) z1 (0 : Int32) (own_f4a (own_f1 p2) z1 (0 : Int32) (own_f4a (own_f1 p1) z1 (1 : Int32) (0 : Int32))) (own_f4l (own_f1 p2) z1 (0 : Int32) (own_f4a (own_f1 p1) z1 (1 : Int32) (0 : Int32)) (own_f4l (own_f1 p1) z1 (1 : Int32) (0 : Int32) (1 : Int32))))), (.int (own_f4k (own_f1 p2) z1 (0 : Int32) (own_f4a (own_f1 p1) z1 (1 : Int32) (0 : Int32)) (own_f4k (own_f1 p1) z1 (1 : Int32) (0 : Int32) (1 : Int32)))), (.int (own_f4l (own_f1 p2) z1 (0 : Int32) (own_f4a (own_f1 p1) z1 (1 : Int32) (0 : Int32)) (own_f4l (own_f1 p1) z1 (1 : Int32) (0 : Int32) (1 : Int32))))]))
      have J72 : ∀ (z71 : Int32), z71 = (if (own_f1 p2) = (13 : Int32) then (1 : Int32) else (0 : Int32)) → own_Go p e below s (Q0 Z p0 p1 p2 p3 h0 n0) (room_1.cells, room_1.slots) (T69.setTop (mkF m 177 #[iv p0, iv p1, iv p2, iv p3, iv z1, iv (own_f1 p1), iv (own_f1 p2), iv (own_f1 p3), rv b9, iv (own_f4l (own_f1 p1) z1 (1 : Int32) (0 : Int32) (1 : Int32)), iv (own_f4k (own_f1 p1) z1 (1 : Int32) (0 : Int32) (1 : Int32)), iv (own_f4l (own_f1 p2) z1 (0 : Int32) (own_f4a (own_f1 p1) z1 (1 : Int32) (0 : Int32)) (own_f4l (own_f1 p1) z1 (1 : Int32) (0 : Int32) (1 : Int32))), iv (own_f4k (own_f1 p2) z1 (0 : Int32) (own_f4a (own_f1 p1) z1 (1 : Int32) (0 : Int32)) (own_f4k (own_f1 p1) z1 (1 : Int32) (0 : Int32) (1 : Int32))), iv (own_f4l (own_f1 p3) z1 (0 : Int32) (own_f4a (own_f1 p2) z1 (0 : Int32) (own_f4a (own_f1 p1) z1 (1 : Int32) (0 : Int32))) (own_f4l (own_f1 p2) z1 (0 : Int32) (own_f4a (own_f1 p1) z1 (1 : Int32) (0 : Int32)) (own_f4l (own_f1 p1) z1 (1 : Int32) (0 : Int32) (1 : Int32)))), iv (own_f4k (own_f1 p3) z1 (0 : Int32) (own_f4a (own_f1 p2) z1 (0 : Int32) (own_f4a (own_f1 p1) z1 (1 : Int32) (0 : Int32))) (own_f4k (own_f1 p2) z1 (0 : Int32) (own_f4a (own_f1 p1) z1 (1 : Int32) (0 : Int32)) (own_f4k (own_f1 p1) z1 (1 : Int32) (0 : Int32) (1 : Int32))))] [(.int z71), (.int 0), (.int (own_f1 p3)), (.int (own_f4k (own_f1 p3) z1 (0 : Int32) (own_f4a (own_f1 p2) z1 (0 : Int32) (own_f4a (own_f1 p1) z1 (1 : Int32) (0 : Int32))) (own_f4k (own_f1 p2) z1 (0 : Int32) (own_f4a (own_f1 p1) z1 (1 : Int32) (0 : Int32)) (own_f4k (own_f1 p1) z1 (1 : Int32) (0 : Int32) (1 : Int32))))), (.int (own_f4l (own_f1 p3) z1 (0 : Int32) (own_f4a (own_f1 p2) z1 (0 : Int32) (own_f4a (own_f1 p1) z1 (1 : Int32) (0 : Int32))) (own_f4l (own_f1 p2) z1 (0 : Int32) (own_f4a (own_f1 p1) z1 (1 : Int32) (0 : Int32)) (own_f4l (own_f1 p1) z1 (1 : Int32) (0 : Int32) (1 : Int32))))), (.int (own_f4k (own_f1 p2) z1 (0 : Int32) (own_f4a (own_f1 p1) z1 (1 : Int32) (0 : Int32)) (own_f4k (own_f1 p1) z1 (1 : Int32) (0 : Int32) (1 : Int32)))), (.int (own_f4l (own_f1 p2) z1 (0 : Int32) (own_f4a (own_f1 p1) z1 (1 : Int32) (0 : Int32)) (own_f4l (own_f1 p1) z1 (1 : Int32) (0 : Int32) (1 : Int32))))])) := by
        intro z71 hz71
        refine own_via (fun k => XS.iload X69.here hx rfl (hb hby at_177) rfl  k) ?_
        show own_Go p e below s _ _ (T69.setTop (mkF m 179 #[iv p0, iv p1, iv p2, iv p3, iv z1, iv (own_f1 p1), iv (own_f1 p2), iv (own_f1 p3), rv b9, iv (own_f4l (own_f1 p1) z1 (1 : Int32) (0 : Int32) (1 : Int32)), iv (own_f4k (own_f1 p1) z1 (1 : Int32) (0 : Int32) (1 : Int32)), iv (own_f4l (own_f1 p2) z1 (0 : Int32) (own_f4a (own_f1 p1) z1 (1 : Int32) (0 : Int32)) (own_f4l (own_f1 p1) z1 (1 : Int32) (0 : Int32) (1 : Int32))), iv (own_f4k (own_f1 p2) z1 (0 : Int32) (own_f4a (own_f1 p1) z1 (1 : Int32) (0 : Int32)) (own_f4k (own_f1 p1) z1 (1 : Int32) (0 : Int32) (1 : Int32))), iv (own_f4l (own_f1 p3) z1 (0 : Int32) (own_f4a (own_f1 p2) z1 (0 : Int32) (own_f4a (own_f1 p1) z1 (1 : Int32) (0 : Int32))) (own_f4l (own_f1 p2) z1 (0 : Int32) (own_f4a (own_f1 p1) z1 (1 : Int32) (0 : Int32)) (own_f4l (own_f1 p1) z1 (1 : Int32) (0 : Int32) (1 : Int32)))), iv (own_f4k (own_f1 p3) z1 (0 : Int32) (own_f4a (own_f1 p2) z1 (0 : Int32) (own_f4a (own_f1 p1) z1 (1 : Int32) (0 : Int32))) (own_f4k (own_f1 p2) z1 (0 : Int32) (own_f4a (own_f1 p1) z1 (1 : Int32) (0 : Int32)) (own_f4k (own_f1 p1) z1 (1 : Int32) (0 : Int32) (1 : Int32))))] [(.int z1), (.int z71), (.int 0), (.int (own_f1 p3)), (.int (own_f4k (own_f1 p3) z1 (0 : Int32) (own_f4a (own_f1 p2) z1 (0 : Int32) (own_f4a (own_f1 p1) z1 (1 : Int32) (0 : Int32))) (own_f4k (own_f1 p2) z1 (0 : Int32) (own_f4a (own_f1 p1) z1 (1 : Int32) (0 : Int32)) (own_f4k (own_f1 p1) z1 (1 : Int32) (0 : Int32) (1 : Int32))))), (.int (own_f4l (own_f1 p3) z1 (0 : Int32) (own_f4a (own_f1 p2) z1 (0 : Int32) (own_f4a (own_f1 p1) z1 (1 : Int32) (0 : Int32))) (own_f4l (own_f1 p2) z1 (0 : Int32) (own_f4a (own_f1 p1) z1 (1 : Int32) (0 : Int32)) (own_f4l (own_f1 p1) z1 (1 : Int32) (0 : Int32) (1 : Int32))))), (.int (own_f4k (own_f1 p2) z1 (0 : Int32) (own_f4a (own_f1 p1) z1 (1 : Int32) (0 : Int32)) (own_f4k (own_f1 p1) z1 (1 : Int32) (0 : Int32) (1 : Int32)))), (.int (own_f4l (own_f1 p2) z1 (0 : Int32) (own_f4a (own_f1 p1) z1 (1 : Int32) (0 : Int32)) (own_f4l (own_f1 p1) z1 (1 : Int32) (0 : Int32) (1 : Int32))))]))
        obtain ⟨_, _, ⟨T73, L73, k73, n73⟩, -, X73, ⟨Lc73, hQ73, l73, y73, z73⟩, st73⟩ := Jvm.LawKit.callS X69 hx (y := (⟨"com/example/tree_to_rows/treetorows/xml/DocumentPlacePassPinLaw", "step", "(IIIICZZZ)Z"⟩ : MethodName)) hown (mvT hZ (hw _ (List.mem_of_getElem? (i := 39) rfl))) (mvT hZ (hw _ (List.mem_of_getElem? (i := 40) rfl))) (mvT hZ (hw _ (List.mem_of_getElem? (i := 2) rfl))) (mvT hZ (hw _ (List.mem_of_getElem? (i := 41) rfl))) (by decide) (backOf (W := 0) (rm7 l Z aw hw [] (own_f4l (own_f1 p2) z1 (0 : Int32) (own_f4a (own_f1 p1) z1 (1 : Int32) (0 : Int32)) (own_f4l (own_f1 p1) z1 (1 : Int32) (0 : Int32) (1 : Int32))) (own_f4k (own_f1 p2) z1 (0 : Int32) (own_f4a (own_f1 p1) z1 (1 : Int32) (0 : Int32)) (own_f4k (own_f1 p1) z1 (1 : Int32) (0 : Int32) (1 : Int32))) (own_f4l (own_f1 p3) z1 (0 : Int32) (own_f4a (own_f1 p2) z1 (0 : Int32) (own_f4a (own_f1 p1) z1 (1 : Int32) (0 : Int32))) (own_f4l (own_f1 p2) z1 (0 : Int32) (own_f4a (own_f1 p1) z1 (1 : Int32) (0 : Int32)) (own_f4l (own_f1 p1) z1 (1 : Int32) (0 : Int32) (1 : Int32)))) (own_f4k (own_f1 p3) z1 (0 : Int32) (own_f4a (own_f1 p2) z1 (0 : Int32) (own_f4a (own_f1 p1) z1 (1 : Int32) (0 : Int32))) (own_f4k (own_f1 p2) z1 (0 : Int32) (own_f4a (own_f1 p1) z1 (1 : Int32) (0 : Int32)) (own_f4k (own_f1 p1) z1 (1 : Int32) (0 : Int32) (1 : Int32)))) (own_f1 p3) (0 : Int32) z71 z1 T52.heap n0 Z60) hZ (hw _ (List.mem_of_getElem? (i := 41) rfl)) (hw _ (List.mem_of_getElem? (i := 2) rfl)) (by decide) (by decide)) (g := (mkF m 179 #[iv p0, iv p1, iv p2, iv p3, iv z1, iv (own_f1 p1), iv (own_f1 p2), iv (own_f1 p3), rv b9, iv (own_f4l (own_f1 p1) z1 (1 : Int32) (0 : Int32) (1 : Int32)), iv (own_f4k (own_f1 p1) z1 (1 : Int32) (0 : Int32) (1 : Int32)), iv (own_f4l (own_f1 p2) z1 (0 : Int32) (own_f4a (own_f1 p1) z1 (1 : Int32) (0 : Int32)) (own_f4l (own_f1 p1) z1 (1 : Int32) (0 : Int32) (1 : Int32))), iv (own_f4k (own_f1 p2) z1 (0 : Int32) (own_f4a (own_f1 p1) z1 (1 : Int32) (0 : Int32)) (own_f4k (own_f1 p1) z1 (1 : Int32) (0 : Int32) (1 : Int32))), iv (own_f4l (own_f1 p3) z1 (0 : Int32) (own_f4a (own_f1 p2) z1 (0 : Int32) (own_f4a (own_f1 p1) z1 (1 : Int32) (0 : Int32))) (own_f4l (own_f1 p2) z1 (0 : Int32) (own_f4a (own_f1 p1) z1 (1 : Int32) (0 : Int32)) (own_f4l (own_f1 p1) z1 (1 : Int32) (0 : Int32) (1 : Int32)))), iv (own_f4k (own_f1 p3) z1 (0 : Int32) (own_f4a (own_f1 p2) z1 (0 : Int32) (own_f4a (own_f1 p1) z1 (1 : Int32) (0 : Int32))) (own_f4k (own_f1 p2) z1 (0 : Int32) (own_f4a (own_f1 p1) z1 (1 : Int32) (0 : Int32)) (own_f4k (own_f1 p1) z1 (1 : Int32) (0 : Int32) (1 : Int32))))] [(.int z1), (.int z71), (.int 0), (.int (own_f1 p3)), (.int (own_f4k (own_f1 p3) z1 (0 : Int32) (own_f4a (own_f1 p2) z1 (0 : Int32) (own_f4a (own_f1 p1) z1 (1 : Int32) (0 : Int32))) (own_f4k (own_f1 p2) z1 (0 : Int32) (own_f4a (own_f1 p1) z1 (1 : Int32) (0 : Int32)) (own_f4k (own_f1 p1) z1 (1 : Int32) (0 : Int32) (1 : Int32))))), (.int (own_f4l (own_f1 p3) z1 (0 : Int32) (own_f4a (own_f1 p2) z1 (0 : Int32) (own_f4a (own_f1 p1) z1 (1 : Int32) (0 : Int32))) (own_f4l (own_f1 p2) z1 (0 : Int32) (own_f4a (own_f1 p1) z1 (1 : Int32) (0 : Int32)) (own_f4l (own_f1 p1) z1 (1 : Int32) (0 : Int32) (1 : Int32))))), (.int (own_f4k (own_f1 p2) z1 (0 : Int32) (own_f4a (own_f1 p1) z1 (1 : Int32) (0 : Int32)) (own_f4k (own_f1 p1) z1 (1 : Int32) (0 : Int32) (1 : Int32)))), (.int (own_f4l (own_f1 p2) z1 (0 : Int32) (own_f4a (own_f1 p1) z1 (1 : Int32) (0 : Int32)) (own_f4l (own_f1 p1) z1 (1 : Int32) (0 : Int32) (1 : Int32))))])) rfl (by rw [hml]; rfl) (argsL := [(.int (own_f4l (own_f1 p2) z1 (0 : Int32) (own_f4a (own_f1 p1) z1 (1 : Int32) (0 : Int32)) (own_f4l (own_f1 p1) z1 (1 : Int32) (0 : Int32) (1 : Int32)))), (.int (own_f4k (own_f1 p2) z1 (0 : Int32) (own_f4a (own_f1 p1) z1 (1 : Int32) (0 : Int32)) (own_f4k (own_f1 p1) z1 (1 : Int32) (0 : Int32) (1 : Int32)))), (.int (own_f4l (own_f1 p3) z1 (0 : Int32) (own_f4a (own_f1 p2) z1 (0 : Int32) (own_f4a (own_f1 p1) z1 (1 : Int32) (0 : Int32))) (own_f4l (own_f1 p2) z1 (0 : Int32) (own_f4a (own_f1 p1) z1 (1 : Int32) (0 : Int32)) (own_f4l (own_f1 p1) z1 (1 : Int32) (0 : Int32) (1 : Int32))))), (.int (own_f4k (own_f1 p3) z1 (0 : Int32) (own_f4a (own_f1 p2) z1 (0 : Int32) (own_f4a (own_f1 p1) z1 (1 : Int32) (0 : Int32))) (own_f4k (own_f1 p2) z1 (0 : Int32) (own_f4a (own_f1 p1) z1 (1 : Int32) (0 : Int32)) (own_f4k (own_f1 p1) z1 (1 : Int32) (0 : Int32) (1 : Int32))))), (.int (own_f1 p3)), (.int 0), (.int z71), (.int z1)]) (rest := []) (lenOf pd_5 rfl) rfl (by show 2 * 0 + _ ≤ _; exact Nat.le_of_eq rfl) (hb hby at_179) (fun _ _ => ⟨rfl, eh69, (by decide : 1 + 0 ≤ _), (by decide : 5 + 0 ≤ _)⟩)
        dsimp only [Pt.U, Pt.locs, Pt.cells, Pt.slots] at X73 l73 y73 z73 st73 hQ73
        subst l73 y73 z73
        obtain ⟨rfl, N73q, eh73⟩ := hQ73
        have N74 := Fr.app N70 N73q
        refine own_via (fun k => st73 _ k) ?_
        show own_Go p e below s _ _ (T73.setTop (mkF m 182 #[iv p0, iv p1, iv p2, iv p3, iv z1, iv (own_f1 p1), iv (own_f1 p2), iv (own_f1 p3), rv b9, iv (own_f4l (own_f1 p1) z1 (1 : Int32) (0 : Int32) (1 : Int32)), iv (own_f4k (own_f1 p1) z1 (1 : Int32) (0 : Int32) (1 : Int32)), iv (own_f4l (own_f1 p2) z1 (0 : Int32) (own_f4a (own_f1 p1) z1 (1 : Int32) (0 : Int32)) (own_f4l (own_f1 p1) z1 (1 : Int32) (0 : Int32) (1 : Int32))), iv (own_f4k (own_f1 p2) z1 (0 : Int32) (own_f4a (own_f1 p1) z1 (1 : Int32) (0 : Int32)) (own_f4k (own_f1 p1) z1 (1 : Int32) (0 : Int32) (1 : Int32))), iv (own_f4l (own_f1 p3) z1 (0 : Int32) (own_f4a (own_f1 p2) z1 (0 : Int32) (own_f4a (own_f1 p1) z1 (1 : Int32) (0 : Int32))) (own_f4l (own_f1 p2) z1 (0 : Int32) (own_f4a (own_f1 p1) z1 (1 : Int32) (0 : Int32)) (own_f4l (own_f1 p1) z1 (1 : Int32) (0 : Int32) (1 : Int32)))), iv (own_f4k (own_f1 p3) z1 (0 : Int32) (own_f4a (own_f1 p2) z1 (0 : Int32) (own_f4a (own_f1 p1) z1 (1 : Int32) (0 : Int32))) (own_f4k (own_f1 p2) z1 (0 : Int32) (own_f4a (own_f1 p1) z1 (1 : Int32) (0 : Int32)) (own_f4k (own_f1 p1) z1 (1 : Int32) (0 : Int32) (1 : Int32))))] [(.int (own_f7 (own_f4l (own_f1 p2) z1 (0 : Int32) (own_f4a (own_f1 p1) z1 (1 : Int32) (0 : Int32)) (own_f4l (own_f1 p1) z1 (1 : Int32) (0 : Int32) (1 : Int32))) (own_f4k (own_f1 p2) z1 (0 : Int32) (own_f4a (own_f1 p1) z1 (1 : Int32) (0 : Int32)) (own_f4k (own_f1 p1) z1 (1 : Int32) (0 : Int32) (1 : Int32))) (own_f4l (own_f1 p3) z1 (0 : Int32) (own_f4a (own_f1 p2) z1 (0 : Int32) (own_f4a (own_f1 p1) z1 (1 : Int32) (0 : Int32))) (own_f4l (own_f1 p2) z1 (0 : Int32) (own_f4a (own_f1 p1) z1 (1 : Int32) (0 : Int32)) (own_f4l (own_f1 p1) z1 (1 : Int32) (0 : Int32) (1 : Int32)))) (own_f4k (own_f1 p3) z1 (0 : Int32) (own_f4a (own_f1 p2) z1 (0 : Int32) (own_f4a (own_f1 p1) z1 (1 : Int32) (0 : Int32))) (own_f4k (own_f1 p2) z1 (0 : Int32) (own_f4a (own_f1 p1) z1 (1 : Int32) (0 : Int32)) (own_f4k (own_f1 p1) z1 (1 : Int32) (0 : Int32) (1 : Int32)))) (own_f1 p3) (0 : Int32) z71 z1))]))
        refine own_via (fun k => XS.ifNo X73.here hx rfl (hb hby at_182) rfl ((if0 _ _).trans (feq (own_l182 p0 p1 p2 p3 z1 hz1 z71 hz71)).1) k) ?_
        show own_Go p e below s _ _ (T73.setTop (mkF m 185 #[iv p0, iv p1, iv p2, iv p3, iv z1, iv (own_f1 p1), iv (own_f1 p2), iv (own_f1 p3), rv b9, iv (own_f4l (own_f1 p1) z1 (1 : Int32) (0 : Int32) (1 : Int32)), iv (own_f4k (own_f1 p1) z1 (1 : Int32) (0 : Int32) (1 : Int32)), iv (own_f4l (own_f1 p2) z1 (0 : Int32) (own_f4a (own_f1 p1) z1 (1 : Int32) (0 : Int32)) (own_f4l (own_f1 p1) z1 (1 : Int32) (0 : Int32) (1 : Int32))), iv (own_f4k (own_f1 p2) z1 (0 : Int32) (own_f4a (own_f1 p1) z1 (1 : Int32) (0 : Int32)) (own_f4k (own_f1 p1) z1 (1 : Int32) (0 : Int32) (1 : Int32))), iv (own_f4l (own_f1 p3) z1 (0 : Int32) (own_f4a (own_f1 p2) z1 (0 : Int32) (own_f4a (own_f1 p1) z1 (1 : Int32) (0 : Int32))) (own_f4l (own_f1 p2) z1 (0 : Int32) (own_f4a (own_f1 p1) z1 (1 : Int32) (0 : Int32)) (own_f4l (own_f1 p1) z1 (1 : Int32) (0 : Int32) (1 : Int32)))), iv (own_f4k (own_f1 p3) z1 (0 : Int32) (own_f4a (own_f1 p2) z1 (0 : Int32) (own_f4a (own_f1 p1) z1 (1 : Int32) (0 : Int32))) (own_f4k (own_f1 p2) z1 (0 : Int32) (own_f4a (own_f1 p1) z1 (1 : Int32) (0 : Int32)) (own_f4k (own_f1 p1) z1 (1 : Int32) (0 : Int32) (1 : Int32))))] []))
        refine own_via (fun k => XS.iconst X73.here hx rfl (hb hby at_185) (XS.goto X73.here hx rfl (pc0 := 186) (pc' := 190) rfl (hb hby at_186) (by decide) (by decide) k)) ?_
        show own_Go p e below s _ _ (T73.setTop (mkF m 190 #[iv p0, iv p1, iv p2, iv p3, iv z1, iv (own_f1 p1), iv (own_f1 p2), iv (own_f1 p3), rv b9, iv (own_f4l (own_f1 p1) z1 (1 : Int32) (0 : Int32) (1 : Int32)), iv (own_f4k (own_f1 p1) z1 (1 : Int32) (0 : Int32) (1 : Int32)), iv (own_f4l (own_f1 p2) z1 (0 : Int32) (own_f4a (own_f1 p1) z1 (1 : Int32) (0 : Int32)) (own_f4l (own_f1 p1) z1 (1 : Int32) (0 : Int32) (1 : Int32))), iv (own_f4k (own_f1 p2) z1 (0 : Int32) (own_f4a (own_f1 p1) z1 (1 : Int32) (0 : Int32)) (own_f4k (own_f1 p1) z1 (1 : Int32) (0 : Int32) (1 : Int32))), iv (own_f4l (own_f1 p3) z1 (0 : Int32) (own_f4a (own_f1 p2) z1 (0 : Int32) (own_f4a (own_f1 p1) z1 (1 : Int32) (0 : Int32))) (own_f4l (own_f1 p2) z1 (0 : Int32) (own_f4a (own_f1 p1) z1 (1 : Int32) (0 : Int32)) (own_f4l (own_f1 p1) z1 (1 : Int32) (0 : Int32) (1 : Int32)))), iv (own_f4k (own_f1 p3) z1 (0 : Int32) (own_f4a (own_f1 p2) z1 (0 : Int32) (own_f4a (own_f1 p1) z1 (1 : Int32) (0 : Int32))) (own_f4k (own_f1 p2) z1 (0 : Int32) (own_f4a (own_f1 p1) z1 (1 : Int32) (0 : Int32)) (own_f4k (own_f1 p1) z1 (1 : Int32) (0 : Int32) (1 : Int32))))] [(.int 1)]))
        exact own_retN X73 hx hlk (t := .boolean) Bd.returns (by simp) (hb hby at_190) (Q := (Q0 Z p0 p1 p2 p3 h0 n0)) ⟨rfl, N74⟩ (by decide) (by decide)
      by_cases hc75 : (own_f1 p2) = (13 : Int32)
      · refine own_via (fun k => XS.icmpNo X69.here hx rfl (hb hby at_169) rfl (teq hc75).2 k) ?_
        show own_Go p e below s _ _ (T69.setTop (mkF m 172 #[iv p0, iv p1, iv p2, iv p3, iv z1, iv (own_f1 p1), iv (own_f1 p2), iv (own_f1 p3), rv b9, iv (own_f4l (own_f1 p1) z1 (1 : Int32) (0 : Int32) (1 : Int32)), iv (own_f4k (own_f1 p1) z1 (1 : Int32) (0 : Int32) (1 : Int32)), iv (own_f4l (own_f1 p2) z1 (0 : Int32) (own_f4a (own_f1 p1) z1 (1 : Int32) (0 : Int32)) (own_f4l (own_f1 p1) z1 (1 : Int32) (0 : Int32) (1 : Int32))), iv (own_f4k (own_f1 p2) z1 (0 : Int32) (own_f4a (own_f1 p1) z1 (1 : Int32) (0 : Int32)) (own_f4k (own_f1 p1) z1 (1 : Int32) (0 : Int32) (1 : Int32))), iv (own_f4l (own_f1 p3) z1 (0 : Int32) (own_f4a (own_f1 p2) z1 (0 : Int32) (own_f4a (own_f1 p1) z1 (1 : Int32) (0 : Int32))) (own_f4l (own_f1 p2) z1 (0 : Int32) (own_f4a (own_f1 p1) z1 (1 : Int32) (0 : Int32)) (own_f4l (own_f1 p1) z1 (1 : Int32) (0 : Int32) (1 : Int32)))), iv (own_f4k (own_f1 p3) z1 (0 : Int32) (own_f4a (own_f1 p2) z1 (0 : Int32) (own_f4a (own_f1 p1) z1 (1 : Int32) (0 : Int32))) (own_f4k (own_f1 p2) z1 (0 : Int32) (own_f4a (own_f1 p1) z1 (1 : Int32) (0 : Int32)) (own_f4k (own_f1 p1) z1 (1 : Int32) (0 : Int32) (1 : Int32))))] [(.int 0), (.int (own_f1 p3)), (.int (own_f4k (own_f1 p3) z1 (0 : Int32) (own_f4a (own_f1 p2) z1 (0 : Int32) (own_f4a (own_f1 p1) z1 (1 : Int32) (0 : Int32))) (own_f4k (own_f1 p2) z1 (0 : Int32) (own_f4a (own_f1 p1) z1 (1 : Int32) (0 : Int32)) (own_f4k (own_f1 p1) z1 (1 : Int32) (0 : Int32) (1 : Int32))))), (.int (own_f4l (own_f1 p3) z1 (0 : Int32) (own_f4a (own_f1 p2) z1 (0 : Int32) (own_f4a (own_f1 p1) z1 (1 : Int32) (0 : Int32))) (own_f4l (own_f1 p2) z1 (0 : Int32) (own_f4a (own_f1 p1) z1 (1 : Int32) (0 : Int32)) (own_f4l (own_f1 p1) z1 (1 : Int32) (0 : Int32) (1 : Int32))))), (.int (own_f4k (own_f1 p2) z1 (0 : Int32) (own_f4a (own_f1 p1) z1 (1 : Int32) (0 : Int32)) (own_f4k (own_f1 p1) z1 (1 : Int32) (0 : Int32) (1 : Int32)))), (.int (own_f4l (own_f1 p2) z1 (0 : Int32) (own_f4a (own_f1 p1) z1 (1 : Int32) (0 : Int32)) (own_f4l (own_f1 p1) z1 (1 : Int32) (0 : Int32) (1 : Int32))))]))
        refine own_via (fun k => XS.iconst X69.here hx rfl (hb hby at_172) (XS.goto X69.here hx rfl (pc0 := 173) (pc' := 177) rfl (hb hby at_173) (by decide) (by decide) k)) ?_
        show own_Go p e below s _ _ (T69.setTop (mkF m 177 #[iv p0, iv p1, iv p2, iv p3, iv z1, iv (own_f1 p1), iv (own_f1 p2), iv (own_f1 p3), rv b9, iv (own_f4l (own_f1 p1) z1 (1 : Int32) (0 : Int32) (1 : Int32)), iv (own_f4k (own_f1 p1) z1 (1 : Int32) (0 : Int32) (1 : Int32)), iv (own_f4l (own_f1 p2) z1 (0 : Int32) (own_f4a (own_f1 p1) z1 (1 : Int32) (0 : Int32)) (own_f4l (own_f1 p1) z1 (1 : Int32) (0 : Int32) (1 : Int32))), iv (own_f4k (own_f1 p2) z1 (0 : Int32) (own_f4a (own_f1 p1) z1 (1 : Int32) (0 : Int32)) (own_f4k (own_f1 p1) z1 (1 : Int32) (0 : Int32) (1 : Int32))), iv (own_f4l (own_f1 p3) z1 (0 : Int32) (own_f4a (own_f1 p2) z1 (0 : Int32) (own_f4a (own_f1 p1) z1 (1 : Int32) (0 : Int32))) (own_f4l (own_f1 p2) z1 (0 : Int32) (own_f4a (own_f1 p1) z1 (1 : Int32) (0 : Int32)) (own_f4l (own_f1 p1) z1 (1 : Int32) (0 : Int32) (1 : Int32)))), iv (own_f4k (own_f1 p3) z1 (0 : Int32) (own_f4a (own_f1 p2) z1 (0 : Int32) (own_f4a (own_f1 p1) z1 (1 : Int32) (0 : Int32))) (own_f4k (own_f1 p2) z1 (0 : Int32) (own_f4a (own_f1 p1) z1 (1 : Int32) (0 : Int32)) (own_f4k (own_f1 p1) z1 (1 : Int32) (0 : Int32) (1 : Int32))))] [(.int 1), (.int 0), (.int (own_f1 p3)), (.int (own_f4k (own_f1 p3) z1 (0 : Int32) (own_f4a (own_f1 p2) z1 (0 : Int32) (own_f4a (own_f1 p1) z1 (1 : Int32) (0 : Int32))) (own_f4k (own_f1 p2) z1 (0 : Int32) (own_f4a (own_f1 p1) z1 (1 : Int32) (0 : Int32)) (own_f4k (own_f1 p1) z1 (1 : Int32) (0 : Int32) (1 : Int32))))), (.int (own_f4l (own_f1 p3) z1 (0 : Int32) (own_f4a (own_f1 p2) z1 (0 : Int32) (own_f4a (own_f1 p1) z1 (1 : Int32) (0 : Int32))) (own_f4l (own_f1 p2) z1 (0 : Int32) (own_f4a (own_f1 p1) z1 (1 : Int32) (0 : Int32)) (own_f4l (own_f1 p1) z1 (1 : Int32) (0 : Int32) (1 : Int32))))), (.int (own_f4k (own_f1 p2) z1 (0 : Int32) (own_f4a (own_f1 p1) z1 (1 : Int32) (0 : Int32)) (own_f4k (own_f1 p1) z1 (1 : Int32) (0 : Int32) (1 : Int32)))), (.int (own_f4l (own_f1 p2) z1 (0 : Int32) (own_f4a (own_f1 p1) z1 (1 : Int32) (0 : Int32)) (own_f4l (own_f1 p1) z1 (1 : Int32) (0 : Int32) (1 : Int32))))]))
        exact J72 (1 : Int32) (((if_pos hc75).trans rfl)).symm
      · refine own_via (fun k => XS.icmpYes X69.here hx rfl (pc0 := 169) (pc' := 176) rfl (hb hby at_169) rfl (feq hc75).2 (by decide) (by decide) k) ?_
        show own_Go p e below s _ _ (T69.setTop (mkF m 176 #[iv p0, iv p1, iv p2, iv p3, iv z1, iv (own_f1 p1), iv (own_f1 p2), iv (own_f1 p3), rv b9, iv (own_f4l (own_f1 p1) z1 (1 : Int32) (0 : Int32) (1 : Int32)), iv (own_f4k (own_f1 p1) z1 (1 : Int32) (0 : Int32) (1 : Int32)), iv (own_f4l (own_f1 p2) z1 (0 : Int32) (own_f4a (own_f1 p1) z1 (1 : Int32) (0 : Int32)) (own_f4l (own_f1 p1) z1 (1 : Int32) (0 : Int32) (1 : Int32))), iv (own_f4k (own_f1 p2) z1 (0 : Int32) (own_f4a (own_f1 p1) z1 (1 : Int32) (0 : Int32)) (own_f4k (own_f1 p1) z1 (1 : Int32) (0 : Int32) (1 : Int32))), iv (own_f4l (own_f1 p3) z1 (0 : Int32) (own_f4a (own_f1 p2) z1 (0 : Int32) (own_f4a (own_f1 p1) z1 (1 : Int32) (0 : Int32))) (own_f4l (own_f1 p2) z1 (0 : Int32) (own_f4a (own_f1 p1) z1 (1 : Int32) (0 : Int32)) (own_f4l (own_f1 p1) z1 (1 : Int32) (0 : Int32) (1 : Int32)))), iv (own_f4k (own_f1 p3) z1 (0 : Int32) (own_f4a (own_f1 p2) z1 (0 : Int32) (own_f4a (own_f1 p1) z1 (1 : Int32) (0 : Int32))) (own_f4k (own_f1 p2) z1 (0 : Int32) (own_f4a (own_f1 p1) z1 (1 : Int32) (0 : Int32)) (own_f4k (own_f1 p1) z1 (1 : Int32) (0 : Int32) (1 : Int32))))] [(.int 0), (.int (own_f1 p3)), (.int (own_f4k (own_f1 p3) z1 (0 : Int32) (own_f4a (own_f1 p2) z1 (0 : Int32) (own_f4a (own_f1 p1) z1 (1 : Int32) (0 : Int32))) (own_f4k (own_f1 p2) z1 (0 : Int32) (own_f4a (own_f1 p1) z1 (1 : Int32) (0 : Int32)) (own_f4k (own_f1 p1) z1 (1 : Int32) (0 : Int32) (1 : Int32))))), (.int (own_f4l (own_f1 p3) z1 (0 : Int32) (own_f4a (own_f1 p2) z1 (0 : Int32) (own_f4a (own_f1 p1) z1 (1 : Int32) (0 : Int32))) (own_f4l (own_f1 p2) z1 (0 : Int32) (own_f4a (own_f1 p1) z1 (1 : Int32) (0 : Int32)) (own_f4l (own_f1 p1) z1 (1 : Int32) (0 : Int32) (1 : Int32))))), (.int (own_f4k (own_f1 p2) z1 (0 : Int32) (own_f4a (own_f1 p1) z1 (1 : Int32) (0 : Int32)) (own_f4k (own_f1 p1) z1 (1 : Int32) (0 : Int32) (1 : Int32)))), (.int (own_f4l (own_f1 p2) z1 (0 : Int32) (own_f4a (own_f1 p1) z1 (1 : Int32) (0 : Int32)) (own_f4l (own_f1 p1) z1 (1 : Int32) (0 : Int32) (1 : Int32))))]))
        refine own_via (fun k => XS.iconst X69.here hx rfl (hb hby at_176) k) ?_
        show own_Go p e below s _ _ (T69.setTop (mkF m 177 #[iv p0, iv p1, iv p2, iv p3, iv z1, iv (own_f1 p1), iv (own_f1 p2), iv (own_f1 p3), rv b9, iv (own_f4l (own_f1 p1) z1 (1 : Int32) (0 : Int32) (1 : Int32)), iv (own_f4k (own_f1 p1) z1 (1 : Int32) (0 : Int32) (1 : Int32)), iv (own_f4l (own_f1 p2) z1 (0 : Int32) (own_f4a (own_f1 p1) z1 (1 : Int32) (0 : Int32)) (own_f4l (own_f1 p1) z1 (1 : Int32) (0 : Int32) (1 : Int32))), iv (own_f4k (own_f1 p2) z1 (0 : Int32) (own_f4a (own_f1 p1) z1 (1 : Int32) (0 : Int32)) (own_f4k (own_f1 p1) z1 (1 : Int32) (0 : Int32) (1 : Int32))), iv (own_f4l (own_f1 p3) z1 (0 : Int32) (own_f4a (own_f1 p2) z1 (0 : Int32) (own_f4a (own_f1 p1) z1 (1 : Int32) (0 : Int32))) (own_f4l (own_f1 p2) z1 (0 : Int32) (own_f4a (own_f1 p1) z1 (1 : Int32) (0 : Int32)) (own_f4l (own_f1 p1) z1 (1 : Int32) (0 : Int32) (1 : Int32)))), iv (own_f4k (own_f1 p3) z1 (0 : Int32) (own_f4a (own_f1 p2) z1 (0 : Int32) (own_f4a (own_f1 p1) z1 (1 : Int32) (0 : Int32))) (own_f4k (own_f1 p2) z1 (0 : Int32) (own_f4a (own_f1 p1) z1 (1 : Int32) (0 : Int32)) (own_f4k (own_f1 p1) z1 (1 : Int32) (0 : Int32) (1 : Int32))))] [(.int 0), (.int 0), (.int (own_f1 p3)), (.int (own_f4k (own_f1 p3) z1 (0 : Int32) (own_f4a (own_f1 p2) z1 (0 : Int32) (own_f4a (own_f1 p1) z1 (1 : Int32) (0 : Int32))) (own_f4k (own_f1 p2) z1 (0 : Int32) (own_f4a (own_f1 p1) z1 (1 : Int32) (0 : Int32)) (own_f4k (own_f1 p1) z1 (1 : Int32) (0 : Int32) (1 : Int32))))), (.int (own_f4l (own_f1 p3) z1 (0 : Int32) (own_f4a (own_f1 p2) z1 (0 : Int32) (own_f4a (own_f1 p1) z1 (1 : Int32) (0 : Int32))) (own_f4l (own_f1 p2) z1 (0 : Int32) (own_f4a (own_f1 p1) z1 (1 : Int32) (0 : Int32)) (own_f4l (own_f1 p1) z1 (1 : Int32) (0 : Int32) (1 : Int32))))), (.int (own_f4k (own_f1 p2) z1 (0 : Int32) (own_f4a (own_f1 p1) z1 (1 : Int32) (0 : Int32)) (own_f4k (own_f1 p1) z1 (1 : Int32) (0 : Int32) (1 : Int32)))), (.int (own_f4l (own_f1 p2) z1 (0 : Int32) (own_f4a (own_f1 p1) z1 (1 : Int32) (0 : Int32)) (own_f4l (own_f1 p1) z1 (1 : Int32) (0 : Int32) (1 : Int32))))]))
        exact J72 (0 : Int32) (((if_neg hc75).trans rfl)).symm
    by_cases hc76 : (own_f1 p1) = (13 : Int32)
    · refine own_via (fun k => XS.icmpNo X65.here hx rfl (hb hby at_138) rfl (teq hc76).2 k) ?_
      show own_Go p e below s _ _ (T65.setTop (mkF m 141 #[iv p0, iv p1, iv p2, iv p3, iv z1, iv (own_f1 p1), iv (own_f1 p2), iv (own_f1 p3), rv b9, iv (own_f4l (own_f1 p1) z1 (1 : Int32) (0 : Int32) (1 : Int32)), iv (own_f4k (own_f1 p1) z1 (1 : Int32) (0 : Int32) (1 : Int32)), iv (own_f4l (own_f1 p2) z1 (0 : Int32) (own_f4a (own_f1 p1) z1 (1 : Int32) (0 : Int32)) (own_f4l (own_f1 p1) z1 (1 : Int32) (0 : Int32) (1 : Int32))), iv (own_f4k (own_f1 p2) z1 (0 : Int32) (own_f4a (own_f1 p1) z1 (1 : Int32) (0 : Int32)) (own_f4k (own_f1 p1) z1 (1 : Int32) (0 : Int32) (1 : Int32))), iv (own_f4l (own_f1 p3) z1 (0 : Int32) (own_f4a (own_f1 p2) z1 (0 : Int32) (own_f4a (own_f1 p1) z1 (1 : Int32) (0 : Int32))) (own_f4l (own_f1 p2) z1 (0 : Int32) (own_f4a (own_f1 p1) z1 (1 : Int32) (0 : Int32)) (own_f4l (own_f1 p1) z1 (1 : Int32) (0 : Int32) (1 : Int32)))), iv (own_f4k (own_f1 p3) z1 (0 : Int32) (own_f4a (own_f1 p2) z1 (0 : Int32) (own_f4a (own_f1 p1) z1 (1 : Int32) (0 : Int32))) (own_f4k (own_f1 p2) z1 (0 : Int32) (own_f4a (own_f1 p1) z1 (1 : Int32) (0 : Int32)) (own_f4k (own_f1 p1) z1 (1 : Int32) (0 : Int32) (1 : Int32))))] [(.int 0), (.int (own_f1 p2)), (.int (own_f4k (own_f1 p2) z1 (0 : Int32) (own_f4a (own_f1 p1) z1 (1 : Int32) (0 : Int32)) (own_f4k (own_f1 p1) z1 (1 : Int32) (0 : Int32) (1 : Int32)))), (.int (own_f4l (own_f1 p2) z1 (0 : Int32) (own_f4a (own_f1 p1) z1 (1 : Int32) (0 : Int32)) (own_f4l (own_f1 p1) z1 (1 : Int32) (0 : Int32) (1 : Int32)))), (.int (own_f4k (own_f1 p1) z1 (1 : Int32) (0 : Int32) (1 : Int32))), (.int (own_f4l (own_f1 p1) z1 (1 : Int32) (0 : Int32) (1 : Int32)))]))
      refine own_via (fun k => XS.iconst X65.here hx rfl (hb hby at_141) (XS.goto X65.here hx rfl (pc0 := 142) (pc' := 146) rfl (hb hby at_142) (by decide) (by decide) k)) ?_
      show own_Go p e below s _ _ (T65.setTop (mkF m 146 #[iv p0, iv p1, iv p2, iv p3, iv z1, iv (own_f1 p1), iv (own_f1 p2), iv (own_f1 p3), rv b9, iv (own_f4l (own_f1 p1) z1 (1 : Int32) (0 : Int32) (1 : Int32)), iv (own_f4k (own_f1 p1) z1 (1 : Int32) (0 : Int32) (1 : Int32)), iv (own_f4l (own_f1 p2) z1 (0 : Int32) (own_f4a (own_f1 p1) z1 (1 : Int32) (0 : Int32)) (own_f4l (own_f1 p1) z1 (1 : Int32) (0 : Int32) (1 : Int32))), iv (own_f4k (own_f1 p2) z1 (0 : Int32) (own_f4a (own_f1 p1) z1 (1 : Int32) (0 : Int32)) (own_f4k (own_f1 p1) z1 (1 : Int32) (0 : Int32) (1 : Int32))), iv (own_f4l (own_f1 p3) z1 (0 : Int32) (own_f4a (own_f1 p2) z1 (0 : Int32) (own_f4a (own_f1 p1) z1 (1 : Int32) (0 : Int32))) (own_f4l (own_f1 p2) z1 (0 : Int32) (own_f4a (own_f1 p1) z1 (1 : Int32) (0 : Int32)) (own_f4l (own_f1 p1) z1 (1 : Int32) (0 : Int32) (1 : Int32)))), iv (own_f4k (own_f1 p3) z1 (0 : Int32) (own_f4a (own_f1 p2) z1 (0 : Int32) (own_f4a (own_f1 p1) z1 (1 : Int32) (0 : Int32))) (own_f4k (own_f1 p2) z1 (0 : Int32) (own_f4a (own_f1 p1) z1 (1 : Int32) (0 : Int32)) (own_f4k (own_f1 p1) z1 (1 : Int32) (0 : Int32) (1 : Int32))))] [(.int 1), (.int 0), (.int (own_f1 p2)), (.int (own_f4k (own_f1 p2) z1 (0 : Int32) (own_f4a (own_f1 p1) z1 (1 : Int32) (0 : Int32)) (own_f4k (own_f1 p1) z1 (1 : Int32) (0 : Int32) (1 : Int32)))), (.int (own_f4l (own_f1 p2) z1 (0 : Int32) (own_f4a (own_f1 p1) z1 (1 : Int32) (0 : Int32)) (own_f4l (own_f1 p1) z1 (1 : Int32) (0 : Int32) (1 : Int32)))), (.int (own_f4k (own_f1 p1) z1 (1 : Int32) (0 : Int32) (1 : Int32))), (.int (own_f4l (own_f1 p1) z1 (1 : Int32) (0 : Int32) (1 : Int32)))]))
      exact J68 (1 : Int32) (((if_pos hc76).trans rfl)).symm
    · refine own_via (fun k => XS.icmpYes X65.here hx rfl (pc0 := 138) (pc' := 145) rfl (hb hby at_138) rfl (feq hc76).2 (by decide) (by decide) k) ?_
      show own_Go p e below s _ _ (T65.setTop (mkF m 145 #[iv p0, iv p1, iv p2, iv p3, iv z1, iv (own_f1 p1), iv (own_f1 p2), iv (own_f1 p3), rv b9, iv (own_f4l (own_f1 p1) z1 (1 : Int32) (0 : Int32) (1 : Int32)), iv (own_f4k (own_f1 p1) z1 (1 : Int32) (0 : Int32) (1 : Int32)), iv (own_f4l (own_f1 p2) z1 (0 : Int32) (own_f4a (own_f1 p1) z1 (1 : Int32) (0 : Int32)) (own_f4l (own_f1 p1) z1 (1 : Int32) (0 : Int32) (1 : Int32))), iv (own_f4k (own_f1 p2) z1 (0 : Int32) (own_f4a (own_f1 p1) z1 (1 : Int32) (0 : Int32)) (own_f4k (own_f1 p1) z1 (1 : Int32) (0 : Int32) (1 : Int32))), iv (own_f4l (own_f1 p3) z1 (0 : Int32) (own_f4a (own_f1 p2) z1 (0 : Int32) (own_f4a (own_f1 p1) z1 (1 : Int32) (0 : Int32))) (own_f4l (own_f1 p2) z1 (0 : Int32) (own_f4a (own_f1 p1) z1 (1 : Int32) (0 : Int32)) (own_f4l (own_f1 p1) z1 (1 : Int32) (0 : Int32) (1 : Int32)))), iv (own_f4k (own_f1 p3) z1 (0 : Int32) (own_f4a (own_f1 p2) z1 (0 : Int32) (own_f4a (own_f1 p1) z1 (1 : Int32) (0 : Int32))) (own_f4k (own_f1 p2) z1 (0 : Int32) (own_f4a (own_f1 p1) z1 (1 : Int32) (0 : Int32)) (own_f4k (own_f1 p1) z1 (1 : Int32) (0 : Int32) (1 : Int32))))] [(.int 0), (.int (own_f1 p2)), (.int (own_f4k (own_f1 p2) z1 (0 : Int32) (own_f4a (own_f1 p1) z1 (1 : Int32) (0 : Int32)) (own_f4k (own_f1 p1) z1 (1 : Int32) (0 : Int32) (1 : Int32)))), (.int (own_f4l (own_f1 p2) z1 (0 : Int32) (own_f4a (own_f1 p1) z1 (1 : Int32) (0 : Int32)) (own_f4l (own_f1 p1) z1 (1 : Int32) (0 : Int32) (1 : Int32)))), (.int (own_f4k (own_f1 p1) z1 (1 : Int32) (0 : Int32) (1 : Int32))), (.int (own_f4l (own_f1 p1) z1 (1 : Int32) (0 : Int32) (1 : Int32)))]))
      refine own_via (fun k => XS.iconst X65.here hx rfl (hb hby at_145) k) ?_
      show own_Go p e below s _ _ (T65.setTop (mkF m 146 #[iv p0, iv p1, iv p2, iv p3, iv z1, iv (own_f1 p1), iv (own_f1 p2), iv (own_f1 p3), rv b9, iv (own_f4l (own_f1 p1) z1 (1 : Int32) (0 : Int32) (1 : Int32)), iv (own_f4k (own_f1 p1) z1 (1 : Int32) (0 : Int32) (1 : Int32)), iv (own_f4l (own_f1 p2) z1 (0 : Int32) (own_f4a (own_f1 p1) z1 (1 : Int32) (0 : Int32)) (own_f4l (own_f1 p1) z1 (1 : Int32) (0 : Int32) (1 : Int32))), iv (own_f4k (own_f1 p2) z1 (0 : Int32) (own_f4a (own_f1 p1) z1 (1 : Int32) (0 : Int32)) (own_f4k (own_f1 p1) z1 (1 : Int32) (0 : Int32) (1 : Int32))), iv (own_f4l (own_f1 p3) z1 (0 : Int32) (own_f4a (own_f1 p2) z1 (0 : Int32) (own_f4a (own_f1 p1) z1 (1 : Int32) (0 : Int32))) (own_f4l (own_f1 p2) z1 (0 : Int32) (own_f4a (own_f1 p1) z1 (1 : Int32) (0 : Int32)) (own_f4l (own_f1 p1) z1 (1 : Int32) (0 : Int32) (1 : Int32)))), iv (own_f4k (own_f1 p3) z1 (0 : Int32) (own_f4a (own_f1 p2) z1 (0 : Int32) (own_f4a (own_f1 p1) z1 (1 : Int32) (0 : Int32))) (own_f4k (own_f1 p2) z1 (0 : Int32) (own_f4a (own_f1 p1) z1 (1 : Int32) (0 : Int32)) (own_f4k (own_f1 p1) z1 (1 : Int32) (0 : Int32) (1 : Int32))))] [(.int 0), (.int 0), (.int (own_f1 p2)), (.int (own_f4k (own_f1 p2) z1 (0 : Int32) (own_f4a (own_f1 p1) z1 (1 : Int32) (0 : Int32)) (own_f4k (own_f1 p1) z1 (1 : Int32) (0 : Int32) (1 : Int32)))), (.int (own_f4l (own_f1 p2) z1 (0 : Int32) (own_f4a (own_f1 p1) z1 (1 : Int32) (0 : Int32)) (own_f4l (own_f1 p1) z1 (1 : Int32) (0 : Int32) (1 : Int32)))), (.int (own_f4k (own_f1 p1) z1 (1 : Int32) (0 : Int32) (1 : Int32))), (.int (own_f4l (own_f1 p1) z1 (1 : Int32) (0 : Int32) (1 : Int32)))]))
      exact J68 (0 : Int32) (((if_neg hc76).trans rfl)).symm
  by_cases hc77 : (p0 &&& (1 : Int32)) = (0 : Int32)
  · refine own_via (fun k => XS.ifYes X0.here hx rfl (pc0 := 3) (pc' := 10) rfl (hb hby at_3) rfl ((if0 _ _).trans (teq hc77).1) (by decide) (by decide) k) ?_
    show own_Go p e below s _ _ (s₁.setTop (mkF m 10 #[iv p0, iv p1, iv p2, iv p3, .unset, .unset, .unset, .unset, .unset, .unset, .unset, .unset, .unset, .unset, .unset] []))
    refine own_via (fun k => XS.iconst X0.here hx rfl (hb hby at_10) k) ?_
    show own_Go p e below s _ _ (s₁.setTop (mkF m 11 #[iv p0, iv p1, iv p2, iv p3, .unset, .unset, .unset, .unset, .unset, .unset, .unset, .unset, .unset, .unset, .unset] [(.int 0)]))
    exact J2 (0 : Int32) (((if_pos hc77).trans rfl)).symm
  · refine own_via (fun k => XS.ifNo X0.here hx rfl (hb hby at_3) rfl ((if0 _ _).trans (feq hc77).1) k) ?_
    show own_Go p e below s _ _ (s₁.setTop (mkF m 6 #[iv p0, iv p1, iv p2, iv p3, .unset, .unset, .unset, .unset, .unset, .unset, .unset, .unset, .unset, .unset, .unset] []))
    refine own_via (fun k => XS.iconst X0.here hx rfl (hb hby at_6) (XS.goto X0.here hx rfl (pc0 := 7) (pc' := 11) rfl (hb hby at_7) (by decide) (by decide) k)) ?_
    show own_Go p e below s _ _ (s₁.setTop (mkF m 11 #[iv p0, iv p1, iv p2, iv p3, .unset, .unset, .unset, .unset, .unset, .unset, .unset, .unset, .unset, .unset, .unset] [(.int 1)]))
    exact J2 (1 : Int32) (((if_neg hc77).trans rfl)).symm
set_option maxRecDepth 65536 in
set_option maxHeartbeats 40000000 in
theorem comes_1 {Post : Tables → Env → Array Value → State → Outcome → State → Prop} (hpost : ∀ tb e args s v u, (limb_1_1.after args s (.returned v) u = true ∧ limb_1_2.after args s (.returned v) u = true ∧ True) → FrameEnd s (.returned v) u (Jvm.fieldLocs frame_1_writes args s ++ Jvm.arrayLocs frame_1_arrays args s ++ Jvm.staticLocs frame_1_statics s) 16 128 → Post tb e args s (.returned v) u) :
    ArmFor flags0 classFile x code maxLocals ret World_1 tables_1 room_1 Calls_1 rest_1 Pre_1 Post := by
  intro l hfl _ _ p e ha hc hk s m args below hf hA hF happ hP
  obtain ⟨hcalls, hrest, hpre⟩ := hP
  obtain ⟨-, -, -, hnamed, -, -, -, hat⟩ := (Spec.applies_iff hf).mp happ
  obtain ⟨hg, hn⟩ := and_e (Cond.before_iff.mp (show (Jvm.Cond.and given_1 narrow_1).before args s = true from hpre))
  obtain ⟨g1, g2⟩ := and_e hg
  obtain ⟨g3, g4⟩ := and_e g2
  obtain ⟨g5, g6⟩ := and_e g4
  obtain ⟨g7, g8⟩ := and_e g6
  obtain ⟨w0, w1, w2, w3, rfl⟩ : ∃ w0 w1 w2 w3 : Value, args = #[w0, w1, w2, w3] := by
    have hs : args.size = 4 := by simpa [Cond.value, given_1] using g1
    obtain ⟨L⟩ := args
    match L, hs with
    | [w0, w1, w2, w3], _ => exact ⟨w0, w1, w2, w3, rfl⟩
  have hw := fun d (hd : d ∈ tables_1) => atoms_spec (ws := Jvm.Cond.code x code maxLocals ret :: tables_1) hat d (List.mem_cons_of_mem _ hd)
  obtain ⟨i0, ei0⟩ := is_v g3
  obtain rfl : w0 = (.int i0) := Option.some.inj ei0
  obtain ⟨i1, ei1⟩ := is_v g5
  obtain rfl : w1 = (.int i1) := Option.some.inj ei1
  obtain ⟨i2, ei2⟩ := is_v g7
  obtain rfl : w2 = (.int i2) := Option.some.inj ei2
  obtain ⟨i3, ei3⟩ := is_v g8
  obtain rfl : w3 = (.int i3) := Option.some.inj ei3
  obtain ⟨n, o, h1, h2, h3, _, L, rfl, ⟨rfl, N⟩, hq⟩ := rm0 l s _ hw tables_1 i0 i1 i2 i3 s.heap s.heap.size (Nat.le_refl _) p e ha hc hk s m _ below hf ((Spec.applies_iff_loose hf).mp happ).1 ⟨rfl, State.Warmed39.refl s, rfl⟩ trivial
  refine ⟨n, _, h1, h2, h3, hpost _ _ _ _ _ _ ⟨Cond.after_iff.mpr rfl, Cond.after_iff.mpr (eq_i res_at (Term.int_eval (1)) rfl), trivial⟩ ⟨hq.1, hq.2.1, (hq.2.2.sift fun y hy => Or.inr (N y hy)).mono (by decide) (by decide)⟩⟩
theorem main_1_1 : Claimed_1_1 := comes_1 fun _ _ _ _ _ _ h hF => ⟨h.1, hF⟩
theorem main_1_2 : Claimed_1_2 := comes_1 fun _ _ _ _ _ _ h hF => ⟨h.2.1, hF⟩
end Jvm.Pilot.@@N@@
namespace Jvm.Pilot.@@N@@
open Jvm Jvm.ClassFile Sem Op Lib Jvm.Free Jvm.Stand Jvm.Pilot.@@N@@.Jvm.D
/-! MADE BY PROGRAM (witnessworld.py) out of the Statement's table words and the real class files: 9 classes; the members and pool entries that the words name. The judged class is class 1, her method 4. -/
namespace start1
open Jvm.ClassFile
def u (s : String) : CpInfo := .utf8 (stringToUtf16 s)
/-- a pool by its gaps: so many unusable entries, then the entry; so many at the end -/
def gap : Nat → List CpInfo → List CpInfo
  | 0, r => r
  | n + 1, r => .unusable :: gap n r
def poolList (es : List (Nat × CpInfo)) (last : Nat) : List CpInfo := es.foldr (fun e r => gap e.1 (e.2 :: r)) (gap last [])
def pool (es : List (Nat × CpInfo)) (last : Nat) : Array CpInfo := ⟨poolList es last⟩
def fileOf (pool : Array CpInfo) (this : Nat) (attrs : Array Attribute := #[]) (ms : Array MethodInfo := #[]) (fl : Nat := 33) (sup : Nat := 0) (ifs : Array Nat := #[]) (fds : Array FieldInfo := #[]) : ClassFile where
  minorVersion := 0
  majorVersion := 65
  constantPool := pool
  accessFlags := fl
  thisClass := this
  superClass := sup
  interfaces := ifs
  fields := fds
  methods := ms
  attributes := attrs
def plain (name : String) (sup : Option ClassId) : Class where
  name := name
  kind := .ordinary
  loader := none
  accessFlags := 33
  super := sup
  interfaces := #[]
  cf := none
  fields := #[]
  methods := #[]
  instanceTypes := #[]
  staticTypes := #[]
  resolved := #[]
  callSites := []
  init := .initialized
  statics := none
  mirror := none

def pool0 : Array CpInfo := pool [(5, u "<init>"), (0, u "()V"), (1, .class_ 10), (1, u "java/lang/Object")] 113

def k0c0 : Code := { maxStack := 0, maxLocals := 1, code := object_method_1_code, exceptionTable := #[], attributes := #[] }
def k0m0 : Method := { name := "<init>", desc := "()V", sig := { parameters := [], returnType := none }, accessFlags := 1, code := some k0c0 }
/-- java/lang/Object -/
def k0 : Class := { plain "java/lang/Object" none with
  accessFlags := 33
  interfaces := #[]
  cf := some (fileOf pool0 8 #[] #[{ accessFlags := 1, nameIndex := 5, descriptorIndex := 6, attributes := #[] }] 33 0 #[] #[])
  fields := #[]
  methods := #[k0m0]
  instanceTypes := #[]
  staticTypes := #[]
  resolved := Array.replicate 124 none
  statics := none }

def pool1 : Array CpInfo := pool [(2, .class_ 4), (1, u "java/lang/Object"), (0, u "<init>"), (0, u "()V"), (0, .integer 65279), (0, .integer 65535), (0, .methodref 10 11), (0, .class_ 12), (0, .nameAndType 13 14), (0, u "com/example/tree_to_rows/treetorows/xml/DocumentPlacePassPinLaw"), (0, u "endsLine"), (0, u "(CZ)Z"), (0, .methodref 10 16), (0, .nameAndType 17 18), (0, u "draw"), (0, u "(I)C"), (0, .class_ 20), (0, u "com/example/tree_to_rows/treetorows/xml/DocumentPlace"), (0, .methodref 19 22), (0, .nameAndType 5 23), (0, u "(Z)V"), (0, .methodref 19 25), (0, .nameAndType 26 27), (0, u "pass"), (0, u "(C)V"), (0, .methodref 19 29), (0, .nameAndType 30 31), (0, u "line"), (0, u "()I"), (0, .methodref 19 33), (0, .nameAndType 34 31), (0, u "column"), (0, .methodref 10 36), (0, .nameAndType 37 38), (0, u "step"), (0, u "(IIIICZZZ)Z"), (3, u "law"), (0, u "(IIII)Z")] 2

def k1m0 : Method := { name := "<init>", desc := "()V", sig := { parameters := [], returnType := none }, accessFlags := 1, code := none }
def k1c1 : Code := { maxStack := 2, maxLocals := 2, code := method_2_code, exceptionTable := #[], attributes := #[] }
def k1m1 : Method := { name := "draw", desc := "(I)C", sig := { parameters := [.int], returnType := some .char }, accessFlags := 10, code := some k1c1 }
def k1c2 : Code := { maxStack := 2, maxLocals := 2, code := method_3_code, exceptionTable := #[], attributes := #[] }
def k1m2 : Method := { name := "endsLine", desc := "(CZ)Z", sig := { parameters := [.char, .boolean], returnType := some .boolean }, accessFlags := 10, code := some k1c2 }
def k1c3 : Code := { maxStack := 3, maxLocals := 8, code := method_4_code, exceptionTable := #[], attributes := #[] }
def k1m3 : Method := { name := "step", desc := "(IIIICZZZ)Z", sig := { parameters := [.int, .int, .int, .int, .char, .boolean, .boolean, .boolean], returnType := some .boolean }, accessFlags := 10, code := some k1c3 }
def k1c4 : Code := { maxStack := 8, maxLocals := 15, code := code, exceptionTable := #[], attributes := #[] }
def k1m4 : Method := { name := "law", desc := "(IIII)Z", sig := { parameters := [.int, .int, .int, .int], returnType := some .boolean }, accessFlags := 9, code := some k1c4 }
/-- com/example/tree_to_rows/treetorows/xml/DocumentPlacePassPinLaw -/
def k1 : Class := { plain "com/example/tree_to_rows/treetorows/xml/DocumentPlacePassPinLaw" (some 0) with
  accessFlags := 49
  interfaces := #[]
  cf := some (fileOf pool1 10 #[] #[{ accessFlags := 1, nameIndex := 5, descriptorIndex := 6, attributes := #[] }, { accessFlags := 10, nameIndex := 17, descriptorIndex := 18, attributes := #[] }, { accessFlags := 10, nameIndex := 13, descriptorIndex := 14, attributes := #[] }, { accessFlags := 10, nameIndex := 37, descriptorIndex := 38, attributes := #[] }, { accessFlags := 9, nameIndex := 42, descriptorIndex := 43, attributes := #[] }] 49 2 #[] #[])
  fields := #[]
  methods := #[k1m0, k1m1, k1m2, k1m3, k1m4]
  instanceTypes := #[]
  staticTypes := #[]
  resolved := Array.replicate 46 none
  statics := none }

def pool2 : Array CpInfo := pool [(1, .methodref 2 3), (0, .class_ 4), (0, .nameAndType 5 6), (0, u "java/lang/Object"), (0, u "<init>"), (0, u "()V"), (0, .fieldref 8 9), (0, .class_ 10), (0, .nameAndType 11 12), (0, u "com/example/tree_to_rows/treetorows/xml/DocumentPlace"), (0, u "xml11"), (0, u "Z"), (0, .fieldref 8 14), (0, .nameAndType 15 12), (0, u "firstCharacter"), (0, .fieldref 8 17), (0, .nameAndType 18 12), (0, u "afterCarriageReturn"), (0, .fieldref 8 20), (0, .nameAndType 21 22), (0, u "line"), (0, u "I"), (0, .fieldref 8 24), (0, .nameAndType 25 22), (0, u "column"), (0, .integer 65279), (0, u "(Z)V"), (2, u "pass"), (0, u "(C)V"), (7, u "()I")] 2

def k2c0 : Code := { maxStack := 2, maxLocals := 2, code := prog_92_method_1_code, exceptionTable := #[], attributes := #[] }
def k2m0 : Method := { name := "<init>", desc := "(Z)V", sig := { parameters := [.boolean], returnType := none }, accessFlags := 0, code := some k2c0 }
def k2c1 : Code := { maxStack := 3, maxLocals := 5, code := prog_92_method_2_code, exceptionTable := #[], attributes := #[] }
def k2m1 : Method := { name := "pass", desc := "(C)V", sig := { parameters := [.char], returnType := none }, accessFlags := 0, code := some k2c1 }
def k2c2 : Code := { maxStack := 1, maxLocals := 1, code := prog_92_method_5_code, exceptionTable := #[], attributes := #[] }
def k2m2 : Method := { name := "line", desc := "()I", sig := { parameters := [], returnType := some .int }, accessFlags := 0, code := some k2c2 }
def k2c3 : Code := { maxStack := 1, maxLocals := 1, code := prog_92_method_6_code, exceptionTable := #[], attributes := #[] }
def k2m3 : Method := { name := "column", desc := "()I", sig := { parameters := [], returnType := some .int }, accessFlags := 0, code := some k2c3 }
/-- com/example/tree_to_rows/treetorows/xml/DocumentPlace -/
def k2 : Class := { plain "com/example/tree_to_rows/treetorows/xml/DocumentPlace" (some 0) with
  accessFlags := 48
  interfaces := #[]
  cf := some (fileOf pool2 8 #[] #[{ accessFlags := 0, nameIndex := 5, descriptorIndex := 27, attributes := #[] }, { accessFlags := 0, nameIndex := 30, descriptorIndex := 31, attributes := #[] }, { accessFlags := 0, nameIndex := 21, descriptorIndex := 39, attributes := #[] }, { accessFlags := 0, nameIndex := 25, descriptorIndex := 39, attributes := #[] }] 48 2 #[] #[{ accessFlags := 18, nameIndex := 11, descriptorIndex := 12, attributes := #[] }, { accessFlags := 2, nameIndex := 15, descriptorIndex := 12, attributes := #[] }, { accessFlags := 2, nameIndex := 18, descriptorIndex := 12, attributes := #[] }, { accessFlags := 2, nameIndex := 21, descriptorIndex := 22, attributes := #[] }, { accessFlags := 2, nameIndex := 25, descriptorIndex := 22, attributes := #[] }])
  fields := #[{ name := "xml11", type := .boolean, accessFlags := 18, slot := 0, constantValue := 0 }, { name := "firstCharacter", type := .boolean, accessFlags := 2, slot := 1, constantValue := 0 }, { name := "afterCarriageReturn", type := .boolean, accessFlags := 2, slot := 2, constantValue := 0 }, { name := "line", type := .int, accessFlags := 2, slot := 3, constantValue := 0 }, { name := "column", type := .int, accessFlags := 2, slot := 4, constantValue := 0 }]
  methods := #[k2m0, k2m1, k2m2, k2m3]
  instanceTypes := #[.boolean, .boolean, .boolean, .int, .int]
  staticTypes := #[]
  resolved := Array.replicate 42 none
  statics := none }

def pool3 : Array CpInfo := pool [(1, u "java/lang/Cloneable"), (0, .class_ 1), (0, u "java/lang/Object"), (0, .class_ 3)] 3

/-- java/lang/Cloneable -/
def k3 : Class := { plain "java/lang/Cloneable" (some 0) with
  accessFlags := 1537
  interfaces := #[]
  cf := some (fileOf pool3 2 #[] #[] 1537 4 #[] #[])
  fields := #[]
  methods := #[]
  instanceTypes := #[]
  staticTypes := #[]
  resolved := Array.replicate 8 none
  statics := none }

def pool4 : Array CpInfo := pool [(1, u "java/io/Serializable"), (0, .class_ 1), (0, u "java/lang/Object"), (0, .class_ 3)] 3

/-- java/io/Serializable -/
def k4 : Class := { plain "java/io/Serializable" (some 0) with
  accessFlags := 1537
  interfaces := #[]
  cf := some (fileOf pool4 2 #[] #[] 1537 4 #[] #[])
  fields := #[]
  methods := #[]
  instanceTypes := #[]
  staticTypes := #[]
  resolved := Array.replicate 8 none
  statics := none }

/-- the primitive byte -/
def k5 : Class := { plain "byte" none with kind := .primitive 'B', accessFlags := 0x411 }
/-- [B -/
def k6 : Class := { plain "[B" (some 0) with kind := .array 5 .byte, interfaces := #[3, 4], accessFlags := 1041 }

/-- the primitive int -/
def k7 : Class := { plain "int" none with kind := .primitive 'I', accessFlags := 0x411 }
/-- [I -/
def k8 : Class := { plain "[I" (some 0) with kind := .array 7 .int, interfaces := #[3, 4], accessFlags := 1041 }

def heap : Heap := #[]
def classes : Array Class := #[k0, k1, k2, k3, k4, k5, k6, k7, k8]
def interned : List (Array UInt16 × Addr) := []
def slotsUsed : Nat := 0
def theMethod : MethodId := ⟨1, 4⟩
def args0 : Array Value := #[.int 1, .int 9, .int 3, .int 8]
def aboutOver (below : List Frame) : State where
  vm := { classes := classes, interned := interned.toArray }
  heap := heap
  slotsUsed := slotsUsed
  threads := #[{ frames := .invoking theMethod args0 :: below }]
def below0 : List Frame := [.native { method := ⟨0, 0⟩, args := #[] }]
def about1 : State := aboutOver below0
def p0 : Program := .bare "" "" ""
def e0 : Env := launch0.env 0 0 0
theorem w_frames : about1.frames = Frame.invoking theMethod args0 :: below0 := rfl
set_option maxRecDepth 65536 in
theorem w_args : argsFit about1.vm theMethod args0 = true := by decide +kernel
set_option maxRecDepth 65536 in
theorem w_heap : heapFits about1 = true := by decide +kernel
set_option maxRecDepth 65536 in
theorem w_runnable : about1.curStatus? = some .runnable := by decide +kernel
set_option maxRecDepth 65536 in
theorem w_alone : about1.alone = true := by decide +kernel
set_option maxRecDepth 65536 in
theorem w_named : about1.methodNamed? x = some theMethod := by decide +kernel
set_option maxRecDepth 65536 in
theorem w_hears : about1.hears theMethod below0 = true := by decide +kernel
set_option maxRecDepth 65536 in
theorem w_ripe : about1.ripe theMethod args0 below0 = true := by decide +kernel
theorem w_running : about1.status = .running := rfl
set_option maxRecDepth 65536 in
theorem w_room : about1.hasRoom e0.platform room_1 = true :=
  launch0.hasRoom_least _ room_1 (by decide +kernel) (by decide +kernel) (by decide +kernel) (by decide +kernel) (by decide +kernel) (by decide +kernel)
theorem allAtoms_all (ts : List Jvm.Cond) (a : Array Jvm.Value) (st : Jvm.State) : (allAtoms ts).before a st = ts.all (fun c => c.before a st) := by
  induction ts with
  | nil => rfl
  | cons c t ih =>
    show (Jvm.Cond.and c (allAtoms t)).before a st = _
    rw [Jvm.Cond.before_and, ih, List.all_cons]
def words1 : List Jvm.Cond := Jvm.Cond.code x code maxLocals ret :: tables_1
/-- a 'code' word, met by the world's own term for the bytes: nothing is compared byte by byte -/
theorem code_word {y : MethodName} {bytes : ByteArray} {mx : Nat} {rt : Option FieldType} {a : Array Value} {s : State} {m : MethodId} {meth : Method} {c : Code} (h1 : s.methodNamed? y = some m) (h2 : s.vm.method? m = some meth) (h3 : meth.code = some c) (h4 : c.code = bytes)
    (h5 : (c.maxLocals == mx && c.exceptionTable.isEmpty && decide (c.maxStack ≤ mostOperands) && decide (meth.sig.returnType = rt) && !meth.locks && decide (parseMethodDescriptor y.desc = some meth.sig)) = true) : (Jvm.Cond.code y bytes mx rt).before a s = true := by
  simp only [Bool.and_eq_true, beq_iff_eq, Bool.not_eq_true', decide_eq_true_eq] at h5
  obtain ⟨⟨⟨⟨⟨g1, g2⟩, g3⟩, g4⟩, g5⟩, g6⟩ := h5
  simp [Cond.before, Cond.holds, Cond.value, h1, h2, h3, h4, g1, g2, g3, g4, g5, g6]
def isCode : Jvm.Cond → Bool
  | .code _ _ _ _ => true
  | _ => false
theorem all_split {L : List Jvm.Cond} {P : Jvm.Cond → Bool} (h1 : L.all (fun c => isCode c || P c) = true) (h2 : ∀ c ∈ L.filter isCode, P c = true) : L.all P = true := by
  refine List.all_eq_true.mpr fun c hc => ?_
  have h := List.all_eq_true.mp h1 c hc
  rcases Bool.eq_false_or_eq_true (isCode c) with hi | hi
  · exact h2 c (List.mem_filter.mpr ⟨hc, hi⟩)
  · simpa [hi] using h
set_option maxRecDepth 65536 in
theorem w_c0 : (Jvm.Cond.code x code maxLocals ret).before args0 about1 = true := code_word (m := ⟨1, 4⟩) (meth := k1m4) (c := k1c4) (by decide +kernel) rfl rfl rfl (by decide +kernel)
set_option maxRecDepth 65536 in
theorem w_c1 : (Jvm.Cond.code ({ cls := "com/example/tree_to_rows/treetorows/xml/DocumentPlacePassPinLaw", name := "draw", desc := "(I)C" } : Jvm.MethodName) method_2_code (2 : Nat) (Option.some Jvm.ClassFile.FieldType.char)).before args0 about1 = true := code_word (m := ⟨1, 1⟩) (meth := k1m1) (c := k1c1) (by decide +kernel) rfl rfl rfl (by decide +kernel)
set_option maxRecDepth 65536 in
theorem w_c2 : (Jvm.Cond.code ({ cls := "com/example/tree_to_rows/treetorows/xml/DocumentPlace", name := "<init>", desc := "(Z)V" } : Jvm.MethodName) prog_92_method_1_code (2 : Nat) (Option.none : Option Jvm.ClassFile.FieldType)).before args0 about1 = true := code_word (m := ⟨2, 0⟩) (meth := k2m0) (c := k2c0) (by decide +kernel) rfl rfl rfl (by decide +kernel)
set_option maxRecDepth 65536 in
theorem w_c3 : (Jvm.Cond.code ({ cls := "java/lang/Object", name := "<init>", desc := "()V" } : Jvm.MethodName) object_method_1_code (1 : Nat) (Option.none : Option Jvm.ClassFile.FieldType)).before args0 about1 = true := code_word (m := ⟨0, 0⟩) (meth := k0m0) (c := k0c0) (by decide +kernel) rfl rfl rfl (by decide +kernel)
set_option maxRecDepth 65536 in
theorem w_c4 : (Jvm.Cond.code ({ cls := "com/example/tree_to_rows/treetorows/xml/DocumentPlace", name := "pass", desc := "(C)V" } : Jvm.MethodName) prog_92_method_2_code (5 : Nat) (Option.none : Option Jvm.ClassFile.FieldType)).before args0 about1 = true := code_word (m := ⟨2, 1⟩) (meth := k2m1) (c := k2c1) (by decide +kernel) rfl rfl rfl (by decide +kernel)
set_option maxRecDepth 65536 in
theorem w_c5 : (Jvm.Cond.code ({ cls := "com/example/tree_to_rows/treetorows/xml/DocumentPlace", name := "line", desc := "()I" } : Jvm.MethodName) prog_92_method_5_code (1 : Nat) (Option.some Jvm.ClassFile.FieldType.int)).before args0 about1 = true := code_word (m := ⟨2, 2⟩) (meth := k2m2) (c := k2c2) (by decide +kernel) rfl rfl rfl (by decide +kernel)
set_option maxRecDepth 65536 in
theorem w_c6 : (Jvm.Cond.code ({ cls := "com/example/tree_to_rows/treetorows/xml/DocumentPlace", name := "column", desc := "()I" } : Jvm.MethodName) prog_92_method_6_code (1 : Nat) (Option.some Jvm.ClassFile.FieldType.int)).before args0 about1 = true := code_word (m := ⟨2, 3⟩) (meth := k2m3) (c := k2c3) (by decide +kernel) rfl rfl rfl (by decide +kernel)
set_option maxRecDepth 65536 in
theorem w_c7 : (Jvm.Cond.code ({ cls := "com/example/tree_to_rows/treetorows/xml/DocumentPlacePassPinLaw", name := "step", desc := "(IIIICZZZ)Z" } : Jvm.MethodName) method_4_code (8 : Nat) (Option.some Jvm.ClassFile.FieldType.boolean)).before args0 about1 = true := code_word (m := ⟨1, 3⟩) (meth := k1m3) (c := k1c3) (by decide +kernel) rfl rfl rfl (by decide +kernel)
set_option maxRecDepth 65536 in
theorem w_c8 : (Jvm.Cond.code ({ cls := "com/example/tree_to_rows/treetorows/xml/DocumentPlacePassPinLaw", name := "endsLine", desc := "(CZ)Z" } : Jvm.MethodName) method_3_code (2 : Nat) (Option.some Jvm.ClassFile.FieldType.boolean)).before args0 about1 = true := code_word (m := ⟨1, 2⟩) (meth := k1m2) (c := k1c2) (by decide +kernel) rfl rfl rfl (by decide +kernel)
def codes1 : List Jvm.Cond := [Jvm.Cond.code x code maxLocals ret, Jvm.Cond.code ({ cls := "com/example/tree_to_rows/treetorows/xml/DocumentPlacePassPinLaw", name := "draw", desc := "(I)C" } : Jvm.MethodName) method_2_code (2 : Nat) (Option.some Jvm.ClassFile.FieldType.char), Jvm.Cond.code ({ cls := "com/example/tree_to_rows/treetorows/xml/DocumentPlace", name := "<init>", desc := "(Z)V" } : Jvm.MethodName) prog_92_method_1_code (2 : Nat) (Option.none : Option Jvm.ClassFile.FieldType), Jvm.Cond.code ({ cls := "java/lang/Object", name := "<init>", desc := "()V" } : Jvm.MethodName) object_method_1_code (1 : Nat) (Option.none : Option Jvm.ClassFile.FieldType), Jvm.Cond.code ({ cls := "com/example/tree_to_rows/treetorows/xml/DocumentPlace", name := "pass", desc := "(C)V" } : Jvm.MethodName) prog_92_method_2_code (5 : Nat) (Option.none : Option Jvm.ClassFile.FieldType), Jvm.Cond.code ({ cls := "com/example/tree_to_rows/treetorows/xml/DocumentPlace", name := "line", desc := "()I" } : Jvm.MethodName) prog_92_method_5_code (1 : Nat) (Option.some Jvm.ClassFile.FieldType.int), Jvm.Cond.code ({ cls := "com/example/tree_to_rows/treetorows/xml/DocumentPlace", name := "column", desc := "()I" } : Jvm.MethodName) prog_92_method_6_code (1 : Nat) (Option.some Jvm.ClassFile.FieldType.int), Jvm.Cond.code ({ cls := "com/example/tree_to_rows/treetorows/xml/DocumentPlacePassPinLaw", name := "step", desc := "(IIIICZZZ)Z" } : Jvm.MethodName) method_4_code (8 : Nat) (Option.some Jvm.ClassFile.FieldType.boolean), Jvm.Cond.code ({ cls := "com/example/tree_to_rows/treetorows/xml/DocumentPlacePassPinLaw", name := "endsLine", desc := "(CZ)Z" } : Jvm.MethodName) method_3_code (2 : Nat) (Option.some Jvm.ClassFile.FieldType.boolean)]
set_option maxRecDepth 65536 in
theorem codes_eq : words1.filter isCode = codes1 := rfl
theorem w_codes : ∀ c ∈ words1.filter isCode, c.before args0 about1 = true := by
  rw [codes_eq]
  intro c hc
  simp only [codes1, List.mem_cons, List.not_mem_nil, or_false] at hc
  rcases hc with rfl | rfl | rfl | rfl | rfl | rfl | rfl | rfl | rfl
  · exact w_c0
  · exact w_c1
  · exact w_c2
  · exact w_c3
  · exact w_c4
  · exact w_c5
  · exact w_c6
  · exact w_c7
  · exact w_c8
set_option maxRecDepth 65536 in
theorem w_t1 : (words1.take 24).all (fun c => isCode c || c.before args0 about1) = true := by decide +kernel
set_option maxRecDepth 65536 in
theorem w_t2 : (words1.drop 24).all (fun c => isCode c || c.before args0 about1) = true := by decide +kernel
theorem w_tables : (allAtoms (Jvm.Cond.code x code maxLocals ret :: tables_1)).before args0 about1 = true := by
  rw [allAtoms_all]
  show words1.all (fun c => c.before args0 about1) = true
  refine all_split ?_ w_codes
  rw [← List.take_append_drop 24 words1, List.all_append, w_t1, w_t2]
  rfl
set_option maxRecDepth 65536 in
theorem w_case : (Jvm.Cond.and given_1 narrow_1).before args0 about1 = true := by decide +kernel
theorem w_applies : (headSpec (Jvm.Cond.code x code maxLocals ret :: tables_1) room_1).applies x e0.platform about1 = true :=
  (Spec.applies_iff w_frames).mpr ⟨w_running, w_runnable, w_alone, w_named, w_hears, w_ripe, w_room, w_tables⟩
theorem atStart : AtStart classFile x code maxLocals ret World_1 tables_1 room_1 Calls_1 rest_1 Pre_1 launch0 p0 e0 about1 theMethod args0 below0 :=
  ⟨lists_1, trivial, launch0.admits_env _ _ _, launch0.least_env, fairChoices_fair.cas, fairChoices_fair.clock, w_frames, w_args, w_heap, w_applies, trivial, trivial, w_case⟩
end start1
theorem witness_1 : WitnessClaimed_1 := ⟨start1.p0, start1.e0, start1.about1, start1.theMethod, start1.args0, start1.below0, start1.atStart⟩
end Jvm.Pilot.@@N@@
