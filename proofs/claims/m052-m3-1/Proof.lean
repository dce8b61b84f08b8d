import JvmDerived
import JvmDerived.Pilot.@@N@@Statement
import JvmDerived.Pilot.@@N@@Code
set_option linter.unusedVariables false
set_option linter.unusedSimpArgs false
namespace Jvm.RoadKit
open Sem ClassFile Op Lib Jvm.Stand Jvm.Free Jvm.LawKit
section New
variable {p : Program} {l : Launch} {e : Env} {R : Room} {s : State} {m : MethodId} {args : Array Value} {below : List Frame} {meth : Method} {c : Code} {T : State} {locs : List Loc} {cells slots : Nat}
theorem retI (X : Stand p l e R s m args below meth c T locs cells slots) (hx : p.tables.exec = Jvm.exec) {pc : Nat} {Ls : Array Slot} {z : Int32} {rest : List Value} (hret : meth.sig.returnType = some .int) (hd : decode c.code pc = .ok (.ireturn, 1)) {fs : List Frame}
    (hl : ∀ (f : JFrame) (acts : List Action), f.method = m → f.locked = none → f.entered = [] → (doReturn e (T.setTop f) acts (some (.int z))).1 = T.setFrames fs) : Steps p.tables e below (T.setTop (mkF m pc Ls (.int z :: rest))) (T.setFrames fs) := by
  have hm' : T.vm.method? m = some meth := X.method'
  have hn : narrow .int (.int z) = .int z := rfl
  show Steps p.tables e below (T.setTop { method := m, pc := pc, locals := Ls, stack := _ :: rest, locked := none }) _
  jvm_step X.here [X.here.top, hx, hd, hm', hret, hn]
  first | (intro acts; rw [hl _ acts rfl rfl rfl]) | rw [hl _ _ rfl rfl rfl]
  exact Steps.refl _
abbrev jv (x : Int64) : Slot := .val (.long x)
/-- from the state st the run ends as Q says -/
def own_Go (p : Program) (e : Env) (below : List Frame) (s : State) (Q : Option Value → Heap → List Loc → Prop) (CS : Nat × Nat) (st : State) : Prop :=
  ∃ s₂ o, Steps p.tables e below st s₂ ∧ s₂.status = .running ∧ Ended s₂ below o ∧ ∃ v L, o = .returned v ∧ Q v s₂.heap L ∧ FrameEnd s o s₂ L CS.1 CS.2
variable {Q : Option Value → Heap → List Loc → Prop} {CS : Nat × Nat} {st st' : State}
theorem own_via (h : ∀ {t}, Steps p.tables e below st t → Steps p.tables e below st' t) (g : own_Go p e below s Q CS st) : own_Go p e below s Q CS st' := by
  obtain ⟨s₂, o, h1, h2⟩ := g
  exact ⟨s₂, o, h h1, h2⟩
theorem own_start {g g' : JFrame} (q : g = g') (h : own_Go p e below s Q CS (T.setTop g')) : ∃ s₂ o, Steps p.tables e below (T.setTop g) s₂ ∧ s₂.status = .running ∧ Ended s₂ below o ∧ ∃ v L, o = .returned v ∧ Q v s₂.heap L ∧ FrameEnd s o s₂ L CS.1 CS.2 := q ▸ h
theorem own_retN (X : Stand p l e R s m args below meth c T locs cells slots) (hx : p.tables.exec = Jvm.exec) (hlk : meth.locks = false) {pc : Nat} {Ls : Array Slot} {z : Int32} {t : FieldType} {rest : List Value} (hret : meth.sig.returnType = some t) (ht : t = .boolean ∨ t = .byte ∨ t = .char ∨ t = .short)
    (hd : decode c.code pc = .ok (.ireturn, 1)) (hq : Q (some (.int (nar t z))) T.heap locs) (hc : cells ≤ CS.1) (hs : slots ≤ CS.2) : own_Go p e below s Q CS (T.setTop (mkF m pc Ls (.int z :: rest))) := by
  obtain ⟨fs, hr, hrun, hended, hW, hsame⟩ := X.leave (v := some (.int (nar t z))) (fun h => by rw [hret] at h; cases h) hlk
  exact ⟨_, _, retN X hx hret ht hd hr, hrun, hended, _, _, rfl, hq, ⟨_, rfl⟩, hW, hsame.mono hc hs⟩
theorem own_retI (X : Stand p l e R s m args below meth c T locs cells slots) (hx : p.tables.exec = Jvm.exec) (hlk : meth.locks = false) {pc : Nat} {Ls : Array Slot} {z : Int32} {rest : List Value} (hret : meth.sig.returnType = some .int)
    (hd : decode c.code pc = .ok (.ireturn, 1)) (hq : Q (some (.int z)) T.heap locs) (hc : cells ≤ CS.1) (hs : slots ≤ CS.2) : own_Go p e below s Q CS (T.setTop (mkF m pc Ls (.int z :: rest))) := by
  obtain ⟨fs, hr, hrun, hended, hW, hsame⟩ := X.leave (v := some (.int z)) (fun h => by rw [hret] at h; cases h) hlk
  exact ⟨_, _, retI X hx hret hd hr, hrun, hended, _, _, rfl, hq, ⟨_, rfl⟩, hW, hsame.mono hc hs⟩
theorem own_retL (X : Stand p l e R s m args below meth c T locs cells slots) (hx : p.tables.exec = Jvm.exec) (hlk : meth.locks = false) {pc : Nat} {Ls : Array Slot} {z : Int64} (hret : meth.sig.returnType = some .long)
    (hd : decode c.code pc = .ok (.lreturn, 1)) (hq : Q (some (.long z)) T.heap locs) (hc : cells ≤ CS.1) (hs : slots ≤ CS.2) : own_Go p e below s Q CS (T.setTop (mkF m pc Ls [.long z])) := by
  obtain ⟨fs, hr, hrun, hended, hW, hsame⟩ := X.leave (v := some (.long z)) (fun h => by rw [hret] at h; cases h) hlk
  exact ⟨_, _, X.lreturnOut hx hret hd hr, hrun, hended, _, _, rfl, hq, ⟨_, rfl⟩, hW, hsame.mono hc hs⟩
theorem own_retA (X : Stand p l e R s m args below meth c T locs cells slots) (hx : p.tables.exec = Jvm.exec) (hlk : meth.locks = false) {pc : Nat} {Ls : Array Slot} {w : Value} (hw : w.isRef = true) {t : FieldType} (hret : meth.sig.returnType = some t) (ht : t.isReference = true)
    (hd : decode c.code pc = .ok (.areturn, 1)) (hq : Q (some w) T.heap locs) (hc : cells ≤ CS.1) (hs : slots ≤ CS.2) : own_Go p e below s Q CS (T.setTop (mkF m pc Ls [w])) := by
  obtain ⟨fs, hr, hrun, hended, hW, hsame⟩ := X.leave (v := some w) (fun h => by rw [hret] at h; cases h) hlk
  exact ⟨_, _, X.areturnOut hx hw hret ht hd hr, hrun, hended, _, _, rfl, hq, ⟨_, rfl⟩, hW, hsame.mono hc hs⟩
theorem own_ret0 (X : Stand p l e R s m args below meth c T locs cells slots) (hx : p.tables.exec = Jvm.exec) (hlk : meth.locks = false) {pc : Nat} {Ls : Array Slot} (hret : meth.sig.returnType = none)
    (hd : decode c.code pc = .ok (.return_, 1)) (hq : Q none T.heap locs) (hc : cells ≤ CS.1) (hs : slots ≤ CS.2) : own_Go p e below s Q CS (T.setTop (mkF m pc Ls [])) := by
  obtain ⟨fs, hr, hrun, hended, hW, hsame⟩ := X.leave (v := none) (fun _ => rfl) hlk
  exact ⟨_, _, X.returnOut hx hret hd hr, hrun, hended, _, _, rfl, hq, ⟨_, rfl⟩, hW, hsame.mono hc hs⟩
theorem own_fldI {Z : State} {h : Heap} {a : Addr} {C n d : String} {v w : Int32} (q : v = w) (F : Fld Z h a C n d (.int v)) : Fld Z h a C n d (.int w) := q ▸ F
theorem own_fldJ {Z : State} {h : Heap} {a : Addr} {C n d : String} {v w : Int64} (q : v = w) (F : Fld Z h a C n d (.long v)) : Fld Z h a C n d (.long w) := q ▸ F
theorem own_arv {Z : State} {h : Heap} {a : Addr} {k : ClassId} {ty : FieldType} {n : Int32} {vs vs' : List Value} {d : Value} (q : vs = vs') (F : Arv Z h a k ty n vs d) : Arv Z h a k ty n vs' d := q ▸ F
theorem own_fits {t : FieldType} {v w : Int32} (q : v = w) (F : fits t (.int v) = true) : fits t (.int w) = true := q ▸ F
end New
end Jvm.RoadKit
namespace Jvm.Pilot.@@N@@
open Jvm Jvm.ClassFile Sem Op Lib Jvm.Free Jvm.Stand Jvm.LawKit Jvm.RoadKit Bundle Jvm.Pilot.@@N@@.Jvm.D
theorem own_l32 {x y : Int32} : x < y ↔ x.toInt < y.toInt := Int32.lt_iff_toInt_lt
theorem own_e32 {x y : Int32} : x = y ↔ x.toInt = y.toInt := Int32.toInt_inj.symm
theorem own_l64 {x y : Int64} : x < y ↔ x.toInt < y.toInt := Int64.lt_iff_toInt_lt
theorem own_e64 {x y : Int64} : x = y ↔ x.toInt = y.toInt := Int64.toInt_inj.symm
theorem own_all8 {P : Int8 → Prop} (h : ∀ n : Fin 256, P (Int8.ofBitVec (BitVec.ofFin n))) (i : Int8) : P i := h i.toBitVec.toFin
theorem d1_0 : decode prog_49_method_10_code 0 = .ok (.iload_n 0, 1) := by decide +kernel
theorem d1_1 : decode prog_49_method_10_code 1 = .ok (.bipush 65, 2) := by decide +kernel
theorem d1_3 : decode prog_49_method_10_code 3 = .ok (.if_icmp .lt 16, 3) := by decide +kernel
theorem d1_6 : decode prog_49_method_10_code 6 = .ok (.iload_n 0, 1) := by decide +kernel
theorem d1_7 : decode prog_49_method_10_code 7 = .ok (.bipush 90, 2) := by decide +kernel
theorem d1_9 : decode prog_49_method_10_code 9 = .ok (.if_icmp .gt 10, 3) := by decide +kernel
theorem d1_12 : decode prog_49_method_10_code 12 = .ok (.iload_n 0, 1) := by decide +kernel
theorem d1_13 : decode prog_49_method_10_code 13 = .ok (.bipush 32, 2) := by decide +kernel
theorem d1_15 : decode prog_49_method_10_code 15 = .ok (.iadd, 1) := by decide +kernel
theorem d1_16 : decode prog_49_method_10_code 16 = .ok (.goto 4, 3) := by decide +kernel
theorem d1_19 : decode prog_49_method_10_code 19 = .ok (.iload_n 0, 1) := by decide +kernel
theorem d1_20 : decode prog_49_method_10_code 20 = .ok (.ireturn, 1) := by decide +kernel
theorem pn_1 : plainName "com/example/grammar_parser/grammarparser/Literal" = true := by first | (simp [plainName, overriddenIn]; done) | decide +kernel
theorem ef_1 (m : MethodId) (x0 : Int32) : entryFrame m #[(.int x0)] 1 = mkF m 0 #[iv x0] [] := by first | (simp [entryFrame, mkF, argsToLocals, Value.category]; done) | rfl
def own_f1 (p0 : Int32) : Int32 := (if p0 < (65 : Int32) then p0 else (if (90 : Int32) < p0 then p0 else (p0 + (32 : Int32))))
def Q1 (Z : State) (p0 : Int32) (h0 : Heap) (n0 : Nat) (v : Option Value) (h : Heap) (L : List Loc) : Prop := v = some (.int (own_f1 p0)) ∧ Fr n0 L ∧ h = h0
set_option maxRecDepth 65536 in
set_option maxHeartbeats 40000000 in
theorem rm1 (l : Launch) (Z : State) (aw : Array Value) (hw : ∀ d ∈ tables_1, d.before aw Z = true) (ws : List Jvm.Cond) (p0 : Int32) (h0 : Heap) (n0 : Nat) (Z0 : n0 ≤ h0.size)  :
    MetFree l (⟨"com/example/grammar_parser/grammarparser/Literal", "toLowerAscii", "(I)I"⟩ : MethodName) (head1 (Jvm.Cond.code (⟨"com/example/grammar_parser/grammarparser/Literal", "toLowerAscii", "(I)I"⟩ : MethodName) prog_49_method_10_code 1 (some .int) :: ws) ({ frames := 0, cells := 0, slots := 0, locals := 0 } : Room)) (fun a U => a = #[(.int p0)] ∧ Z.Warmed39 U.vm ∧ U.heap = h0) (fun _ _ _ _ _ => True) (fun _ U o U' => ∃ v L, o = .returned v ∧ Q1 Z p0 h0 n0 v U'.heap L ∧ FrameEnd U o U' L ({ frames := 0, cells := 0, slots := 0, locals := 0 } : Room).cells ({ frames := 0, cells := 0, slots := 0, locals := 0 } : Room).slots) := by
  refine MetFree.of_bodySF (plainFor_of_name pn_1) hisR ?_
  intro p e s m args below meth c s₁ Bd hml0 hP hK
  obtain ⟨rfl, hZ, hh⟩ := hP
  have hx := Bd.exec
  have hby := Bd.bytes
  have hml : c.maxLocals = 1 := hml0
  have hown : s.vm.findClass "com/example/grammar_parser/grammarparser/Literal" = some m.cls := findClass_of_methodNamed Bd.named
  have hnm := (name_of_methodNamed Bd.named Bd.method).1
  have hlk : meth.locks = false := by first | exact BodyLoose.notSynchronized (by assumption) | exact Body.notSynchronized (by assumption)
  have X0 : Stand p l e ({ frames := 0, cells := 0, slots := 0, locals := 0 } : Room) s m #[(.int p0)] below meth c s₁ [] 0 0 := Stand.of_body Bd
  have e0 : s₁.heap = h0 := by rw [← hh, Bd.state]; rfl
  have N0 := Fr.nil n0
  have K0 : Keep h0 h0 [] := Keep.refl _ _
  refine own_start (CS := (0, 0)) (Q := (Q1 Z p0 h0 n0)) (ef_1 m p0) ?_
  show own_Go p e below s _ _ (s₁.setTop (mkF m 0 #[iv p0] []))
  refine own_via (fun k => XS.iloadN X0.here hx rfl (hb hby d1_0) rfl  (XS.bipush X0.here hx rfl (hb hby d1_1) k)) ?_
  show own_Go p e below s _ _ (s₁.setTop (mkF m 3 #[iv p0] [(.int 65), (.int p0)]))
  by_cases hc1 : p0 < (65 : Int32)
  · refine own_via (fun k => XS.icmpYes X0.here hx rfl (pc0 := 3) (pc' := 19) rfl (hb hby d1_3) rfl (tlt hc1).1 (by decide) (by decide) k) ?_
    show own_Go p e below s _ _ (s₁.setTop (mkF m 19 #[iv p0] []))
    refine own_via (fun k => XS.iloadN X0.here hx rfl (hb hby d1_19) rfl  k) ?_
    show own_Go p e below s _ _ (s₁.setTop (mkF m 20 #[iv p0] [(.int p0)]))
    exact own_retI X0 hx hlk Bd.returns (hb hby d1_20) (Q := (Q1 Z p0 h0 n0)) ⟨(congrArg (fun z => some (Value.int z)) (show p0 = (own_f1 p0) from (by unfold own_f1; exact ((if_pos hc1).trans rfl).symm))), N0, e0⟩ (by decide) (by decide)
  · refine own_via (fun k => XS.icmpNo X0.here hx rfl (hb hby d1_3) rfl (flt hc1).1 k) ?_
    show own_Go p e below s _ _ (s₁.setTop (mkF m 6 #[iv p0] []))
    refine own_via (fun k => XS.iloadN X0.here hx rfl (hb hby d1_6) rfl  (XS.bipush X0.here hx rfl (hb hby d1_7) k)) ?_
    show own_Go p e below s _ _ (s₁.setTop (mkF m 9 #[iv p0] [(.int 90), (.int p0)]))
    by_cases hc2 : (90 : Int32) < p0
    · refine own_via (fun k => XS.icmpYes X0.here hx rfl (pc0 := 9) (pc' := 19) rfl (hb hby d1_9) rfl (tlt hc2).2.2.1 (by decide) (by decide) k) ?_
      show own_Go p e below s _ _ (s₁.setTop (mkF m 19 #[iv p0] []))
      refine own_via (fun k => XS.iloadN X0.here hx rfl (hb hby d1_19) rfl  k) ?_
      show own_Go p e below s _ _ (s₁.setTop (mkF m 20 #[iv p0] [(.int p0)]))
      exact own_retI X0 hx hlk Bd.returns (hb hby d1_20) (Q := (Q1 Z p0 h0 n0)) ⟨(congrArg (fun z => some (Value.int z)) (show p0 = (own_f1 p0) from (by unfold own_f1; exact ((if_neg hc1).trans ((if_pos hc2).trans rfl)).symm))), N0, e0⟩ (by decide) (by decide)
    · refine own_via (fun k => XS.icmpNo X0.here hx rfl (hb hby d1_9) rfl (flt hc2).2.2.1 k) ?_
      show own_Go p e below s _ _ (s₁.setTop (mkF m 12 #[iv p0] []))
      refine own_via (fun k => XS.iloadN X0.here hx rfl (hb hby d1_12) rfl  (XS.bipush X0.here hx rfl (hb hby d1_13) (XS.iadd X0.here hx rfl (hb hby d1_15) rfl (XS.goto X0.here hx rfl (pc0 := 16) (pc' := 20) rfl (hb hby d1_16) (by decide) (by decide) k)))) ?_
      show own_Go p e below s _ _ (s₁.setTop (mkF m 20 #[iv p0] [(.int (p0 + (32 : Int32)))]))
      exact own_retI X0 hx hlk Bd.returns (hb hby d1_20) (Q := (Q1 Z p0 h0 n0)) ⟨(congrArg (fun z => some (Value.int z)) (show (p0 + (32 : Int32)) = (own_f1 p0) from (by unfold own_f1; exact ((if_neg hc1).trans ((if_neg hc2).trans rfl)).symm))), N0, e0⟩ (by decide) (by decide)
theorem pn_0 : plainName "com/example/grammar_parser/grammarparser/LiteralToLowerAsciiPinLaw" = true := by first | (simp [plainName, overriddenIn]; done) | decide +kernel
theorem pd_0 : parseMethodDescriptor "(I)I" = some ⟨[.int], some .int⟩ := by decide +kernel
theorem ef_0 (m : MethodId) (x0 : Int32) (x1 : Int32) : entryFrame m #[(.int x0), (.int x1)] maxLocals = mkF m 0 #[iv x0, iv x1, .unset, .unset, .unset, .unset, .unset, .unset, .unset, .unset] [] := by first | (simp [entryFrame, mkF, argsToLocals, Value.category, maxLocals]; done) | rfl
theorem own_f1_lo {p0 : Int32} (h : p0 < 65) : own_f1 p0 = p0 := by rw [own_f1, if_pos h]
theorem own_f1_hi {p0 : Int32} (h : 90 < p0) : own_f1 p0 = p0 := by
  rw [own_f1]; split
  · rfl
  · rfl
theorem own_f1_up {p0 : Int32} (h1 : ¬ p0 < 65) (h2 : ¬ 90 < p0) : own_f1 p0 = p0 + 32 ∧ (p0 + 32).toInt = p0.toInt + 32 ∧ 65 ≤ p0.toInt ∧ p0.toInt ≤ 90 := by
  have e65 : (65 : Int32).toInt = 65 := by decide
  have e90 : (90 : Int32).toInt = 90 := by decide
  have e32 : (32 : Int32).toInt = 32 := by decide
  have a := c_iadd p0 32; have r := rng32 (p0 + 32)
  refine ⟨by rw [own_f1, if_neg h1, if_neg h2], ?_⟩
  rw [own_l32] at h1 h2; omega
theorem own_f1_id {p : Int32} (h : ¬ (65 ≤ p.toInt ∧ p.toInt ≤ 90)) : own_f1 p = p := by
  have e65 : (65 : Int32).toInt = 65 := by decide
  have e90 : (90 : Int32).toInt = 90 := by decide
  by_cases h1 : p < 65
  · exact own_f1_lo h1
  · by_cases h2 : 90 < p
    · exact own_f1_hi h2
    · rw [own_l32] at h1 h2; omega
theorem own_kk (p1 : Int32) : 0 ≤ ((p1 &&& (2147483647 : Int32)) % (26 : Int32)).toInt ∧ ((p1 &&& (2147483647 : Int32)) % (26 : Int32)).toInt < 26 := by
  have m := c_mask p1 2147483647 31 (by decide) (by decide)
  have r := (c_irem (p1 &&& (2147483647 : Int32)) 26 26 (by decide)).1 (by omega)
  omega
theorem own_lz5 (p0 : Int32) (z3 : Int32) (hz3 : z3 = (if p0 < (65 : Int32) then (0 : Int32) else (if (90 : Int32) < p0 then (0 : Int32) else (1 : Int32)))) (z5 : Int32) (hz5 : z5 = (if z3 = (0 : Int32) then (if (own_f1 p0) = p0 then (1 : Int32) else (0 : Int32)) else (if (own_f1 p0) < (97 : Int32) then (0 : Int32) else (if (122 : Int32) < (own_f1 p0) then (0 : Int32) else (if ((own_f1 p0) - p0) = (32 : Int32) then (1 : Int32) else (0 : Int32)))))) : z5 = (1 : Int32) := by
  subst hz5
  by_cases h1 : p0 < 65
  · rw [if_pos h1] at hz3; rw [if_pos hz3, if_pos (own_f1_lo h1)]
  · by_cases h2 : 90 < p0
    · rw [if_neg h1, if_pos h2] at hz3; rw [if_pos hz3, if_pos (own_f1_hi h2)]
    · rw [if_neg h1, if_neg h2] at hz3
      obtain ⟨f, g, l1, l2⟩ := own_f1_up h1 h2
      have e97 : (97 : Int32).toInt = 97 := by decide
      have e122 : (122 : Int32).toInt = 122 := by decide
      have e32 : (32 : Int32).toInt = 32 := by decide
      rw [if_neg (by rw [hz3]; decide), f, if_neg (by rw [own_l32]; omega), if_neg (by rw [own_l32]; omega), if_pos]
      have s := c_isub (p0 + 32) p0; have r := rng32 (p0 + 32 - p0); rw [own_e32]; omega
theorem own_lz9 (p0 : Int32) (z9 : Int32) (hz9 : z9 = (if (own_f1 (own_f1 p0)) = (own_f1 p0) then (1 : Int32) else (0 : Int32))) : z9 = (1 : Int32) := by
  subst hz9
  rw [if_pos]
  by_cases h1 : p0 < 65
  · rw [own_f1_lo h1, own_f1_lo h1]
  · by_cases h2 : 90 < p0
    · rw [own_f1_hi h2, own_f1_hi h2]
    · obtain ⟨f, g, l1, l2⟩ := own_f1_up h1 h2
      rw [f]; exact own_f1_id (by omega)
theorem own_lz13 (p1 : Int32) (z13 : Int32) (hz13 : z13 = (if (own_f1 ((65 : Int32) + ((p1 &&& (2147483647 : Int32)) % (26 : Int32)))) = ((97 : Int32) + ((p1 &&& (2147483647 : Int32)) % (26 : Int32))) then (1 : Int32) else (0 : Int32))) : z13 = (1 : Int32) := by
  subst hz13
  have k := own_kk p1
  generalize (p1 &&& (2147483647 : Int32)) % (26 : Int32) = q at *
  have e65 : (65 : Int32).toInt = 65 := by decide
  have e97 : (97 : Int32).toInt = 97 := by decide
  have e90 : (90 : Int32).toInt = 90 := by decide
  have a := c_iadd 65 q; have r := rng32 (65 + q); have a2 := c_iadd 97 q; have r2 := rng32 (97 + q)
  obtain ⟨f, g, l1, l2⟩ := own_f1_up (p0 := 65 + q) (by rw [own_l32]; omega) (by rw [own_l32]; omega)
  rw [if_pos]; rw [f, own_e32]; omega
theorem own_lz17 (p1 : Int32) (z17 : Int32) (hz17 : z17 = (if (own_f1 ((97 : Int32) + ((p1 &&& (2147483647 : Int32)) % (26 : Int32)))) = ((97 : Int32) + ((p1 &&& (2147483647 : Int32)) % (26 : Int32))) then (1 : Int32) else (0 : Int32))) : z17 = (1 : Int32) := by
  subst hz17
  have k := own_kk p1
  generalize (p1 &&& (2147483647 : Int32)) % (26 : Int32) = q at *
  have e97 : (97 : Int32).toInt = 97 := by decide
  have a2 := c_iadd 97 q; have r2 := rng32 (97 + q)
  rw [if_pos (own_f1_id (by omega))]
theorem own_lz23 (z23 : Int32) (hz23 : z23 = (if (own_f1 (64 : Int32)) = (64 : Int32) then (if (own_f1 (91 : Int32)) = (91 : Int32) then (1 : Int32) else (0 : Int32)) else (0 : Int32))) : z23 = (1 : Int32) := by
  subst hz23; decide
def Q0 (Z : State) (p0 : Int32) (p1 : Int32) (h0 : Heap) (n0 : Nat) (v : Option Value) (h : Heap) (L : List Loc) : Prop := v = some (.int 1) ∧ Fr n0 L
set_option maxRecDepth 65536 in
set_option maxHeartbeats 40000000 in
theorem rm0 (l : Launch) (Z : State) (aw : Array Value) (hw : ∀ d ∈ tables_1, d.before aw Z = true) (ws : List Jvm.Cond) (p0 : Int32) (p1 : Int32) (h0 : Heap) (n0 : Nat) (Z0 : n0 ≤ h0.size)  :
    MetFree l x (head1 (Jvm.Cond.code x code maxLocals ret :: ws) room_1) (fun a U => a = #[(.int p0), (.int p1)] ∧ Z.Warmed39 U.vm ∧ U.heap = h0) (fun _ _ _ _ _ => True) (fun _ U o U' => ∃ v L, o = .returned v ∧ Q0 Z p0 p1 h0 n0 v U'.heap L ∧ FrameEnd U o U' L room_1.cells room_1.slots) := by
  refine MetFree.of_bodySF (plainFor_of_name pn_0) hisR ?_
  intro p e s m args below meth c s₁ Bd hml0 hP hK
  obtain ⟨rfl, hZ, hh⟩ := hP
  have hx := Bd.exec
  have hby := Bd.bytes
  have hml : c.maxLocals = 10 := hml0
  have hown : s.vm.findClass "com/example/grammar_parser/grammarparser/LiteralToLowerAsciiPinLaw" = some m.cls := findClass_of_methodNamed Bd.named
  have hnm := (name_of_methodNamed Bd.named Bd.method).1
  have hlk : meth.locks = false := by first | exact BodyLoose.notSynchronized (by assumption) | exact Body.notSynchronized (by assumption)
  have X0 : Stand p l e room_1 s m #[(.int p0), (.int p1)] below meth c s₁ [] 0 0 := Stand.of_body Bd
  have e0 : s₁.heap = h0 := by rw [← hh, Bd.state]; rfl
  have N0 := Fr.nil n0
  refine own_start (CS := (room_1.cells, room_1.slots)) (Q := (Q0 Z p0 p1 h0 n0)) (ef_0 m p0 p1) ?_
  show own_Go p e below s _ _ (s₁.setTop (mkF m 0 #[iv p0, iv p1, .unset, .unset, .unset, .unset, .unset, .unset, .unset, .unset] []))
  refine own_via (fun k => XS.iloadN X0.here hx rfl (hb hby at_0) rfl  k) ?_
  show own_Go p e below s _ _ (s₁.setTop (mkF m 1 #[iv p0, iv p1, .unset, .unset, .unset, .unset, .unset, .unset, .unset, .unset] [(.int p0)]))
  obtain ⟨_, _, ⟨T1, L1, k1, n1⟩, -, X1, ⟨Lc1, hQ1, l1, y1, z1⟩, st1⟩ := Jvm.LawKit.callS X0 hx (y := (⟨"com/example/grammar_parser/grammarparser/Literal", "toLowerAscii", "(I)I"⟩ : MethodName)) hown (mvT hZ (hw _ (List.mem_of_getElem? (i := 0) rfl))) (mvT hZ (hw _ (List.mem_of_getElem? (i := 1) rfl))) (mvT hZ (hw _ (List.mem_of_getElem? (i := 2) rfl))) (mvT hZ (hw _ (List.mem_of_getElem? (i := 3) rfl))) (by decide) (backOf (W := 0) (rm1 l Z aw hw [] p0 h0 n0 Z0) hZ (hw _ (List.mem_of_getElem? (i := 3) rfl)) (hw _ (List.mem_of_getElem? (i := 2) rfl)) (by decide) (by decide)) (g := (mkF m 1 #[iv p0, iv p1, .unset, .unset, .unset, .unset, .unset, .unset, .unset, .unset] [(.int p0)])) rfl (by rw [hml]; rfl) (argsL := [(.int p0)]) (rest := []) (lenOf pd_0 rfl) rfl (by show 2 * 0 + _ ≤ _; exact Nat.le_of_eq rfl) (hb hby at_1) (fun _ _ => ⟨rfl, e0, (by decide : 0 + 0 ≤ _), (by decide : 0 + 0 ≤ _)⟩)
  dsimp only [Pt.U, Pt.locs, Pt.cells, Pt.slots] at X1 l1 y1 z1 st1 hQ1
  subst l1 y1 z1
  obtain ⟨rfl, N1q, eh1⟩ := hQ1
  have N2 := Fr.app N0 N1q
  refine own_via (fun k => st1 _ k) ?_
  show own_Go p e below s _ _ (T1.setTop (mkF m 4 #[iv p0, iv p1, .unset, .unset, .unset, .unset, .unset, .unset, .unset, .unset] [(.int (own_f1 p0))]))
  refine own_via (fun k => XS.istoreN X1.here hx rfl (hb hby at_4) rfl (l' := #[iv p0, iv p1, iv (own_f1 p0), .unset, .unset, .unset, .unset, .unset, .unset, .unset]) rfl (XS.iloadN X1.here hx rfl (hb hby at_5) rfl  (XS.bipush X1.here hx rfl (hb hby at_6) k))) ?_
  show own_Go p e below s _ _ (T1.setTop (mkF m 8 #[iv p0, iv p1, iv (own_f1 p0), .unset, .unset, .unset, .unset, .unset, .unset, .unset] [(.int 65), (.int p0)]))
  have J4 : ∀ (z3 : Int32), z3 = (if p0 < (65 : Int32) then (0 : Int32) else (if (90 : Int32) < p0 then (0 : Int32) else (1 : Int32))) → own_Go p e below s (Q0 Z p0 p1 h0 n0) (room_1.cells, room_1.slots) (T1.setTop (mkF m 22 #[iv p0, iv p1, iv (own_f1 p0), .unset, .unset, .unset, .unset, .unset, .unset, .unset] [(.int z3)])) := by
    intro z3 hz3
    refine own_via (fun k => XS.istoreN X1.here hx rfl (hb hby at_22) rfl (l' := #[iv p0, iv p1, iv (own_f1 p0), iv z3, .unset, .unset, .unset, .unset, .unset, .unset]) rfl (XS.iloadN X1.here hx rfl (hb hby at_23) rfl  k)) ?_
    show own_Go p e below s _ _ (T1.setTop (mkF m 24 #[iv p0, iv p1, iv (own_f1 p0), iv z3, .unset, .unset, .unset, .unset, .unset, .unset] [(.int z3)]))
    have J6 : ∀ (z5 : Int32), z5 = (if z3 = (0 : Int32) then (if (own_f1 p0) = p0 then (1 : Int32) else (0 : Int32)) else (if (own_f1 p0) < (97 : Int32) then (0 : Int32) else (if (122 : Int32) < (own_f1 p0) then (0 : Int32) else (if ((own_f1 p0) - p0) = (32 : Int32) then (1 : Int32) else (0 : Int32))))) → own_Go p e below s (Q0 Z p0 p1 h0 n0) (room_1.cells, room_1.slots) (T1.setTop (mkF m 65 #[iv p0, iv p1, iv (own_f1 p0), iv z3, .unset, .unset, .unset, .unset, .unset, .unset] [(.int z5)])) := by
      intro z5 hz5
      have hxz5 : z5 = (1 : Int32) := (own_lz5 p0 z3 hz3 z5 hz5)
      clear hz5
      subst hxz5
      show own_Go p e below s _ _ (T1.setTop (mkF m 65 #[iv p0, iv p1, iv (own_f1 p0), iv z3, .unset, .unset, .unset, .unset, .unset, .unset] [(.int 1)]))
      refine own_via (fun k => XS.istore X1.here hx rfl (hb hby at_65) rfl (l' := #[iv p0, iv p1, iv (own_f1 p0), iv z3, iv 1, .unset, .unset, .unset, .unset, .unset]) rfl (XS.iloadN X1.here hx rfl (hb hby at_67) rfl  k)) ?_
      show own_Go p e below s _ _ (T1.setTop (mkF m 68 #[iv p0, iv p1, iv (own_f1 p0), iv z3, iv 1, .unset, .unset, .unset, .unset, .unset] [(.int (own_f1 p0))]))
      obtain ⟨_, _, ⟨T7, L7, k7, n7⟩, -, X7, ⟨Lc7, hQ7, l7, y7, z7⟩, st7⟩ := Jvm.LawKit.callS X1 hx (y := (⟨"com/example/grammar_parser/grammarparser/Literal", "toLowerAscii", "(I)I"⟩ : MethodName)) hown (mvT hZ (hw _ (List.mem_of_getElem? (i := 0) rfl))) (mvT hZ (hw _ (List.mem_of_getElem? (i := 1) rfl))) (mvT hZ (hw _ (List.mem_of_getElem? (i := 2) rfl))) (mvT hZ (hw _ (List.mem_of_getElem? (i := 3) rfl))) (by decide) (backOf (W := 0) (rm1 l Z aw hw [] (own_f1 p0) h0 n0 Z0) hZ (hw _ (List.mem_of_getElem? (i := 3) rfl)) (hw _ (List.mem_of_getElem? (i := 2) rfl)) (by decide) (by decide)) (g := (mkF m 68 #[iv p0, iv p1, iv (own_f1 p0), iv z3, iv 1, .unset, .unset, .unset, .unset, .unset] [(.int (own_f1 p0))])) rfl (by rw [hml]; rfl) (argsL := [(.int (own_f1 p0))]) (rest := []) (lenOf pd_0 rfl) rfl (by show 2 * 0 + _ ≤ _; exact Nat.le_of_eq rfl) (hb hby at_68) (fun _ _ => ⟨rfl, eh1, (by decide : 0 + 0 ≤ _), (by decide : 0 + 0 ≤ _)⟩)
      dsimp only [Pt.U, Pt.locs, Pt.cells, Pt.slots] at X7 l7 y7 z7 st7 hQ7
      subst l7 y7 z7
      obtain ⟨rfl, N7q, eh7⟩ := hQ7
      have N8 := Fr.app N2 N7q
      refine own_via (fun k => st7 _ k) ?_
      show own_Go p e below s _ _ (T7.setTop (mkF m 71 #[iv p0, iv p1, iv (own_f1 p0), iv z3, iv 1, .unset, .unset, .unset, .unset, .unset] [(.int (own_f1 (own_f1 p0)))]))
      refine own_via (fun k => XS.iloadN X7.here hx rfl (hb hby at_71) rfl  k) ?_
      show own_Go p e below s _ _ (T7.setTop (mkF m 72 #[iv p0, iv p1, iv (own_f1 p0), iv z3, iv 1, .unset, .unset, .unset, .unset, .unset] [(.int (own_f1 p0)), (.int (own_f1 (own_f1 p0)))]))
      have J10 : ∀ (z9 : Int32), z9 = (if (own_f1 (own_f1 p0)) = (own_f1 p0) then (1 : Int32) else (0 : Int32)) → own_Go p e below s (Q0 Z p0 p1 h0 n0) (room_1.cells, room_1.slots) (T7.setTop (mkF m 80 #[iv p0, iv p1, iv (own_f1 p0), iv z3, iv 1, .unset, .unset, .unset, .unset, .unset] [(.int z9)])) := by
        intro z9 hz9
        have hxz9 : z9 = (1 : Int32) := (own_lz9 p0 z9 hz9)
        clear hz9
        subst hxz9
        show own_Go p e below s _ _ (T7.setTop (mkF m 80 #[iv p0, iv p1, iv (own_f1 p0), iv z3, iv 1, .unset, .unset, .unset, .unset, .unset] [(.int 1)]))
        refine own_via (fun k => XS.istore X7.here hx rfl (hb hby at_80) rfl (l' := #[iv p0, iv p1, iv (own_f1 p0), iv z3, iv 1, iv 1, .unset, .unset, .unset, .unset]) rfl (XS.iloadN X7.here hx rfl (hb hby at_82) rfl  (X7.ldcInt hx hown (mvT hZ (hw _ (List.mem_of_getElem? (i := 4) rfl))) (g := (mkF m 83 #[iv p0, iv p1, iv (own_f1 p0), iv z3, iv 1, iv 1, .unset, .unset, .unset, .unset] [(.int p1)])) rfl (hb hby at_83) _ (XS.iand X7.here hx rfl (hb hby at_85) rfl k)))) ?_
        show own_Go p e below s _ _ (T7.setTop (mkF m 86 #[iv p0, iv p1, iv (own_f1 p0), iv z3, iv 1, iv 1, .unset, .unset, .unset, .unset] [(.int (p1 &&& (2147483647 : Int32)))]))
        refine own_via (fun k => XS.bipush X7.here hx rfl (hb hby at_86) (Jvm.RoadKit.iremM X7 hx rfl (hb hby at_88) rfl (by decide) (XS.istore X7.here hx rfl (hb hby at_89) rfl (l' := #[iv p0, iv p1, iv (own_f1 p0), iv z3, iv 1, iv 1, iv ((p1 &&& (2147483647 : Int32)) % (26 : Int32)), .unset, .unset, .unset]) rfl (XS.bipush X7.here hx rfl (hb hby at_91) k)))) ?_
        show own_Go p e below s _ _ (T7.setTop (mkF m 93 #[iv p0, iv p1, iv (own_f1 p0), iv z3, iv 1, iv 1, iv ((p1 &&& (2147483647 : Int32)) % (26 : Int32)), .unset, .unset, .unset] [(.int 65)]))
        refine own_via (fun k => XS.iload X7.here hx rfl (hb hby at_93) rfl  (XS.iadd X7.here hx rfl (hb hby at_95) rfl k)) ?_
        show own_Go p e below s _ _ (T7.setTop (mkF m 96 #[iv p0, iv p1, iv (own_f1 p0), iv z3, iv 1, iv 1, iv ((p1 &&& (2147483647 : Int32)) % (26 : Int32)), .unset, .unset, .unset] [(.int ((65 : Int32) + ((p1 &&& (2147483647 : Int32)) % (26 : Int32))))]))
        obtain ⟨_, _, ⟨T11, L11, k11, n11⟩, -, X11, ⟨Lc11, hQ11, l11, y11, z11⟩, st11⟩ := Jvm.LawKit.callS X7 hx (y := (⟨"com/example/grammar_parser/grammarparser/Literal", "toLowerAscii", "(I)I"⟩ : MethodName)) hown (mvT hZ (hw _ (List.mem_of_getElem? (i := 0) rfl))) (mvT hZ (hw _ (List.mem_of_getElem? (i := 1) rfl))) (mvT hZ (hw _ (List.mem_of_getElem? (i := 2) rfl))) (mvT hZ (hw _ (List.mem_of_getElem? (i := 3) rfl))) (by decide) (backOf (W := 0) (rm1 l Z aw hw [] ((65 : Int32) + ((p1 &&& (2147483647 : Int32)) % (26 : Int32))) h0 n0 Z0) hZ (hw _ (List.mem_of_getElem? (i := 3) rfl)) (hw _ (List.mem_of_getElem? (i := 2) rfl)) (by decide) (by decide)) (g := (mkF m 96 #[iv p0, iv p1, iv (own_f1 p0), iv z3, iv 1, iv 1, iv ((p1 &&& (2147483647 : Int32)) % (26 : Int32)), .unset, .unset, .unset] [(.int ((65 : Int32) + ((p1 &&& (2147483647 : Int32)) % (26 : Int32))))])) rfl (by rw [hml]; rfl) (argsL := [(.int ((65 : Int32) + ((p1 &&& (2147483647 : Int32)) % (26 : Int32))))]) (rest := []) (lenOf pd_0 rfl) rfl (by show 2 * 0 + _ ≤ _; exact Nat.le_of_eq rfl) (hb hby at_96) (fun _ _ => ⟨rfl, eh7, (by decide : 0 + 0 ≤ _), (by decide : 0 + 0 ≤ _)⟩)
        dsimp only [Pt.U, Pt.locs, Pt.cells, Pt.slots] at X11 l11 y11 z11 st11 hQ11
        subst l11 y11 z11
        obtain ⟨rfl, N11q, eh11⟩ := hQ11
        have N12 := Fr.app N8 N11q
        refine own_via (fun k => st11 _ k) ?_
        show own_Go p e below s _ _ (T11.setTop (mkF m 99 #[iv p0, iv p1, iv (own_f1 p0), iv z3, iv 1, iv 1, iv ((p1 &&& (2147483647 : Int32)) % (26 : Int32)), .unset, .unset, .unset] [(.int (own_f1 ((65 : Int32) + ((p1 &&& (2147483647 : Int32)) % (26 : Int32)))))]))
        refine own_via (fun k => XS.bipush X11.here hx rfl (hb hby at_99) (XS.iload X11.here hx rfl (hb hby at_101) rfl  (XS.iadd X11.here hx rfl (hb hby at_103) rfl k))) ?_
        show own_Go p e below s _ _ (T11.setTop (mkF m 104 #[iv p0, iv p1, iv (own_f1 p0), iv z3, iv 1, iv 1, iv ((p1 &&& (2147483647 : Int32)) % (26 : Int32)), .unset, .unset, .unset] [(.int ((97 : Int32) + ((p1 &&& (2147483647 : Int32)) % (26 : Int32)))), (.int (own_f1 ((65 : Int32) + ((p1 &&& (2147483647 : Int32)) % (26 : Int32)))))]))
        have J14 : ∀ (z13 : Int32), z13 = (if (own_f1 ((65 : Int32) + ((p1 &&& (2147483647 : Int32)) % (26 : Int32)))) = ((97 : Int32) + ((p1 &&& (2147483647 : Int32)) % (26 : Int32))) then (1 : Int32) else (0 : Int32)) → own_Go p e below s (Q0 Z p0 p1 h0 n0) (room_1.cells, room_1.slots) (T11.setTop (mkF m 112 #[iv p0, iv p1, iv (own_f1 p0), iv z3, iv 1, iv 1, iv ((p1 &&& (2147483647 : Int32)) % (26 : Int32)), .unset, .unset, .unset] [(.int z13)])) := by
          intro z13 hz13
          have hxz13 : z13 = (1 : Int32) := (own_lz13 p1 z13 hz13)
          clear hz13
          subst hxz13
          show own_Go p e below s _ _ (T11.setTop (mkF m 112 #[iv p0, iv p1, iv (own_f1 p0), iv z3, iv 1, iv 1, iv ((p1 &&& (2147483647 : Int32)) % (26 : Int32)), .unset, .unset, .unset] [(.int 1)]))
          refine own_via (fun k => XS.istore X11.here hx rfl (hb hby at_112) rfl (l' := #[iv p0, iv p1, iv (own_f1 p0), iv z3, iv 1, iv 1, iv ((p1 &&& (2147483647 : Int32)) % (26 : Int32)), iv 1, .unset, .unset]) rfl (XS.bipush X11.here hx rfl (hb hby at_114) (XS.iload X11.here hx rfl (hb hby at_116) rfl  (XS.iadd X11.here hx rfl (hb hby at_118) rfl k)))) ?_
          show own_Go p e below s _ _ (T11.setTop (mkF m 119 #[iv p0, iv p1, iv (own_f1 p0), iv z3, iv 1, iv 1, iv ((p1 &&& (2147483647 : Int32)) % (26 : Int32)), iv 1, .unset, .unset] [(.int ((97 : Int32) + ((p1 &&& (2147483647 : Int32)) % (26 : Int32))))]))
          obtain ⟨_, _, ⟨T15, L15, k15, n15⟩, -, X15, ⟨Lc15, hQ15, l15, y15, z15⟩, st15⟩ := Jvm.LawKit.callS X11 hx (y := (⟨"com/example/grammar_parser/grammarparser/Literal", "toLowerAscii", "(I)I"⟩ : MethodName)) hown (mvT hZ (hw _ (List.mem_of_getElem? (i := 0) rfl))) (mvT hZ (hw _ (List.mem_of_getElem? (i := 1) rfl))) (mvT hZ (hw _ (List.mem_of_getElem? (i := 2) rfl))) (mvT hZ (hw _ (List.mem_of_getElem? (i := 3) rfl))) (by decide) (backOf (W := 0) (rm1 l Z aw hw [] ((97 : Int32) + ((p1 &&& (2147483647 : Int32)) % (26 : Int32))) h0 n0 Z0) hZ (hw _ (List.mem_of_getElem? (i := 3) rfl)) (hw _ (List.mem_of_getElem? (i := 2) rfl)) (by decide) (by decide)) (g := (mkF m 119 #[iv p0, iv p1, iv (own_f1 p0), iv z3, iv 1, iv 1, iv ((p1 &&& (2147483647 : Int32)) % (26 : Int32)), iv 1, .unset, .unset] [(.int ((97 : Int32) + ((p1 &&& (2147483647 : Int32)) % (26 : Int32))))])) rfl (by rw [hml]; rfl) (argsL := [(.int ((97 : Int32) + ((p1 &&& (2147483647 : Int32)) % (26 : Int32))))]) (rest := []) (lenOf pd_0 rfl) rfl (by show 2 * 0 + _ ≤ _; exact Nat.le_of_eq rfl) (hb hby at_119) (fun _ _ => ⟨rfl, eh11, (by decide : 0 + 0 ≤ _), (by decide : 0 + 0 ≤ _)⟩)
          dsimp only [Pt.U, Pt.locs, Pt.cells, Pt.slots] at X15 l15 y15 z15 st15 hQ15
          subst l15 y15 z15
          obtain ⟨rfl, N15q, eh15⟩ := hQ15
          have N16 := Fr.app N12 N15q
          refine own_via (fun k => st15 _ k) ?_
          show own_Go p e below s _ _ (T15.setTop (mkF m 122 #[iv p0, iv p1, iv (own_f1 p0), iv z3, iv 1, iv 1, iv ((p1 &&& (2147483647 : Int32)) % (26 : Int32)), iv 1, .unset, .unset] [(.int (own_f1 ((97 : Int32) + ((p1 &&& (2147483647 : Int32)) % (26 : Int32)))))]))
          refine own_via (fun k => XS.bipush X15.here hx rfl (hb hby at_122) (XS.iload X15.here hx rfl (hb hby at_124) rfl  (XS.iadd X15.here hx rfl (hb hby at_126) rfl k))) ?_
          show own_Go p e below s _ _ (T15.setTop (mkF m 127 #[iv p0, iv p1, iv (own_f1 p0), iv z3, iv 1, iv 1, iv ((p1 &&& (2147483647 : Int32)) % (26 : Int32)), iv 1, .unset, .unset] [(.int ((97 : Int32) + ((p1 &&& (2147483647 : Int32)) % (26 : Int32)))), (.int (own_f1 ((97 : Int32) + ((p1 &&& (2147483647 : Int32)) % (26 : Int32)))))]))
          have J18 : ∀ (z17 : Int32), z17 = (if (own_f1 ((97 : Int32) + ((p1 &&& (2147483647 : Int32)) % (26 : Int32)))) = ((97 : Int32) + ((p1 &&& (2147483647 : Int32)) % (26 : Int32))) then (1 : Int32) else (0 : Int32)) → own_Go p e below s (Q0 Z p0 p1 h0 n0) (room_1.cells, room_1.slots) (T15.setTop (mkF m 135 #[iv p0, iv p1, iv (own_f1 p0), iv z3, iv 1, iv 1, iv ((p1 &&& (2147483647 : Int32)) % (26 : Int32)), iv 1, .unset, .unset] [(.int z17)])) := by
            intro z17 hz17
            have hxz17 : z17 = (1 : Int32) := (own_lz17 p1 z17 hz17)
            clear hz17
            subst hxz17
            show own_Go p e below s _ _ (T15.setTop (mkF m 135 #[iv p0, iv p1, iv (own_f1 p0), iv z3, iv 1, iv 1, iv ((p1 &&& (2147483647 : Int32)) % (26 : Int32)), iv 1, .unset, .unset] [(.int 1)]))
            refine own_via (fun k => XS.istore X15.here hx rfl (hb hby at_135) rfl (l' := #[iv p0, iv p1, iv (own_f1 p0), iv z3, iv 1, iv 1, iv ((p1 &&& (2147483647 : Int32)) % (26 : Int32)), iv 1, iv 1, .unset]) rfl (XS.bipush X15.here hx rfl (hb hby at_137) k)) ?_
            show own_Go p e below s _ _ (T15.setTop (mkF m 139 #[iv p0, iv p1, iv (own_f1 p0), iv z3, iv 1, iv 1, iv ((p1 &&& (2147483647 : Int32)) % (26 : Int32)), iv 1, iv 1, .unset] [(.int 64)]))
            obtain ⟨_, _, ⟨T19, L19, k19, n19⟩, -, X19, ⟨Lc19, hQ19, l19, y19, z19⟩, st19⟩ := Jvm.LawKit.callS X15 hx (y := (⟨"com/example/grammar_parser/grammarparser/Literal", "toLowerAscii", "(I)I"⟩ : MethodName)) hown (mvT hZ (hw _ (List.mem_of_getElem? (i := 0) rfl))) (mvT hZ (hw _ (List.mem_of_getElem? (i := 1) rfl))) (mvT hZ (hw _ (List.mem_of_getElem? (i := 2) rfl))) (mvT hZ (hw _ (List.mem_of_getElem? (i := 3) rfl))) (by decide) (backOf (W := 0) (rm1 l Z aw hw [] (64 : Int32) h0 n0 Z0) hZ (hw _ (List.mem_of_getElem? (i := 3) rfl)) (hw _ (List.mem_of_getElem? (i := 2) rfl)) (by decide) (by decide)) (g := (mkF m 139 #[iv p0, iv p1, iv (own_f1 p0), iv z3, iv 1, iv 1, iv ((p1 &&& (2147483647 : Int32)) % (26 : Int32)), iv 1, iv 1, .unset] [(.int 64)])) rfl (by rw [hml]; rfl) (argsL := [(.int 64)]) (rest := []) (lenOf pd_0 rfl) rfl (by show 2 * 0 + _ ≤ _; exact Nat.le_of_eq rfl) (hb hby at_139) (fun _ _ => ⟨rfl, eh15, (by decide : 0 + 0 ≤ _), (by decide : 0 + 0 ≤ _)⟩)
            dsimp only [Pt.U, Pt.locs, Pt.cells, Pt.slots] at X19 l19 y19 z19 st19 hQ19
            subst l19 y19 z19
            obtain ⟨rfl, N19q, eh19⟩ := hQ19
            have N20 := Fr.app N16 N19q
            refine own_via (fun k => st19 _ k) ?_
            show own_Go p e below s _ _ (T19.setTop (mkF m 142 #[iv p0, iv p1, iv (own_f1 p0), iv z3, iv 1, iv 1, iv ((p1 &&& (2147483647 : Int32)) % (26 : Int32)), iv 1, iv 1, .unset] [(.int (own_f1 (64 : Int32)))]))
            refine own_via (fun k => XS.bipush X19.here hx rfl (hb hby at_142) k) ?_
            show own_Go p e below s _ _ (T19.setTop (mkF m 144 #[iv p0, iv p1, iv (own_f1 p0), iv z3, iv 1, iv 1, iv ((p1 &&& (2147483647 : Int32)) % (26 : Int32)), iv 1, iv 1, .unset] [(.int 64), (.int (own_f1 (64 : Int32)))]))
            have J24 : ∀ (T24 : State) (lo24 : List Loc), Stand p l e room_1 s m #[(.int p0), (.int p1)] below meth c T24 lo24 0 0 → Fr n0 lo24 → T24.heap = h0 → ∀ (z23 : Int32), z23 = (if (own_f1 (64 : Int32)) = (64 : Int32) then (if (own_f1 (91 : Int32)) = (91 : Int32) then (1 : Int32) else (0 : Int32)) else (0 : Int32)) → own_Go p e below s (Q0 Z p0 p1 h0 n0) (room_1.cells, room_1.slots) (T24.setTop (mkF m 162 #[iv p0, iv p1, iv (own_f1 p0), iv z3, iv 1, iv 1, iv ((p1 &&& (2147483647 : Int32)) % (26 : Int32)), iv 1, iv 1, .unset] [(.int z23)])) := by
              intro T24 lo24 X24 N24 e24 z23 hz23
              have hxz23 : z23 = (1 : Int32) := (own_lz23 z23 hz23)
              clear hz23
              subst hxz23
              show own_Go p e below s _ _ (T24.setTop (mkF m 162 #[iv p0, iv p1, iv (own_f1 p0), iv z3, iv 1, iv 1, iv ((p1 &&& (2147483647 : Int32)) % (26 : Int32)), iv 1, iv 1, .unset] [(.int 1)]))
              refine own_via (fun k => XS.istore X24.here hx rfl (hb hby at_162) rfl (l' := #[iv p0, iv p1, iv (own_f1 p0), iv z3, iv 1, iv 1, iv ((p1 &&& (2147483647 : Int32)) % (26 : Int32)), iv 1, iv 1, iv 1]) rfl (XS.iload X24.here hx rfl (hb hby at_164) rfl  k)) ?_
              show own_Go p e below s _ _ (T24.setTop (mkF m 166 #[iv p0, iv p1, iv (own_f1 p0), iv z3, iv 1, iv 1, iv ((p1 &&& (2147483647 : Int32)) % (26 : Int32)), iv 1, iv 1, iv 1] [(.int 1)]))
              refine own_via (fun k => XS.ifNo X24.here hx rfl (hb hby at_166) rfl (by decide) k) ?_
              show own_Go p e below s _ _ (T24.setTop (mkF m 169 #[iv p0, iv p1, iv (own_f1 p0), iv z3, iv 1, iv 1, iv ((p1 &&& (2147483647 : Int32)) % (26 : Int32)), iv 1, iv 1, iv 1] []))
              refine own_via (fun k => XS.iload X24.here hx rfl (hb hby at_169) rfl  k) ?_
              show own_Go p e below s _ _ (T24.setTop (mkF m 171 #[iv p0, iv p1, iv (own_f1 p0), iv z3, iv 1, iv 1, iv ((p1 &&& (2147483647 : Int32)) % (26 : Int32)), iv 1, iv 1, iv 1] [(.int 1)]))
              refine own_via (fun k => XS.ifNo X24.here hx rfl (hb hby at_171) rfl (by decide) k) ?_
              show own_Go p e below s _ _ (T24.setTop (mkF m 174 #[iv p0, iv p1, iv (own_f1 p0), iv z3, iv 1, iv 1, iv ((p1 &&& (2147483647 : Int32)) % (26 : Int32)), iv 1, iv 1, iv 1] []))
              refine own_via (fun k => XS.iload X24.here hx rfl (hb hby at_174) rfl  k) ?_
              show own_Go p e below s _ _ (T24.setTop (mkF m 176 #[iv p0, iv p1, iv (own_f1 p0), iv z3, iv 1, iv 1, iv ((p1 &&& (2147483647 : Int32)) % (26 : Int32)), iv 1, iv 1, iv 1] [(.int 1)]))
              refine own_via (fun k => XS.ifNo X24.here hx rfl (hb hby at_176) rfl (by decide) k) ?_
              show own_Go p e below s _ _ (T24.setTop (mkF m 179 #[iv p0, iv p1, iv (own_f1 p0), iv z3, iv 1, iv 1, iv ((p1 &&& (2147483647 : Int32)) % (26 : Int32)), iv 1, iv 1, iv 1] []))
              refine own_via (fun k => XS.iload X24.here hx rfl (hb hby at_179) rfl  k) ?_
              show own_Go p e below s _ _ (T24.setTop (mkF m 181 #[iv p0, iv p1, iv (own_f1 p0), iv z3, iv 1, iv 1, iv ((p1 &&& (2147483647 : Int32)) % (26 : Int32)), iv 1, iv 1, iv 1] [(.int 1)]))
              refine own_via (fun k => XS.ifNo X24.here hx rfl (hb hby at_181) rfl (by decide) k) ?_
              show own_Go p e below s _ _ (T24.setTop (mkF m 184 #[iv p0, iv p1, iv (own_f1 p0), iv z3, iv 1, iv 1, iv ((p1 &&& (2147483647 : Int32)) % (26 : Int32)), iv 1, iv 1, iv 1] []))
              refine own_via (fun k => XS.iload X24.here hx rfl (hb hby at_184) rfl  k) ?_
              show own_Go p e below s _ _ (T24.setTop (mkF m 186 #[iv p0, iv p1, iv (own_f1 p0), iv z3, iv 1, iv 1, iv ((p1 &&& (2147483647 : Int32)) % (26 : Int32)), iv 1, iv 1, iv 1] [(.int 1)]))
              refine own_via (fun k => XS.ifNo X24.here hx rfl (hb hby at_186) rfl (by decide) k) ?_
              show own_Go p e below s _ _ (T24.setTop (mkF m 189 #[iv p0, iv p1, iv (own_f1 p0), iv z3, iv 1, iv 1, iv ((p1 &&& (2147483647 : Int32)) % (26 : Int32)), iv 1, iv 1, iv 1] []))
              refine own_via (fun k => XS.iconst X24.here hx rfl (hb hby at_189) (XS.goto X24.here hx rfl (pc0 := 190) (pc' := 194) rfl (hb hby at_190) (by decide) (by decide) k)) ?_
              show own_Go p e below s _ _ (T24.setTop (mkF m 194 #[iv p0, iv p1, iv (own_f1 p0), iv z3, iv 1, iv 1, iv ((p1 &&& (2147483647 : Int32)) % (26 : Int32)), iv 1, iv 1, iv 1] [(.int 1)]))
              exact own_retN X24 hx hlk (t := .boolean) Bd.returns (by simp) (hb hby at_194) (Q := (Q0 Z p0 p1 h0 n0)) ⟨rfl, N24⟩ (by decide) (by decide)
            by_cases hc25 : (own_f1 (64 : Int32)) = (64 : Int32)
            · refine own_via (fun k => XS.icmpNo X19.here hx rfl (hb hby at_144) rfl (teq hc25).2 k) ?_
              show own_Go p e below s _ _ (T19.setTop (mkF m 147 #[iv p0, iv p1, iv (own_f1 p0), iv z3, iv 1, iv 1, iv ((p1 &&& (2147483647 : Int32)) % (26 : Int32)), iv 1, iv 1, .unset] []))
              refine own_via (fun k => XS.bipush X19.here hx rfl (hb hby at_147) k) ?_
              show own_Go p e below s _ _ (T19.setTop (mkF m 149 #[iv p0, iv p1, iv (own_f1 p0), iv z3, iv 1, iv 1, iv ((p1 &&& (2147483647 : Int32)) % (26 : Int32)), iv 1, iv 1, .unset] [(.int 91)]))
              obtain ⟨_, _, ⟨T26, L26, k26, n26⟩, -, X26, ⟨Lc26, hQ26, l26, y26, z26⟩, st26⟩ := Jvm.LawKit.callS X19 hx (y := (⟨"com/example/grammar_parser/grammarparser/Literal", "toLowerAscii", "(I)I"⟩ : MethodName)) hown (mvT hZ (hw _ (List.mem_of_getElem? (i := 0) rfl))) (mvT hZ (hw _ (List.mem_of_getElem? (i := 1) rfl))) (mvT hZ (hw _ (List.mem_of_getElem? (i := 2) rfl))) (mvT hZ (hw _ (List.mem_of_getElem? (i := 3) rfl))) (by decide) (backOf (W := 0) (rm1 l Z aw hw [] (91 : Int32) h0 n0 Z0) hZ (hw _ (List.mem_of_getElem? (i := 3) rfl)) (hw _ (List.mem_of_getElem? (i := 2) rfl)) (by decide) (by decide)) (g := (mkF m 149 #[iv p0, iv p1, iv (own_f1 p0), iv z3, iv 1, iv 1, iv ((p1 &&& (2147483647 : Int32)) % (26 : Int32)), iv 1, iv 1, .unset] [(.int 91)])) rfl (by rw [hml]; rfl) (argsL := [(.int 91)]) (rest := []) (lenOf pd_0 rfl) rfl (by show 2 * 0 + _ ≤ _; exact Nat.le_of_eq rfl) (hb hby at_149) (fun _ _ => ⟨rfl, eh19, (by decide : 0 + 0 ≤ _), (by decide : 0 + 0 ≤ _)⟩)
              dsimp only [Pt.U, Pt.locs, Pt.cells, Pt.slots] at X26 l26 y26 z26 st26 hQ26
              subst l26 y26 z26
              obtain ⟨rfl, N26q, eh26⟩ := hQ26
              have N27 := Fr.app N20 N26q
              refine own_via (fun k => st26 _ k) ?_
              show own_Go p e below s _ _ (T26.setTop (mkF m 152 #[iv p0, iv p1, iv (own_f1 p0), iv z3, iv 1, iv 1, iv ((p1 &&& (2147483647 : Int32)) % (26 : Int32)), iv 1, iv 1, .unset] [(.int (own_f1 (91 : Int32)))]))
              refine own_via (fun k => XS.bipush X26.here hx rfl (hb hby at_152) k) ?_
              show own_Go p e below s _ _ (T26.setTop (mkF m 154 #[iv p0, iv p1, iv (own_f1 p0), iv z3, iv 1, iv 1, iv ((p1 &&& (2147483647 : Int32)) % (26 : Int32)), iv 1, iv 1, .unset] [(.int 91), (.int (own_f1 (91 : Int32)))]))
              by_cases hc28 : (own_f1 (91 : Int32)) = (91 : Int32)
              · refine own_via (fun k => XS.icmpNo X26.here hx rfl (hb hby at_154) rfl (teq hc28).2 k) ?_
                show own_Go p e below s _ _ (T26.setTop (mkF m 157 #[iv p0, iv p1, iv (own_f1 p0), iv z3, iv 1, iv 1, iv ((p1 &&& (2147483647 : Int32)) % (26 : Int32)), iv 1, iv 1, .unset] []))
                refine own_via (fun k => XS.iconst X26.here hx rfl (hb hby at_157) (XS.goto X26.here hx rfl (pc0 := 158) (pc' := 162) rfl (hb hby at_158) (by decide) (by decide) k)) ?_
                show own_Go p e below s _ _ (T26.setTop (mkF m 162 #[iv p0, iv p1, iv (own_f1 p0), iv z3, iv 1, iv 1, iv ((p1 &&& (2147483647 : Int32)) % (26 : Int32)), iv 1, iv 1, .unset] [(.int 1)]))
                exact J24 _ _ X26 N27 eh26 (1 : Int32) (((if_pos hc25).trans ((if_pos hc28).trans rfl))).symm
              · refine own_via (fun k => XS.icmpYes X26.here hx rfl (pc0 := 154) (pc' := 161) rfl (hb hby at_154) rfl (feq hc28).2 (by decide) (by decide) k) ?_
                show own_Go p e below s _ _ (T26.setTop (mkF m 161 #[iv p0, iv p1, iv (own_f1 p0), iv z3, iv 1, iv 1, iv ((p1 &&& (2147483647 : Int32)) % (26 : Int32)), iv 1, iv 1, .unset] []))
                refine own_via (fun k => XS.iconst X26.here hx rfl (hb hby at_161) k) ?_
                show own_Go p e below s _ _ (T26.setTop (mkF m 162 #[iv p0, iv p1, iv (own_f1 p0), iv z3, iv 1, iv 1, iv ((p1 &&& (2147483647 : Int32)) % (26 : Int32)), iv 1, iv 1, .unset] [(.int 0)]))
                exact J24 _ _ X26 N27 eh26 (0 : Int32) (((if_pos hc25).trans ((if_neg hc28).trans rfl))).symm
            · refine own_via (fun k => XS.icmpYes X19.here hx rfl (pc0 := 144) (pc' := 161) rfl (hb hby at_144) rfl (feq hc25).2 (by decide) (by decide) k) ?_
              show own_Go p e below s _ _ (T19.setTop (mkF m 161 #[iv p0, iv p1, iv (own_f1 p0), iv z3, iv 1, iv 1, iv ((p1 &&& (2147483647 : Int32)) % (26 : Int32)), iv 1, iv 1, .unset] []))
              refine own_via (fun k => XS.iconst X19.here hx rfl (hb hby at_161) k) ?_
              show own_Go p e below s _ _ (T19.setTop (mkF m 162 #[iv p0, iv p1, iv (own_f1 p0), iv z3, iv 1, iv 1, iv ((p1 &&& (2147483647 : Int32)) % (26 : Int32)), iv 1, iv 1, .unset] [(.int 0)]))
              exact J24 _ _ X19 N20 eh19 (0 : Int32) (((if_neg hc25).trans rfl)).symm
          by_cases hc29 : (own_f1 ((97 : Int32) + ((p1 &&& (2147483647 : Int32)) % (26 : Int32)))) = ((97 : Int32) + ((p1 &&& (2147483647 : Int32)) % (26 : Int32)))
          · refine own_via (fun k => XS.icmpNo X15.here hx rfl (hb hby at_127) rfl (teq hc29).2 k) ?_
            show own_Go p e below s _ _ (T15.setTop (mkF m 130 #[iv p0, iv p1, iv (own_f1 p0), iv z3, iv 1, iv 1, iv ((p1 &&& (2147483647 : Int32)) % (26 : Int32)), iv 1, .unset, .unset] []))
            refine own_via (fun k => XS.iconst X15.here hx rfl (hb hby at_130) (XS.goto X15.here hx rfl (pc0 := 131) (pc' := 135) rfl (hb hby at_131) (by decide) (by decide) k)) ?_
            show own_Go p e below s _ _ (T15.setTop (mkF m 135 #[iv p0, iv p1, iv (own_f1 p0), iv z3, iv 1, iv 1, iv ((p1 &&& (2147483647 : Int32)) % (26 : Int32)), iv 1, .unset, .unset] [(.int 1)]))
            exact J18 (1 : Int32) (((if_pos hc29).trans rfl)).symm
          · refine own_via (fun k => XS.icmpYes X15.here hx rfl (pc0 := 127) (pc' := 134) rfl (hb hby at_127) rfl (feq hc29).2 (by decide) (by decide) k) ?_
            show own_Go p e below s _ _ (T15.setTop (mkF m 134 #[iv p0, iv p1, iv (own_f1 p0), iv z3, iv 1, iv 1, iv ((p1 &&& (2147483647 : Int32)) % (26 : Int32)), iv 1, .unset, .unset] []))
            refine own_via (fun k => XS.iconst X15.here hx rfl (hb hby at_134) k) ?_
            show own_Go p e below s _ _ (T15.setTop (mkF m 135 #[iv p0, iv p1, iv (own_f1 p0), iv z3, iv 1, iv 1, iv ((p1 &&& (2147483647 : Int32)) % (26 : Int32)), iv 1, .unset, .unset] [(.int 0)]))
            exact J18 (0 : Int32) (((if_neg hc29).trans rfl)).symm
        by_cases hc30 : (own_f1 ((65 : Int32) + ((p1 &&& (2147483647 : Int32)) % (26 : Int32)))) = ((97 : Int32) + ((p1 &&& (2147483647 : Int32)) % (26 : Int32)))
        · refine own_via (fun k => XS.icmpNo X11.here hx rfl (hb hby at_104) rfl (teq hc30).2 k) ?_
          show own_Go p e below s _ _ (T11.setTop (mkF m 107 #[iv p0, iv p1, iv (own_f1 p0), iv z3, iv 1, iv 1, iv ((p1 &&& (2147483647 : Int32)) % (26 : Int32)), .unset, .unset, .unset] []))
          refine own_via (fun k => XS.iconst X11.here hx rfl (hb hby at_107) (XS.goto X11.here hx rfl (pc0 := 108) (pc' := 112) rfl (hb hby at_108) (by decide) (by decide) k)) ?_
          show own_Go p e below s _ _ (T11.setTop (mkF m 112 #[iv p0, iv p1, iv (own_f1 p0), iv z3, iv 1, iv 1, iv ((p1 &&& (2147483647 : Int32)) % (26 : Int32)), .unset, .unset, .unset] [(.int 1)]))
          exact J14 (1 : Int32) (((if_pos hc30).trans rfl)).symm
        · refine own_via (fun k => XS.icmpYes X11.here hx rfl (pc0 := 104) (pc' := 111) rfl (hb hby at_104) rfl (feq hc30).2 (by decide) (by decide) k) ?_
          show own_Go p e below s _ _ (T11.setTop (mkF m 111 #[iv p0, iv p1, iv (own_f1 p0), iv z3, iv 1, iv 1, iv ((p1 &&& (2147483647 : Int32)) % (26 : Int32)), .unset, .unset, .unset] []))
          refine own_via (fun k => XS.iconst X11.here hx rfl (hb hby at_111) k) ?_
          show own_Go p e below s _ _ (T11.setTop (mkF m 112 #[iv p0, iv p1, iv (own_f1 p0), iv z3, iv 1, iv 1, iv ((p1 &&& (2147483647 : Int32)) % (26 : Int32)), .unset, .unset, .unset] [(.int 0)]))
          exact J14 (0 : Int32) (((if_neg hc30).trans rfl)).symm
      by_cases hc31 : (own_f1 (own_f1 p0)) = (own_f1 p0)
      · refine own_via (fun k => XS.icmpNo X7.here hx rfl (hb hby at_72) rfl (teq hc31).2 k) ?_
        show own_Go p e below s _ _ (T7.setTop (mkF m 75 #[iv p0, iv p1, iv (own_f1 p0), iv z3, iv 1, .unset, .unset, .unset, .unset, .unset] []))
        refine own_via (fun k => XS.iconst X7.here hx rfl (hb hby at_75) (XS.goto X7.here hx rfl (pc0 := 76) (pc' := 80) rfl (hb hby at_76) (by decide) (by decide) k)) ?_
        show own_Go p e below s _ _ (T7.setTop (mkF m 80 #[iv p0, iv p1, iv (own_f1 p0), iv z3, iv 1, .unset, .unset, .unset, .unset, .unset] [(.int 1)]))
        exact J10 (1 : Int32) (((if_pos hc31).trans rfl)).symm
      · refine own_via (fun k => XS.icmpYes X7.here hx rfl (pc0 := 72) (pc' := 79) rfl (hb hby at_72) rfl (feq hc31).2 (by decide) (by decide) k) ?_
        show own_Go p e below s _ _ (T7.setTop (mkF m 79 #[iv p0, iv p1, iv (own_f1 p0), iv z3, iv 1, .unset, .unset, .unset, .unset, .unset] []))
        refine own_via (fun k => XS.iconst X7.here hx rfl (hb hby at_79) k) ?_
        show own_Go p e below s _ _ (T7.setTop (mkF m 80 #[iv p0, iv p1, iv (own_f1 p0), iv z3, iv 1, .unset, .unset, .unset, .unset, .unset] [(.int 0)]))
        exact J10 (0 : Int32) (((if_neg hc31).trans rfl)).symm
    by_cases hc32 : z3 = (0 : Int32)
    · refine own_via (fun k => XS.ifYes X1.here hx rfl (pc0 := 24) (pc' := 55) rfl (hb hby at_24) rfl ((if0 _ _).trans (teq hc32).1) (by decide) (by decide) k) ?_
      show own_Go p e below s _ _ (T1.setTop (mkF m 55 #[iv p0, iv p1, iv (own_f1 p0), iv z3, .unset, .unset, .unset, .unset, .unset, .unset] []))
      refine own_via (fun k => XS.iloadN X1.here hx rfl (hb hby at_55) rfl  (XS.iloadN X1.here hx rfl (hb hby at_56) rfl  k)) ?_
      show own_Go p e below s _ _ (T1.setTop (mkF m 57 #[iv p0, iv p1, iv (own_f1 p0), iv z3, .unset, .unset, .unset, .unset, .unset, .unset] [(.int p0), (.int (own_f1 p0))]))
      by_cases hc33 : (own_f1 p0) = p0
      · refine own_via (fun k => XS.icmpNo X1.here hx rfl (hb hby at_57) rfl (teq hc33).2 k) ?_
        show own_Go p e below s _ _ (T1.setTop (mkF m 60 #[iv p0, iv p1, iv (own_f1 p0), iv z3, .unset, .unset, .unset, .unset, .unset, .unset] []))
        refine own_via (fun k => XS.iconst X1.here hx rfl (hb hby at_60) (XS.goto X1.here hx rfl (pc0 := 61) (pc' := 65) rfl (hb hby at_61) (by decide) (by decide) k)) ?_
        show own_Go p e below s _ _ (T1.setTop (mkF m 65 #[iv p0, iv p1, iv (own_f1 p0), iv z3, .unset, .unset, .unset, .unset, .unset, .unset] [(.int 1)]))
        exact J6 (1 : Int32) (((if_pos hc32).trans ((if_pos hc33).trans rfl))).symm
      · refine own_via (fun k => XS.icmpYes X1.here hx rfl (pc0 := 57) (pc' := 64) rfl (hb hby at_57) rfl (feq hc33).2 (by decide) (by decide) k) ?_
        show own_Go p e below s _ _ (T1.setTop (mkF m 64 #[iv p0, iv p1, iv (own_f1 p0), iv z3, .unset, .unset, .unset, .unset, .unset, .unset] []))
        refine own_via (fun k => XS.iconst X1.here hx rfl (hb hby at_64) k) ?_
        show own_Go p e below s _ _ (T1.setTop (mkF m 65 #[iv p0, iv p1, iv (own_f1 p0), iv z3, .unset, .unset, .unset, .unset, .unset, .unset] [(.int 0)]))
        exact J6 (0 : Int32) (((if_pos hc32).trans ((if_neg hc33).trans rfl))).symm
    · refine own_via (fun k => XS.ifNo X1.here hx rfl (hb hby at_24) rfl ((if0 _ _).trans (feq hc32).1) k) ?_
      show own_Go p e below s _ _ (T1.setTop (mkF m 27 #[iv p0, iv p1, iv (own_f1 p0), iv z3, .unset, .unset, .unset, .unset, .unset, .unset] []))
      refine own_via (fun k => XS.iloadN X1.here hx rfl (hb hby at_27) rfl  (XS.bipush X1.here hx rfl (hb hby at_28) k)) ?_
      show own_Go p e below s _ _ (T1.setTop (mkF m 30 #[iv p0, iv p1, iv (own_f1 p0), iv z3, .unset, .unset, .unset, .unset, .unset, .unset] [(.int 97), (.int (own_f1 p0))]))
      by_cases hc34 : (own_f1 p0) < (97 : Int32)
      · refine own_via (fun k => XS.icmpYes X1.here hx rfl (pc0 := 30) (pc' := 51) rfl (hb hby at_30) rfl (tlt hc34).1 (by decide) (by decide) k) ?_
        show own_Go p e below s _ _ (T1.setTop (mkF m 51 #[iv p0, iv p1, iv (own_f1 p0), iv z3, .unset, .unset, .unset, .unset, .unset, .unset] []))
        refine own_via (fun k => XS.iconst X1.here hx rfl (hb hby at_51) (XS.goto X1.here hx rfl (pc0 := 52) (pc' := 65) rfl (hb hby at_52) (by decide) (by decide) k)) ?_
        show own_Go p e below s _ _ (T1.setTop (mkF m 65 #[iv p0, iv p1, iv (own_f1 p0), iv z3, .unset, .unset, .unset, .unset, .unset, .unset] [(.int 0)]))
        exact J6 (0 : Int32) (((if_neg hc32).trans ((if_pos hc34).trans rfl))).symm
      · refine own_via (fun k => XS.icmpNo X1.here hx rfl (hb hby at_30) rfl (flt hc34).1 k) ?_
        show own_Go p e below s _ _ (T1.setTop (mkF m 33 #[iv p0, iv p1, iv (own_f1 p0), iv z3, .unset, .unset, .unset, .unset, .unset, .unset] []))
        refine own_via (fun k => XS.iloadN X1.here hx rfl (hb hby at_33) rfl  (XS.bipush X1.here hx rfl (hb hby at_34) k)) ?_
        show own_Go p e below s _ _ (T1.setTop (mkF m 36 #[iv p0, iv p1, iv (own_f1 p0), iv z3, .unset, .unset, .unset, .unset, .unset, .unset] [(.int 122), (.int (own_f1 p0))]))
        by_cases hc35 : (122 : Int32) < (own_f1 p0)
        · refine own_via (fun k => XS.icmpYes X1.here hx rfl (pc0 := 36) (pc' := 51) rfl (hb hby at_36) rfl (tlt hc35).2.2.1 (by decide) (by decide) k) ?_
          show own_Go p e below s _ _ (T1.setTop (mkF m 51 #[iv p0, iv p1, iv (own_f1 p0), iv z3, .unset, .unset, .unset, .unset, .unset, .unset] []))
          refine own_via (fun k => XS.iconst X1.here hx rfl (hb hby at_51) (XS.goto X1.here hx rfl (pc0 := 52) (pc' := 65) rfl (hb hby at_52) (by decide) (by decide) k)) ?_
          show own_Go p e below s _ _ (T1.setTop (mkF m 65 #[iv p0, iv p1, iv (own_f1 p0), iv z3, .unset, .unset, .unset, .unset, .unset, .unset] [(.int 0)]))
          exact J6 (0 : Int32) (((if_neg hc32).trans ((if_neg hc34).trans ((if_pos hc35).trans rfl)))).symm
        · refine own_via (fun k => XS.icmpNo X1.here hx rfl (hb hby at_36) rfl (flt hc35).2.2.1 k) ?_
          show own_Go p e below s _ _ (T1.setTop (mkF m 39 #[iv p0, iv p1, iv (own_f1 p0), iv z3, .unset, .unset, .unset, .unset, .unset, .unset] []))
          refine own_via (fun k => XS.iloadN X1.here hx rfl (hb hby at_39) rfl  (XS.iloadN X1.here hx rfl (hb hby at_40) rfl  (XS.isub X1.here hx rfl (hb hby at_41) rfl (XS.bipush X1.here hx rfl (hb hby at_42) k)))) ?_
          show own_Go p e below s _ _ (T1.setTop (mkF m 44 #[iv p0, iv p1, iv (own_f1 p0), iv z3, .unset, .unset, .unset, .unset, .unset, .unset] [(.int 32), (.int ((own_f1 p0) - p0))]))
          by_cases hc36 : ((own_f1 p0) - p0) = (32 : Int32)
          · refine own_via (fun k => XS.icmpNo X1.here hx rfl (hb hby at_44) rfl (teq hc36).2 k) ?_
            show own_Go p e below s _ _ (T1.setTop (mkF m 47 #[iv p0, iv p1, iv (own_f1 p0), iv z3, .unset, .unset, .unset, .unset, .unset, .unset] []))
            refine own_via (fun k => XS.iconst X1.here hx rfl (hb hby at_47) (XS.goto X1.here hx rfl (pc0 := 48) (pc' := 65) rfl (hb hby at_48) (by decide) (by decide) k)) ?_
            show own_Go p e below s _ _ (T1.setTop (mkF m 65 #[iv p0, iv p1, iv (own_f1 p0), iv z3, .unset, .unset, .unset, .unset, .unset, .unset] [(.int 1)]))
            exact J6 (1 : Int32) (((if_neg hc32).trans ((if_neg hc34).trans ((if_neg hc35).trans ((if_pos hc36).trans rfl))))).symm
          · refine own_via (fun k => XS.icmpYes X1.here hx rfl (pc0 := 44) (pc' := 51) rfl (hb hby at_44) rfl (feq hc36).2 (by decide) (by decide) k) ?_
            show own_Go p e below s _ _ (T1.setTop (mkF m 51 #[iv p0, iv p1, iv (own_f1 p0), iv z3, .unset, .unset, .unset, .unset, .unset, .unset] []))
            refine own_via (fun k => XS.iconst X1.here hx rfl (hb hby at_51) (XS.goto X1.here hx rfl (pc0 := 52) (pc' := 65) rfl (hb hby at_52) (by decide) (by decide) k)) ?_
            show own_Go p e below s _ _ (T1.setTop (mkF m 65 #[iv p0, iv p1, iv (own_f1 p0), iv z3, .unset, .unset, .unset, .unset, .unset, .unset] [(.int 0)]))
            exact J6 (0 : Int32) (((if_neg hc32).trans ((if_neg hc34).trans ((if_neg hc35).trans ((if_neg hc36).trans rfl))))).symm
  by_cases hc37 : p0 < (65 : Int32)
  · refine own_via (fun k => XS.icmpYes X1.here hx rfl (pc0 := 8) (pc' := 21) rfl (hb hby at_8) rfl (tlt hc37).1 (by decide) (by decide) k) ?_
    show own_Go p e below s _ _ (T1.setTop (mkF m 21 #[iv p0, iv p1, iv (own_f1 p0), .unset, .unset, .unset, .unset, .unset, .unset, .unset] []))
    refine own_via (fun k => XS.iconst X1.here hx rfl (hb hby at_21) k) ?_
    show own_Go p e below s _ _ (T1.setTop (mkF m 22 #[iv p0, iv p1, iv (own_f1 p0), .unset, .unset, .unset, .unset, .unset, .unset, .unset] [(.int 0)]))
    exact J4 (0 : Int32) (((if_pos hc37).trans rfl)).symm
  · refine own_via (fun k => XS.icmpNo X1.here hx rfl (hb hby at_8) rfl (flt hc37).1 k) ?_
    show own_Go p e below s _ _ (T1.setTop (mkF m 11 #[iv p0, iv p1, iv (own_f1 p0), .unset, .unset, .unset, .unset, .unset, .unset, .unset] []))
    refine own_via (fun k => XS.iloadN X1.here hx rfl (hb hby at_11) rfl  (XS.bipush X1.here hx rfl (hb hby at_12) k)) ?_
    show own_Go p e below s _ _ (T1.setTop (mkF m 14 #[iv p0, iv p1, iv (own_f1 p0), .unset, .unset, .unset, .unset, .unset, .unset, .unset] [(.int 90), (.int p0)]))
    by_cases hc38 : (90 : Int32) < p0
    · refine own_via (fun k => XS.icmpYes X1.here hx rfl (pc0 := 14) (pc' := 21) rfl (hb hby at_14) rfl (tlt hc38).2.2.1 (by decide) (by decide) k) ?_
      show own_Go p e below s _ _ (T1.setTop (mkF m 21 #[iv p0, iv p1, iv (own_f1 p0), .unset, .unset, .unset, .unset, .unset, .unset, .unset] []))
      refine own_via (fun k => XS.iconst X1.here hx rfl (hb hby at_21) k) ?_
      show own_Go p e below s _ _ (T1.setTop (mkF m 22 #[iv p0, iv p1, iv (own_f1 p0), .unset, .unset, .unset, .unset, .unset, .unset, .unset] [(.int 0)]))
      exact J4 (0 : Int32) (((if_neg hc37).trans ((if_pos hc38).trans rfl))).symm
    · refine own_via (fun k => XS.icmpNo X1.here hx rfl (hb hby at_14) rfl (flt hc38).2.2.1 k) ?_
      show own_Go p e below s _ _ (T1.setTop (mkF m 17 #[iv p0, iv p1, iv (own_f1 p0), .unset, .unset, .unset, .unset, .unset, .unset, .unset] []))
      refine own_via (fun k => XS.iconst X1.here hx rfl (hb hby at_17) (XS.goto X1.here hx rfl (pc0 := 18) (pc' := 22) rfl (hb hby at_18) (by decide) (by decide) k)) ?_
      show own_Go p e below s _ _ (T1.setTop (mkF m 22 #[iv p0, iv p1, iv (own_f1 p0), .unset, .unset, .unset, .unset, .unset, .unset, .unset] [(.int 1)]))
      exact J4 (1 : Int32) (((if_neg hc37).trans ((if_neg hc38).trans rfl))).symm
set_option maxRecDepth 65536 in
set_option maxHeartbeats 40000000 in
theorem comes_1 {Post : Tables → Env → Array Value → State → Outcome → State → Prop} (hpost : ∀ tb e args s v u, (limb_1_1.after args s (.returned v) u = true ∧ limb_1_2.after args s (.returned v) u = true ∧ True) → FrameEnd s (.returned v) u (Jvm.fieldLocs frame_1_writes args s ++ Jvm.arrayLocs frame_1_arrays args s ++ Jvm.staticLocs frame_1_statics s) 0 0 → Post tb e args s (.returned v) u) :
    ArmFor flags0 classFile x code maxLocals ret World_1 tables_1 room_1 Calls_1 rest_1 Pre_1 Post := by
  intro l hfl _ _ p e ha hc hk s m args below hf hA hF happ hP
  obtain ⟨hcalls, hrest, hpre⟩ := hP
  obtain ⟨-, -, -, hnamed, -, -, -, hat⟩ := (Spec.applies_iff hf).mp happ
  obtain ⟨hg, hn⟩ := and_e (Cond.before_iff.mp (show (Jvm.Cond.and given_1 narrow_1).before args s = true from hpre))
  obtain ⟨g1, g2⟩ := and_e hg
  obtain ⟨g3, g4⟩ := and_e g2
  obtain ⟨w0, w1, rfl⟩ : ∃ w0 w1 : Value, args = #[w0, w1] := by
    have hs : args.size = 2 := by simpa [Cond.value, given_1] using g1
    obtain ⟨L⟩ := args
    match L, hs with
    | [w0, w1], _ => exact ⟨w0, w1, rfl⟩
  have hw := fun d (hd : d ∈ tables_1) => atoms_spec (ws := Jvm.Cond.code x code maxLocals ret :: tables_1) hat d (List.mem_cons_of_mem _ hd)
  obtain ⟨i0, ei0⟩ := is_v g3
  obtain rfl : w0 = (.int i0) := Option.some.inj ei0
  obtain ⟨i1, ei1⟩ := is_v g4
  obtain rfl : w1 = (.int i1) := Option.some.inj ei1
  obtain ⟨n, o, h1, h2, h3, _, L, rfl, ⟨rfl, N⟩, hq⟩ := rm0 l s _ hw tables_1 i0 i1 s.heap s.heap.size (Nat.le_refl _) p e ha hc hk s m _ below hf ((Spec.applies_iff_loose hf).mp happ).1 ⟨rfl, State.Warmed39.refl s, rfl⟩ trivial
  refine ⟨n, _, h1, h2, h3, hpost _ _ _ _ _ _ ⟨Cond.after_iff.mpr rfl, Cond.after_iff.mpr (eq_i res_at (Term.int_eval (1)) rfl), trivial⟩ ⟨hq.1, hq.2.1, (hq.2.2.sift fun y hy => Or.inr (N y hy)).mono (by decide) (by decide)⟩⟩
theorem main_1_1 : Claimed_1_1 := comes_1 fun _ _ _ _ _ _ h hF => ⟨h.1, hF⟩
theorem main_1_2 : Claimed_1_2 := comes_1 fun _ _ _ _ _ _ h hF => ⟨h.2.1, hF⟩
end Jvm.Pilot.@@N@@
namespace Jvm.Pilot.@@N@@
open Jvm Jvm.ClassFile Sem Op Lib Jvm.Free Jvm.Stand Jvm.Pilot.@@N@@.Jvm.D
/-! MADE BY PROGRAM (witnessworld.py) out of the Statement's table words and the real class files: 11 classes; the members and pool entries that the words name. The judged class is class 1, her method 1. -/
namespace start1
open Jvm.ClassFile
def u (s : String) : CpInfo := .utf8 (stringToUtf16 s)
/-- a pool by its gaps: so many unusable entries, then the entry; so many at the end -/
def gap : Nat → List CpInfo → List CpInfo
  | 0, r => r
  | n + 1, r => .unusable :: gap n r
def poolList (es : List (Nat × CpInfo)) (last : Nat) : List CpInfo := es.foldr (fun e r => gap e.1 (e.2 :: r)) (gap last [])
def pool (es : List (Nat × CpInfo)) (last : Nat) : Array CpInfo := ⟨poolList es last⟩
def fileOf (pool : Array CpInfo) (this : Nat) (attrs : Array Attribute := #[]) (ms : Array MethodInfo := #[]) (fl : Nat := 33) (sup : Nat := 0) (ifs : Array Nat := #[]) (fds : Array FieldInfo := #[]) : ClassFile where
  minorVersion := 0
  majorVersion := 65
  constantPool := pool
  accessFlags := fl
  thisClass := this
  superClass := sup
  interfaces := ifs
  fields := fds
  methods := ms
  attributes := attrs
def plain (name : String) (sup : Option ClassId) : Class where
  name := name
  kind := .ordinary
  loader := none
  accessFlags := 33
  super := sup
  interfaces := #[]
  cf := none
  fields := #[]
  methods := #[]
  instanceTypes := #[]
  staticTypes := #[]
  resolved := #[]
  callSites := []
  init := .initialized
  statics := none
  mirror := none

def pool0 : Array CpInfo := pool [(5, u "<init>"), (0, u "()V"), (1, .class_ 10), (1, u "java/lang/Object")] 113

def k0m0 : Method := { name := "<init>", desc := "()V", sig := { parameters := [], returnType := none }, accessFlags := 1, code := none }
/-- java/lang/Object -/
def k0 : Class := { plain "java/lang/Object" none with
  accessFlags := 33
  interfaces := #[]
  cf := some (fileOf pool0 8 #[] #[{ accessFlags := 1, nameIndex := 5, descriptorIndex := 6, attributes := #[] }] 33 0 #[] #[])
  fields := #[]
  methods := #[k0m0]
  instanceTypes := #[]
  staticTypes := #[]
  resolved := Array.replicate 124 none
  statics := none }

def pool1 : Array CpInfo := pool [(2, .class_ 4), (1, u "java/lang/Object"), (0, u "<init>"), (0, u "()V"), (0, .methodref 8 9), (0, .class_ 10), (0, .nameAndType 11 12), (0, u "com/example/grammar_parser/grammarparser/Literal"), (0, u "toLowerAscii"), (0, u "(I)I"), (0, .integer 2147483647), (0, .class_ 15), (0, u "com/example/grammar_parser/grammarparser/LiteralToLowerAsciiPinLaw"), (2, u "law"), (0, u "(II)Z")] 3

def k1m0 : Method := { name := "<init>", desc := "()V", sig := { parameters := [], returnType := none }, accessFlags := 1, code := none }
def k1c1 : Code := { maxStack := 3, maxLocals := 10, code := code, exceptionTable := #[], attributes := #[] }
def k1m1 : Method := { name := "law", desc := "(II)Z", sig := { parameters := [.int, .int], returnType := some .boolean }, accessFlags := 9, code := some k1c1 }
/-- com/example/grammar_parser/grammarparser/LiteralToLowerAsciiPinLaw -/
def k1 : Class := { plain "com/example/grammar_parser/grammarparser/LiteralToLowerAsciiPinLaw" (some 0) with
  accessFlags := 49
  interfaces := #[]
  cf := some (fileOf pool1 14 #[] #[{ accessFlags := 1, nameIndex := 5, descriptorIndex := 6, attributes := #[] }, { accessFlags := 9, nameIndex := 18, descriptorIndex := 19, attributes := #[] }] 49 2 #[] #[])
  fields := #[]
  methods := #[k1m0, k1m1]
  instanceTypes := #[]
  staticTypes := #[]
  resolved := Array.replicate 23 none
  statics := none }

def pool2 : Array CpInfo := pool [(2, .class_ 4), (1, u "java/lang/Object"), (0, u "<init>"), (0, u "()V"), (1, .class_ 10), (1, u "com/example/grammar_parser/grammarparser/Expression"), (0, u "id"), (0, u "I"), (2, u "matchesEmpty"), (0, u "Z"), (5, u "Lcom/example/grammar_parser/grammarparser/CodePointSet;"), (2, u "starts"), (2, u "oneCodePointTerminals"), (0, u "Ljava/util/List;"), (2, u "miss"), (0, u "Lcom/example/grammar_parser/grammarparser/Miss;"), (2, u "oneCodePointAt"), (0, u "[Z"), (41, u "ONE_CODE_POINT_TABLE")] 51

def k2m0 : Method := { name := "<init>", desc := "()V", sig := { parameters := [], returnType := none }, accessFlags := 0, code := none }
/-- com/example/grammar_parser/grammarparser/Expression -/
def k2 : Class := { plain "com/example/grammar_parser/grammarparser/Expression" (some 0) with
  accessFlags := 1056
  interfaces := #[]
  cf := some (fileOf pool2 8 #[] #[{ accessFlags := 0, nameIndex := 5, descriptorIndex := 6, attributes := #[] }] 1056 2 #[] #[{ accessFlags := 24, nameIndex := 79, descriptorIndex := 12, attributes := #[] }, { accessFlags := 2, nameIndex := 11, descriptorIndex := 12, attributes := #[] }, { accessFlags := 2, nameIndex := 15, descriptorIndex := 16, attributes := #[] }, { accessFlags := 2, nameIndex := 25, descriptorIndex := 22, attributes := #[] }, { accessFlags := 2, nameIndex := 28, descriptorIndex := 29, attributes := #[] }, { accessFlags := 2, nameIndex := 32, descriptorIndex := 33, attributes := #[] }, { accessFlags := 2, nameIndex := 36, descriptorIndex := 37, attributes := #[] }])
  fields := #[{ name := "ONE_CODE_POINT_TABLE", type := .int, accessFlags := 24, slot := 0, constantValue := 0 }, { name := "id", type := .int, accessFlags := 2, slot := 0, constantValue := 0 }, { name := "matchesEmpty", type := .boolean, accessFlags := 2, slot := 1, constantValue := 0 }, { name := "starts", type := (.object "com/example/grammar_parser/grammarparser/CodePointSet"), accessFlags := 2, slot := 2, constantValue := 0 }, { name := "oneCodePointTerminals", type := (.object "java/util/List"), accessFlags := 2, slot := 3, constantValue := 0 }, { name := "miss", type := (.object "com/example/grammar_parser/grammarparser/Miss"), accessFlags := 2, slot := 4, constantValue := 0 }, { name := "oneCodePointAt", type := (.array .boolean), accessFlags := 2, slot := 5, constantValue := 0 }]
  methods := #[k2m0]
  instanceTypes := #[.int, .boolean, (.object "com/example/grammar_parser/grammarparser/CodePointSet"), (.object "java/util/List"), (.object "com/example/grammar_parser/grammarparser/Miss"), (.array .boolean)]
  staticTypes := #[.int]
  resolved := Array.replicate 131 none
  statics := none }

def pool3 : Array CpInfo := pool [(2, .class_ 4), (1, u "com/example/grammar_parser/grammarparser/Expression"), (9, .class_ 16), (1, u "com/example/grammar_parser/grammarparser/Terminal"), (0, u "description"), (0, u "Ljava/lang/String;"), (6, u "position"), (0, u "I"), (22, u "expectation"), (0, u "Lcom/example/grammar_parser/grammarparser/Expectation;"), (24, u "MOST_LISTED")] 31

/-- com/example/grammar_parser/grammarparser/Terminal -/
def k3 : Class := { plain "com/example/grammar_parser/grammarparser/Terminal" (some 2) with
  accessFlags := 1056
  interfaces := #[]
  cf := some (fileOf pool3 14 #[] #[] 1056 2 #[] #[{ accessFlags := 24, nameIndex := 75, descriptorIndex := 26, attributes := #[] }, { accessFlags := 18, nameIndex := 17, descriptorIndex := 18, attributes := #[] }, { accessFlags := 18, nameIndex := 25, descriptorIndex := 26, attributes := #[] }, { accessFlags := 2, nameIndex := 49, descriptorIndex := 50, attributes := #[] }])
  fields := #[{ name := "MOST_LISTED", type := .int, accessFlags := 24, slot := 0, constantValue := 0 }, { name := "description", type := (.object "java/lang/String"), accessFlags := 18, slot := 6, constantValue := 0 }, { name := "position", type := .int, accessFlags := 18, slot := 7, constantValue := 0 }, { name := "expectation", type := (.object "com/example/grammar_parser/grammarparser/Expectation"), accessFlags := 2, slot := 8, constantValue := 0 }]
  methods := #[]
  instanceTypes := #[.int, .boolean, (.object "com/example/grammar_parser/grammarparser/CodePointSet"), (.object "java/util/List"), (.object "com/example/grammar_parser/grammarparser/Miss"), (.array .boolean), (.object "java/lang/String"), .int, (.object "com/example/grammar_parser/grammarparser/Expectation")]
  staticTypes := #[.int]
  resolved := Array.replicate 107 none
  statics := none }

def pool4 : Array CpInfo := pool [(2, .class_ 4), (1, u "com/example/grammar_parser/grammarparser/Literal"), (3, .class_ 10), (1, u "com/example/grammar_parser/grammarparser/Terminal"), (4, u "[I"), (4, u "codePoints"), (2, u "ignoreCase"), (0, u "Z"), (2, u "toLowerAscii"), (0, u "(I)I")] 73

def k4c0 : Code := { maxStack := 2, maxLocals := 1, code := prog_49_method_10_code, exceptionTable := #[], attributes := #[] }
def k4m0 : Method := { name := "toLowerAscii", desc := "(I)I", sig := { parameters := [.int], returnType := some .int }, accessFlags := 8, code := some k4c0 }
/-- com/example/grammar_parser/grammarparser/Literal -/
def k4 : Class := { plain "com/example/grammar_parser/grammarparser/Literal" (some 3) with
  accessFlags := 48
  interfaces := #[]
  cf := some (fileOf pool4 2 #[] #[{ accessFlags := 8, nameIndex := 27, descriptorIndex := 28, attributes := #[] }] 48 8 #[] #[{ accessFlags := 18, nameIndex := 20, descriptorIndex := 15, attributes := #[] }, { accessFlags := 18, nameIndex := 23, descriptorIndex := 24, attributes := #[] }])
  fields := #[{ name := "codePoints", type := (.array .int), accessFlags := 18, slot := 9, constantValue := 0 }, { name := "ignoreCase", type := .boolean, accessFlags := 18, slot := 10, constantValue := 0 }]
  methods := #[k4m0]
  instanceTypes := #[.int, .boolean, (.object "com/example/grammar_parser/grammarparser/CodePointSet"), (.object "java/util/List"), (.object "com/example/grammar_parser/grammarparser/Miss"), (.array .boolean), (.object "java/lang/String"), .int, (.object "com/example/grammar_parser/grammarparser/Expectation"), (.array .int), .boolean]
  staticTypes := #[]
  resolved := Array.replicate 102 none
  statics := none }

def pool5 : Array CpInfo := pool [(1, u "java/lang/Cloneable"), (0, .class_ 1), (0, u "java/lang/Object"), (0, .class_ 3)] 3

/-- java/lang/Cloneable -/
def k5 : Class := { plain "java/lang/Cloneable" (some 0) with
  accessFlags := 1537
  interfaces := #[]
  cf := some (fileOf pool5 2 #[] #[] 1537 4 #[] #[])
  fields := #[]
  methods := #[]
  instanceTypes := #[]
  staticTypes := #[]
  resolved := Array.replicate 8 none
  statics := none }

def pool6 : Array CpInfo := pool [(1, u "java/io/Serializable"), (0, .class_ 1), (0, u "java/lang/Object"), (0, .class_ 3)] 3

/-- java/io/Serializable -/
def k6 : Class := { plain "java/io/Serializable" (some 0) with
  accessFlags := 1537
  interfaces := #[]
  cf := some (fileOf pool6 2 #[] #[] 1537 4 #[] #[])
  fields := #[]
  methods := #[]
  instanceTypes := #[]
  staticTypes := #[]
  resolved := Array.replicate 8 none
  statics := none }

/-- the primitive byte -/
def k7 : Class := { plain "byte" none with kind := .primitive 'B', accessFlags := 0x411 }
/-- [B -/
def k8 : Class := { plain "[B" (some 0) with kind := .array 7 .byte, interfaces := #[5, 6], accessFlags := 1041 }

/-- the primitive int -/
def k9 : Class := { plain "int" none with kind := .primitive 'I', accessFlags := 0x411 }
/-- [I -/
def k10 : Class := { plain "[I" (some 0) with kind := .array 9 .int, interfaces := #[5, 6], accessFlags := 1041 }

def heap : Heap := #[]
def classes : Array Class := #[k0, k1, k2, k3, k4, k5, k6, k7, k8, k9, k10]
def interned : List (Array UInt16 × Addr) := []
def slotsUsed : Nat := 0
def theMethod : MethodId := ⟨1, 1⟩
def args0 : Array Value := #[.int 5, .int 9]
def aboutOver (below : List Frame) : State where
  vm := { classes := classes, interned := interned.toArray }
  heap := heap
  slotsUsed := slotsUsed
  threads := #[{ frames := .invoking theMethod args0 :: below }]
def below0 : List Frame := [.native { method := ⟨0, 0⟩, args := #[] }]
def about1 : State := aboutOver below0
def p0 : Program := .bare "" "" ""
def e0 : Env := launch0.env 0 0 0
theorem w_frames : about1.frames = Frame.invoking theMethod args0 :: below0 := rfl
set_option maxRecDepth 65536 in
theorem w_args : argsFit about1.vm theMethod args0 = true := by decide +kernel
set_option maxRecDepth 65536 in
theorem w_heap : heapFits about1 = true := by decide +kernel
set_option maxRecDepth 65536 in
theorem w_runnable : about1.curStatus? = some .runnable := by decide +kernel
set_option maxRecDepth 65536 in
theorem w_alone : about1.alone = true := by decide +kernel
set_option maxRecDepth 65536 in
theorem w_named : about1.methodNamed? x = some theMethod := by decide +kernel
set_option maxRecDepth 65536 in
theorem w_hears : about1.hears theMethod below0 = true := by decide +kernel
set_option maxRecDepth 65536 in
theorem w_ripe : about1.ripe theMethod args0 below0 = true := by decide +kernel
theorem w_running : about1.status = .running := rfl
set_option maxRecDepth 65536 in
theorem w_room : about1.hasRoom e0.platform room_1 = true :=
  launch0.hasRoom_least _ room_1 (by decide +kernel) (by decide +kernel) (by decide +kernel) (by decide +kernel) (by decide +kernel) (by decide +kernel)
theorem allAtoms_all (ts : List Jvm.Cond) (a : Array Jvm.Value) (st : Jvm.State) : (allAtoms ts).before a st = ts.all (fun c => c.before a st) := by
  induction ts with
  | nil => rfl
  | cons c t ih =>
    show (Jvm.Cond.and c (allAtoms t)).before a st = _
    rw [Jvm.Cond.before_and, ih, List.all_cons]
def words1 : List Jvm.Cond := Jvm.Cond.code x code maxLocals ret :: tables_1
/-- a 'code' word, met by the world's own term for the bytes: nothing is compared byte by byte -/
theorem code_word {y : MethodName} {bytes : ByteArray} {mx : Nat} {rt : Option FieldType} {a : Array Value} {s : State} {m : MethodId} {meth : Method} {c : Code} (h1 : s.methodNamed? y = some m) (h2 : s.vm.method? m = some meth) (h3 : meth.code = some c) (h4 : c.code = bytes)
    (h5 : (c.maxLocals == mx && c.exceptionTable.isEmpty && decide (c.maxStack ≤ mostOperands) && decide (meth.sig.returnType = rt) && !meth.locks && decide (parseMethodDescriptor y.desc = some meth.sig)) = true) : (Jvm.Cond.code y bytes mx rt).before a s = true := by
  simp only [Bool.and_eq_true, beq_iff_eq, Bool.not_eq_true', decide_eq_true_eq] at h5
  obtain ⟨⟨⟨⟨⟨g1, g2⟩, g3⟩, g4⟩, g5⟩, g6⟩ := h5
  simp [Cond.before, Cond.holds, Cond.value, h1, h2, h3, h4, g1, g2, g3, g4, g5, g6]
def isCode : Jvm.Cond → Bool
  | .code _ _ _ _ => true
  | _ => false
theorem all_split {L : List Jvm.Cond} {P : Jvm.Cond → Bool} (h1 : L.all (fun c => isCode c || P c) = true) (h2 : ∀ c ∈ L.filter isCode, P c = true) : L.all P = true := by
  refine List.all_eq_true.mpr fun c hc => ?_
  have h := List.all_eq_true.mp h1 c hc
  rcases Bool.eq_false_or_eq_true (isCode c) with hi | hi
  · exact h2 c (List.mem_filter.mpr ⟨hc, hi⟩)
  · simpa [hi] using h
set_option maxRecDepth 65536 in
theorem w_c0 : (Jvm.Cond.code x code maxLocals ret).before args0 about1 = true := code_word (m := ⟨1, 1⟩) (meth := k1m1) (c := k1c1) (by decide +kernel) rfl rfl rfl (by decide +kernel)
set_option maxRecDepth 65536 in
theorem w_c1 : (Jvm.Cond.code ({ cls := "com/example/grammar_parser/grammarparser/Literal", name := "toLowerAscii", desc := "(I)I" } : Jvm.MethodName) prog_49_method_10_code (1 : Nat) (Option.some Jvm.ClassFile.FieldType.int)).before args0 about1 = true := code_word (m := ⟨4, 0⟩) (meth := k4m0) (c := k4c0) (by decide +kernel) rfl rfl rfl (by decide +kernel)
def codes1 : List Jvm.Cond := [Jvm.Cond.code x code maxLocals ret, Jvm.Cond.code ({ cls := "com/example/grammar_parser/grammarparser/Literal", name := "toLowerAscii", desc := "(I)I" } : Jvm.MethodName) prog_49_method_10_code (1 : Nat) (Option.some Jvm.ClassFile.FieldType.int)]
set_option maxRecDepth 65536 in
theorem codes_eq : words1.filter isCode = codes1 := rfl
theorem w_codes : ∀ c ∈ words1.filter isCode, c.before args0 about1 = true := by
  rw [codes_eq]
  intro c hc
  simp only [codes1, List.mem_cons, List.not_mem_nil, or_false] at hc
  rcases hc with rfl | rfl
  · exact w_c0
  · exact w_c1
set_option maxRecDepth 65536 in
theorem w_t1 : words1.all (fun c => isCode c || c.before args0 about1) = true := by decide +kernel
theorem w_tables : (allAtoms (Jvm.Cond.code x code maxLocals ret :: tables_1)).before args0 about1 = true := by
  rw [allAtoms_all]
  show words1.all (fun c => c.before args0 about1) = true
  refine all_split ?_ w_codes
  rw [w_t1]
set_option maxRecDepth 65536 in
theorem w_case : (Jvm.Cond.and given_1 narrow_1).before args0 about1 = true := by decide +kernel
theorem w_applies : (headSpec (Jvm.Cond.code x code maxLocals ret :: tables_1) room_1).applies x e0.platform about1 = true :=
  (Spec.applies_iff w_frames).mpr ⟨w_running, w_runnable, w_alone, w_named, w_hears, w_ripe, w_room, w_tables⟩
theorem atStart : AtStart classFile x code maxLocals ret World_1 tables_1 room_1 Calls_1 rest_1 Pre_1 launch0 p0 e0 about1 theMethod args0 below0 :=
  ⟨lists_1, trivial, launch0.admits_env _ _ _, launch0.least_env, fairChoices_fair.cas, fairChoices_fair.clock, w_frames, w_args, w_heap, w_applies, trivial, trivial, w_case⟩
end start1
theorem witness_1 : WitnessClaimed_1 := ⟨start1.p0, start1.e0, start1.about1, start1.theMethod, start1.args0, start1.below0, start1.atStart⟩
end Jvm.Pilot.@@N@@
