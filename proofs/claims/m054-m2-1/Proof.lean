import JvmDerived
import JvmDerived.Pilot.@@N@@Statement
import JvmDerived.Pilot.@@N@@Code
set_option linter.unusedVariables false
set_option linter.unusedSimpArgs false
namespace Jvm.RoadKit
open Sem ClassFile Op Lib Jvm.Stand Jvm.Free Jvm.LawKit
section New
variable {p : Program} {l : Launch} {e : Env} {R : Room} {s : State} {m : MethodId} {args : Array Value} {below : List Frame} {meth : Method} {c : Code} {T : State} {locs : List Loc} {cells slots : Nat}
theorem retI (X : Stand p l e R s m args below meth c T locs cells slots) (hx : p.tables.exec = Jvm.exec) {pc : Nat} {Ls : Array Slot} {z : Int32} {rest : List Value} (hret : meth.sig.returnType = some .int) (hd : decode c.code pc = .ok (.ireturn, 1)) {fs : List Frame}
    (hl : ∀ (f : JFrame) (acts : List Action), f.method = m → f.locked = none → f.entered = [] → (doReturn e (T.setTop f) acts (some (.int z))).1 = T.setFrames fs) : Steps p.tables e below (T.setTop (mkF m pc Ls (.int z :: rest))) (T.setFrames fs) := by
  have hm' : T.vm.method? m = some meth := X.method'
  have hn : narrow .int (.int z) = .int z := rfl
  show Steps p.tables e below (T.setTop { method := m, pc := pc, locals := Ls, stack := _ :: rest, locked := none }) _
  jvm_step X.here [X.here.top, hx, hd, hm', hret, hn]
  first | (intro acts; rw [hl _ acts rfl rfl rfl]) | rw [hl _ _ rfl rfl rfl]
  exact Steps.refl _
abbrev jv (x : Int64) : Slot := .val (.long x)
/-- from the state st the run ends as Q says -/
def own_Go (p : Program) (e : Env) (below : List Frame) (s : State) (Q : Option Value → Heap → List Loc → Prop) (CS : Nat × Nat) (st : State) : Prop :=
  ∃ s₂ o, Steps p.tables e below st s₂ ∧ s₂.status = .running ∧ Ended s₂ below o ∧ ∃ v L, o = .returned v ∧ Q v s₂.heap L ∧ FrameEnd s o s₂ L CS.1 CS.2
variable {Q : Option Value → Heap → List Loc → Prop} {CS : Nat × Nat} {st st' : State}
theorem own_via (h : ∀ {t}, Steps p.tables e below st t → Steps p.tables e below st' t) (g : own_Go p e below s Q CS st) : own_Go p e below s Q CS st' := by
  obtain ⟨s₂, o, h1, h2⟩ := g
  exact ⟨s₂, o, h h1, h2⟩
theorem own_start {g g' : JFrame} (q : g = g') (h : own_Go p e below s Q CS (T.setTop g')) : ∃ s₂ o, Steps p.tables e below (T.setTop g) s₂ ∧ s₂.status = .running ∧ Ended s₂ below o ∧ ∃ v L, o = .returned v ∧ Q v s₂.heap L ∧ FrameEnd s o s₂ L CS.1 CS.2 := q ▸ h
theorem own_retN (X : Stand p l e R s m args below meth c T locs cells slots) (hx : p.tables.exec = Jvm.exec) (hlk : meth.locks = false) {pc : Nat} {Ls : Array Slot} {z : Int32} {t : FieldType} {rest : List Value} (hret : meth.sig.returnType = some t) (ht : t = .boolean ∨ t = .byte ∨ t = .char ∨ t = .short)
    (hd : decode c.code pc = .ok (.ireturn, 1)) (hq : Q (some (.int (nar t z))) T.heap locs) (hc : cells ≤ CS.1) (hs : slots ≤ CS.2) : own_Go p e below s Q CS (T.setTop (mkF m pc Ls (.int z :: rest))) := by
  obtain ⟨fs, hr, hrun, hended, hW, hsame⟩ := X.leave (v := some (.int (nar t z))) (fun h => by rw [hret] at h; cases h) hlk
  exact ⟨_, _, retN X hx hret ht hd hr, hrun, hended, _, _, rfl, hq, ⟨_, rfl⟩, hW, hsame.mono hc hs⟩
theorem own_retI (X : Stand p l e R s m args below meth c T locs cells slots) (hx : p.tables.exec = Jvm.exec) (hlk : meth.locks = false) {pc : Nat} {Ls : Array Slot} {z : Int32} {rest : List Value} (hret : meth.sig.returnType = some .int)
    (hd : decode c.code pc = .ok (.ireturn, 1)) (hq : Q (some (.int z)) T.heap locs) (hc : cells ≤ CS.1) (hs : slots ≤ CS.2) : own_Go p e below s Q CS (T.setTop (mkF m pc Ls (.int z :: rest))) := by
  obtain ⟨fs, hr, hrun, hended, hW, hsame⟩ := X.leave (v := some (.int z)) (fun h => by rw [hret] at h; cases h) hlk
  exact ⟨_, _, retI X hx hret hd hr, hrun, hended, _, _, rfl, hq, ⟨_, rfl⟩, hW, hsame.mono hc hs⟩
theorem own_retL (X : Stand p l e R s m args below meth c T locs cells slots) (hx : p.tables.exec = Jvm.exec) (hlk : meth.locks = false) {pc : Nat} {Ls : Array Slot} {z : Int64} (hret : meth.sig.returnType = some .long)
    (hd : decode c.code pc = .ok (.lreturn, 1)) (hq : Q (some (.long z)) T.heap locs) (hc : cells ≤ CS.1) (hs : slots ≤ CS.2) : own_Go p e below s Q CS (T.setTop (mkF m pc Ls [.long z])) := by
  obtain ⟨fs, hr, hrun, hended, hW, hsame⟩ := X.leave (v := some (.long z)) (fun h => by rw [hret] at h; cases h) hlk
  exact ⟨_, _, X.lreturnOut hx hret hd hr, hrun, hended, _, _, rfl, hq, ⟨_, rfl⟩, hW, hsame.mono hc hs⟩
theorem own_retA (X : Stand p l e R s m args below meth c T locs cells slots) (hx : p.tables.exec = Jvm.exec) (hlk : meth.locks = false) {pc : Nat} {Ls : Array Slot} {w : Value} (hw : w.isRef = true) {t : FieldType} (hret : meth.sig.returnType = some t) (ht : t.isReference = true)
    (hd : decode c.code pc = .ok (.areturn, 1)) (hq : Q (some w) T.heap locs) (hc : cells ≤ CS.1) (hs : slots ≤ CS.2) : own_Go p e below s Q CS (T.setTop (mkF m pc Ls [w])) := by
  obtain ⟨fs, hr, hrun, hended, hW, hsame⟩ := X.leave (v := some w) (fun h => by rw [hret] at h; cases h) hlk
  exact ⟨_, _, X.areturnOut hx hw hret ht hd hr, hrun, hended, _, _, rfl, hq, ⟨_, rfl⟩, hW, hsame.mono hc hs⟩
theorem own_ret0 (X : Stand p l e R s m args below meth c T locs cells slots) (hx : p.tables.exec = Jvm.exec) (hlk : meth.locks = false) {pc : Nat} {Ls : Array Slot} (hret : meth.sig.returnType = none)
    (hd : decode c.code pc = .ok (.return_, 1)) (hq : Q none T.heap locs) (hc : cells ≤ CS.1) (hs : slots ≤ CS.2) : own_Go p e below s Q CS (T.setTop (mkF m pc Ls [])) := by
  obtain ⟨fs, hr, hrun, hended, hW, hsame⟩ := X.leave (v := none) (fun _ => rfl) hlk
  exact ⟨_, _, X.returnOut hx hret hd hr, hrun, hended, _, _, rfl, hq, ⟨_, rfl⟩, hW, hsame.mono hc hs⟩
theorem own_fldI {Z : State} {h : Heap} {a : Addr} {C n d : String} {v w : Int32} (q : v = w) (F : Fld Z h a C n d (.int v)) : Fld Z h a C n d (.int w) := q ▸ F
theorem own_fldJ {Z : State} {h : Heap} {a : Addr} {C n d : String} {v w : Int64} (q : v = w) (F : Fld Z h a C n d (.long v)) : Fld Z h a C n d (.long w) := q ▸ F
theorem own_arv {Z : State} {h : Heap} {a : Addr} {k : ClassId} {ty : FieldType} {n : Int32} {vs vs' : List Value} {d : Value} (q : vs = vs') (F : Arv Z h a k ty n vs d) : Arv Z h a k ty n vs' d := q ▸ F
theorem own_fits {t : FieldType} {v w : Int32} (q : v = w) (F : fits t (.int v) = true) : fits t (.int w) = true := q ▸ F
end New
end Jvm.RoadKit
namespace Jvm.Pilot.@@N@@
open Jvm Jvm.ClassFile Sem Op Lib Jvm.Free Jvm.Stand Jvm.LawKit Jvm.RoadKit Bundle Jvm.Pilot.@@N@@.Jvm.D
theorem own_l32 {x y : Int32} : x < y ↔ x.toInt < y.toInt := Int32.lt_iff_toInt_lt
theorem own_e32 {x y : Int32} : x = y ↔ x.toInt = y.toInt := Int32.toInt_inj.symm
theorem own_l64 {x y : Int64} : x < y ↔ x.toInt < y.toInt := Int64.lt_iff_toInt_lt
theorem own_e64 {x y : Int64} : x = y ↔ x.toInt = y.toInt := Int64.toInt_inj.symm
theorem own_all8 {P : Int8 → Prop} (h : ∀ n : Fin 256, P (Int8.ofBitVec (BitVec.ofFin n))) (i : Int8) : P i := h i.toBitVec.toFin
theorem d1_0 : decode prog_5_method_16_code 0 = .ok (.lconst 0, 1) := by decide +kernel
theorem d1_1 : decode prog_5_method_16_code 1 = .ok (.lstore_n 1, 1) := by decide +kernel
theorem d1_2 : decode prog_5_method_16_code 2 = .ok (.aload_n 0, 1) := by decide +kernel
theorem d1_3 : decode prog_5_method_16_code 3 = .ok (.arraylength, 1) := by decide +kernel
theorem d1_4 : decode prog_5_method_16_code 4 = .ok (.bipush 8, 2) := by decide +kernel
theorem d1_6 : decode prog_5_method_16_code 6 = .ok (.isub, 1) := by decide +kernel
theorem d1_7 : decode prog_5_method_16_code 7 = .ok (.istore_n 3, 1) := by decide +kernel
theorem d1_8 : decode prog_5_method_16_code 8 = .ok (.iload_n 3, 1) := by decide +kernel
theorem d1_9 : decode prog_5_method_16_code 9 = .ok (.aload_n 0, 1) := by decide +kernel
theorem d1_10 : decode prog_5_method_16_code 10 = .ok (.arraylength, 1) := by decide +kernel
theorem d1_11 : decode prog_5_method_16_code 11 = .ok (.if_icmp .ge 23, 3) := by decide +kernel
theorem d1_14 : decode prog_5_method_16_code 14 = .ok (.lload_n 1, 1) := by decide +kernel
theorem d1_15 : decode prog_5_method_16_code 15 = .ok (.bipush 8, 2) := by decide +kernel
theorem d1_17 : decode prog_5_method_16_code 17 = .ok (.lshl, 1) := by decide +kernel
theorem d1_18 : decode prog_5_method_16_code 18 = .ok (.aload_n 0, 1) := by decide +kernel
theorem d1_19 : decode prog_5_method_16_code 19 = .ok (.iload_n 3, 1) := by decide +kernel
theorem d1_20 : decode prog_5_method_16_code 20 = .ok (.baload, 1) := by decide +kernel
theorem d1_21 : decode prog_5_method_16_code 21 = .ok (.sipush 255, 3) := by decide +kernel
theorem d1_24 : decode prog_5_method_16_code 24 = .ok (.iand, 1) := by decide +kernel
theorem d1_25 : decode prog_5_method_16_code 25 = .ok (.i2l, 1) := by decide +kernel
theorem d1_26 : decode prog_5_method_16_code 26 = .ok (.lor, 1) := by decide +kernel
theorem d1_27 : decode prog_5_method_16_code 27 = .ok (.lstore_n 1, 1) := by decide +kernel
theorem d1_28 : decode prog_5_method_16_code 28 = .ok (.iinc 3 1, 3) := by decide +kernel
theorem d1_31 : decode prog_5_method_16_code 31 = .ok (.goto (-23), 3) := by decide +kernel
theorem d1_34 : decode prog_5_method_16_code 34 = .ok (.lload_n 1, 1) := by decide +kernel
theorem d1_35 : decode prog_5_method_16_code 35 = .ok (.lreturn, 1) := by decide +kernel
theorem pn_1 : plainName "com/example/dani/dani/core/Key" = true := by first | (simp [plainName, overriddenIn]; done) | decide +kernel
theorem ef_1_8 (m : MethodId) (x0 : Addr) : entryFrame m #[(.ref x0)] 4 = mkF m 0 #[rv x0, .unset, .unset, .unset] [] := by first | (simp [entryFrame, mkF, argsToLocals, Value.category]; done) | rfl
def own_f1_8 (w0 : Int32) (w1 : Int32) (w2 : Int32) (w3 : Int32) (w4 : Int32) (w5 : Int32) (w6 : Int32) (w7 : Int32) : Int64 := (let z4 : Int64 := ((0 : Int64) ||| ((w0 &&& (255 : Int32)).toInt64)); (let z7 : Int64 := ((z4 <<< ((8 : Int32) &&& 0x3f).toInt64) ||| ((w1 &&& (255 : Int32)).toInt64)); (let z10 : Int64 := ((z7 <<< ((8 : Int32) &&& 0x3f).toInt64) ||| ((w2 &&& (255 : Int32)).toInt64)); (let z13 : Int64 := ((z10 <<< ((8 : Int32) &&& 0x3f).toInt64) ||| ((w3 &&& (255 : Int32)).toInt64)); (let z16 : Int64 := ((z13 <<< ((8 : Int32) &&& 0x3f).toInt64) ||| ((w4 &&& (255 : Int32)).toInt64)); (let z19 : Int64 := ((z16 <<< ((8 : Int32) &&& 0x3f).toInt64) ||| ((w5 &&& (255 : Int32)).toInt64)); (let z22 : Int64 := ((z19 <<< ((8 : Int32) &&& 0x3f).toInt64) ||| ((w6 &&& (255 : Int32)).toInt64)); (let z25 : Int64 := ((z22 <<< ((8 : Int32) &&& 0x3f).toInt64) ||| ((w7 &&& (255 : Int32)).toInt64)); z25))))))))
def Q1_8 (Z : State) (a0 : Addr) (k : ClassId) (w0 : Int32) (w1 : Int32) (w2 : Int32) (w3 : Int32) (w4 : Int32) (w5 : Int32) (w6 : Int32) (w7 : Int32) (h0 : Heap) (n0 : Nat) (v : Option Value) (h : Heap) (L : List Loc) : Prop := v = some (.long (own_f1_8 w0 w1 w2 w3 w4 w5 w6 w7)) ∧ Fr n0 L ∧ h = h0
set_option maxRecDepth 65536 in
set_option maxHeartbeats 40000000 in
theorem rm1_8 (l : Launch) (Z : State) (aw : Array Value) (hw : ∀ d ∈ tables_1, d.before aw Z = true) (ws : List Jvm.Cond) (a0 : Addr) (k : ClassId) (w0 : Int32) (w1 : Int32) (w2 : Int32) (w3 : Int32) (w4 : Int32) (w5 : Int32) (w6 : Int32) (w7 : Int32) (h0 : Heap) (n0 : Nat) (Z0 : n0 ≤ h0.size) (P0 : Arv Z h0 a0 k .byte (8 : Int32) [(.int w0), (.int w1), (.int w2), (.int w3), (.int w4), (.int w5), (.int w6), (.int w7)] (.int 0)) :
    MetFree l (⟨"com/example/dani/dani/core/Key", "trailingNumber", "([B)J"⟩ : MethodName) (head1 (Jvm.Cond.code (⟨"com/example/dani/dani/core/Key", "trailingNumber", "([B)J"⟩ : MethodName) prog_5_method_16_code 4 (some .long) :: ws) ({ frames := 0, cells := 0, slots := 0, locals := 0 } : Room)) (fun a U => a = #[(.ref a0)] ∧ Z.Warmed39 U.vm ∧ U.heap = h0) (fun _ _ _ _ _ => True) (fun _ U o U' => ∃ v L, o = .returned v ∧ Q1_8 Z a0 k w0 w1 w2 w3 w4 w5 w6 w7 h0 n0 v U'.heap L ∧ FrameEnd U o U' L ({ frames := 0, cells := 0, slots := 0, locals := 0 } : Room).cells ({ frames := 0, cells := 0, slots := 0, locals := 0 } : Room).slots) := by
  refine MetFree.of_bodySF (plainFor_of_name pn_1) hisR ?_
  intro p e s m args below meth c s₁ Bd hml0 hP hK
  obtain ⟨rfl, hZ, hh⟩ := hP
  have hx := Bd.exec
  have hby := Bd.bytes
  have hml : c.maxLocals = 4 := hml0
  have hown : s.vm.findClass "com/example/dani/dani/core/Key" = some m.cls := findClass_of_methodNamed Bd.named
  have hnm := (name_of_methodNamed Bd.named Bd.method).1
  have hlk : meth.locks = false := by first | exact BodyLoose.notSynchronized (by assumption) | exact Body.notSynchronized (by assumption)
  have X0 : Stand p l e ({ frames := 0, cells := 0, slots := 0, locals := 0 } : Room) s m #[(.ref a0)] below meth c s₁ [] 0 0 := Stand.of_body Bd
  have e0 : s₁.heap = h0 := by rw [← hh, Bd.state]; rfl
  have N0 := Fr.nil n0
  have K0 : Keep h0 h0 [] := Keep.refl _ _
  refine own_start (CS := (0, 0)) (Q := (Q1_8 Z a0 k w0 w1 w2 w3 w4 w5 w6 w7 h0 n0)) (ef_1_8 m a0) ?_
  show own_Go p e below s _ _ (s₁.setTop (mkF m 0 #[rv a0, .unset, .unset, .unset] []))
  refine own_via (fun k => XS.lconst X0.here hx rfl (hb hby d1_0) (XS.lstoreN X0.here hx rfl (hb hby d1_1) rfl (l' := #[rv a0, jv 0, .second, .unset]) rfl (XS.aloadN X0.here hx rfl (hb hby d1_2) rfl rfl  k))) ?_
  show own_Go p e below s _ _ (s₁.setTop (mkF m 3 #[rv a0, jv 0, .second, .unset] [(.ref a0)]))
  obtain ⟨cl1, Ar1, -, S1, NN1, -, -⟩ := id P0
  refine own_via (fun k => X0.arraylength hx (by rw [e0]; exact Ar1.1) (State.isArrayOf_alike hZ.alike Ar1.2.1) (g := (mkF m 3 #[rv a0, jv 0, .second, .unset] [(.ref a0)])) rfl rfl (hb hby d1_3) _ k) ?_
  rw [len_of S1 NN1]
  show own_Go p e below s _ _ (s₁.setTop (mkF m 4 #[rv a0, jv 0, .second, .unset] [(.int 8)]))
  refine own_via (fun k => XS.bipush X0.here hx rfl (hb hby d1_4) (XS.isub X0.here hx rfl (hb hby d1_6) rfl (XS.istoreN X0.here hx rfl (hb hby d1_7) rfl (l' := #[rv a0, jv 0, .second, iv 0]) rfl (XS.iloadN X0.here hx rfl (hb hby d1_8) rfl  k)))) ?_
  show own_Go p e below s _ _ (s₁.setTop (mkF m 9 #[rv a0, jv 0, .second, iv 0] [(.int 0)]))
  refine own_via (fun k => XS.aloadN X0.here hx rfl (hb hby d1_9) rfl rfl  k) ?_
  show own_Go p e below s _ _ (s₁.setTop (mkF m 10 #[rv a0, jv 0, .second, iv 0] [(.ref a0), (.int 0)]))
  obtain ⟨cl2, Ar2, -, S2, NN2, -, -⟩ := id P0
  refine own_via (fun k => X0.arraylength hx (by rw [e0]; exact Ar2.1) (State.isArrayOf_alike hZ.alike Ar2.2.1) (g := (mkF m 10 #[rv a0, jv 0, .second, iv 0] [(.ref a0), (.int 0)])) rfl rfl (hb hby d1_10) _ k) ?_
  rw [len_of S2 NN2]
  show own_Go p e below s _ _ (s₁.setTop (mkF m 11 #[rv a0, jv 0, .second, iv 0] [(.int 8), (.int 0)]))
  refine own_via (fun k => XS.icmpNo X0.here hx rfl (hb hby d1_11) rfl (by decide) k) ?_
  show own_Go p e below s _ _ (s₁.setTop (mkF m 14 #[rv a0, jv 0, .second, iv 0] []))
  refine own_via (fun k => XS.lloadN X0.here hx rfl (hb hby d1_14) rfl  (XS.bipush X0.here hx rfl (hb hby d1_15) (XS.lshl X0.here hx rfl (hb hby d1_17) rfl k))) ?_
  show own_Go p e below s _ _ (s₁.setTop (mkF m 18 #[rv a0, jv 0, .second, iv 0] [(.long ((0 : Int64) <<< ((8 : Int32) &&& 0x3f).toInt64))]))
  rw [show ((0 : Int64) <<< ((8 : Int32) &&& 0x3f).toInt64) = (0 : Int64) from by decide]
  show own_Go p e below s _ _ (s₁.setTop (mkF m 18 #[rv a0, jv 0, .second, iv 0] [(.long 0)]))
  refine own_via (fun k => XS.aloadN X0.here hx rfl (hb hby d1_18) rfl rfl  (XS.iloadN X0.here hx rfl (hb hby d1_19) rfl  k)) ?_
  show own_Go p e below s _ _ (s₁.setTop (mkF m 20 #[rv a0, jv 0, .second, iv 0] [(.int 0), (.ref a0), (.long 0)]))
  obtain ⟨cl3, Ar3, q3, S3, NN3, H3, G3⟩ := id P0
  have hin3 : ¬ ((0 : Int32) < 0 ∨ cl3.slots.size ≤ ((0 : Int32)).toNatClampNeg) := inb_of S3 ⟨by decide, by decide⟩
  have hat3 : cl3.slots[((0 : Int32)).toNatClampNeg]? = some (.int w0) := H3.at hin3 rfl
  refine own_via (fun k => X0.baloadBytes hx (j := (0 : Int32)) (v := (.int w0)) (by rw [e0]; exact Ar3.1) (State.isArrayOf_alike hZ.alike Ar3.2.1) Ar3.2.2 hin3 hat3 (g := (mkF m 20 #[rv a0, jv 0, .second, iv 0] [(.int 0), (.ref a0), (.long 0)])) rfl rfl (hb hby d1_20) _ k) ?_
  show own_Go p e below s _ _ (s₁.setTop (mkF m 21 #[rv a0, jv 0, .second, iv 0] [(.int w0), (.long 0)]))
  refine own_via (fun k => XS.sipush X0.here hx rfl (hb hby d1_21) (XS.iand X0.here hx rfl (hb hby d1_24) rfl (XS.i2l X0.here hx rfl (hb hby d1_25) rfl (XS.lor X0.here hx rfl (hb hby d1_26) rfl k)))) ?_
  show own_Go p e below s _ _ (s₁.setTop (mkF m 27 #[rv a0, jv 0, .second, iv 0] [(.long ((0 : Int64) ||| ((w0 &&& (255 : Int32)).toInt64)))]))
  obtain ⟨z4, hz4⟩ : ∃ z : Int64, z = ((0 : Int64) ||| ((w0 &&& (255 : Int32)).toInt64)) := ⟨_, rfl⟩
  rw [← hz4]
  show own_Go p e below s _ _ (s₁.setTop (mkF m 27 #[rv a0, jv 0, .second, iv 0] [(.long z4)]))
  refine own_via (fun k => XS.lstoreN X0.here hx rfl (hb hby d1_27) rfl (l' := #[rv a0, jv z4, .second, iv 0]) rfl (XS.iinc X0.here hx rfl (hb hby d1_28) rfl (l' := #[rv a0, jv z4, .second, iv 1]) rfl (XS.goto X0.here hx rfl (pc0 := 31) (pc' := 8) rfl (hb hby d1_31) (by decide) (by decide) (XS.iloadN X0.here hx rfl (hb hby d1_8) rfl  k)))) ?_
  show own_Go p e below s _ _ (s₁.setTop (mkF m 9 #[rv a0, jv z4, .second, iv 1] [(.int 1)]))
  refine own_via (fun k => XS.aloadN X0.here hx rfl (hb hby d1_9) rfl rfl  k) ?_
  show own_Go p e below s _ _ (s₁.setTop (mkF m 10 #[rv a0, jv z4, .second, iv 1] [(.ref a0), (.int 1)]))
  obtain ⟨cl5, Ar5, -, S5, NN5, -, -⟩ := id P0
  refine own_via (fun k => X0.arraylength hx (by rw [e0]; exact Ar5.1) (State.isArrayOf_alike hZ.alike Ar5.2.1) (g := (mkF m 10 #[rv a0, jv z4, .second, iv 1] [(.ref a0), (.int 1)])) rfl rfl (hb hby d1_10) _ k) ?_
  rw [len_of S5 NN5]
  show own_Go p e below s _ _ (s₁.setTop (mkF m 11 #[rv a0, jv z4, .second, iv 1] [(.int 8), (.int 1)]))
  refine own_via (fun k => XS.icmpNo X0.here hx rfl (hb hby d1_11) rfl (by decide) k) ?_
  show own_Go p e below s _ _ (s₁.setTop (mkF m 14 #[rv a0, jv z4, .second, iv 1] []))
  refine own_via (fun k => XS.lloadN X0.here hx rfl (hb hby d1_14) rfl  (XS.bipush X0.here hx rfl (hb hby d1_15) (XS.lshl X0.here hx rfl (hb hby d1_17) rfl (XS.aloadN X0.here hx rfl (hb hby d1_18) rfl rfl  k)))) ?_
  show own_Go p e below s _ _ (s₁.setTop (mkF m 19 #[rv a0, jv z4, .second, iv 1] [(.ref a0), (.long (z4 <<< ((8 : Int32) &&& 0x3f).toInt64))]))
  refine own_via (fun k => XS.iloadN X0.here hx rfl (hb hby d1_19) rfl  k) ?_
  show own_Go p e below s _ _ (s₁.setTop (mkF m 20 #[rv a0, jv z4, .second, iv 1] [(.int 1), (.ref a0), (.long (z4 <<< ((8 : Int32) &&& 0x3f).toInt64))]))
  obtain ⟨cl6, Ar6, q6, S6, NN6, H6, G6⟩ := id P0
  have hin6 : ¬ ((1 : Int32) < 0 ∨ cl6.slots.size ≤ ((1 : Int32)).toNatClampNeg) := inb_of S6 ⟨by decide, by decide⟩
  have hat6 : cl6.slots[((1 : Int32)).toNatClampNeg]? = some (.int w1) := H6.at hin6 rfl
  refine own_via (fun k => X0.baloadBytes hx (j := (1 : Int32)) (v := (.int w1)) (by rw [e0]; exact Ar6.1) (State.isArrayOf_alike hZ.alike Ar6.2.1) Ar6.2.2 hin6 hat6 (g := (mkF m 20 #[rv a0, jv z4, .second, iv 1] [(.int 1), (.ref a0), (.long (z4 <<< ((8 : Int32) &&& 0x3f).toInt64))])) rfl rfl (hb hby d1_20) _ k) ?_
  show own_Go p e below s _ _ (s₁.setTop (mkF m 21 #[rv a0, jv z4, .second, iv 1] [(.int w1), (.long (z4 <<< ((8 : Int32) &&& 0x3f).toInt64))]))
  refine own_via (fun k => XS.sipush X0.here hx rfl (hb hby d1_21) (XS.iand X0.here hx rfl (hb hby d1_24) rfl (XS.i2l X0.here hx rfl (hb hby d1_25) rfl (XS.lor X0.here hx rfl (hb hby d1_26) rfl k)))) ?_
  show own_Go p e below s _ _ (s₁.setTop (mkF m 27 #[rv a0, jv z4, .second, iv 1] [(.long ((z4 <<< ((8 : Int32) &&& 0x3f).toInt64) ||| ((w1 &&& (255 : Int32)).toInt64)))]))
  obtain ⟨z7, hz7⟩ : ∃ z : Int64, z = ((z4 <<< ((8 : Int32) &&& 0x3f).toInt64) ||| ((w1 &&& (255 : Int32)).toInt64)) := ⟨_, rfl⟩
  rw [← hz7]
  show own_Go p e below s _ _ (s₁.setTop (mkF m 27 #[rv a0, jv z4, .second, iv 1] [(.long z7)]))
  refine own_via (fun k => XS.lstoreN X0.here hx rfl (hb hby d1_27) rfl (l' := #[rv a0, jv z7, .second, iv 1]) rfl (XS.iinc X0.here hx rfl (hb hby d1_28) rfl (l' := #[rv a0, jv z7, .second, iv 2]) rfl (XS.goto X0.here hx rfl (pc0 := 31) (pc' := 8) rfl (hb hby d1_31) (by decide) (by decide) (XS.iloadN X0.here hx rfl (hb hby d1_8) rfl  k)))) ?_
  show own_Go p e below s _ _ (s₁.setTop (mkF m 9 #[rv a0, jv z7, .second, iv 2] [(.int 2)]))
  refine own_via (fun k => XS.aloadN X0.here hx rfl (hb hby d1_9) rfl rfl  k) ?_
  show own_Go p e below s _ _ (s₁.setTop (mkF m 10 #[rv a0, jv z7, .second, iv 2] [(.ref a0), (.int 2)]))
  obtain ⟨cl8, Ar8, -, S8, NN8, -, -⟩ := id P0
  refine own_via (fun k => X0.arraylength hx (by rw [e0]; exact Ar8.1) (State.isArrayOf_alike hZ.alike Ar8.2.1) (g := (mkF m 10 #[rv a0, jv z7, .second, iv 2] [(.ref a0), (.int 2)])) rfl rfl (hb hby d1_10) _ k) ?_
  rw [len_of S8 NN8]
  show own_Go p e below s _ _ (s₁.setTop (mkF m 11 #[rv a0, jv z7, .second, iv 2] [(.int 8), (.int 2)]))
  refine own_via (fun k => XS.icmpNo X0.here hx rfl (hb hby d1_11) rfl (by decide) k) ?_
  show own_Go p e below s _ _ (s₁.setTop (mkF m 14 #[rv a0, jv z7, .second, iv 2] []))
  refine own_via (fun k => XS.lloadN X0.here hx rfl (hb hby d1_14) rfl  (XS.bipush X0.here hx rfl (hb hby d1_15) (XS.lshl X0.here hx rfl (hb hby d1_17) rfl (XS.aloadN X0.here hx rfl (hb hby d1_18) rfl rfl  k)))) ?_
  show own_Go p e below s _ _ (s₁.setTop (mkF m 19 #[rv a0, jv z7, .second, iv 2] [(.ref a0), (.long (z7 <<< ((8 : Int32) &&& 0x3f).toInt64))]))
  refine own_via (fun k => XS.iloadN X0.here hx rfl (hb hby d1_19) rfl  k) ?_
  show own_Go p e below s _ _ (s₁.setTop (mkF m 20 #[rv a0, jv z7, .second, iv 2] [(.int 2), (.ref a0), (.long (z7 <<< ((8 : Int32) &&& 0x3f).toInt64))]))
  obtain ⟨cl9, Ar9, q9, S9, NN9, H9, G9⟩ := id P0
  have hin9 : ¬ ((2 : Int32) < 0 ∨ cl9.slots.size ≤ ((2 : Int32)).toNatClampNeg) := inb_of S9 ⟨by decide, by decide⟩
  have hat9 : cl9.slots[((2 : Int32)).toNatClampNeg]? = some (.int w2) := H9.at hin9 rfl
  refine own_via (fun k => X0.baloadBytes hx (j := (2 : Int32)) (v := (.int w2)) (by rw [e0]; exact Ar9.1) (State.isArrayOf_alike hZ.alike Ar9.2.1) Ar9.2.2 hin9 hat9 (g := (mkF m 20 #[rv a0, jv z7, .second, iv 2] [(.int 2), (.ref a0), (.long (z7 <<< ((8 : Int32) &&& 0x3f).toInt64))])) rfl rfl (hb hby d1_20) _ k) ?_
  show own_Go p e below s _ _ (s₁.setTop (mkF m 21 #[rv a0, jv z7, .second, iv 2] [(.int w2), (.long (z7 <<< ((8 : Int32) &&& 0x3f).toInt64))]))
  refine own_via (fun k => XS.sipush X0.here hx rfl (hb hby d1_21) (XS.iand X0.here hx rfl (hb hby d1_24) rfl (XS.i2l X0.here hx rfl (hb hby d1_25) rfl (XS.lor X0.here hx rfl (hb hby d1_26) rfl k)))) ?_
  show own_Go p e below s _ _ (s₁.setTop (mkF m 27 #[rv a0, jv z7, .second, iv 2] [(.long ((z7 <<< ((8 : Int32) &&& 0x3f).toInt64) ||| ((w2 &&& (255 : Int32)).toInt64)))]))
  obtain ⟨z10, hz10⟩ : ∃ z : Int64, z = ((z7 <<< ((8 : Int32) &&& 0x3f).toInt64) ||| ((w2 &&& (255 : Int32)).toInt64)) := ⟨_, rfl⟩
  rw [← hz10]
  show own_Go p e below s _ _ (s₁.setTop (mkF m 27 #[rv a0, jv z7, .second, iv 2] [(.long z10)]))
  refine own_via (fun k => XS.lstoreN X0.here hx rfl (hb hby d1_27) rfl (l' := #[rv a0, jv z10, .second, iv 2]) rfl (XS.iinc X0.here hx rfl (hb hby d1_28) rfl (l' := #[rv a0, jv z10, .second, iv 3]) rfl (XS.goto X0.here hx rfl (pc0 := 31) (pc' := 8) rfl (hb hby d1_31) (by decide) (by decide) (XS.iloadN X0.here hx rfl (hb hby d1_8) rfl  k)))) ?_
  show own_Go p e below s _ _ (s₁.setTop (mkF m 9 #[rv a0, jv z10, .second, iv 3] [(.int 3)]))
  refine own_via (fun k => XS.aloadN X0.here hx rfl (hb hby d1_9) rfl rfl  k) ?_
  show own_Go p e below s _ _ (s₁.setTop (mkF m 10 #[rv a0, jv z10, .second, iv 3] [(.ref a0), (.int 3)]))
  obtain ⟨cl11, Ar11, -, S11, NN11, -, -⟩ := id P0
  refine own_via (fun k => X0.arraylength hx (by rw [e0]; exact Ar11.1) (State.isArrayOf_alike hZ.alike Ar11.2.1) (g := (mkF m 10 #[rv a0, jv z10, .second, iv 3] [(.ref a0), (.int 3)])) rfl rfl (hb hby d1_10) _ k) ?_
  rw [len_of S11 NN11]
  show own_Go p e below s _ _ (s₁.setTop (mkF m 11 #[rv a0, jv z10, .second, iv 3] [(.int 8), (.int 3)]))
  refine own_via (fun k => XS.icmpNo X0.here hx rfl (hb hby d1_11) rfl (by decide) k) ?_
  show own_Go p e below s _ _ (s₁.setTop (mkF m 14 #[rv a0, jv z10, .second, iv 3] []))
  refine own_via (fun k => XS.lloadN X0.here hx rfl (hb hby d1_14) rfl  (XS.bipush X0.here hx rfl (hb hby d1_15) (XS.lshl X0.here hx rfl (hb hby d1_17) rfl (XS.aloadN X0.here hx rfl (hb hby d1_18) rfl rfl  k)))) ?_
  show own_Go p e below s _ _ (s₁.setTop (mkF m 19 #[rv a0, jv z10, .second, iv 3] [(.ref a0), (.long (z10 <<< ((8 : Int32) &&& 0x3f).toInt64))]))
  refine own_via (fun k => XS.iloadN X0.here hx rfl (hb hby d1_19) rfl  k) ?_
  show own_Go p e below s _ _ (s₁.setTop (mkF m 20 #[rv a0, jv z10, .second, iv 3] [(.int 3), (.ref a0), (.long (z10 <<< ((8 : Int32) &&& 0x3f).toInt64))]))
  obtain ⟨cl12, Ar12, q12, S12, NN12, H12, G12⟩ := id P0
  have hin12 : ¬ ((3 : Int32) < 0 ∨ cl12.slots.size ≤ ((3 : Int32)).toNatClampNeg) := inb_of S12 ⟨by decide, by decide⟩
  have hat12 : cl12.slots[((3 : Int32)).toNatClampNeg]? = some (.int w3) := H12.at hin12 rfl
  refine own_via (fun k => X0.baloadBytes hx (j := (3 : Int32)) (v := (.int w3)) (by rw [e0]; exact Ar12.1) (State.isArrayOf_alike hZ.alike Ar12.2.1) Ar12.2.2 hin12 hat12 (g := (mkF m 20 #[rv a0, jv z10, .second, iv 3] [(.int 3), (.ref a0), (.long (z10 <<< ((8 : Int32) &&& 0x3f).toInt64))])) rfl rfl (hb hby d1_20) _ k) ?_
  show own_Go p e below s _ _ (s₁.setTop (mkF m 21 #[rv a0, jv z10, .second, iv 3] [(.int w3), (.long (z10 <<< ((8 : Int32) &&& 0x3f).toInt64))]))
  refine own_via (fun k => XS.sipush X0.here hx rfl (hb hby d1_21) (XS.iand X0.here hx rfl (hb hby d1_24) rfl (XS.i2l X0.here hx rfl (hb hby d1_25) rfl (XS.lor X0.here hx rfl (hb hby d1_26) rfl k)))) ?_
  show own_Go p e below s _ _ (s₁.setTop (mkF m 27 #[rv a0, jv z10, .second, iv 3] [(.long ((z10 <<< ((8 : Int32) &&& 0x3f).toInt64) ||| ((w3 &&& (255 : Int32)).toInt64)))]))
  obtain ⟨z13, hz13⟩ : ∃ z : Int64, z = ((z10 <<< ((8 : Int32) &&& 0x3f).toInt64) ||| ((w3 &&& (255 : Int32)).toInt64)) := ⟨_, rfl⟩
  rw [← hz13]
  show own_Go p e below s _ _ (s₁.setTop (mkF m 27 #[rv a0, jv z10, .second, iv 3] [(.long z13)]))
  refine own_via (fun k => XS.lstoreN X0.here hx rfl (hb hby d1_27) rfl (l' := #[rv a0, jv z13, .second, iv 3]) rfl (XS.iinc X0.here hx rfl (hb hby d1_28) rfl (l' := #[rv a0, jv z13, .second, iv 4]) rfl (XS.goto X0.here hx rfl (pc0 := 31) (pc' := 8) rfl (hb hby d1_31) (by decide) (by decide) (XS.iloadN X0.here hx rfl (hb hby d1_8) rfl  k)))) ?_
  show own_Go p e below s _ _ (s₁.setTop (mkF m 9 #[rv a0, jv z13, .second, iv 4] [(.int 4)]))
  refine own_via (fun k => XS.aloadN X0.here hx rfl (hb hby d1_9) rfl rfl  k) ?_
  show own_Go p e below s _ _ (s₁.setTop (mkF m 10 #[rv a0, jv z13, .second, iv 4] [(.ref a0), (.int 4)]))
  obtain ⟨cl14, Ar14, -, S14, NN14, -, -⟩ := id P0
  refine own_via (fun k => X0.arraylength hx (by rw [e0]; exact Ar14.1) (State.isArrayOf_alike hZ.alike Ar14.2.1) (g := (mkF m 10 #[rv a0, jv z13, .second, iv 4] [(.ref a0), (.int 4)])) rfl rfl (hb hby d1_10) _ k) ?_
  rw [len_of S14 NN14]
  show own_Go p e below s _ _ (s₁.setTop (mkF m 11 #[rv a0, jv z13, .second, iv 4] [(.int 8), (.int 4)]))
  refine own_via (fun k => XS.icmpNo X0.here hx rfl (hb hby d1_11) rfl (by decide) k) ?_
  show own_Go p e below s _ _ (s₁.setTop (mkF m 14 #[rv a0, jv z13, .second, iv 4] []))
  refine own_via (fun k => XS.lloadN X0.here hx rfl (hb hby d1_14) rfl  (XS.bipush X0.here hx rfl (hb hby d1_15) (XS.lshl X0.here hx rfl (hb hby d1_17) rfl (XS.aloadN X0.here hx rfl (hb hby d1_18) rfl rfl  k)))) ?_
  show own_Go p e below s _ _ (s₁.setTop (mkF m 19 #[rv a0, jv z13, .second, iv 4] [(.ref a0), (.long (z13 <<< ((8 : Int32) &&& 0x3f).toInt64))]))
  refine own_via (fun k => XS.iloadN X0.here hx rfl (hb hby d1_19) rfl  k) ?_
  show own_Go p e below s _ _ (s₁.setTop (mkF m 20 #[rv a0, jv z13, .second, iv 4] [(.int 4), (.ref a0), (.long (z13 <<< ((8 : Int32) &&& 0x3f).toInt64))]))
  obtain ⟨cl15, Ar15, q15, S15, NN15, H15, G15⟩ := id P0
  have hin15 : ¬ ((4 : Int32) < 0 ∨ cl15.slots.size ≤ ((4 : Int32)).toNatClampNeg) := inb_of S15 ⟨by decide, by decide⟩
  have hat15 : cl15.slots[((4 : Int32)).toNatClampNeg]? = some (.int w4) := H15.at hin15 rfl
  refine own_via (fun k => X0.baloadBytes hx (j := (4 : Int32)) (v := (.int w4)) (by rw [e0]; exact Ar15.1) (State.isArrayOf_alike hZ.alike Ar15.2.1) Ar15.2.2 hin15 hat15 (g := (mkF m 20 #[rv a0, jv z13, .second, iv 4] [(.int 4), (.ref a0), (.long (z13 <<< ((8 : Int32) &&& 0x3f).toInt64))])) rfl rfl (hb hby d1_20) _ k) ?_
  show own_Go p e below s _ _ (s₁.setTop (mkF m 21 #[rv a0, jv z13, .second, iv 4] [(.int w4), (.long (z13 <<< ((8 : Int32) &&& 0x3f).toInt64))]))
  refine own_via (fun k => XS.sipush X0.here hx rfl (hb hby d1_21) (XS.iand X0.here hx rfl (hb hby d1_24) rfl (XS.i2l X0.here hx rfl (hb hby d1_25) rfl (XS.lor X0.here hx rfl (hb hby d1_26) rfl k)))) ?_
  show own_Go p e below s _ _ (s₁.setTop (mkF m 27 #[rv a0, jv z13, .second, iv 4] [(.long ((z13 <<< ((8 : Int32) &&& 0x3f).toInt64) ||| ((w4 &&& (255 : Int32)).toInt64)))]))
  obtain ⟨z16, hz16⟩ : ∃ z : Int64, z = ((z13 <<< ((8 : Int32) &&& 0x3f).toInt64) ||| ((w4 &&& (255 : Int32)).toInt64)) := ⟨_, rfl⟩
  rw [← hz16]
  show own_Go p e below s _ _ (s₁.setTop (mkF m 27 #[rv a0, jv z13, .second, iv 4] [(.long z16)]))
  refine own_via (fun k => XS.lstoreN X0.here hx rfl (hb hby d1_27) rfl (l' := #[rv a0, jv z16, .second, iv 4]) rfl (XS.iinc X0.here hx rfl (hb hby d1_28) rfl (l' := #[rv a0, jv z16, .second, iv 5]) rfl (XS.goto X0.here hx rfl (pc0 := 31) (pc' := 8) rfl (hb hby d1_31) (by decide) (by decide) (XS.iloadN X0.here hx rfl (hb hby d1_8) rfl  k)))) ?_
  show own_Go p e below s _ _ (s₁.setTop (mkF m 9 #[rv a0, jv z16, .second, iv 5] [(.int 5)]))
  refine own_via (fun k => XS.aloadN X0.here hx rfl (hb hby d1_9) rfl rfl  k) ?_
  show own_Go p e below s _ _ (s₁.setTop (mkF m 10 #[rv a0, jv z16, .second, iv 5] [(.ref a0), (.int 5)]))
  obtain ⟨cl17, Ar17, -, S17, NN17, -, -⟩ := id P0
  refine own_via (fun k => X0.arraylength hx (by rw [e0]; exact Ar17.1) (State.isArrayOf_alike hZ.alike Ar17.2.1) (g := (mkF m 10 #[rv a0, jv z16, .second, iv 5] [(.ref a0), (.int 5)])) rfl rfl (hb hby d1_10) _ k) ?_
  rw [len_of S17 NN17]
  show own_Go p e below s _ _ (s₁.setTop (mkF m 11 #[rv a0, jv z16, .second, iv 5] [(.int 8), (.int 5)]))
  refine own_via (fun k => XS.icmpNo X0.here hx rfl (hb hby d1_11) rfl (by decide) k) ?_
  show own_Go p e below s _ _ (s₁.setTop (mkF m 14 #[rv a0, jv z16, .second, iv 5] []))
  refine own_via (fun k => XS.lloadN X0.here hx rfl (hb hby d1_14) rfl  (XS.bipush X0.here hx rfl (hb hby d1_15) (XS.lshl X0.here hx rfl (hb hby d1_17) rfl (XS.aloadN X0.here hx rfl (hb hby d1_18) rfl rfl  k)))) ?_
  show own_Go p e below s _ _ (s₁.setTop (mkF m 19 #[rv a0, jv z16, .second, iv 5] [(.ref a0), (.long (z16 <<< ((8 : Int32) &&& 0x3f).toInt64))]))
  refine own_via (fun k => XS.iloadN X0.here hx rfl (hb hby d1_19) rfl  k) ?_
  show own_Go p e below s _ _ (s₁.setTop (mkF m 20 #[rv a0, jv z16, .second, iv 5] [(.int 5), (.ref a0), (.long (z16 <<< ((8 : Int32) &&& 0x3f).toInt64))]))
  obtain ⟨cl18, Ar18, q18, S18, NN18, H18, G18⟩ := id P0
  have hin18 : ¬ ((5 : Int32) < 0 ∨ cl18.slots.size ≤ ((5 : Int32)).toNatClampNeg) := inb_of S18 ⟨by decide, by decide⟩
  have hat18 : cl18.slots[((5 : Int32)).toNatClampNeg]? = some (.int w5) := H18.at hin18 rfl
  refine own_via (fun k => X0.baloadBytes hx (j := (5 : Int32)) (v := (.int w5)) (by rw [e0]; exact Ar18.1) (State.isArrayOf_alike hZ.alike Ar18.2.1) Ar18.2.2 hin18 hat18 (g := (mkF m 20 #[rv a0, jv z16, .second, iv 5] [(.int 5), (.ref a0), (.long (z16 <<< ((8 : Int32) &&& 0x3f).toInt64))])) rfl rfl (hb hby d1_20) _ k) ?_
  show own_Go p e below s _ _ (s₁.setTop (mkF m 21 #[rv a0, jv z16, .second, iv 5] [(.int w5), (.long (z16 <<< ((8 : Int32) &&& 0x3f).toInt64))]))
  refine own_via (fun k => XS.sipush X0.here hx rfl (hb hby d1_21) (XS.iand X0.here hx rfl (hb hby d1_24) rfl (XS.i2l X0.here hx rfl (hb hby d1_25) rfl (XS.lor X0.here hx rfl (hb hby d1_26) rfl k)))) ?_
  show own_Go p e below s _ _ (s₁.setTop (mkF m 27 #[rv a0, jv z16, .second, iv 5] [(.long ((z16 <<< ((8 : Int32) &&& 0x3f).toInt64) ||| ((w5 &&& (255 : Int32)).toInt64)))]))
  obtain ⟨z19, hz19⟩ : ∃ z : Int64, z = ((z16 <<< ((8 : Int32) &&& 0x3f).toInt64) ||| ((w5 &&& (255 : Int32)).toInt64)) := ⟨_, rfl⟩
  rw [← hz19]
  show own_Go p e below s _ _ (s₁.setTop (mkF m 27 #[rv a0, jv z16, .second, iv 5] [(.long z19)]))
  refine own_via (fun k => XS.lstoreN X0.here hx rfl (hb hby d1_27) rfl (l' := #[rv a0, jv z19, .second, iv 5]) rfl (XS.iinc X0.here hx rfl (hb hby d1_28) rfl (l' := #[rv a0, jv z19, .second, iv 6]) rfl (XS.goto X0.here hx rfl (pc0 := 31) (pc' := 8) rfl (hb hby d1_31) (by decide) (by decide) (XS.iloadN X0.here hx rfl (hb hby d1_8) rfl  k)))) ?_
  show own_Go p e below s _ _ (s₁.setTop (mkF m 9 #[rv a0, jv z19, .second, iv 6] [(.int 6)]))
  refine own_via (fun k => XS.aloadN X0.here hx rfl (hb hby d1_9) rfl rfl  k) ?_
  show own_Go p e below s _ _ (s₁.setTop (mkF m 10 #[rv a0, jv z19, .second, iv 6] [(.ref a0), (.int 6)]))
  obtain ⟨cl20, Ar20, -, S20, NN20, -, -⟩ := id P0
  refine own_via (fun k => X0.arraylength hx (by rw [e0]; exact Ar20.1) (State.isArrayOf_alike hZ.alike Ar20.2.1) (g := (mkF m 10 #[rv a0, jv z19, .second, iv 6] [(.ref a0), (.int 6)])) rfl rfl (hb hby d1_10) _ k) ?_
  rw [len_of S20 NN20]
  show own_Go p e below s _ _ (s₁.setTop (mkF m 11 #[rv a0, jv z19, .second, iv 6] [(.int 8), (.int 6)]))
  refine own_via (fun k => XS.icmpNo X0.here hx rfl (hb hby d1_11) rfl (by decide) k) ?_
  show own_Go p e below s _ _ (s₁.setTop (mkF m 14 #[rv a0, jv z19, .second, iv 6] []))
  refine own_via (fun k => XS.lloadN X0.here hx rfl (hb hby d1_14) rfl  (XS.bipush X0.here hx rfl (hb hby d1_15) (XS.lshl X0.here hx rfl (hb hby d1_17) rfl (XS.aloadN X0.here hx rfl (hb hby d1_18) rfl rfl  k)))) ?_
  show own_Go p e below s _ _ (s₁.setTop (mkF m 19 #[rv a0, jv z19, .second, iv 6] [(.ref a0), (.long (z19 <<< ((8 : Int32) &&& 0x3f).toInt64))]))
  refine own_via (fun k => XS.iloadN X0.here hx rfl (hb hby d1_19) rfl  k) ?_
  show own_Go p e below s _ _ (s₁.setTop (mkF m 20 #[rv a0, jv z19, .second, iv 6] [(.int 6), (.ref a0), (.long (z19 <<< ((8 : Int32) &&& 0x3f).toInt64))]))
  obtain ⟨cl21, Ar21, q21, S21, NN21, H21, G21⟩ := id P0
  have hin21 : ¬ ((6 : Int32) < 0 ∨ cl21.slots.size ≤ ((6 : Int32)).toNatClampNeg) := inb_of S21 ⟨by decide, by decide⟩
  have hat21 : cl21.slots[((6 : Int32)).toNatClampNeg]? = some (.int w6) := H21.at hin21 rfl
  refine own_via (fun k => X0.baloadBytes hx (j := (6 : Int32)) (v := (.int w6)) (by rw [e0]; exact Ar21.1) (State.isArrayOf_alike hZ.alike Ar21.2.1) Ar21.2.2 hin21 hat21 (g := (mkF m 20 #[rv a0, jv z19, .second, iv 6] [(.int 6), (.ref a0), (.long (z19 <<< ((8 : Int32) &&& 0x3f).toInt64))])) rfl rfl (hb hby d1_20) _ k) ?_
  show own_Go p e below s _ _ (s₁.setTop (mkF m 21 #[rv a0, jv z19, .second, iv 6] [(.int w6), (.long (z19 <<< ((8 : Int32) &&& 0x3f).toInt64))]))
  refine own_via (fun k => XS.sipush X0.here hx rfl (hb hby d1_21) (XS.iand X0.here hx rfl (hb hby d1_24) rfl (XS.i2l X0.here hx rfl (hb hby d1_25) rfl (XS.lor X0.here hx rfl (hb hby d1_26) rfl k)))) ?_
  show own_Go p e below s _ _ (s₁.setTop (mkF m 27 #[rv a0, jv z19, .second, iv 6] [(.long ((z19 <<< ((8 : Int32) &&& 0x3f).toInt64) ||| ((w6 &&& (255 : Int32)).toInt64)))]))
  obtain ⟨z22, hz22⟩ : ∃ z : Int64, z = ((z19 <<< ((8 : Int32) &&& 0x3f).toInt64) ||| ((w6 &&& (255 : Int32)).toInt64)) := ⟨_, rfl⟩
  rw [← hz22]
  show own_Go p e below s _ _ (s₁.setTop (mkF m 27 #[rv a0, jv z19, .second, iv 6] [(.long z22)]))
  refine own_via (fun k => XS.lstoreN X0.here hx rfl (hb hby d1_27) rfl (l' := #[rv a0, jv z22, .second, iv 6]) rfl (XS.iinc X0.here hx rfl (hb hby d1_28) rfl (l' := #[rv a0, jv z22, .second, iv 7]) rfl (XS.goto X0.here hx rfl (pc0 := 31) (pc' := 8) rfl (hb hby d1_31) (by decide) (by decide) (XS.iloadN X0.here hx rfl (hb hby d1_8) rfl  k)))) ?_
  show own_Go p e below s _ _ (s₁.setTop (mkF m 9 #[rv a0, jv z22, .second, iv 7] [(.int 7)]))
  refine own_via (fun k => XS.aloadN X0.here hx rfl (hb hby d1_9) rfl rfl  k) ?_
  show own_Go p e below s _ _ (s₁.setTop (mkF m 10 #[rv a0, jv z22, .second, iv 7] [(.ref a0), (.int 7)]))
  obtain ⟨cl23, Ar23, -, S23, NN23, -, -⟩ := id P0
  refine own_via (fun k => X0.arraylength hx (by rw [e0]; exact Ar23.1) (State.isArrayOf_alike hZ.alike Ar23.2.1) (g := (mkF m 10 #[rv a0, jv z22, .second, iv 7] [(.ref a0), (.int 7)])) rfl rfl (hb hby d1_10) _ k) ?_
  rw [len_of S23 NN23]
  show own_Go p e below s _ _ (s₁.setTop (mkF m 11 #[rv a0, jv z22, .second, iv 7] [(.int 8), (.int 7)]))
  refine own_via (fun k => XS.icmpNo X0.here hx rfl (hb hby d1_11) rfl (by decide) k) ?_
  show own_Go p e below s _ _ (s₁.setTop (mkF m 14 #[rv a0, jv z22, .second, iv 7] []))
  refine own_via (fun k => XS.lloadN X0.here hx rfl (hb hby d1_14) rfl  (XS.bipush X0.here hx rfl (hb hby d1_15) (XS.lshl X0.here hx rfl (hb hby d1_17) rfl (XS.aloadN X0.here hx rfl (hb hby d1_18) rfl rfl  k)))) ?_
  show own_Go p e below s _ _ (s₁.setTop (mkF m 19 #[rv a0, jv z22, .second, iv 7] [(.ref a0), (.long (z22 <<< ((8 : Int32) &&& 0x3f).toInt64))]))
  refine own_via (fun k => XS.iloadN X0.here hx rfl (hb hby d1_19) rfl  k) ?_
  show own_Go p e below s _ _ (s₁.setTop (mkF m 20 #[rv a0, jv z22, .second, iv 7] [(.int 7), (.ref a0), (.long (z22 <<< ((8 : Int32) &&& 0x3f).toInt64))]))
  obtain ⟨cl24, Ar24, q24, S24, NN24, H24, G24⟩ := id P0
  have hin24 : ¬ ((7 : Int32) < 0 ∨ cl24.slots.size ≤ ((7 : Int32)).toNatClampNeg) := inb_of S24 ⟨by decide, by decide⟩
  have hat24 : cl24.slots[((7 : Int32)).toNatClampNeg]? = some (.int w7) := H24.at hin24 rfl
  refine own_via (fun k => X0.baloadBytes hx (j := (7 : Int32)) (v := (.int w7)) (by rw [e0]; exact Ar24.1) (State.isArrayOf_alike hZ.alike Ar24.2.1) Ar24.2.2 hin24 hat24 (g := (mkF m 20 #[rv a0, jv z22, .second, iv 7] [(.int 7), (.ref a0), (.long (z22 <<< ((8 : Int32) &&& 0x3f).toInt64))])) rfl rfl (hb hby d1_20) _ k) ?_
  show own_Go p e below s _ _ (s₁.setTop (mkF m 21 #[rv a0, jv z22, .second, iv 7] [(.int w7), (.long (z22 <<< ((8 : Int32) &&& 0x3f).toInt64))]))
  refine own_via (fun k => XS.sipush X0.here hx rfl (hb hby d1_21) (XS.iand X0.here hx rfl (hb hby d1_24) rfl (XS.i2l X0.here hx rfl (hb hby d1_25) rfl (XS.lor X0.here hx rfl (hb hby d1_26) rfl k)))) ?_
  show own_Go p e below s _ _ (s₁.setTop (mkF m 27 #[rv a0, jv z22, .second, iv 7] [(.long ((z22 <<< ((8 : Int32) &&& 0x3f).toInt64) ||| ((w7 &&& (255 : Int32)).toInt64)))]))
  obtain ⟨z25, hz25⟩ : ∃ z : Int64, z = ((z22 <<< ((8 : Int32) &&& 0x3f).toInt64) ||| ((w7 &&& (255 : Int32)).toInt64)) := ⟨_, rfl⟩
  rw [← hz25]
  show own_Go p e below s _ _ (s₁.setTop (mkF m 27 #[rv a0, jv z22, .second, iv 7] [(.long z25)]))
  refine own_via (fun k => XS.lstoreN X0.here hx rfl (hb hby d1_27) rfl (l' := #[rv a0, jv z25, .second, iv 7]) rfl (XS.iinc X0.here hx rfl (hb hby d1_28) rfl (l' := #[rv a0, jv z25, .second, iv 8]) rfl (XS.goto X0.here hx rfl (pc0 := 31) (pc' := 8) rfl (hb hby d1_31) (by decide) (by decide) (XS.iloadN X0.here hx rfl (hb hby d1_8) rfl  k)))) ?_
  show own_Go p e below s _ _ (s₁.setTop (mkF m 9 #[rv a0, jv z25, .second, iv 8] [(.int 8)]))
  refine own_via (fun k => XS.aloadN X0.here hx rfl (hb hby d1_9) rfl rfl  k) ?_
  show own_Go p e below s _ _ (s₁.setTop (mkF m 10 #[rv a0, jv z25, .second, iv 8] [(.ref a0), (.int 8)]))
  obtain ⟨cl26, Ar26, -, S26, NN26, -, -⟩ := id P0
  refine own_via (fun k => X0.arraylength hx (by rw [e0]; exact Ar26.1) (State.isArrayOf_alike hZ.alike Ar26.2.1) (g := (mkF m 10 #[rv a0, jv z25, .second, iv 8] [(.ref a0), (.int 8)])) rfl rfl (hb hby d1_10) _ k) ?_
  rw [len_of S26 NN26]
  show own_Go p e below s _ _ (s₁.setTop (mkF m 11 #[rv a0, jv z25, .second, iv 8] [(.int 8), (.int 8)]))
  refine own_via (fun k => XS.icmpYes X0.here hx rfl (pc0 := 11) (pc' := 34) rfl (hb hby d1_11) rfl (by decide) (by decide) (by decide) k) ?_
  show own_Go p e below s _ _ (s₁.setTop (mkF m 34 #[rv a0, jv z25, .second, iv 8] []))
  refine own_via (fun k => XS.lloadN X0.here hx rfl (hb hby d1_34) rfl  k) ?_
  show own_Go p e below s _ _ (s₁.setTop (mkF m 35 #[rv a0, jv z25, .second, iv 8] [(.long z25)]))
  exact own_retL X0 hx hlk Bd.returns (hb hby d1_35) (Q := (Q1_8 Z a0 k w0 w1 w2 w3 w4 w5 w6 w7 h0 n0)) ⟨(congrArg (fun z => some (Value.long z)) (show z25 = (own_f1_8 w0 w1 w2 w3 w4 w5 w6 w7) from (by subst hz25 hz22 hz19 hz16 hz13 hz10 hz7 hz4; unfold own_f1_8; exact rfl.symm))), N0, e0⟩ (by decide) (by decide)
theorem ef_1_9 (m : MethodId) (x0 : Addr) : entryFrame m #[(.ref x0)] 4 = mkF m 0 #[rv x0, .unset, .unset, .unset] [] := by first | (simp [entryFrame, mkF, argsToLocals, Value.category]; done) | rfl
def own_f1_9 (w1 : Int32) (w2 : Int32) (w3 : Int32) (w4 : Int32) (w5 : Int32) (w6 : Int32) (w7 : Int32) (w8 : Int32) : Int64 := (let z4 : Int64 := ((0 : Int64) ||| ((w1 &&& (255 : Int32)).toInt64)); (let z7 : Int64 := ((z4 <<< ((8 : Int32) &&& 0x3f).toInt64) ||| ((w2 &&& (255 : Int32)).toInt64)); (let z10 : Int64 := ((z7 <<< ((8 : Int32) &&& 0x3f).toInt64) ||| ((w3 &&& (255 : Int32)).toInt64)); (let z13 : Int64 := ((z10 <<< ((8 : Int32) &&& 0x3f).toInt64) ||| ((w4 &&& (255 : Int32)).toInt64)); (let z16 : Int64 := ((z13 <<< ((8 : Int32) &&& 0x3f).toInt64) ||| ((w5 &&& (255 : Int32)).toInt64)); (let z19 : Int64 := ((z16 <<< ((8 : Int32) &&& 0x3f).toInt64) ||| ((w6 &&& (255 : Int32)).toInt64)); (let z22 : Int64 := ((z19 <<< ((8 : Int32) &&& 0x3f).toInt64) ||| ((w7 &&& (255 : Int32)).toInt64)); (let z25 : Int64 := ((z22 <<< ((8 : Int32) &&& 0x3f).toInt64) ||| ((w8 &&& (255 : Int32)).toInt64)); z25))))))))
def Q1_9 (Z : State) (a0 : Addr) (k : ClassId) (w0 : Int32) (w1 : Int32) (w2 : Int32) (w3 : Int32) (w4 : Int32) (w5 : Int32) (w6 : Int32) (w7 : Int32) (w8 : Int32) (h0 : Heap) (n0 : Nat) (v : Option Value) (h : Heap) (L : List Loc) : Prop := v = some (.long (own_f1_9 w1 w2 w3 w4 w5 w6 w7 w8)) ∧ Fr n0 L ∧ h = h0
set_option maxRecDepth 65536 in
set_option maxHeartbeats 40000000 in
theorem rm1_9 (l : Launch) (Z : State) (aw : Array Value) (hw : ∀ d ∈ tables_1, d.before aw Z = true) (ws : List Jvm.Cond) (a0 : Addr) (k : ClassId) (w0 : Int32) (w1 : Int32) (w2 : Int32) (w3 : Int32) (w4 : Int32) (w5 : Int32) (w6 : Int32) (w7 : Int32) (w8 : Int32) (h0 : Heap) (n0 : Nat) (Z0 : n0 ≤ h0.size) (P0 : Arv Z h0 a0 k .byte (9 : Int32) [(.int w0), (.int w1), (.int w2), (.int w3), (.int w4), (.int w5), (.int w6), (.int w7), (.int w8)] (.int 0)) :
    MetFree l (⟨"com/example/dani/dani/core/Key", "trailingNumber", "([B)J"⟩ : MethodName) (head1 (Jvm.Cond.code (⟨"com/example/dani/dani/core/Key", "trailingNumber", "([B)J"⟩ : MethodName) prog_5_method_16_code 4 (some .long) :: ws) ({ frames := 0, cells := 0, slots := 0, locals := 0 } : Room)) (fun a U => a = #[(.ref a0)] ∧ Z.Warmed39 U.vm ∧ U.heap = h0) (fun _ _ _ _ _ => True) (fun _ U o U' => ∃ v L, o = .returned v ∧ Q1_9 Z a0 k w0 w1 w2 w3 w4 w5 w6 w7 w8 h0 n0 v U'.heap L ∧ FrameEnd U o U' L ({ frames := 0, cells := 0, slots := 0, locals := 0 } : Room).cells ({ frames := 0, cells := 0, slots := 0, locals := 0 } : Room).slots) := by
  refine MetFree.of_bodySF (plainFor_of_name pn_1) hisR ?_
  intro p e s m args below meth c s₁ Bd hml0 hP hK
  obtain ⟨rfl, hZ, hh⟩ := hP
  have hx := Bd.exec
  have hby := Bd.bytes
  have hml : c.maxLocals = 4 := hml0
  have hown : s.vm.findClass "com/example/dani/dani/core/Key" = some m.cls := findClass_of_methodNamed Bd.named
  have hnm := (name_of_methodNamed Bd.named Bd.method).1
  have hlk : meth.locks = false := by first | exact BodyLoose.notSynchronized (by assumption) | exact Body.notSynchronized (by assumption)
  have X0 : Stand p l e ({ frames := 0, cells := 0, slots := 0, locals := 0 } : Room) s m #[(.ref a0)] below meth c s₁ [] 0 0 := Stand.of_body Bd
  have e0 : s₁.heap = h0 := by rw [← hh, Bd.state]; rfl
  have N0 := Fr.nil n0
  have K0 : Keep h0 h0 [] := Keep.refl _ _
  refine own_start (CS := (0, 0)) (Q := (Q1_9 Z a0 k w0 w1 w2 w3 w4 w5 w6 w7 w8 h0 n0)) (ef_1_9 m a0) ?_
  show own_Go p e below s _ _ (s₁.setTop (mkF m 0 #[rv a0, .unset, .unset, .unset] []))
  refine own_via (fun k => XS.lconst X0.here hx rfl (hb hby d1_0) (XS.lstoreN X0.here hx rfl (hb hby d1_1) rfl (l' := #[rv a0, jv 0, .second, .unset]) rfl (XS.aloadN X0.here hx rfl (hb hby d1_2) rfl rfl  k))) ?_
  show own_Go p e below s _ _ (s₁.setTop (mkF m 3 #[rv a0, jv 0, .second, .unset] [(.ref a0)]))
  obtain ⟨cl1, Ar1, -, S1, NN1, -, -⟩ := id P0
  refine own_via (fun k => X0.arraylength hx (by rw [e0]; exact Ar1.1) (State.isArrayOf_alike hZ.alike Ar1.2.1) (g := (mkF m 3 #[rv a0, jv 0, .second, .unset] [(.ref a0)])) rfl rfl (hb hby d1_3) _ k) ?_
  rw [len_of S1 NN1]
  show own_Go p e below s _ _ (s₁.setTop (mkF m 4 #[rv a0, jv 0, .second, .unset] [(.int 9)]))
  refine own_via (fun k => XS.bipush X0.here hx rfl (hb hby d1_4) (XS.isub X0.here hx rfl (hb hby d1_6) rfl (XS.istoreN X0.here hx rfl (hb hby d1_7) rfl (l' := #[rv a0, jv 0, .second, iv 1]) rfl (XS.iloadN X0.here hx rfl (hb hby d1_8) rfl  k)))) ?_
  show own_Go p e below s _ _ (s₁.setTop (mkF m 9 #[rv a0, jv 0, .second, iv 1] [(.int 1)]))
  refine own_via (fun k => XS.aloadN X0.here hx rfl (hb hby d1_9) rfl rfl  k) ?_
  show own_Go p e below s _ _ (s₁.setTop (mkF m 10 #[rv a0, jv 0, .second, iv 1] [(.ref a0), (.int 1)]))
  obtain ⟨cl2, Ar2, -, S2, NN2, -, -⟩ := id P0
  refine own_via (fun k => X0.arraylength hx (by rw [e0]; exact Ar2.1) (State.isArrayOf_alike hZ.alike Ar2.2.1) (g := (mkF m 10 #[rv a0, jv 0, .second, iv 1] [(.ref a0), (.int 1)])) rfl rfl (hb hby d1_10) _ k) ?_
  rw [len_of S2 NN2]
  show own_Go p e below s _ _ (s₁.setTop (mkF m 11 #[rv a0, jv 0, .second, iv 1] [(.int 9), (.int 1)]))
  refine own_via (fun k => XS.icmpNo X0.here hx rfl (hb hby d1_11) rfl (by decide) k) ?_
  show own_Go p e below s _ _ (s₁.setTop (mkF m 14 #[rv a0, jv 0, .second, iv 1] []))
  refine own_via (fun k => XS.lloadN X0.here hx rfl (hb hby d1_14) rfl  (XS.bipush X0.here hx rfl (hb hby d1_15) (XS.lshl X0.here hx rfl (hb hby d1_17) rfl k))) ?_
  show own_Go p e below s _ _ (s₁.setTop (mkF m 18 #[rv a0, jv 0, .second, iv 1] [(.long ((0 : Int64) <<< ((8 : Int32) &&& 0x3f).toInt64))]))
  rw [show ((0 : Int64) <<< ((8 : Int32) &&& 0x3f).toInt64) = (0 : Int64) from by decide]
  show own_Go p e below s _ _ (s₁.setTop (mkF m 18 #[rv a0, jv 0, .second, iv 1] [(.long 0)]))
  refine own_via (fun k => XS.aloadN X0.here hx rfl (hb hby d1_18) rfl rfl  (XS.iloadN X0.here hx rfl (hb hby d1_19) rfl  k)) ?_
  show own_Go p e below s _ _ (s₁.setTop (mkF m 20 #[rv a0, jv 0, .second, iv 1] [(.int 1), (.ref a0), (.long 0)]))
  obtain ⟨cl3, Ar3, q3, S3, NN3, H3, G3⟩ := id P0
  have hin3 : ¬ ((1 : Int32) < 0 ∨ cl3.slots.size ≤ ((1 : Int32)).toNatClampNeg) := inb_of S3 ⟨by decide, by decide⟩
  have hat3 : cl3.slots[((1 : Int32)).toNatClampNeg]? = some (.int w1) := H3.at hin3 rfl
  refine own_via (fun k => X0.baloadBytes hx (j := (1 : Int32)) (v := (.int w1)) (by rw [e0]; exact Ar3.1) (State.isArrayOf_alike hZ.alike Ar3.2.1) Ar3.2.2 hin3 hat3 (g := (mkF m 20 #[rv a0, jv 0, .second, iv 1] [(.int 1), (.ref a0), (.long 0)])) rfl rfl (hb hby d1_20) _ k) ?_
  show own_Go p e below s _ _ (s₁.setTop (mkF m 21 #[rv a0, jv 0, .second, iv 1] [(.int w1), (.long 0)]))
  refine own_via (fun k => XS.sipush X0.here hx rfl (hb hby d1_21) (XS.iand X0.here hx rfl (hb hby d1_24) rfl (XS.i2l X0.here hx rfl (hb hby d1_25) rfl (XS.lor X0.here hx rfl (hb hby d1_26) rfl k)))) ?_
  show own_Go p e below s _ _ (s₁.setTop (mkF m 27 #[rv a0, jv 0, .second, iv 1] [(.long ((0 : Int64) ||| ((w1 &&& (255 : Int32)).toInt64)))]))
  obtain ⟨z4, hz4⟩ : ∃ z : Int64, z = ((0 : Int64) ||| ((w1 &&& (255 : Int32)).toInt64)) := ⟨_, rfl⟩
  rw [← hz4]
  show own_Go p e below s _ _ (s₁.setTop (mkF m 27 #[rv a0, jv 0, .second, iv 1] [(.long z4)]))
  refine own_via (fun k => XS.lstoreN X0.here hx rfl (hb hby d1_27) rfl (l' := #[rv a0, jv z4, .second, iv 1]) rfl (XS.iinc X0.here hx rfl (hb hby d1_28) rfl (l' := #[rv a0, jv z4, .second, iv 2]) rfl (XS.goto X0.here hx rfl (pc0 := 31) (pc' := 8) rfl (hb hby d1_31) (by decide) (by decide) (XS.iloadN X0.here hx rfl (hb hby d1_8) rfl  k)))) ?_
  show own_Go p e below s _ _ (s₁.setTop (mkF m 9 #[rv a0, jv z4, .second, iv 2] [(.int 2)]))
  refine own_via (fun k => XS.aloadN X0.here hx rfl (hb hby d1_9) rfl rfl  k) ?_
  show own_Go p e below s _ _ (s₁.setTop (mkF m 10 #[rv a0, jv z4, .second, iv 2] [(.ref a0), (.int 2)]))
  obtain ⟨cl5, Ar5, -, S5, NN5, -, -⟩ := id P0
  refine own_via (fun k => X0.arraylength hx (by rw [e0]; exact Ar5.1) (State.isArrayOf_alike hZ.alike Ar5.2.1) (g := (mkF m 10 #[rv a0, jv z4, .second, iv 2] [(.ref a0), (.int 2)])) rfl rfl (hb hby d1_10) _ k) ?_
  rw [len_of S5 NN5]
  show own_Go p e below s _ _ (s₁.setTop (mkF m 11 #[rv a0, jv z4, .second, iv 2] [(.int 9), (.int 2)]))
  refine own_via (fun k => XS.icmpNo X0.here hx rfl (hb hby d1_11) rfl (by decide) k) ?_
  show own_Go p e below s _ _ (s₁.setTop (mkF m 14 #[rv a0, jv z4, .second, iv 2] []))
  refine own_via (fun k => XS.lloadN X0.here hx rfl (hb hby d1_14) rfl  (XS.bipush X0.here hx rfl (hb hby d1_15) (XS.lshl X0.here hx rfl (hb hby d1_17) rfl (XS.aloadN X0.here hx rfl (hb hby d1_18) rfl rfl  k)))) ?_
  show own_Go p e below s _ _ (s₁.setTop (mkF m 19 #[rv a0, jv z4, .second, iv 2] [(.ref a0), (.long (z4 <<< ((8 : Int32) &&& 0x3f).toInt64))]))
  refine own_via (fun k => XS.iloadN X0.here hx rfl (hb hby d1_19) rfl  k) ?_
  show own_Go p e below s _ _ (s₁.setTop (mkF m 20 #[rv a0, jv z4, .second, iv 2] [(.int 2), (.ref a0), (.long (z4 <<< ((8 : Int32) &&& 0x3f).toInt64))]))
  obtain ⟨cl6, Ar6, q6, S6, NN6, H6, G6⟩ := id P0
  have hin6 : ¬ ((2 : Int32) < 0 ∨ cl6.slots.size ≤ ((2 : Int32)).toNatClampNeg) := inb_of S6 ⟨by decide, by decide⟩
  have hat6 : cl6.slots[((2 : Int32)).toNatClampNeg]? = some (.int w2) := H6.at hin6 rfl
  refine own_via (fun k => X0.baloadBytes hx (j := (2 : Int32)) (v := (.int w2)) (by rw [e0]; exact Ar6.1) (State.isArrayOf_alike hZ.alike Ar6.2.1) Ar6.2.2 hin6 hat6 (g := (mkF m 20 #[rv a0, jv z4, .second, iv 2] [(.int 2), (.ref a0), (.long (z4 <<< ((8 : Int32) &&& 0x3f).toInt64))])) rfl rfl (hb hby d1_20) _ k) ?_
  show own_Go p e below s _ _ (s₁.setTop (mkF m 21 #[rv a0, jv z4, .second, iv 2] [(.int w2), (.long (z4 <<< ((8 : Int32) &&& 0x3f).toInt64))]))
  refine own_via (fun k => XS.sipush X0.here hx rfl (hb hby d1_21) (XS.iand X0.here hx rfl (hb hby d1_24) rfl (XS.i2l X0.here hx rfl (hb hby d1_25) rfl (XS.lor X0.here hx rfl (hb hby d1_26) rfl k)))) ?_
  show own_Go p e below s _ _ (s₁.setTop (mkF m 27 #[rv a0, jv z4, .second, iv 2] [(.long ((z4 <<< ((8 : Int32) &&& 0x3f).toInt64) ||| ((w2 &&& (255 : Int32)).toInt64)))]))
  obtain ⟨z7, hz7⟩ : ∃ z : Int64, z = ((z4 <<< ((8 : Int32) &&& 0x3f).toInt64) ||| ((w2 &&& (255 : Int32)).toInt64)) := ⟨_, rfl⟩
  rw [← hz7]
  show own_Go p e below s _ _ (s₁.setTop (mkF m 27 #[rv a0, jv z4, .second, iv 2] [(.long z7)]))
  refine own_via (fun k => XS.lstoreN X0.here hx rfl (hb hby d1_27) rfl (l' := #[rv a0, jv z7, .second, iv 2]) rfl (XS.iinc X0.here hx rfl (hb hby d1_28) rfl (l' := #[rv a0, jv z7, .second, iv 3]) rfl (XS.goto X0.here hx rfl (pc0 := 31) (pc' := 8) rfl (hb hby d1_31) (by decide) (by decide) (XS.iloadN X0.here hx rfl (hb hby d1_8) rfl  k)))) ?_
  show own_Go p e below s _ _ (s₁.setTop (mkF m 9 #[rv a0, jv z7, .second, iv 3] [(.int 3)]))
  refine own_via (fun k => XS.aloadN X0.here hx rfl (hb hby d1_9) rfl rfl  k) ?_
  show own_Go p e below s _ _ (s₁.setTop (mkF m 10 #[rv a0, jv z7, .second, iv 3] [(.ref a0), (.int 3)]))
  obtain ⟨cl8, Ar8, -, S8, NN8, -, -⟩ := id P0
  refine own_via (fun k => X0.arraylength hx (by rw [e0]; exact Ar8.1) (State.isArrayOf_alike hZ.alike Ar8.2.1) (g := (mkF m 10 #[rv a0, jv z7, .second, iv 3] [(.ref a0), (.int 3)])) rfl rfl (hb hby d1_10) _ k) ?_
  rw [len_of S8 NN8]
  show own_Go p e below s _ _ (s₁.setTop (mkF m 11 #[rv a0, jv z7, .second, iv 3] [(.int 9), (.int 3)]))
  refine own_via (fun k => XS.icmpNo X0.here hx rfl (hb hby d1_11) rfl (by decide) k) ?_
  show own_Go p e below s _ _ (s₁.setTop (mkF m 14 #[rv a0, jv z7, .second, iv 3] []))
  refine own_via (fun k => XS.lloadN X0.here hx rfl (hb hby d1_14) rfl  (XS.bipush X0.here hx rfl (hb hby d1_15) (XS.lshl X0.here hx rfl (hb hby d1_17) rfl (XS.aloadN X0.here hx rfl (hb hby d1_18) rfl rfl  k)))) ?_
  show own_Go p e below s _ _ (s₁.setTop (mkF m 19 #[rv a0, jv z7, .second, iv 3] [(.ref a0), (.long (z7 <<< ((8 : Int32) &&& 0x3f).toInt64))]))
  refine own_via (fun k => XS.iloadN X0.here hx rfl (hb hby d1_19) rfl  k) ?_
  show own_Go p e below s _ _ (s₁.setTop (mkF m 20 #[rv a0, jv z7, .second, iv 3] [(.int 3), (.ref a0), (.long (z7 <<< ((8 : Int32) &&& 0x3f).toInt64))]))
  obtain ⟨cl9, Ar9, q9, S9, NN9, H9, G9⟩ := id P0
  have hin9 : ¬ ((3 : Int32) < 0 ∨ cl9.slots.size ≤ ((3 : Int32)).toNatClampNeg) := inb_of S9 ⟨by decide, by decide⟩
  have hat9 : cl9.slots[((3 : Int32)).toNatClampNeg]? = some (.int w3) := H9.at hin9 rfl
  refine own_via (fun k => X0.baloadBytes hx (j := (3 : Int32)) (v := (.int w3)) (by rw [e0]; exact Ar9.1) (State.isArrayOf_alike hZ.alike Ar9.2.1) Ar9.2.2 hin9 hat9 (g := (mkF m 20 #[rv a0, jv z7, .second, iv 3] [(.int 3), (.ref a0), (.long (z7 <<< ((8 : Int32) &&& 0x3f).toInt64))])) rfl rfl (hb hby d1_20) _ k) ?_
  show own_Go p e below s _ _ (s₁.setTop (mkF m 21 #[rv a0, jv z7, .second, iv 3] [(.int w3), (.long (z7 <<< ((8 : Int32) &&& 0x3f).toInt64))]))
  refine own_via (fun k => XS.sipush X0.here hx rfl (hb hby d1_21) (XS.iand X0.here hx rfl (hb hby d1_24) rfl (XS.i2l X0.here hx rfl (hb hby d1_25) rfl (XS.lor X0.here hx rfl (hb hby d1_26) rfl k)))) ?_
  show own_Go p e below s _ _ (s₁.setTop (mkF m 27 #[rv a0, jv z7, .second, iv 3] [(.long ((z7 <<< ((8 : Int32) &&& 0x3f).toInt64) ||| ((w3 &&& (255 : Int32)).toInt64)))]))
  obtain ⟨z10, hz10⟩ : ∃ z : Int64, z = ((z7 <<< ((8 : Int32) &&& 0x3f).toInt64) ||| ((w3 &&& (255 : Int32)).toInt64)) := ⟨_, rfl⟩
  rw [← hz10]
  show own_Go p e below s _ _ (s₁.setTop (mkF m 27 #[rv a0, jv z7, .second, iv 3] [(.long z10)]))
  refine own_via (fun k => XS.lstoreN X0.here hx rfl (hb hby d1_27) rfl (l' := #[rv a0, jv z10, .second, iv 3]) rfl (XS.iinc X0.here hx rfl (hb hby d1_28) rfl (l' := #[rv a0, jv z10, .second, iv 4]) rfl (XS.goto X0.here hx rfl (pc0 := 31) (pc' := 8) rfl (hb hby d1_31) (by decide) (by decide) (XS.iloadN X0.here hx rfl (hb hby d1_8) rfl  k)))) ?_
  show own_Go p e below s _ _ (s₁.setTop (mkF m 9 #[rv a0, jv z10, .second, iv 4] [(.int 4)]))
  refine own_via (fun k => XS.aloadN X0.here hx rfl (hb hby d1_9) rfl rfl  k) ?_
  show own_Go p e below s _ _ (s₁.setTop (mkF m 10 #[rv a0, jv z10, .second, iv 4] [(.ref a0), (.int 4)]))
  obtain ⟨cl11, Ar11, -, S11, NN11, -, -⟩ := id P0
  refine own_via (fun k => X0.arraylength hx (by rw [e0]; exact Ar11.1) (State.isArrayOf_alike hZ.alike Ar11.2.1) (g := (mkF m 10 #[rv a0, jv z10, .second, iv 4] [(.ref a0), (.int 4)])) rfl rfl (hb hby d1_10) _ k) ?_
  rw [len_of S11 NN11]
  show own_Go p e below s _ _ (s₁.setTop (mkF m 11 #[rv a0, jv z10, .second, iv 4] [(.int 9), (.int 4)]))
  refine own_via (fun k => XS.icmpNo X0.here hx rfl (hb hby d1_11) rfl (by decide) k) ?_
  show own_Go p e below s _ _ (s₁.setTop (mkF m 14 #[rv a0, jv z10, .second, iv 4] []))
  refine own_via (fun k => XS.lloadN X0.here hx rfl (hb hby d1_14) rfl  (XS.bipush X0.here hx rfl (hb hby d1_15) (XS.lshl X0.here hx rfl (hb hby d1_17) rfl (XS.aloadN X0.here hx rfl (hb hby d1_18) rfl rfl  k)))) ?_
  show own_Go p e below s _ _ (s₁.setTop (mkF m 19 #[rv a0, jv z10, .second, iv 4] [(.ref a0), (.long (z10 <<< ((8 : Int32) &&& 0x3f).toInt64))]))
  refine own_via (fun k => XS.iloadN X0.here hx rfl (hb hby d1_19) rfl  k) ?_
  show own_Go p e below s _ _ (s₁.setTop (mkF m 20 #[rv a0, jv z10, .second, iv 4] [(.int 4), (.ref a0), (.long (z10 <<< ((8 : Int32) &&& 0x3f).toInt64))]))
  obtain ⟨cl12, Ar12, q12, S12, NN12, H12, G12⟩ := id P0
  have hin12 : ¬ ((4 : Int32) < 0 ∨ cl12.slots.size ≤ ((4 : Int32)).toNatClampNeg) := inb_of S12 ⟨by decide, by decide⟩
  have hat12 : cl12.slots[((4 : Int32)).toNatClampNeg]? = some (.int w4) := H12.at hin12 rfl
  refine own_via (fun k => X0.baloadBytes hx (j := (4 : Int32)) (v := (.int w4)) (by rw [e0]; exact Ar12.1) (State.isArrayOf_alike hZ.alike Ar12.2.1) Ar12.2.2 hin12 hat12 (g := (mkF m 20 #[rv a0, jv z10, .second, iv 4] [(.int 4), (.ref a0), (.long (z10 <<< ((8 : Int32) &&& 0x3f).toInt64))])) rfl rfl (hb hby d1_20) _ k) ?_
  show own_Go p e below s _ _ (s₁.setTop (mkF m 21 #[rv a0, jv z10, .second, iv 4] [(.int w4), (.long (z10 <<< ((8 : Int32) &&& 0x3f).toInt64))]))
  refine own_via (fun k => XS.sipush X0.here hx rfl (hb hby d1_21) (XS.iand X0.here hx rfl (hb hby d1_24) rfl (XS.i2l X0.here hx rfl (hb hby d1_25) rfl (XS.lor X0.here hx rfl (hb hby d1_26) rfl k)))) ?_
  show own_Go p e below s _ _ (s₁.setTop (mkF m 27 #[rv a0, jv z10, .second, iv 4] [(.long ((z10 <<< ((8 : Int32) &&& 0x3f).toInt64) ||| ((w4 &&& (255 : Int32)).toInt64)))]))
  obtain ⟨z13, hz13⟩ : ∃ z : Int64, z = ((z10 <<< ((8 : Int32) &&& 0x3f).toInt64) ||| ((w4 &&& (255 : Int32)).toInt64)) := ⟨_, rfl⟩
  rw [← hz13]
  show own_Go p e below s _ _ (s₁.setTop (mkF m 27 #[rv a0, jv z10, .second, iv 4] [(.long z13)]))
  refine own_via (fun k => XS.lstoreN X0.here hx rfl (hb hby d1_27) rfl (l' := #[rv a0, jv z13, .second, iv 4]) rfl (XS.iinc X0.here hx rfl (hb hby d1_28) rfl (l' := #[rv a0, jv z13, .second, iv 5]) rfl (XS.goto X0.here hx rfl (pc0 := 31) (pc' := 8) rfl (hb hby d1_31) (by decide) (by decide) (XS.iloadN X0.here hx rfl (hb hby d1_8) rfl  k)))) ?_
  show own_Go p e below s _ _ (s₁.setTop (mkF m 9 #[rv a0, jv z13, .second, iv 5] [(.int 5)]))
  refine own_via (fun k => XS.aloadN X0.here hx rfl (hb hby d1_9) rfl rfl  k) ?_
  show own_Go p e below s _ _ (s₁.setTop (mkF m 10 #[rv a0, jv z13, .second, iv 5] [(.ref a0), (.int 5)]))
  obtain ⟨cl14, Ar14, -, S14, NN14, -, -⟩ := id P0
  refine own_via (fun k => X0.arraylength hx (by rw [e0]; exact Ar14.1) (State.isArrayOf_alike hZ.alike Ar14.2.1) (g := (mkF m 10 #[rv a0, jv z13, .second, iv 5] [(.ref a0), (.int 5)])) rfl rfl (hb hby d1_10) _ k) ?_
  rw [len_of S14 NN14]
  show own_Go p e below s _ _ (s₁.setTop (mkF m 11 #[rv a0, jv z13, .second, iv 5] [(.int 9), (.int 5)]))
  refine own_via (fun k => XS.icmpNo X0.here hx rfl (hb hby d1_11) rfl (by decide) k) ?_
  show own_Go p e below s _ _ (s₁.setTop (mkF m 14 #[rv a0, jv z13, .second, iv 5] []))
  refine own_via (fun k => XS.lloadN X0.here hx rfl (hb hby d1_14) rfl  (XS.bipush X0.here hx rfl (hb hby d1_15) (XS.lshl X0.here hx rfl (hb hby d1_17) rfl (XS.aloadN X0.here hx rfl (hb hby d1_18) rfl rfl  k)))) ?_
  show own_Go p e below s _ _ (s₁.setTop (mkF m 19 #[rv a0, jv z13, .second, iv 5] [(.ref a0), (.long (z13 <<< ((8 : Int32) &&& 0x3f).toInt64))]))
  refine own_via (fun k => XS.iloadN X0.here hx rfl (hb hby d1_19) rfl  k) ?_
  show own_Go p e below s _ _ (s₁.setTop (mkF m 20 #[rv a0, jv z13, .second, iv 5] [(.int 5), (.ref a0), (.long (z13 <<< ((8 : Int32) &&& 0x3f).toInt64))]))
  obtain ⟨cl15, Ar15, q15, S15, NN15, H15, G15⟩ := id P0
  have hin15 : ¬ ((5 : Int32) < 0 ∨ cl15.slots.size ≤ ((5 : Int32)).toNatClampNeg) := inb_of S15 ⟨by decide, by decide⟩
  have hat15 : cl15.slots[((5 : Int32)).toNatClampNeg]? = some (.int w5) := H15.at hin15 rfl
  refine own_via (fun k => X0.baloadBytes hx (j := (5 : Int32)) (v := (.int w5)) (by rw [e0]; exact Ar15.1) (State.isArrayOf_alike hZ.alike Ar15.2.1) Ar15.2.2 hin15 hat15 (g := (mkF m 20 #[rv a0, jv z13, .second, iv 5] [(.int 5), (.ref a0), (.long (z13 <<< ((8 : Int32) &&& 0x3f).toInt64))])) rfl rfl (hb hby d1_20) _ k) ?_
  show own_Go p e below s _ _ (s₁.setTop (mkF m 21 #[rv a0, jv z13, .second, iv 5] [(.int w5), (.long (z13 <<< ((8 : Int32) &&& 0x3f).toInt64))]))
  refine own_via (fun k => XS.sipush X0.here hx rfl (hb hby d1_21) (XS.iand X0.here hx rfl (hb hby d1_24) rfl (XS.i2l X0.here hx rfl (hb hby d1_25) rfl (XS.lor X0.here hx rfl (hb hby d1_26) rfl k)))) ?_
  show own_Go p e below s _ _ (s₁.setTop (mkF m 27 #[rv a0, jv z13, .second, iv 5] [(.long ((z13 <<< ((8 : Int32) &&& 0x3f).toInt64) ||| ((w5 &&& (255 : Int32)).toInt64)))]))
  obtain ⟨z16, hz16⟩ : ∃ z : Int64, z = ((z13 <<< ((8 : Int32) &&& 0x3f).toInt64) ||| ((w5 &&& (255 : Int32)).toInt64)) := ⟨_, rfl⟩
  rw [← hz16]
  show own_Go p e below s _ _ (s₁.setTop (mkF m 27 #[rv a0, jv z13, .second, iv 5] [(.long z16)]))
  refine own_via (fun k => XS.lstoreN X0.here hx rfl (hb hby d1_27) rfl (l' := #[rv a0, jv z16, .second, iv 5]) rfl (XS.iinc X0.here hx rfl (hb hby d1_28) rfl (l' := #[rv a0, jv z16, .second, iv 6]) rfl (XS.goto X0.here hx rfl (pc0 := 31) (pc' := 8) rfl (hb hby d1_31) (by decide) (by decide) (XS.iloadN X0.here hx rfl (hb hby d1_8) rfl  k)))) ?_
  show own_Go p e below s _ _ (s₁.setTop (mkF m 9 #[rv a0, jv z16, .second, iv 6] [(.int 6)]))
  refine own_via (fun k => XS.aloadN X0.here hx rfl (hb hby d1_9) rfl rfl  k) ?_
  show own_Go p e below s _ _ (s₁.setTop (mkF m 10 #[rv a0, jv z16, .second, iv 6] [(.ref a0), (.int 6)]))
  obtain ⟨cl17, Ar17, -, S17, NN17, -, -⟩ := id P0
  refine own_via (fun k => X0.arraylength hx (by rw [e0]; exact Ar17.1) (State.isArrayOf_alike hZ.alike Ar17.2.1) (g := (mkF m 10 #[rv a0, jv z16, .second, iv 6] [(.ref a0), (.int 6)])) rfl rfl (hb hby d1_10) _ k) ?_
  rw [len_of S17 NN17]
  show own_Go p e below s _ _ (s₁.setTop (mkF m 11 #[rv a0, jv z16, .second, iv 6] [(.int 9), (.int 6)]))
  refine own_via (fun k => XS.icmpNo X0.here hx rfl (hb hby d1_11) rfl (by decide) k) ?_
  show own_Go p e below s _ _ (s₁.setTop (mkF m 14 #[rv a0, jv z16, .second, iv 6] []))
  refine own_via (fun k => XS.lloadN X0.here hx rfl (hb hby d1_14) rfl  (XS.bipush X0.here hx rfl (hb hby d1_15) (XS.lshl X0.here hx rfl (hb hby d1_17) rfl (XS.aloadN X0.here hx rfl (hb hby d1_18) rfl rfl  k)))) ?_
  show own_Go p e below s _ _ (s₁.setTop (mkF m 19 #[rv a0, jv z16, .second, iv 6] [(.ref a0), (.long (z16 <<< ((8 : Int32) &&& 0x3f).toInt64))]))
  refine own_via (fun k => XS.iloadN X0.here hx rfl (hb hby d1_19) rfl  k) ?_
  show own_Go p e below s _ _ (s₁.setTop (mkF m 20 #[rv a0, jv z16, .second, iv 6] [(.int 6), (.ref a0), (.long (z16 <<< ((8 : Int32) &&& 0x3f).toInt64))]))
  obtain ⟨cl18, Ar18, q18, S18, NN18, H18, G18⟩ := id P0
  have hin18 : ¬ ((6 : Int32) < 0 ∨ cl18.slots.size ≤ ((6 : Int32)).toNatClampNeg) := inb_of S18 ⟨by decide, by decide⟩
  have hat18 : cl18.slots[((6 : Int32)).toNatClampNeg]? = some (.int w6) := H18.at hin18 rfl
  refine own_via (fun k => X0.baloadBytes hx (j := (6 : Int32)) (v := (.int w6)) (by rw [e0]; exact Ar18.1) (State.isArrayOf_alike hZ.alike Ar18.2.1) Ar18.2.2 hin18 hat18 (g := (mkF m 20 #[rv a0, jv z16, .second, iv 6] [(.int 6), (.ref a0), (.long (z16 <<< ((8 : Int32) &&& 0x3f).toInt64))])) rfl rfl (hb hby d1_20) _ k) ?_
  show own_Go p e below s _ _ (s₁.setTop (mkF m 21 #[rv a0, jv z16, .second, iv 6] [(.int w6), (.long (z16 <<< ((8 : Int32) &&& 0x3f).toInt64))]))
  refine own_via (fun k => XS.sipush X0.here hx rfl (hb hby d1_21) (XS.iand X0.here hx rfl (hb hby d1_24) rfl (XS.i2l X0.here hx rfl (hb hby d1_25) rfl (XS.lor X0.here hx rfl (hb hby d1_26) rfl k)))) ?_
  show own_Go p e below s _ _ (s₁.setTop (mkF m 27 #[rv a0, jv z16, .second, iv 6] [(.long ((z16 <<< ((8 : Int32) &&& 0x3f).toInt64) ||| ((w6 &&& (255 : Int32)).toInt64)))]))
  obtain ⟨z19, hz19⟩ : ∃ z : Int64, z = ((z16 <<< ((8 : Int32) &&& 0x3f).toInt64) ||| ((w6 &&& (255 : Int32)).toInt64)) := ⟨_, rfl⟩
  rw [← hz19]
  show own_Go p e below s _ _ (s₁.setTop (mkF m 27 #[rv a0, jv z16, .second, iv 6] [(.long z19)]))
  refine own_via (fun k => XS.lstoreN X0.here hx rfl (hb hby d1_27) rfl (l' := #[rv a0, jv z19, .second, iv 6]) rfl (XS.iinc X0.here hx rfl (hb hby d1_28) rfl (l' := #[rv a0, jv z19, .second, iv 7]) rfl (XS.goto X0.here hx rfl (pc0 := 31) (pc' := 8) rfl (hb hby d1_31) (by decide) (by decide) (XS.iloadN X0.here hx rfl (hb hby d1_8) rfl  k)))) ?_
  show own_Go p e below s _ _ (s₁.setTop (mkF m 9 #[rv a0, jv z19, .second, iv 7] [(.int 7)]))
  refine own_via (fun k => XS.aloadN X0.here hx rfl (hb hby d1_9) rfl rfl  k) ?_
  show own_Go p e below s _ _ (s₁.setTop (mkF m 10 #[rv a0, jv z19, .second, iv 7] [(.ref a0), (.int 7)]))
  obtain ⟨cl20, Ar20, -, S20, NN20, -, -⟩ := id P0
  refine own_via (fun k => X0.arraylength hx (by rw [e0]; exact Ar20.1) (State.isArrayOf_alike hZ.alike Ar20.2.1) (g := (mkF m 10 #[rv a0, jv z19, .second, iv 7] [(.ref a0), (.int 7)])) rfl rfl (hb hby d1_10) _ k) ?_
  rw [len_of S20 NN20]
  show own_Go p e below s _ _ (s₁.setTop (mkF m 11 #[rv a0, jv z19, .second, iv 7] [(.int 9), (.int 7)]))
  refine own_via (fun k => XS.icmpNo X0.here hx rfl (hb hby d1_11) rfl (by decide) k) ?_
  show own_Go p e below s _ _ (s₁.setTop (mkF m 14 #[rv a0, jv z19, .second, iv 7] []))
  refine own_via (fun k => XS.lloadN X0.here hx rfl (hb hby d1_14) rfl  (XS.bipush X0.here hx rfl (hb hby d1_15) (XS.lshl X0.here hx rfl (hb hby d1_17) rfl (XS.aloadN X0.here hx rfl (hb hby d1_18) rfl rfl  k)))) ?_
  show own_Go p e below s _ _ (s₁.setTop (mkF m 19 #[rv a0, jv z19, .second, iv 7] [(.ref a0), (.long (z19 <<< ((8 : Int32) &&& 0x3f).toInt64))]))
  refine own_via (fun k => XS.iloadN X0.here hx rfl (hb hby d1_19) rfl  k) ?_
  show own_Go p e below s _ _ (s₁.setTop (mkF m 20 #[rv a0, jv z19, .second, iv 7] [(.int 7), (.ref a0), (.long (z19 <<< ((8 : Int32) &&& 0x3f).toInt64))]))
  obtain ⟨cl21, Ar21, q21, S21, NN21, H21, G21⟩ := id P0
  have hin21 : ¬ ((7 : Int32) < 0 ∨ cl21.slots.size ≤ ((7 : Int32)).toNatClampNeg) := inb_of S21 ⟨by decide, by decide⟩
  have hat21 : cl21.slots[((7 : Int32)).toNatClampNeg]? = some (.int w7) := H21.at hin21 rfl
  refine own_via (fun k => X0.baloadBytes hx (j := (7 : Int32)) (v := (.int w7)) (by rw [e0]; exact Ar21.1) (State.isArrayOf_alike hZ.alike Ar21.2.1) Ar21.2.2 hin21 hat21 (g := (mkF m 20 #[rv a0, jv z19, .second, iv 7] [(.int 7), (.ref a0), (.long (z19 <<< ((8 : Int32) &&& 0x3f).toInt64))])) rfl rfl (hb hby d1_20) _ k) ?_
  show own_Go p e below s _ _ (s₁.setTop (mkF m 21 #[rv a0, jv z19, .second, iv 7] [(.int w7), (.long (z19 <<< ((8 : Int32) &&& 0x3f).toInt64))]))
  refine own_via (fun k => XS.sipush X0.here hx rfl (hb hby d1_21) (XS.iand X0.here hx rfl (hb hby d1_24) rfl (XS.i2l X0.here hx rfl (hb hby d1_25) rfl (XS.lor X0.here hx rfl (hb hby d1_26) rfl k)))) ?_
  show own_Go p e below s _ _ (s₁.setTop (mkF m 27 #[rv a0, jv z19, .second, iv 7] [(.long ((z19 <<< ((8 : Int32) &&& 0x3f).toInt64) ||| ((w7 &&& (255 : Int32)).toInt64)))]))
  obtain ⟨z22, hz22⟩ : ∃ z : Int64, z = ((z19 <<< ((8 : Int32) &&& 0x3f).toInt64) ||| ((w7 &&& (255 : Int32)).toInt64)) := ⟨_, rfl⟩
  rw [← hz22]
  show own_Go p e below s _ _ (s₁.setTop (mkF m 27 #[rv a0, jv z19, .second, iv 7] [(.long z22)]))
  refine own_via (fun k => XS.lstoreN X0.here hx rfl (hb hby d1_27) rfl (l' := #[rv a0, jv z22, .second, iv 7]) rfl (XS.iinc X0.here hx rfl (hb hby d1_28) rfl (l' := #[rv a0, jv z22, .second, iv 8]) rfl (XS.goto X0.here hx rfl (pc0 := 31) (pc' := 8) rfl (hb hby d1_31) (by decide) (by decide) (XS.iloadN X0.here hx rfl (hb hby d1_8) rfl  k)))) ?_
  show own_Go p e below s _ _ (s₁.setTop (mkF m 9 #[rv a0, jv z22, .second, iv 8] [(.int 8)]))
  refine own_via (fun k => XS.aloadN X0.here hx rfl (hb hby d1_9) rfl rfl  k) ?_
  show own_Go p e below s _ _ (s₁.setTop (mkF m 10 #[rv a0, jv z22, .second, iv 8] [(.ref a0), (.int 8)]))
  obtain ⟨cl23, Ar23, -, S23, NN23, -, -⟩ := id P0
  refine own_via (fun k => X0.arraylength hx (by rw [e0]; exact Ar23.1) (State.isArrayOf_alike hZ.alike Ar23.2.1) (g := (mkF m 10 #[rv a0, jv z22, .second, iv 8] [(.ref a0), (.int 8)])) rfl rfl (hb hby d1_10) _ k) ?_
  rw [len_of S23 NN23]
  show own_Go p e below s _ _ (s₁.setTop (mkF m 11 #[rv a0, jv z22, .second, iv 8] [(.int 9), (.int 8)]))
  refine own_via (fun k => XS.icmpNo X0.here hx rfl (hb hby d1_11) rfl (by decide) k) ?_
  show own_Go p e below s _ _ (s₁.setTop (mkF m 14 #[rv a0, jv z22, .second, iv 8] []))
  refine own_via (fun k => XS.lloadN X0.here hx rfl (hb hby d1_14) rfl  (XS.bipush X0.here hx rfl (hb hby d1_15) (XS.lshl X0.here hx rfl (hb hby d1_17) rfl (XS.aloadN X0.here hx rfl (hb hby d1_18) rfl rfl  k)))) ?_
  show own_Go p e below s _ _ (s₁.setTop (mkF m 19 #[rv a0, jv z22, .second, iv 8] [(.ref a0), (.long (z22 <<< ((8 : Int32) &&& 0x3f).toInt64))]))
  refine own_via (fun k => XS.iloadN X0.here hx rfl (hb hby d1_19) rfl  k) ?_
  show own_Go p e below s _ _ (s₁.setTop (mkF m 20 #[rv a0, jv z22, .second, iv 8] [(.int 8), (.ref a0), (.long (z22 <<< ((8 : Int32) &&& 0x3f).toInt64))]))
  obtain ⟨cl24, Ar24, q24, S24, NN24, H24, G24⟩ := id P0
  have hin24 : ¬ ((8 : Int32) < 0 ∨ cl24.slots.size ≤ ((8 : Int32)).toNatClampNeg) := inb_of S24 ⟨by decide, by decide⟩
  have hat24 : cl24.slots[((8 : Int32)).toNatClampNeg]? = some (.int w8) := H24.at hin24 rfl
  refine own_via (fun k => X0.baloadBytes hx (j := (8 : Int32)) (v := (.int w8)) (by rw [e0]; exact Ar24.1) (State.isArrayOf_alike hZ.alike Ar24.2.1) Ar24.2.2 hin24 hat24 (g := (mkF m 20 #[rv a0, jv z22, .second, iv 8] [(.int 8), (.ref a0), (.long (z22 <<< ((8 : Int32) &&& 0x3f).toInt64))])) rfl rfl (hb hby d1_20) _ k) ?_
  show own_Go p e below s _ _ (s₁.setTop (mkF m 21 #[rv a0, jv z22, .second, iv 8] [(.int w8), (.long (z22 <<< ((8 : Int32) &&& 0x3f).toInt64))]))
  refine own_via (fun k => XS.sipush X0.here hx rfl (hb hby d1_21) (XS.iand X0.here hx rfl (hb hby d1_24) rfl (XS.i2l X0.here hx rfl (hb hby d1_25) rfl (XS.lor X0.here hx rfl (hb hby d1_26) rfl k)))) ?_
  show own_Go p e below s _ _ (s₁.setTop (mkF m 27 #[rv a0, jv z22, .second, iv 8] [(.long ((z22 <<< ((8 : Int32) &&& 0x3f).toInt64) ||| ((w8 &&& (255 : Int32)).toInt64)))]))
  obtain ⟨z25, hz25⟩ : ∃ z : Int64, z = ((z22 <<< ((8 : Int32) &&& 0x3f).toInt64) ||| ((w8 &&& (255 : Int32)).toInt64)) := ⟨_, rfl⟩
  rw [← hz25]
  show own_Go p e below s _ _ (s₁.setTop (mkF m 27 #[rv a0, jv z22, .second, iv 8] [(.long z25)]))
  refine own_via (fun k => XS.lstoreN X0.here hx rfl (hb hby d1_27) rfl (l' := #[rv a0, jv z25, .second, iv 8]) rfl (XS.iinc X0.here hx rfl (hb hby d1_28) rfl (l' := #[rv a0, jv z25, .second, iv 9]) rfl (XS.goto X0.here hx rfl (pc0 := 31) (pc' := 8) rfl (hb hby d1_31) (by decide) (by decide) (XS.iloadN X0.here hx rfl (hb hby d1_8) rfl  k)))) ?_
  show own_Go p e below s _ _ (s₁.setTop (mkF m 9 #[rv a0, jv z25, .second, iv 9] [(.int 9)]))
  refine own_via (fun k => XS.aloadN X0.here hx rfl (hb hby d1_9) rfl rfl  k) ?_
  show own_Go p e below s _ _ (s₁.setTop (mkF m 10 #[rv a0, jv z25, .second, iv 9] [(.ref a0), (.int 9)]))
  obtain ⟨cl26, Ar26, -, S26, NN26, -, -⟩ := id P0
  refine own_via (fun k => X0.arraylength hx (by rw [e0]; exact Ar26.1) (State.isArrayOf_alike hZ.alike Ar26.2.1) (g := (mkF m 10 #[rv a0, jv z25, .second, iv 9] [(.ref a0), (.int 9)])) rfl rfl (hb hby d1_10) _ k) ?_
  rw [len_of S26 NN26]
  show own_Go p e below s _ _ (s₁.setTop (mkF m 11 #[rv a0, jv z25, .second, iv 9] [(.int 9), (.int 9)]))
  refine own_via (fun k => XS.icmpYes X0.here hx rfl (pc0 := 11) (pc' := 34) rfl (hb hby d1_11) rfl (by decide) (by decide) (by decide) k) ?_
  show own_Go p e below s _ _ (s₁.setTop (mkF m 34 #[rv a0, jv z25, .second, iv 9] []))
  refine own_via (fun k => XS.lloadN X0.here hx rfl (hb hby d1_34) rfl  k) ?_
  show own_Go p e below s _ _ (s₁.setTop (mkF m 35 #[rv a0, jv z25, .second, iv 9] [(.long z25)]))
  exact own_retL X0 hx hlk Bd.returns (hb hby d1_35) (Q := (Q1_9 Z a0 k w0 w1 w2 w3 w4 w5 w6 w7 w8 h0 n0)) ⟨(congrArg (fun z => some (Value.long z)) (show z25 = (own_f1_9 w1 w2 w3 w4 w5 w6 w7 w8) from (by subst hz25 hz22 hz19 hz16 hz13 hz10 hz7 hz4; unfold own_f1_9; exact rfl.symm))), N0, e0⟩ (by decide) (by decide)
theorem ef_1_10 (m : MethodId) (x0 : Addr) : entryFrame m #[(.ref x0)] 4 = mkF m 0 #[rv x0, .unset, .unset, .unset] [] := by first | (simp [entryFrame, mkF, argsToLocals, Value.category]; done) | rfl
def own_f1_10 (w2 : Int32) (w3 : Int32) (w4 : Int32) (w5 : Int32) (w6 : Int32) (w7 : Int32) (w8 : Int32) (w9 : Int32) : Int64 := (let z4 : Int64 := ((0 : Int64) ||| ((w2 &&& (255 : Int32)).toInt64)); (let z7 : Int64 := ((z4 <<< ((8 : Int32) &&& 0x3f).toInt64) ||| ((w3 &&& (255 : Int32)).toInt64)); (let z10 : Int64 := ((z7 <<< ((8 : Int32) &&& 0x3f).toInt64) ||| ((w4 &&& (255 : Int32)).toInt64)); (let z13 : Int64 := ((z10 <<< ((8 : Int32) &&& 0x3f).toInt64) ||| ((w5 &&& (255 : Int32)).toInt64)); (let z16 : Int64 := ((z13 <<< ((8 : Int32) &&& 0x3f).toInt64) ||| ((w6 &&& (255 : Int32)).toInt64)); (let z19 : Int64 := ((z16 <<< ((8 : Int32) &&& 0x3f).toInt64) ||| ((w7 &&& (255 : Int32)).toInt64)); (let z22 : Int64 := ((z19 <<< ((8 : Int32) &&& 0x3f).toInt64) ||| ((w8 &&& (255 : Int32)).toInt64)); (let z25 : Int64 := ((z22 <<< ((8 : Int32) &&& 0x3f).toInt64) ||| ((w9 &&& (255 : Int32)).toInt64)); z25))))))))
def Q1_10 (Z : State) (a0 : Addr) (k : ClassId) (w0 : Int32) (w1 : Int32) (w2 : Int32) (w3 : Int32) (w4 : Int32) (w5 : Int32) (w6 : Int32) (w7 : Int32) (w8 : Int32) (w9 : Int32) (h0 : Heap) (n0 : Nat) (v : Option Value) (h : Heap) (L : List Loc) : Prop := v = some (.long (own_f1_10 w2 w3 w4 w5 w6 w7 w8 w9)) ∧ Fr n0 L ∧ h = h0
set_option maxRecDepth 65536 in
set_option maxHeartbeats 40000000 in
theorem rm1_10 (l : Launch) (Z : State) (aw : Array Value) (hw : ∀ d ∈ tables_1, d.before aw Z = true) (ws : List Jvm.Cond) (a0 : Addr) (k : ClassId) (w0 : Int32) (w1 : Int32) (w2 : Int32) (w3 : Int32) (w4 : Int32) (w5 : Int32) (w6 : Int32) (w7 : Int32) (w8 : Int32) (w9 : Int32) (h0 : Heap) (n0 : Nat) (Z0 : n0 ≤ h0.size) (P0 : Arv Z h0 a0 k .byte (10 : Int32) [(.int w0), (.int w1), (.int w2), (.int w3), (.int w4), (.int w5), (.int w6), (.int w7), (.int w8), (.int w9)] (.int 0)) :
    MetFree l (⟨"com/example/dani/dani/core/Key", "trailingNumber", "([B)J"⟩ : MethodName) (head1 (Jvm.Cond.code (⟨"com/example/dani/dani/core/Key", "trailingNumber", "([B)J"⟩ : MethodName) prog_5_method_16_code 4 (some .long) :: ws) ({ frames := 0, cells := 0, slots := 0, locals := 0 } : Room)) (fun a U => a = #[(.ref a0)] ∧ Z.Warmed39 U.vm ∧ U.heap = h0) (fun _ _ _ _ _ => True) (fun _ U o U' => ∃ v L, o = .returned v ∧ Q1_10 Z a0 k w0 w1 w2 w3 w4 w5 w6 w7 w8 w9 h0 n0 v U'.heap L ∧ FrameEnd U o U' L ({ frames := 0, cells := 0, slots := 0, locals := 0 } : Room).cells ({ frames := 0, cells := 0, slots := 0, locals := 0 } : Room).slots) := by
  refine MetFree.of_bodySF (plainFor_of_name pn_1) hisR ?_
  intro p e s m args below meth c s₁ Bd hml0 hP hK
  obtain ⟨rfl, hZ, hh⟩ := hP
  have hx := Bd.exec
  have hby := Bd.bytes
  have hml : c.maxLocals = 4 := hml0
  have hown : s.vm.findClass "com/example/dani/dani/core/Key" = some m.cls := findClass_of_methodNamed Bd.named
  have hnm := (name_of_methodNamed Bd.named Bd.method).1
  have hlk : meth.locks = false := by first | exact BodyLoose.notSynchronized (by assumption) | exact Body.notSynchronized (by assumption)
  have X0 : Stand p l e ({ frames := 0, cells := 0, slots := 0, locals := 0 } : Room) s m #[(.ref a0)] below meth c s₁ [] 0 0 := Stand.of_body Bd
  have e0 : s₁.heap = h0 := by rw [← hh, Bd.state]; rfl
  have N0 := Fr.nil n0
  have K0 : Keep h0 h0 [] := Keep.refl _ _
  refine own_start (CS := (0, 0)) (Q := (Q1_10 Z a0 k w0 w1 w2 w3 w4 w5 w6 w7 w8 w9 h0 n0)) (ef_1_10 m a0) ?_
  show own_Go p e below s _ _ (s₁.setTop (mkF m 0 #[rv a0, .unset, .unset, .unset] []))
  refine own_via (fun k => XS.lconst X0.here hx rfl (hb hby d1_0) (XS.lstoreN X0.here hx rfl (hb hby d1_1) rfl (l' := #[rv a0, jv 0, .second, .unset]) rfl (XS.aloadN X0.here hx rfl (hb hby d1_2) rfl rfl  k))) ?_
  show own_Go p e below s _ _ (s₁.setTop (mkF m 3 #[rv a0, jv 0, .second, .unset] [(.ref a0)]))
  obtain ⟨cl1, Ar1, -, S1, NN1, -, -⟩ := id P0
  refine own_via (fun k => X0.arraylength hx (by rw [e0]; exact Ar1.1) (State.isArrayOf_alike hZ.alike Ar1.2.1) (g := (mkF m 3 #[rv a0, jv 0, .second, .unset] [(.ref a0)])) rfl rfl (hb hby d1_3) _ k) ?_
  rw [len_of S1 NN1]
  show own_Go p e below s _ _ (s₁.setTop (mkF m 4 #[rv a0, jv 0, .second, .unset] [(.int 10)]))
  refine own_via (fun k => XS.bipush X0.here hx rfl (hb hby d1_4) (XS.isub X0.here hx rfl (hb hby d1_6) rfl (XS.istoreN X0.here hx rfl (hb hby d1_7) rfl (l' := #[rv a0, jv 0, .second, iv 2]) rfl (XS.iloadN X0.here hx rfl (hb hby d1_8) rfl  k)))) ?_
  show own_Go p e below s _ _ (s₁.setTop (mkF m 9 #[rv a0, jv 0, .second, iv 2] [(.int 2)]))
  refine own_via (fun k => XS.aloadN X0.here hx rfl (hb hby d1_9) rfl rfl  k) ?_
  show own_Go p e below s _ _ (s₁.setTop (mkF m 10 #[rv a0, jv 0, .second, iv 2] [(.ref a0), (.int 2)]))
  obtain ⟨cl2, Ar2, -, S2, NN2, -, -⟩ := id P0
  refine own_via (fun k => X0.arraylength hx (by rw [e0]; exact Ar2.1) (State.isArrayOf_alike hZ.alike Ar2.2.1) (g := (mkF m 10 #[rv a0, jv 0, .second, iv 2] [(.ref a0), (.int 2)])) rfl rfl (hb hby d1_10) _ k) ?_
  rw [len_of S2 NN2]
  show own_Go p e below s _ _ (s₁.setTop (mkF m 11 #[rv a0, jv 0, .second, iv 2] [(.int 10), (.int 2)]))
  refine own_via (fun k => XS.icmpNo X0.here hx rfl (hb hby d1_11) rfl (by decide) k) ?_
  show own_Go p e below s _ _ (s₁.setTop (mkF m 14 #[rv a0, jv 0, .second, iv 2] []))
  refine own_via (fun k => XS.lloadN X0.here hx rfl (hb hby d1_14) rfl  (XS.bipush X0.here hx rfl (hb hby d1_15) (XS.lshl X0.here hx rfl (hb hby d1_17) rfl k))) ?_
  show own_Go p e below s _ _ (s₁.setTop (mkF m 18 #[rv a0, jv 0, .second, iv 2] [(.long ((0 : Int64) <<< ((8 : Int32) &&& 0x3f).toInt64))]))
  rw [show ((0 : Int64) <<< ((8 : Int32) &&& 0x3f).toInt64) = (0 : Int64) from by decide]
  show own_Go p e below s _ _ (s₁.setTop (mkF m 18 #[rv a0, jv 0, .second, iv 2] [(.long 0)]))
  refine own_via (fun k => XS.aloadN X0.here hx rfl (hb hby d1_18) rfl rfl  (XS.iloadN X0.here hx rfl (hb hby d1_19) rfl  k)) ?_
  show own_Go p e below s _ _ (s₁.setTop (mkF m 20 #[rv a0, jv 0, .second, iv 2] [(.int 2), (.ref a0), (.long 0)]))
  obtain ⟨cl3, Ar3, q3, S3, NN3, H3, G3⟩ := id P0
  have hin3 : ¬ ((2 : Int32) < 0 ∨ cl3.slots.size ≤ ((2 : Int32)).toNatClampNeg) := inb_of S3 ⟨by decide, by decide⟩
  have hat3 : cl3.slots[((2 : Int32)).toNatClampNeg]? = some (.int w2) := H3.at hin3 rfl
  refine own_via (fun k => X0.baloadBytes hx (j := (2 : Int32)) (v := (.int w2)) (by rw [e0]; exact Ar3.1) (State.isArrayOf_alike hZ.alike Ar3.2.1) Ar3.2.2 hin3 hat3 (g := (mkF m 20 #[rv a0, jv 0, .second, iv 2] [(.int 2), (.ref a0), (.long 0)])) rfl rfl (hb hby d1_20) _ k) ?_
  show own_Go p e below s _ _ (s₁.setTop (mkF m 21 #[rv a0, jv 0, .second, iv 2] [(.int w2), (.long 0)]))
  refine own_via (fun k => XS.sipush X0.here hx rfl (hb hby d1_21) (XS.iand X0.here hx rfl (hb hby d1_24) rfl (XS.i2l X0.here hx rfl (hb hby d1_25) rfl (XS.lor X0.here hx rfl (hb hby d1_26) rfl k)))) ?_
  show own_Go p e below s _ _ (s₁.setTop (mkF m 27 #[rv a0, jv 0, .second, iv 2] [(.long ((0 : Int64) ||| ((w2 &&& (255 : Int32)).toInt64)))]))
  obtain ⟨z4, hz4⟩ : ∃ z : Int64, z = ((0 : Int64) ||| ((w2 &&& (255 : Int32)).toInt64)) := ⟨_, rfl⟩
  rw [← hz4]
  show own_Go p e below s _ _ (s₁.setTop (mkF m 27 #[rv a0, jv 0, .second, iv 2] [(.long z4)]))
  refine own_via (fun k => XS.lstoreN X0.here hx rfl (hb hby d1_27) rfl (l' := #[rv a0, jv z4, .second, iv 2]) rfl (XS.iinc X0.here hx rfl (hb hby d1_28) rfl (l' := #[rv a0, jv z4, .second, iv 3]) rfl (XS.goto X0.here hx rfl (pc0 := 31) (pc' := 8) rfl (hb hby d1_31) (by decide) (by decide) (XS.iloadN X0.here hx rfl (hb hby d1_8) rfl  k)))) ?_
  show own_Go p e below s _ _ (s₁.setTop (mkF m 9 #[rv a0, jv z4, .second, iv 3] [(.int 3)]))
  refine own_via (fun k => XS.aloadN X0.here hx rfl (hb hby d1_9) rfl rfl  k) ?_
  show own_Go p e below s _ _ (s₁.setTop (mkF m 10 #[rv a0, jv z4, .second, iv 3] [(.ref a0), (.int 3)]))
  obtain ⟨cl5, Ar5, -, S5, NN5, -, -⟩ := id P0
  refine own_via (fun k => X0.arraylength hx (by rw [e0]; exact Ar5.1) (State.isArrayOf_alike hZ.alike Ar5.2.1) (g := (mkF m 10 #[rv a0, jv z4, .second, iv 3] [(.ref a0), (.int 3)])) rfl rfl (hb hby d1_10) _ k) ?_
  rw [len_of S5 NN5]
  show own_Go p e below s _ _ (s₁.setTop (mkF m 11 #[rv a0, jv z4, .second, iv 3] [(.int 10), (.int 3)]))
  refine own_via (fun k => XS.icmpNo X0.here hx rfl (hb hby d1_11) rfl (by decide) k) ?_
  show own_Go p e below s _ _ (s₁.setTop (mkF m 14 #[rv a0, jv z4, .second, iv 3] []))
  refine own_via (fun k => XS.lloadN X0.here hx rfl (hb hby d1_14) rfl  (XS.bipush X0.here hx rfl (hb hby d1_15) (XS.lshl X0.here hx rfl (hb hby d1_17) rfl (XS.aloadN X0.here hx rfl (hb hby d1_18) rfl rfl  k)))) ?_
  show own_Go p e below s _ _ (s₁.setTop (mkF m 19 #[rv a0, jv z4, .second, iv 3] [(.ref a0), (.long (z4 <<< ((8 : Int32) &&& 0x3f).toInt64))]))
  refine own_via (fun k => XS.iloadN X0.here hx rfl (hb hby d1_19) rfl  k) ?_
  show own_Go p e below s _ _ (s₁.setTop (mkF m 20 #[rv a0, jv z4, .second, iv 3] [(.int 3), (.ref a0), (.long (z4 <<< ((8 : Int32) &&& 0x3f).toInt64))]))
  obtain ⟨cl6, Ar6, q6, S6, NN6, H6, G6⟩ := id P0
  have hin6 : ¬ ((3 : Int32) < 0 ∨ cl6.slots.size ≤ ((3 : Int32)).toNatClampNeg) := inb_of S6 ⟨by decide, by decide⟩
  have hat6 : cl6.slots[((3 : Int32)).toNatClampNeg]? = some (.int w3) := H6.at hin6 rfl
  refine own_via (fun k => X0.baloadBytes hx (j := (3 : Int32)) (v := (.int w3)) (by rw [e0]; exact Ar6.1) (State.isArrayOf_alike hZ.alike Ar6.2.1) Ar6.2.2 hin6 hat6 (g := (mkF m 20 #[rv a0, jv z4, .second, iv 3] [(.int 3), (.ref a0), (.long (z4 <<< ((8 : Int32) &&& 0x3f).toInt64))])) rfl rfl (hb hby d1_20) _ k) ?_
  show own_Go p e below s _ _ (s₁.setTop (mkF m 21 #[rv a0, jv z4, .second, iv 3] [(.int w3), (.long (z4 <<< ((8 : Int32) &&& 0x3f).toInt64))]))
  refine own_via (fun k => XS.sipush X0.here hx rfl (hb hby d1_21) (XS.iand X0.here hx rfl (hb hby d1_24) rfl (XS.i2l X0.here hx rfl (hb hby d1_25) rfl (XS.lor X0.here hx rfl (hb hby d1_26) rfl k)))) ?_
  show own_Go p e below s _ _ (s₁.setTop (mkF m 27 #[rv a0, jv z4, .second, iv 3] [(.long ((z4 <<< ((8 : Int32) &&& 0x3f).toInt64) ||| ((w3 &&& (255 : Int32)).toInt64)))]))
  obtain ⟨z7, hz7⟩ : ∃ z : Int64, z = ((z4 <<< ((8 : Int32) &&& 0x3f).toInt64) ||| ((w3 &&& (255 : Int32)).toInt64)) := ⟨_, rfl⟩
  rw [← hz7]
  show own_Go p e below s _ _ (s₁.setTop (mkF m 27 #[rv a0, jv z4, .second, iv 3] [(.long z7)]))
  refine own_via (fun k => XS.lstoreN X0.here hx rfl (hb hby d1_27) rfl (l' := #[rv a0, jv z7, .second, iv 3]) rfl (XS.iinc X0.here hx rfl (hb hby d1_28) rfl (l' := #[rv a0, jv z7, .second, iv 4]) rfl (XS.goto X0.here hx rfl (pc0 := 31) (pc' := 8) rfl (hb hby d1_31) (by decide) (by decide) (XS.iloadN X0.here hx rfl (hb hby d1_8) rfl  k)))) ?_
  show own_Go p e below s _ _ (s₁.setTop (mkF m 9 #[rv a0, jv z7, .second, iv 4] [(.int 4)]))
  refine own_via (fun k => XS.aloadN X0.here hx rfl (hb hby d1_9) rfl rfl  k) ?_
  show own_Go p e below s _ _ (s₁.setTop (mkF m 10 #[rv a0, jv z7, .second, iv 4] [(.ref a0), (.int 4)]))
  obtain ⟨cl8, Ar8, -, S8, NN8, -, -⟩ := id P0
  refine own_via (fun k => X0.arraylength hx (by rw [e0]; exact Ar8.1) (State.isArrayOf_alike hZ.alike Ar8.2.1) (g := (mkF m 10 #[rv a0, jv z7, .second, iv 4] [(.ref a0), (.int 4)])) rfl rfl (hb hby d1_10) _ k) ?_
  rw [len_of S8 NN8]
  show own_Go p e below s _ _ (s₁.setTop (mkF m 11 #[rv a0, jv z7, .second, iv 4] [(.int 10), (.int 4)]))
  refine own_via (fun k => XS.icmpNo X0.here hx rfl (hb hby d1_11) rfl (by decide) k) ?_
  show own_Go p e below s _ _ (s₁.setTop (mkF m 14 #[rv a0, jv z7, .second, iv 4] []))
  refine own_via (fun k => XS.lloadN X0.here hx rfl (hb hby d1_14) rfl  (XS.bipush X0.here hx rfl (hb hby d1_15) (XS.lshl X0.here hx rfl (hb hby d1_17) rfl (XS.aloadN X0.here hx rfl (hb hby d1_18) rfl rfl  k)))) ?_
  show own_Go p e below s _ _ (s₁.setTop (mkF m 19 #[rv a0, jv z7, .second, iv 4] [(.ref a0), (.long (z7 <<< ((8 : Int32) &&& 0x3f).toInt64))]))
  refine own_via (fun k => XS.iloadN X0.here hx rfl (hb hby d1_19) rfl  k) ?_
  show own_Go p e below s _ _ (s₁.setTop (mkF m 20 #[rv a0, jv z7, .second, iv 4] [(.int 4), (.ref a0), (.long (z7 <<< ((8 : Int32) &&& 0x3f).toInt64))]))
  obtain ⟨cl9, Ar9, q9, S9, NN9, H9, G9⟩ := id P0
  have hin9 : ¬ ((4 : Int32) < 0 ∨ cl9.slots.size ≤ ((4 : Int32)).toNatClampNeg) := inb_of S9 ⟨by decide, by decide⟩
  have hat9 : cl9.slots[((4 : Int32)).toNatClampNeg]? = some (.int w4) := H9.at hin9 rfl
  refine own_via (fun k => X0.baloadBytes hx (j := (4 : Int32)) (v := (.int w4)) (by rw [e0]; exact Ar9.1) (State.isArrayOf_alike hZ.alike Ar9.2.1) Ar9.2.2 hin9 hat9 (g := (mkF m 20 #[rv a0, jv z7, .second, iv 4] [(.int 4), (.ref a0), (.long (z7 <<< ((8 : Int32) &&& 0x3f).toInt64))])) rfl rfl (hb hby d1_20) _ k) ?_
  show own_Go p e below s _ _ (s₁.setTop (mkF m 21 #[rv a0, jv z7, .second, iv 4] [(.int w4), (.long (z7 <<< ((8 : Int32) &&& 0x3f).toInt64))]))
  refine own_via (fun k => XS.sipush X0.here hx rfl (hb hby d1_21) (XS.iand X0.here hx rfl (hb hby d1_24) rfl (XS.i2l X0.here hx rfl (hb hby d1_25) rfl (XS.lor X0.here hx rfl (hb hby d1_26) rfl k)))) ?_
  show own_Go p e below s _ _ (s₁.setTop (mkF m 27 #[rv a0, jv z7, .second, iv 4] [(.long ((z7 <<< ((8 : Int32) &&& 0x3f).toInt64) ||| ((w4 &&& (255 : Int32)).toInt64)))]))
  obtain ⟨z10, hz10⟩ : ∃ z : Int64, z = ((z7 <<< ((8 : Int32) &&& 0x3f).toInt64) ||| ((w4 &&& (255 : Int32)).toInt64)) := ⟨_, rfl⟩
  rw [← hz10]
  show own_Go p e below s _ _ (s₁.setTop (mkF m 27 #[rv a0, jv z7, .second, iv 4] [(.long z10)]))
  refine own_via (fun k => XS.lstoreN X0.here hx rfl (hb hby d1_27) rfl (l' := #[rv a0, jv z10, .second, iv 4]) rfl (XS.iinc X0.here hx rfl (hb hby d1_28) rfl (l' := #[rv a0, jv z10, .second, iv 5]) rfl (XS.goto X0.here hx rfl (pc0 := 31) (pc' := 8) rfl (hb hby d1_31) (by decide) (by decide) (XS.iloadN X0.here hx rfl (hb hby d1_8) rfl  k)))) ?_
  show own_Go p e below s _ _ (s₁.setTop (mkF m 9 #[rv a0, jv z10, .second, iv 5] [(.int 5)]))
  refine own_via (fun k => XS.aloadN X0.here hx rfl (hb hby d1_9) rfl rfl  k) ?_
  show own_Go p e below s _ _ (s₁.setTop (mkF m 10 #[rv a0, jv z10, .second, iv 5] [(.ref a0), (.int 5)]))
  obtain ⟨cl11, Ar11, -, S11, NN11, -, -⟩ := id P0
  refine own_via (fun k => X0.arraylength hx (by rw [e0]; exact Ar11.1) (State.isArrayOf_alike hZ.alike Ar11.2.1) (g := (mkF m 10 #[rv a0, jv z10, .second, iv 5] [(.ref a0), (.int 5)])) rfl rfl (hb hby d1_10) _ k) ?_
  rw [len_of S11 NN11]
  show own_Go p e below s _ _ (s₁.setTop (mkF m 11 #[rv a0, jv z10, .second, iv 5] [(.int 10), (.int 5)]))
  refine own_via (fun k => XS.icmpNo X0.here hx rfl (hb hby d1_11) rfl (by decide) k) ?_
  show own_Go p e below s _ _ (s₁.setTop (mkF m 14 #[rv a0, jv z10, .second, iv 5] []))
  refine own_via (fun k => XS.lloadN X0.here hx rfl (hb hby d1_14) rfl  (XS.bipush X0.here hx rfl (hb hby d1_15) (XS.lshl X0.here hx rfl (hb hby d1_17) rfl (XS.aloadN X0.here hx rfl (hb hby d1_18) rfl rfl  k)))) ?_
  show own_Go p e below s _ _ (s₁.setTop (mkF m 19 #[rv a0, jv z10, .second, iv 5] [(.ref a0), (.long (z10 <<< ((8 : Int32) &&& 0x3f).toInt64))]))
  refine own_via (fun k => XS.iloadN X0.here hx rfl (hb hby d1_19) rfl  k) ?_
  show own_Go p e below s _ _ (s₁.setTop (mkF m 20 #[rv a0, jv z10, .second, iv 5] [(.int 5), (.ref a0), (.long (z10 <<< ((8 : Int32) &&& 0x3f).toInt64))]))
  obtain ⟨cl12, Ar12, q12, S12, NN12, H12, G12⟩ := id P0
  have hin12 : ¬ ((5 : Int32) < 0 ∨ cl12.slots.size ≤ ((5 : Int32)).toNatClampNeg) := inb_of S12 ⟨by decide, by decide⟩
  have hat12 : cl12.slots[((5 : Int32)).toNatClampNeg]? = some (.int w5) := H12.at hin12 rfl
  refine own_via (fun k => X0.baloadBytes hx (j := (5 : Int32)) (v := (.int w5)) (by rw [e0]; exact Ar12.1) (State.isArrayOf_alike hZ.alike Ar12.2.1) Ar12.2.2 hin12 hat12 (g := (mkF m 20 #[rv a0, jv z10, .second, iv 5] [(.int 5), (.ref a0), (.long (z10 <<< ((8 : Int32) &&& 0x3f).toInt64))])) rfl rfl (hb hby d1_20) _ k) ?_
  show own_Go p e below s _ _ (s₁.setTop (mkF m 21 #[rv a0, jv z10, .second, iv 5] [(.int w5), (.long (z10 <<< ((8 : Int32) &&& 0x3f).toInt64))]))
  refine own_via (fun k => XS.sipush X0.here hx rfl (hb hby d1_21) (XS.iand X0.here hx rfl (hb hby d1_24) rfl (XS.i2l X0.here hx rfl (hb hby d1_25) rfl (XS.lor X0.here hx rfl (hb hby d1_26) rfl k)))) ?_
  show own_Go p e below s _ _ (s₁.setTop (mkF m 27 #[rv a0, jv z10, .second, iv 5] [(.long ((z10 <<< ((8 : Int32) &&& 0x3f).toInt64) ||| ((w5 &&& (255 : Int32)).toInt64)))]))
  obtain ⟨z13, hz13⟩ : ∃ z : Int64, z = ((z10 <<< ((8 : Int32) &&& 0x3f).toInt64) ||| ((w5 &&& (255 : Int32)).toInt64)) := ⟨_, rfl⟩
  rw [← hz13]
  show own_Go p e below s _ _ (s₁.setTop (mkF m 27 #[rv a0, jv z10, .second, iv 5] [(.long z13)]))
  refine own_via (fun k => XS.lstoreN X0.here hx rfl (hb hby d1_27) rfl (l' := #[rv a0, jv z13, .second, iv 5]) rfl (XS.iinc X0.here hx rfl (hb hby d1_28) rfl (l' := #[rv a0, jv z13, .second, iv 6]) rfl (XS.goto X0.here hx rfl (pc0 := 31) (pc' := 8) rfl (hb hby d1_31) (by decide) (by decide) (XS.iloadN X0.here hx rfl (hb hby d1_8) rfl  k)))) ?_
  show own_Go p e below s _ _ (s₁.setTop (mkF m 9 #[rv a0, jv z13, .second, iv 6] [(.int 6)]))
  refine own_via (fun k => XS.aloadN X0.here hx rfl (hb hby d1_9) rfl rfl  k) ?_
  show own_Go p e below s _ _ (s₁.setTop (mkF m 10 #[rv a0, jv z13, .second, iv 6] [(.ref a0), (.int 6)]))
  obtain ⟨cl14, Ar14, -, S14, NN14, -, -⟩ := id P0
  refine own_via (fun k => X0.arraylength hx (by rw [e0]; exact Ar14.1) (State.isArrayOf_alike hZ.alike Ar14.2.1) (g := (mkF m 10 #[rv a0, jv z13, .second, iv 6] [(.ref a0), (.int 6)])) rfl rfl (hb hby d1_10) _ k) ?_
  rw [len_of S14 NN14]
  show own_Go p e below s _ _ (s₁.setTop (mkF m 11 #[rv a0, jv z13, .second, iv 6] [(.int 10), (.int 6)]))
  refine own_via (fun k => XS.icmpNo X0.here hx rfl (hb hby d1_11) rfl (by decide) k) ?_
  show own_Go p e below s _ _ (s₁.setTop (mkF m 14 #[rv a0, jv z13, .second, iv 6] []))
  refine own_via (fun k => XS.lloadN X0.here hx rfl (hb hby d1_14) rfl  (XS.bipush X0.here hx rfl (hb hby d1_15) (XS.lshl X0.here hx rfl (hb hby d1_17) rfl (XS.aloadN X0.here hx rfl (hb hby d1_18) rfl rfl  k)))) ?_
  show own_Go p e below s _ _ (s₁.setTop (mkF m 19 #[rv a0, jv z13, .second, iv 6] [(.ref a0), (.long (z13 <<< ((8 : Int32) &&& 0x3f).toInt64))]))
  refine own_via (fun k => XS.iloadN X0.here hx rfl (hb hby d1_19) rfl  k) ?_
  show own_Go p e below s _ _ (s₁.setTop (mkF m 20 #[rv a0, jv z13, .second, iv 6] [(.int 6), (.ref a0), (.long (z13 <<< ((8 : Int32) &&& 0x3f).toInt64))]))
  obtain ⟨cl15, Ar15, q15, S15, NN15, H15, G15⟩ := id P0
  have hin15 : ¬ ((6 : Int32) < 0 ∨ cl15.slots.size ≤ ((6 : Int32)).toNatClampNeg) := inb_of S15 ⟨by decide, by decide⟩
  have hat15 : cl15.slots[((6 : Int32)).toNatClampNeg]? = some (.int w6) := H15.at hin15 rfl
  refine own_via (fun k => X0.baloadBytes hx (j := (6 : Int32)) (v := (.int w6)) (by rw [e0]; exact Ar15.1) (State.isArrayOf_alike hZ.alike Ar15.2.1) Ar15.2.2 hin15 hat15 (g := (mkF m 20 #[rv a0, jv z13, .second, iv 6] [(.int 6), (.ref a0), (.long (z13 <<< ((8 : Int32) &&& 0x3f).toInt64))])) rfl rfl (hb hby d1_20) _ k) ?_
  show own_Go p e below s _ _ (s₁.setTop (mkF m 21 #[rv a0, jv z13, .second, iv 6] [(.int w6), (.long (z13 <<< ((8 : Int32) &&& 0x3f).toInt64))]))
  refine own_via (fun k => XS.sipush X0.here hx rfl (hb hby d1_21) (XS.iand X0.here hx rfl (hb hby d1_24) rfl (XS.i2l X0.here hx rfl (hb hby d1_25) rfl (XS.lor X0.here hx rfl (hb hby d1_26) rfl k)))) ?_
  show own_Go p e below s _ _ (s₁.setTop (mkF m 27 #[rv a0, jv z13, .second, iv 6] [(.long ((z13 <<< ((8 : Int32) &&& 0x3f).toInt64) ||| ((w6 &&& (255 : Int32)).toInt64)))]))
  obtain ⟨z16, hz16⟩ : ∃ z : Int64, z = ((z13 <<< ((8 : Int32) &&& 0x3f).toInt64) ||| ((w6 &&& (255 : Int32)).toInt64)) := ⟨_, rfl⟩
  rw [← hz16]
  show own_Go p e below s _ _ (s₁.setTop (mkF m 27 #[rv a0, jv z13, .second, iv 6] [(.long z16)]))
  refine own_via (fun k => XS.lstoreN X0.here hx rfl (hb hby d1_27) rfl (l' := #[rv a0, jv z16, .second, iv 6]) rfl (XS.iinc X0.here hx rfl (hb hby d1_28) rfl (l' := #[rv a0, jv z16, .second, iv 7]) rfl (XS.goto X0.here hx rfl (pc0 := 31) (pc' := 8) rfl (hb hby d1_31) (by decide) (by decide) (XS.iloadN X0.here hx rfl (hb hby d1_8) rfl  k)))) ?_
  show own_Go p e below s _ _ (s₁.setTop (mkF m 9 #[rv a0, jv z16, .second, iv 7] [(.int 7)]))
  refine own_via (fun k => XS.aloadN X0.here hx rfl (hb hby d1_9) rfl rfl  k) ?_
  show own_Go p e below s _ _ (s₁.setTop (mkF m 10 #[rv a0, jv z16, .second, iv 7] [(.ref a0), (.int 7)]))
  obtain ⟨cl17, Ar17, -, S17, NN17, -, -⟩ := id P0
  refine own_via (fun k => X0.arraylength hx (by rw [e0]; exact Ar17.1) (State.isArrayOf_alike hZ.alike Ar17.2.1) (g := (mkF m 10 #[rv a0, jv z16, .second, iv 7] [(.ref a0), (.int 7)])) rfl rfl (hb hby d1_10) _ k) ?_
  rw [len_of S17 NN17]
  show own_Go p e below s _ _ (s₁.setTop (mkF m 11 #[rv a0, jv z16, .second, iv 7] [(.int 10), (.int 7)]))
  refine own_via (fun k => XS.icmpNo X0.here hx rfl (hb hby d1_11) rfl (by decide) k) ?_
  show own_Go p e below s _ _ (s₁.setTop (mkF m 14 #[rv a0, jv z16, .second, iv 7] []))
  refine own_via (fun k => XS.lloadN X0.here hx rfl (hb hby d1_14) rfl  (XS.bipush X0.here hx rfl (hb hby d1_15) (XS.lshl X0.here hx rfl (hb hby d1_17) rfl (XS.aloadN X0.here hx rfl (hb hby d1_18) rfl rfl  k)))) ?_
  show own_Go p e below s _ _ (s₁.setTop (mkF m 19 #[rv a0, jv z16, .second, iv 7] [(.ref a0), (.long (z16 <<< ((8 : Int32) &&& 0x3f).toInt64))]))
  refine own_via (fun k => XS.iloadN X0.here hx rfl (hb hby d1_19) rfl  k) ?_
  show own_Go p e below s _ _ (s₁.setTop (mkF m 20 #[rv a0, jv z16, .second, iv 7] [(.int 7), (.ref a0), (.long (z16 <<< ((8 : Int32) &&& 0x3f).toInt64))]))
  obtain ⟨cl18, Ar18, q18, S18, NN18, H18, G18⟩ := id P0
  have hin18 : ¬ ((7 : Int32) < 0 ∨ cl18.slots.size ≤ ((7 : Int32)).toNatClampNeg) := inb_of S18 ⟨by decide, by decide⟩
  have hat18 : cl18.slots[((7 : Int32)).toNatClampNeg]? = some (.int w7) := H18.at hin18 rfl
  refine own_via (fun k => X0.baloadBytes hx (j := (7 : Int32)) (v := (.int w7)) (by rw [e0]; exact Ar18.1) (State.isArrayOf_alike hZ.alike Ar18.2.1) Ar18.2.2 hin18 hat18 (g := (mkF m 20 #[rv a0, jv z16, .second, iv 7] [(.int 7), (.ref a0), (.long (z16 <<< ((8 : Int32) &&& 0x3f).toInt64))])) rfl rfl (hb hby d1_20) _ k) ?_
  show own_Go p e below s _ _ (s₁.setTop (mkF m 21 #[rv a0, jv z16, .second, iv 7] [(.int w7), (.long (z16 <<< ((8 : Int32) &&& 0x3f).toInt64))]))
  refine own_via (fun k => XS.sipush X0.here hx rfl (hb hby d1_21) (XS.iand X0.here hx rfl (hb hby d1_24) rfl (XS.i2l X0.here hx rfl (hb hby d1_25) rfl (XS.lor X0.here hx rfl (hb hby d1_26) rfl k)))) ?_
  show own_Go p e below s _ _ (s₁.setTop (mkF m 27 #[rv a0, jv z16, .second, iv 7] [(.long ((z16 <<< ((8 : Int32) &&& 0x3f).toInt64) ||| ((w7 &&& (255 : Int32)).toInt64)))]))
  obtain ⟨z19, hz19⟩ : ∃ z : Int64, z = ((z16 <<< ((8 : Int32) &&& 0x3f).toInt64) ||| ((w7 &&& (255 : Int32)).toInt64)) := ⟨_, rfl⟩
  rw [← hz19]
  show own_Go p e below s _ _ (s₁.setTop (mkF m 27 #[rv a0, jv z16, .second, iv 7] [(.long z19)]))
  refine own_via (fun k => XS.lstoreN X0.here hx rfl (hb hby d1_27) rfl (l' := #[rv a0, jv z19, .second, iv 7]) rfl (XS.iinc X0.here hx rfl (hb hby d1_28) rfl (l' := #[rv a0, jv z19, .second, iv 8]) rfl (XS.goto X0.here hx rfl (pc0 := 31) (pc' := 8) rfl (hb hby d1_31) (by decide) (by decide) (XS.iloadN X0.here hx rfl (hb hby d1_8) rfl  k)))) ?_
  show own_Go p e below s _ _ (s₁.setTop (mkF m 9 #[rv a0, jv z19, .second, iv 8] [(.int 8)]))
  refine own_via (fun k => XS.aloadN X0.here hx rfl (hb hby d1_9) rfl rfl  k) ?_
  show own_Go p e below s _ _ (s₁.setTop (mkF m 10 #[rv a0, jv z19, .second, iv 8] [(.ref a0), (.int 8)]))
  obtain ⟨cl20, Ar20, -, S20, NN20, -, -⟩ := id P0
  refine own_via (fun k => X0.arraylength hx (by rw [e0]; exact Ar20.1) (State.isArrayOf_alike hZ.alike Ar20.2.1) (g := (mkF m 10 #[rv a0, jv z19, .second, iv 8] [(.ref a0), (.int 8)])) rfl rfl (hb hby d1_10) _ k) ?_
  rw [len_of S20 NN20]
  show own_Go p e below s _ _ (s₁.setTop (mkF m 11 #[rv a0, jv z19, .second, iv 8] [(.int 10), (.int 8)]))
  refine own_via (fun k => XS.icmpNo X0.here hx rfl (hb hby d1_11) rfl (by decide) k) ?_
  show own_Go p e below s _ _ (s₁.setTop (mkF m 14 #[rv a0, jv z19, .second, iv 8] []))
  refine own_via (fun k => XS.lloadN X0.here hx rfl (hb hby d1_14) rfl  (XS.bipush X0.here hx rfl (hb hby d1_15) (XS.lshl X0.here hx rfl (hb hby d1_17) rfl (XS.aloadN X0.here hx rfl (hb hby d1_18) rfl rfl  k)))) ?_
  show own_Go p e below s _ _ (s₁.setTop (mkF m 19 #[rv a0, jv z19, .second, iv 8] [(.ref a0), (.long (z19 <<< ((8 : Int32) &&& 0x3f).toInt64))]))
  refine own_via (fun k => XS.iloadN X0.here hx rfl (hb hby d1_19) rfl  k) ?_
  show own_Go p e below s _ _ (s₁.setTop (mkF m 20 #[rv a0, jv z19, .second, iv 8] [(.int 8), (.ref a0), (.long (z19 <<< ((8 : Int32) &&& 0x3f).toInt64))]))
  obtain ⟨cl21, Ar21, q21, S21, NN21, H21, G21⟩ := id P0
  have hin21 : ¬ ((8 : Int32) < 0 ∨ cl21.slots.size ≤ ((8 : Int32)).toNatClampNeg) := inb_of S21 ⟨by decide, by decide⟩
  have hat21 : cl21.slots[((8 : Int32)).toNatClampNeg]? = some (.int w8) := H21.at hin21 rfl
  refine own_via (fun k => X0.baloadBytes hx (j := (8 : Int32)) (v := (.int w8)) (by rw [e0]; exact Ar21.1) (State.isArrayOf_alike hZ.alike Ar21.2.1) Ar21.2.2 hin21 hat21 (g := (mkF m 20 #[rv a0, jv z19, .second, iv 8] [(.int 8), (.ref a0), (.long (z19 <<< ((8 : Int32) &&& 0x3f).toInt64))])) rfl rfl (hb hby d1_20) _ k) ?_
  show own_Go p e below s _ _ (s₁.setTop (mkF m 21 #[rv a0, jv z19, .second, iv 8] [(.int w8), (.long (z19 <<< ((8 : Int32) &&& 0x3f).toInt64))]))
  refine own_via (fun k => XS.sipush X0.here hx rfl (hb hby d1_21) (XS.iand X0.here hx rfl (hb hby d1_24) rfl (XS.i2l X0.here hx rfl (hb hby d1_25) rfl (XS.lor X0.here hx rfl (hb hby d1_26) rfl k)))) ?_
  show own_Go p e below s _ _ (s₁.setTop (mkF m 27 #[rv a0, jv z19, .second, iv 8] [(.long ((z19 <<< ((8 : Int32) &&& 0x3f).toInt64) ||| ((w8 &&& (255 : Int32)).toInt64)))]))
  obtain ⟨z22, hz22⟩ : ∃ z : Int64, z = ((z19 <<< ((8 : Int32) &&& 0x3f).toInt64) ||| ((w8 &&& (255 : Int32)).toInt64)) := ⟨_, rfl⟩
  rw [← hz22]
  show own_Go p e below s _ _ (s₁.setTop (mkF m 27 #[rv a0, jv z19, .second, iv 8] [(.long z22)]))
  refine own_via (fun k => XS.lstoreN X0.here hx rfl (hb hby d1_27) rfl (l' := #[rv a0, jv z22, .second, iv 8]) rfl (XS.iinc X0.here hx rfl (hb hby d1_28) rfl (l' := #[rv a0, jv z22, .second, iv 9]) rfl (XS.goto X0.here hx rfl (pc0 := 31) (pc' := 8) rfl (hb hby d1_31) (by decide) (by decide) (XS.iloadN X0.here hx rfl (hb hby d1_8) rfl  k)))) ?_
  show own_Go p e below s _ _ (s₁.setTop (mkF m 9 #[rv a0, jv z22, .second, iv 9] [(.int 9)]))
  refine own_via (fun k => XS.aloadN X0.here hx rfl (hb hby d1_9) rfl rfl  k) ?_
  show own_Go p e below s _ _ (s₁.setTop (mkF m 10 #[rv a0, jv z22, .second, iv 9] [(.ref a0), (.int 9)]))
  obtain ⟨cl23, Ar23, -, S23, NN23, -, -⟩ := id P0
  refine own_via (fun k => X0.arraylength hx (by rw [e0]; exact Ar23.1) (State.isArrayOf_alike hZ.alike Ar23.2.1) (g := (mkF m 10 #[rv a0, jv z22, .second, iv 9] [(.ref a0), (.int 9)])) rfl rfl (hb hby d1_10) _ k) ?_
  rw [len_of S23 NN23]
  show own_Go p e below s _ _ (s₁.setTop (mkF m 11 #[rv a0, jv z22, .second, iv 9] [(.int 10), (.int 9)]))
  refine own_via (fun k => XS.icmpNo X0.here hx rfl (hb hby d1_11) rfl (by decide) k) ?_
  show own_Go p e below s _ _ (s₁.setTop (mkF m 14 #[rv a0, jv z22, .second, iv 9] []))
  refine own_via (fun k => XS.lloadN X0.here hx rfl (hb hby d1_14) rfl  (XS.bipush X0.here hx rfl (hb hby d1_15) (XS.lshl X0.here hx rfl (hb hby d1_17) rfl (XS.aloadN X0.here hx rfl (hb hby d1_18) rfl rfl  k)))) ?_
  show own_Go p e below s _ _ (s₁.setTop (mkF m 19 #[rv a0, jv z22, .second, iv 9] [(.ref a0), (.long (z22 <<< ((8 : Int32) &&& 0x3f).toInt64))]))
  refine own_via (fun k => XS.iloadN X0.here hx rfl (hb hby d1_19) rfl  k) ?_
  show own_Go p e below s _ _ (s₁.setTop (mkF m 20 #[rv a0, jv z22, .second, iv 9] [(.int 9), (.ref a0), (.long (z22 <<< ((8 : Int32) &&& 0x3f).toInt64))]))
  obtain ⟨cl24, Ar24, q24, S24, NN24, H24, G24⟩ := id P0
  have hin24 : ¬ ((9 : Int32) < 0 ∨ cl24.slots.size ≤ ((9 : Int32)).toNatClampNeg) := inb_of S24 ⟨by decide, by decide⟩
  have hat24 : cl24.slots[((9 : Int32)).toNatClampNeg]? = some (.int w9) := H24.at hin24 rfl
  refine own_via (fun k => X0.baloadBytes hx (j := (9 : Int32)) (v := (.int w9)) (by rw [e0]; exact Ar24.1) (State.isArrayOf_alike hZ.alike Ar24.2.1) Ar24.2.2 hin24 hat24 (g := (mkF m 20 #[rv a0, jv z22, .second, iv 9] [(.int 9), (.ref a0), (.long (z22 <<< ((8 : Int32) &&& 0x3f).toInt64))])) rfl rfl (hb hby d1_20) _ k) ?_
  show own_Go p e below s _ _ (s₁.setTop (mkF m 21 #[rv a0, jv z22, .second, iv 9] [(.int w9), (.long (z22 <<< ((8 : Int32) &&& 0x3f).toInt64))]))
  refine own_via (fun k => XS.sipush X0.here hx rfl (hb hby d1_21) (XS.iand X0.here hx rfl (hb hby d1_24) rfl (XS.i2l X0.here hx rfl (hb hby d1_25) rfl (XS.lor X0.here hx rfl (hb hby d1_26) rfl k)))) ?_
  show own_Go p e below s _ _ (s₁.setTop (mkF m 27 #[rv a0, jv z22, .second, iv 9] [(.long ((z22 <<< ((8 : Int32) &&& 0x3f).toInt64) ||| ((w9 &&& (255 : Int32)).toInt64)))]))
  obtain ⟨z25, hz25⟩ : ∃ z : Int64, z = ((z22 <<< ((8 : Int32) &&& 0x3f).toInt64) ||| ((w9 &&& (255 : Int32)).toInt64)) := ⟨_, rfl⟩
  rw [← hz25]
  show own_Go p e below s _ _ (s₁.setTop (mkF m 27 #[rv a0, jv z22, .second, iv 9] [(.long z25)]))
  refine own_via (fun k => XS.lstoreN X0.here hx rfl (hb hby d1_27) rfl (l' := #[rv a0, jv z25, .second, iv 9]) rfl (XS.iinc X0.here hx rfl (hb hby d1_28) rfl (l' := #[rv a0, jv z25, .second, iv 10]) rfl (XS.goto X0.here hx rfl (pc0 := 31) (pc' := 8) rfl (hb hby d1_31) (by decide) (by decide) (XS.iloadN X0.here hx rfl (hb hby d1_8) rfl  k)))) ?_
  show own_Go p e below s _ _ (s₁.setTop (mkF m 9 #[rv a0, jv z25, .second, iv 10] [(.int 10)]))
  refine own_via (fun k => XS.aloadN X0.here hx rfl (hb hby d1_9) rfl rfl  k) ?_
  show own_Go p e below s _ _ (s₁.setTop (mkF m 10 #[rv a0, jv z25, .second, iv 10] [(.ref a0), (.int 10)]))
  obtain ⟨cl26, Ar26, -, S26, NN26, -, -⟩ := id P0
  refine own_via (fun k => X0.arraylength hx (by rw [e0]; exact Ar26.1) (State.isArrayOf_alike hZ.alike Ar26.2.1) (g := (mkF m 10 #[rv a0, jv z25, .second, iv 10] [(.ref a0), (.int 10)])) rfl rfl (hb hby d1_10) _ k) ?_
  rw [len_of S26 NN26]
  show own_Go p e below s _ _ (s₁.setTop (mkF m 11 #[rv a0, jv z25, .second, iv 10] [(.int 10), (.int 10)]))
  refine own_via (fun k => XS.icmpYes X0.here hx rfl (pc0 := 11) (pc' := 34) rfl (hb hby d1_11) rfl (by decide) (by decide) (by decide) k) ?_
  show own_Go p e below s _ _ (s₁.setTop (mkF m 34 #[rv a0, jv z25, .second, iv 10] []))
  refine own_via (fun k => XS.lloadN X0.here hx rfl (hb hby d1_34) rfl  k) ?_
  show own_Go p e below s _ _ (s₁.setTop (mkF m 35 #[rv a0, jv z25, .second, iv 10] [(.long z25)]))
  exact own_retL X0 hx hlk Bd.returns (hb hby d1_35) (Q := (Q1_10 Z a0 k w0 w1 w2 w3 w4 w5 w6 w7 w8 w9 h0 n0)) ⟨(congrArg (fun z => some (Value.long z)) (show z25 = (own_f1_10 w2 w3 w4 w5 w6 w7 w8 w9) from (by subst hz25 hz22 hz19 hz16 hz13 hz10 hz7 hz4; unfold own_f1_10; exact rfl.symm))), N0, e0⟩ (by decide) (by decide)
theorem ef_1_11 (m : MethodId) (x0 : Addr) : entryFrame m #[(.ref x0)] 4 = mkF m 0 #[rv x0, .unset, .unset, .unset] [] := by first | (simp [entryFrame, mkF, argsToLocals, Value.category]; done) | rfl
def own_f1_11 (w3 : Int32) (w4 : Int32) (w5 : Int32) (w6 : Int32) (w7 : Int32) (w8 : Int32) (w9 : Int32) (w10 : Int32) : Int64 := (let z4 : Int64 := ((0 : Int64) ||| ((w3 &&& (255 : Int32)).toInt64)); (let z7 : Int64 := ((z4 <<< ((8 : Int32) &&& 0x3f).toInt64) ||| ((w4 &&& (255 : Int32)).toInt64)); (let z10 : Int64 := ((z7 <<< ((8 : Int32) &&& 0x3f).toInt64) ||| ((w5 &&& (255 : Int32)).toInt64)); (let z13 : Int64 := ((z10 <<< ((8 : Int32) &&& 0x3f).toInt64) ||| ((w6 &&& (255 : Int32)).toInt64)); (let z16 : Int64 := ((z13 <<< ((8 : Int32) &&& 0x3f).toInt64) ||| ((w7 &&& (255 : Int32)).toInt64)); (let z19 : Int64 := ((z16 <<< ((8 : Int32) &&& 0x3f).toInt64) ||| ((w8 &&& (255 : Int32)).toInt64)); (let z22 : Int64 := ((z19 <<< ((8 : Int32) &&& 0x3f).toInt64) ||| ((w9 &&& (255 : Int32)).toInt64)); (let z25 : Int64 := ((z22 <<< ((8 : Int32) &&& 0x3f).toInt64) ||| ((w10 &&& (255 : Int32)).toInt64)); z25))))))))
def Q1_11 (Z : State) (a0 : Addr) (k : ClassId) (w0 : Int32) (w1 : Int32) (w2 : Int32) (w3 : Int32) (w4 : Int32) (w5 : Int32) (w6 : Int32) (w7 : Int32) (w8 : Int32) (w9 : Int32) (w10 : Int32) (h0 : Heap) (n0 : Nat) (v : Option Value) (h : Heap) (L : List Loc) : Prop := v = some (.long (own_f1_11 w3 w4 w5 w6 w7 w8 w9 w10)) ∧ Fr n0 L ∧ h = h0
set_option maxRecDepth 65536 in
set_option maxHeartbeats 40000000 in
theorem rm1_11 (l : Launch) (Z : State) (aw : Array Value) (hw : ∀ d ∈ tables_1, d.before aw Z = true) (ws : List Jvm.Cond) (a0 : Addr) (k : ClassId) (w0 : Int32) (w1 : Int32) (w2 : Int32) (w3 : Int32) (w4 : Int32) (w5 : Int32) (w6 : Int32) (w7 : Int32) (w8 : Int32) (w9 : Int32) (w10 : Int32) (h0 : Heap) (n0 : Nat) (Z0 : n0 ≤ h0.size) (P0 : Arv Z h0 a0 k .byte (11 : Int32) [(.int w0), (.int w1), (.int w2), (.int w3), (.int w4), (.int w5), (.int w6), (.int w7), (.int w8), (.int w9), (.int w10)] (.int 0)) :
    MetFree l (⟨"com/example/dani/dani/core/Key", "trailingNumber", "([B)J"⟩ : MethodName) (head1 (Jvm.Cond.code (⟨"com/example/dani/dani/core/Key", "trailingNumber", "([B)J"⟩ : MethodName) prog_5_method_16_code 4 (some .long) :: ws) ({ frames := 0, cells := 0, slots := 0, locals := 0 } : Room)) (fun a U => a = #[(.ref a0)] ∧ Z.Warmed39 U.vm ∧ U.heap = h0) (fun _ _ _ _ _ => True) (fun _ U o U' => ∃ v L, o = .returned v ∧ Q1_11 Z a0 k w0 w1 w2 w3 w4 w5 w6 w7 w8 w9 w10 h0 n0 v U'.heap L ∧ FrameEnd U o U' L ({ frames := 0, cells := 0, slots := 0, locals := 0 } : Room).cells ({ frames := 0, cells := 0, slots := 0, locals := 0 } : Room).slots) := by
  refine MetFree.of_bodySF (plainFor_of_name pn_1) hisR ?_
  intro p e s m args below meth c s₁ Bd hml0 hP hK
  obtain ⟨rfl, hZ, hh⟩ := hP
  have hx := Bd.exec
  have hby := Bd.bytes
  have hml : c.maxLocals = 4 := hml0
  have hown : s.vm.findClass "com/example/dani/dani/core/Key" = some m.cls := findClass_of_methodNamed Bd.named
  have hnm := (name_of_methodNamed Bd.named Bd.method).1
  have hlk : meth.locks = false := by first | exact BodyLoose.notSynchronized (by assumption) | exact Body.notSynchronized (by assumption)
  have X0 : Stand p l e ({ frames := 0, cells := 0, slots := 0, locals := 0 } : Room) s m #[(.ref a0)] below meth c s₁ [] 0 0 := Stand.of_body Bd
  have e0 : s₁.heap = h0 := by rw [← hh, Bd.state]; rfl
  have N0 := Fr.nil n0
  have K0 : Keep h0 h0 [] := Keep.refl _ _
  refine own_start (CS := (0, 0)) (Q := (Q1_11 Z a0 k w0 w1 w2 w3 w4 w5 w6 w7 w8 w9 w10 h0 n0)) (ef_1_11 m a0) ?_
  show own_Go p e below s _ _ (s₁.setTop (mkF m 0 #[rv a0, .unset, .unset, .unset] []))
  refine own_via (fun k => XS.lconst X0.here hx rfl (hb hby d1_0) (XS.lstoreN X0.here hx rfl (hb hby d1_1) rfl (l' := #[rv a0, jv 0, .second, .unset]) rfl (XS.aloadN X0.here hx rfl (hb hby d1_2) rfl rfl  k))) ?_
  show own_Go p e below s _ _ (s₁.setTop (mkF m 3 #[rv a0, jv 0, .second, .unset] [(.ref a0)]))
  obtain ⟨cl1, Ar1, -, S1, NN1, -, -⟩ := id P0
  refine own_via (fun k => X0.arraylength hx (by rw [e0]; exact Ar1.1) (State.isArrayOf_alike hZ.alike Ar1.2.1) (g := (mkF m 3 #[rv a0, jv 0, .second, .unset] [(.ref a0)])) rfl rfl (hb hby d1_3) _ k) ?_
  rw [len_of S1 NN1]
  show own_Go p e below s _ _ (s₁.setTop (mkF m 4 #[rv a0, jv 0, .second, .unset] [(.int 11)]))
  refine own_via (fun k => XS.bipush X0.here hx rfl (hb hby d1_4) (XS.isub X0.here hx rfl (hb hby d1_6) rfl (XS.istoreN X0.here hx rfl (hb hby d1_7) rfl (l' := #[rv a0, jv 0, .second, iv 3]) rfl (XS.iloadN X0.here hx rfl (hb hby d1_8) rfl  k)))) ?_
  show own_Go p e below s _ _ (s₁.setTop (mkF m 9 #[rv a0, jv 0, .second, iv 3] [(.int 3)]))
  refine own_via (fun k => XS.aloadN X0.here hx rfl (hb hby d1_9) rfl rfl  k) ?_
  show own_Go p e below s _ _ (s₁.setTop (mkF m 10 #[rv a0, jv 0, .second, iv 3] [(.ref a0), (.int 3)]))
  obtain ⟨cl2, Ar2, -, S2, NN2, -, -⟩ := id P0
  refine own_via (fun k => X0.arraylength hx (by rw [e0]; exact Ar2.1) (State.isArrayOf_alike hZ.alike Ar2.2.1) (g := (mkF m 10 #[rv a0, jv 0, .second, iv 3] [(.ref a0), (.int 3)])) rfl rfl (hb hby d1_10) _ k) ?_
  rw [len_of S2 NN2]
  show own_Go p e below s _ _ (s₁.setTop (mkF m 11 #[rv a0, jv 0, .second, iv 3] [(.int 11), (.int 3)]))
  refine own_via (fun k => XS.icmpNo X0.here hx rfl (hb hby d1_11) rfl (by decide) k) ?_
  show own_Go p e below s _ _ (s₁.setTop (mkF m 14 #[rv a0, jv 0, .second, iv 3] []))
  refine own_via (fun k => XS.lloadN X0.here hx rfl (hb hby d1_14) rfl  (XS.bipush X0.here hx rfl (hb hby d1_15) (XS.lshl X0.here hx rfl (hb hby d1_17) rfl k))) ?_
  show own_Go p e below s _ _ (s₁.setTop (mkF m 18 #[rv a0, jv 0, .second, iv 3] [(.long ((0 : Int64) <<< ((8 : Int32) &&& 0x3f).toInt64))]))
  rw [show ((0 : Int64) <<< ((8 : Int32) &&& 0x3f).toInt64) = (0 : Int64) from by decide]
  show own_Go p e below s _ _ (s₁.setTop (mkF m 18 #[rv a0, jv 0, .second, iv 3] [(.long 0)]))
  refine own_via (fun k => XS.aloadN X0.here hx rfl (hb hby d1_18) rfl rfl  (XS.iloadN X0.here hx rfl (hb hby d1_19) rfl  k)) ?_
  show own_Go p e below s _ _ (s₁.setTop (mkF m 20 #[rv a0, jv 0, .second, iv 3] [(.int 3), (.ref a0), (.long 0)]))
  obtain ⟨cl3, Ar3, q3, S3, NN3, H3, G3⟩ := id P0
  have hin3 : ¬ ((3 : Int32) < 0 ∨ cl3.slots.size ≤ ((3 : Int32)).toNatClampNeg) := inb_of S3 ⟨by decide, by decide⟩
  have hat3 : cl3.slots[((3 : Int32)).toNatClampNeg]? = some (.int w3) := H3.at hin3 rfl
  refine own_via (fun k => X0.baloadBytes hx (j := (3 : Int32)) (v := (.int w3)) (by rw [e0]; exact Ar3.1) (State.isArrayOf_alike hZ.alike Ar3.2.1) Ar3.2.2 hin3 hat3 (g := (mkF m 20 #[rv a0, jv 0, .second, iv 3] [(.int 3), (.ref a0), (.long 0)])) rfl rfl (hb hby d1_20) _ k) ?_
  show own_Go p e below s _ _ (s₁.setTop (mkF m 21 #[rv a0, jv 0, .second, iv 3] [(.int w3), (.long 0)]))
  refine own_via (fun k => XS.sipush X0.here hx rfl (hb hby d1_21) (XS.iand X0.here hx rfl (hb hby d1_24) rfl (XS.i2l X0.here hx rfl (hb hby d1_25) rfl (XS.lor X0.here hx rfl (hb hby d1_26) rfl k)))) ?_
  show own_Go p e below s _ _ (s₁.setTop (mkF m 27 #[rv a0, jv 0, .second, iv 3] [(.long ((0 : Int64) ||| ((w3 &&& (255 : Int32)).toInt64)))]))
  obtain ⟨z4, hz4⟩ : ∃ z : Int64, z = ((0 : Int64) ||| ((w3 &&& (255 : Int32)).toInt64)) := ⟨_, rfl⟩
  rw [← hz4]
  show own_Go p e below s _ _ (s₁.setTop (mkF m 27 #[rv a0, jv 0, .second, iv 3] [(.long z4)]))
  refine own_via (fun k => XS.lstoreN X0.here hx rfl (hb hby d1_27) rfl (l' := #[rv a0, jv z4, .second, iv 3]) rfl (XS.iinc X0.here hx rfl (hb hby d1_28) rfl (l' := #[rv a0, jv z4, .second, iv 4]) rfl (XS.goto X0.here hx rfl (pc0 := 31) (pc' := 8) rfl (hb hby d1_31) (by decide) (by decide) (XS.iloadN X0.here hx rfl (hb hby d1_8) rfl  k)))) ?_
  show own_Go p e below s _ _ (s₁.setTop (mkF m 9 #[rv a0, jv z4, .second, iv 4] [(.int 4)]))
  refine own_via (fun k => XS.aloadN X0.here hx rfl (hb hby d1_9) rfl rfl  k) ?_
  show own_Go p e below s _ _ (s₁.setTop (mkF m 10 #[rv a0, jv z4, .second, iv 4] [(.ref a0), (.int 4)]))
  obtain ⟨cl5, Ar5, -, S5, NN5, -, -⟩ := id P0
  refine own_via (fun k => X0.arraylength hx (by rw [e0]; exact Ar5.1) (State.isArrayOf_alike hZ.alike Ar5.2.1) (g := (mkF m 10 #[rv a0, jv z4, .second, iv 4] [(.ref a0), (.int 4)])) rfl rfl (hb hby d1_10) _ k) ?_
  rw [len_of S5 NN5]
  show own_Go p e below s _ _ (s₁.setTop (mkF m 11 #[rv a0, jv z4, .second, iv 4] [(.int 11), (.int 4)]))
  refine own_via (fun k => XS.icmpNo X0.here hx rfl (hb hby d1_11) rfl (by decide) k) ?_
  show own_Go p e below s _ _ (s₁.setTop (mkF m 14 #[rv a0, jv z4, .second, iv 4] []))
  refine own_via (fun k => XS.lloadN X0.here hx rfl (hb hby d1_14) rfl  (XS.bipush X0.here hx rfl (hb hby d1_15) (XS.lshl X0.here hx rfl (hb hby d1_17) rfl (XS.aloadN X0.here hx rfl (hb hby d1_18) rfl rfl  k)))) ?_
  show own_Go p e below s _ _ (s₁.setTop (mkF m 19 #[rv a0, jv z4, .second, iv 4] [(.ref a0), (.long (z4 <<< ((8 : Int32) &&& 0x3f).toInt64))]))
  refine own_via (fun k => XS.iloadN X0.here hx rfl (hb hby d1_19) rfl  k) ?_
  show own_Go p e below s _ _ (s₁.setTop (mkF m 20 #[rv a0, jv z4, .second, iv 4] [(.int 4), (.ref a0), (.long (z4 <<< ((8 : Int32) &&& 0x3f).toInt64))]))
  obtain ⟨cl6, Ar6, q6, S6, NN6, H6, G6⟩ := id P0
  have hin6 : ¬ ((4 : Int32) < 0 ∨ cl6.slots.size ≤ ((4 : Int32)).toNatClampNeg) := inb_of S6 ⟨by decide, by decide⟩
  have hat6 : cl6.slots[((4 : Int32)).toNatClampNeg]? = some (.int w4) := H6.at hin6 rfl
  refine own_via (fun k => X0.baloadBytes hx (j := (4 : Int32)) (v := (.int w4)) (by rw [e0]; exact Ar6.1) (State.isArrayOf_alike hZ.alike Ar6.2.1) Ar6.2.2 hin6 hat6 (g := (mkF m 20 #[rv a0, jv z4, .second, iv 4] [(.int 4), (.ref a0), (.long (z4 <<< ((8 : Int32) &&& 0x3f).toInt64))])) rfl rfl (hb hby d1_20) _ k) ?_
  show own_Go p e below s _ _ (s₁.setTop (mkF m 21 #[rv a0, jv z4, .second, iv 4] [(.int w4), (.long (z4 <<< ((8 : Int32) &&& 0x3f).toInt64))]))
  refine own_via (fun k => XS.sipush X0.here hx rfl (hb hby d1_21) (XS.iand X0.here hx rfl (hb hby d1_24) rfl (XS.i2l X0.here hx rfl (hb hby d1_25) rfl (XS.lor X0.here hx rfl (hb hby d1_26) rfl k)))) ?_
  show own_Go p e below s _ _ (s₁.setTop (mkF m 27 #[rv a0, jv z4, .second, iv 4] [(.long ((z4 <<< ((8 : Int32) &&& 0x3f).toInt64) ||| ((w4 &&& (255 : Int32)).toInt64)))]))
  obtain ⟨z7, hz7⟩ : ∃ z : Int64, z = ((z4 <<< ((8 : Int32) &&& 0x3f).toInt64) ||| ((w4 &&& (255 : Int32)).toInt64)) := ⟨_, rfl⟩
  rw [← hz7]
  show own_Go p e below s _ _ (s₁.setTop (mkF m 27 #[rv a0, jv z4, .second, iv 4] [(.long z7)]))
  refine own_via (fun k => XS.lstoreN X0.here hx rfl (hb hby d1_27) rfl (l' := #[rv a0, jv z7, .second, iv 4]) rfl (XS.iinc X0.here hx rfl (hb hby d1_28) rfl (l' := #[rv a0, jv z7, .second, iv 5]) rfl (XS.goto X0.here hx rfl (pc0 := 31) (pc' := 8) rfl (hb hby d1_31) (by decide) (by decide) (XS.iloadN X0.here hx rfl (hb hby d1_8) rfl  k)))) ?_
  show own_Go p e below s _ _ (s₁.setTop (mkF m 9 #[rv a0, jv z7, .second, iv 5] [(.int 5)]))
  refine own_via (fun k => XS.aloadN X0.here hx rfl (hb hby d1_9) rfl rfl  k) ?_
  show own_Go p e below s _ _ (s₁.setTop (mkF m 10 #[rv a0, jv z7, .second, iv 5] [(.ref a0), (.int 5)]))
  obtain ⟨cl8, Ar8, -, S8, NN8, -, -⟩ := id P0
  refine own_via (fun k => X0.arraylength hx (by rw [e0]; exact Ar8.1) (State.isArrayOf_alike hZ.alike Ar8.2.1) (g := (mkF m 10 #[rv a0, jv z7, .second, iv 5] [(.ref a0), (.int 5)])) rfl rfl (hb hby d1_10) _ k) ?_
  rw [len_of S8 NN8]
  show own_Go p e below s _ _ (s₁.setTop (mkF m 11 #[rv a0, jv z7, .second, iv 5] [(.int 11), (.int 5)]))
  refine own_via (fun k => XS.icmpNo X0.here hx rfl (hb hby d1_11) rfl (by decide) k) ?_
  show own_Go p e below s _ _ (s₁.setTop (mkF m 14 #[rv a0, jv z7, .second, iv 5] []))
  refine own_via (fun k => XS.lloadN X0.here hx rfl (hb hby d1_14) rfl  (XS.bipush X0.here hx rfl (hb hby d1_15) (XS.lshl X0.here hx rfl (hb hby d1_17) rfl (XS.aloadN X0.here hx rfl (hb hby d1_18) rfl rfl  k)))) ?_
  show own_Go p e below s _ _ (s₁.setTop (mkF m 19 #[rv a0, jv z7, .second, iv 5] [(.ref a0), (.long (z7 <<< ((8 : Int32) &&& 0x3f).toInt64))]))
  refine own_via (fun k => XS.iloadN X0.here hx rfl (hb hby d1_19) rfl  k) ?_
  show own_Go p e below s _ _ (s₁.setTop (mkF m 20 #[rv a0, jv z7, .second, iv 5] [(.int 5), (.ref a0), (.long (z7 <<< ((8 : Int32) &&& 0x3f).toInt64))]))
  obtain ⟨cl9, Ar9, q9, S9, NN9, H9, G9⟩ := id P0
  have hin9 : ¬ ((5 : Int32) < 0 ∨ cl9.slots.size ≤ ((5 : Int32)).toNatClampNeg) := inb_of S9 ⟨by decide, by decide⟩
  have hat9 : cl9.slots[((5 : Int32)).toNatClampNeg]? = some (.int w5) := H9.at hin9 rfl
  refine own_via (fun k => X0.baloadBytes hx (j := (5 : Int32)) (v := (.int w5)) (by rw [e0]; exact Ar9.1) (State.isArrayOf_alike hZ.alike Ar9.2.1) Ar9.2.2 hin9 hat9 (g := (mkF m 20 #[rv a0, jv z7, .second, iv 5] [(.int 5), (.ref a0), (.long (z7 <<< ((8 : Int32) &&& 0x3f).toInt64))])) rfl rfl (hb hby d1_20) _ k) ?_
  show own_Go p e below s _ _ (s₁.setTop (mkF m 21 #[rv a0, jv z7, .second, iv 5] [(.int w5), (.long (z7 <<< ((8 : Int32) &&& 0x3f).toInt64))]))
  refine own_via (fun k => XS.sipush X0.here hx rfl (hb hby d1_21) (XS.iand X0.here hx rfl (hb hby d1_24) rfl (XS.i2l X0.here hx rfl (hb hby d1_25) rfl (XS.lor X0.here hx rfl (hb hby d1_26) rfl k)))) ?_
  show own_Go p e below s _ _ (s₁.setTop (mkF m 27 #[rv a0, jv z7, .second, iv 5] [(.long ((z7 <<< ((8 : Int32) &&& 0x3f).toInt64) ||| ((w5 &&& (255 : Int32)).toInt64)))]))
  obtain ⟨z10, hz10⟩ : ∃ z : Int64, z = ((z7 <<< ((8 : Int32) &&& 0x3f).toInt64) ||| ((w5 &&& (255 : Int32)).toInt64)) := ⟨_, rfl⟩
  rw [← hz10]
  show own_Go p e below s _ _ (s₁.setTop (mkF m 27 #[rv a0, jv z7, .second, iv 5] [(.long z10)]))
  refine own_via (fun k => XS.lstoreN X0.here hx rfl (hb hby d1_27) rfl (l' := #[rv a0, jv z10, .second, iv 5]) rfl (XS.iinc X0.here hx rfl (hb hby d1_28) rfl (l' := #[rv a0, jv z10, .second, iv 6]) rfl (XS.goto X0.here hx rfl (pc0 := 31) (pc' := 8) rfl (hb hby d1_31) (by decide) (by decide) (XS.iloadN X0.here hx rfl (hb hby d1_8) rfl  k)))) ?_
  show own_Go p e below s _ _ (s₁.setTop (mkF m 9 #[rv a0, jv z10, .second, iv 6] [(.int 6)]))
  refine own_via (fun k => XS.aloadN X0.here hx rfl (hb hby d1_9) rfl rfl  k) ?_
  show own_Go p e below s _ _ (s₁.setTop (mkF m 10 #[rv a0, jv z10, .second, iv 6] [(.ref a0), (.int 6)]))
  obtain ⟨cl11, Ar11, -, S11, NN11, -, -⟩ := id P0
  refine own_via (fun k => X0.arraylength hx (by rw [e0]; exact Ar11.1) (State.isArrayOf_alike hZ.alike Ar11.2.1) (g := (mkF m 10 #[rv a0, jv z10, .second, iv 6] [(.ref a0), (.int 6)])) rfl rfl (hb hby d1_10) _ k) ?_
  rw [len_of S11 NN11]
  show own_Go p e below s _ _ (s₁.setTop (mkF m 11 #[rv a0, jv z10, .second, iv 6] [(.int 11), (.int 6)]))
  refine own_via (fun k => XS.icmpNo X0.here hx rfl (hb hby d1_11) rfl (by decide) k) ?_
  show own_Go p e below s _ _ (s₁.setTop (mkF m 14 #[rv a0, jv z10, .second, iv 6] []))
  refine own_via (fun k => XS.lloadN X0.here hx rfl (hb hby d1_14) rfl  (XS.bipush X0.here hx rfl (hb hby d1_15) (XS.lshl X0.here hx rfl (hb hby d1_17) rfl (XS.aloadN X0.here hx rfl (hb hby d1_18) rfl rfl  k)))) ?_
  show own_Go p e below s _ _ (s₁.setTop (mkF m 19 #[rv a0, jv z10, .second, iv 6] [(.ref a0), (.long (z10 <<< ((8 : Int32) &&& 0x3f).toInt64))]))
  refine own_via (fun k => XS.iloadN X0.here hx rfl (hb hby d1_19) rfl  k) ?_
  show own_Go p e below s _ _ (s₁.setTop (mkF m 20 #[rv a0, jv z10, .second, iv 6] [(.int 6), (.ref a0), (.long (z10 <<< ((8 : Int32) &&& 0x3f).toInt64))]))
  obtain ⟨cl12, Ar12, q12, S12, NN12, H12, G12⟩ := id P0
  have hin12 : ¬ ((6 : Int32) < 0 ∨ cl12.slots.size ≤ ((6 : Int32)).toNatClampNeg) := inb_of S12 ⟨by decide, by decide⟩
  have hat12 : cl12.slots[((6 : Int32)).toNatClampNeg]? = some (.int w6) := H12.at hin12 rfl
  refine own_via (fun k => X0.baloadBytes hx (j := (6 : Int32)) (v := (.int w6)) (by rw [e0]; exact Ar12.1) (State.isArrayOf_alike hZ.alike Ar12.2.1) Ar12.2.2 hin12 hat12 (g := (mkF m 20 #[rv a0, jv z10, .second, iv 6] [(.int 6), (.ref a0), (.long (z10 <<< ((8 : Int32) &&& 0x3f).toInt64))])) rfl rfl (hb hby d1_20) _ k) ?_
  show own_Go p e below s _ _ (s₁.setTop (mkF m 21 #[rv a0, jv z10, .second, iv 6] [(.int w6), (.long (z10 <<< ((8 : Int32) &&& 0x3f).toInt64))]))
  refine own_via (fun k => XS.sipush X0.here hx rfl (hb hby d1_21) (XS.iand X0.here hx rfl (hb hby d1_24) rfl (XS.i2l X0.here hx rfl (hb hby d1_25) rfl (XS.lor X0.here hx rfl (hb hby d1_26) rfl k)))) ?_
  show own_Go p e below s _ _ (s₁.setTop (mkF m 27 #[rv a0, jv z10, .second, iv 6] [(.long ((z10 <<< ((8 : Int32) &&& 0x3f).toInt64) ||| ((w6 &&& (255 : Int32)).toInt64)))]))
  obtain ⟨z13, hz13⟩ : ∃ z : Int64, z = ((z10 <<< ((8 : Int32) &&& 0x3f).toInt64) ||| ((w6 &&& (255 : Int32)).toInt64)) := ⟨_, rfl⟩
  rw [← hz13]
  show own_Go p e below s _ _ (s₁.setTop (mkF m 27 #[rv a0, jv z10, .second, iv 6] [(.long z13)]))
  refine own_via (fun k => XS.lstoreN X0.here hx rfl (hb hby d1_27) rfl (l' := #[rv a0, jv z13, .second, iv 6]) rfl (XS.iinc X0.here hx rfl (hb hby d1_28) rfl (l' := #[rv a0, jv z13, .second, iv 7]) rfl (XS.goto X0.here hx rfl (pc0 := 31) (pc' := 8) rfl (hb hby d1_31) (by decide) (by decide) (XS.iloadN X0.here hx rfl (hb hby d1_8) rfl  k)))) ?_
  show own_Go p e below s _ _ (s₁.setTop (mkF m 9 #[rv a0, jv z13, .second, iv 7] [(.int 7)]))
  refine own_via (fun k => XS.aloadN X0.here hx rfl (hb hby d1_9) rfl rfl  k) ?_
  show own_Go p e below s _ _ (s₁.setTop (mkF m 10 #[rv a0, jv z13, .second, iv 7] [(.ref a0), (.int 7)]))
  obtain ⟨cl14, Ar14, -, S14, NN14, -, -⟩ := id P0
  refine own_via (fun k => X0.arraylength hx (by rw [e0]; exact Ar14.1) (State.isArrayOf_alike hZ.alike Ar14.2.1) (g := (mkF m 10 #[rv a0, jv z13, .second, iv 7] [(.ref a0), (.int 7)])) rfl rfl (hb hby d1_10) _ k) ?_
  rw [len_of S14 NN14]
  show own_Go p e below s _ _ (s₁.setTop (mkF m 11 #[rv a0, jv z13, .second, iv 7] [(.int 11), (.int 7)]))
  refine own_via (fun k => XS.icmpNo X0.here hx rfl (hb hby d1_11) rfl (by decide) k) ?_
  show own_Go p e below s _ _ (s₁.setTop (mkF m 14 #[rv a0, jv z13, .second, iv 7] []))
  refine own_via (fun k => XS.lloadN X0.here hx rfl (hb hby d1_14) rfl  (XS.bipush X0.here hx rfl (hb hby d1_15) (XS.lshl X0.here hx rfl (hb hby d1_17) rfl (XS.aloadN X0.here hx rfl (hb hby d1_18) rfl rfl  k)))) ?_
  show own_Go p e below s _ _ (s₁.setTop (mkF m 19 #[rv a0, jv z13, .second, iv 7] [(.ref a0), (.long (z13 <<< ((8 : Int32) &&& 0x3f).toInt64))]))
  refine own_via (fun k => XS.iloadN X0.here hx rfl (hb hby d1_19) rfl  k) ?_
  show own_Go p e below s _ _ (s₁.setTop (mkF m 20 #[rv a0, jv z13, .second, iv 7] [(.int 7), (.ref a0), (.long (z13 <<< ((8 : Int32) &&& 0x3f).toInt64))]))
  obtain ⟨cl15, Ar15, q15, S15, NN15, H15, G15⟩ := id P0
  have hin15 : ¬ ((7 : Int32) < 0 ∨ cl15.slots.size ≤ ((7 : Int32)).toNatClampNeg) := inb_of S15 ⟨by decide, by decide⟩
  have hat15 : cl15.slots[((7 : Int32)).toNatClampNeg]? = some (.int w7) := H15.at hin15 rfl
  refine own_via (fun k => X0.baloadBytes hx (j := (7 : Int32)) (v := (.int w7)) (by rw [e0]; exact Ar15.1) (State.isArrayOf_alike hZ.alike Ar15.2.1) Ar15.2.2 hin15 hat15 (g := (mkF m 20 #[rv a0, jv z13, .second, iv 7] [(.int 7), (.ref a0), (.long (z13 <<< ((8 : Int32) &&& 0x3f).toInt64))])) rfl rfl (hb hby d1_20) _ k) ?_
  show own_Go p e below s _ _ (s₁.setTop (mkF m 21 #[rv a0, jv z13, .second, iv 7] [(.int w7), (.long (z13 <<< ((8 : Int32) &&& 0x3f).toInt64))]))
  refine own_via (fun k => XS.sipush X0.here hx rfl (hb hby d1_21) (XS.iand X0.here hx rfl (hb hby d1_24) rfl (XS.i2l X0.here hx rfl (hb hby d1_25) rfl (XS.lor X0.here hx rfl (hb hby d1_26) rfl k)))) ?_
  show own_Go p e below s _ _ (s₁.setTop (mkF m 27 #[rv a0, jv z13, .second, iv 7] [(.long ((z13 <<< ((8 : Int32) &&& 0x3f).toInt64) ||| ((w7 &&& (255 : Int32)).toInt64)))]))
  obtain ⟨z16, hz16⟩ : ∃ z : Int64, z = ((z13 <<< ((8 : Int32) &&& 0x3f).toInt64) ||| ((w7 &&& (255 : Int32)).toInt64)) := ⟨_, rfl⟩
  rw [← hz16]
  show own_Go p e below s _ _ (s₁.setTop (mkF m 27 #[rv a0, jv z13, .second, iv 7] [(.long z16)]))
  refine own_via (fun k => XS.lstoreN X0.here hx rfl (hb hby d1_27) rfl (l' := #[rv a0, jv z16, .second, iv 7]) rfl (XS.iinc X0.here hx rfl (hb hby d1_28) rfl (l' := #[rv a0, jv z16, .second, iv 8]) rfl (XS.goto X0.here hx rfl (pc0 := 31) (pc' := 8) rfl (hb hby d1_31) (by decide) (by decide) (XS.iloadN X0.here hx rfl (hb hby d1_8) rfl  k)))) ?_
  show own_Go p e below s _ _ (s₁.setTop (mkF m 9 #[rv a0, jv z16, .second, iv 8] [(.int 8)]))
  refine own_via (fun k => XS.aloadN X0.here hx rfl (hb hby d1_9) rfl rfl  k) ?_
  show own_Go p e below s _ _ (s₁.setTop (mkF m 10 #[rv a0, jv z16, .second, iv 8] [(.ref a0), (.int 8)]))
  obtain ⟨cl17, Ar17, -, S17, NN17, -, -⟩ := id P0
  refine own_via (fun k => X0.arraylength hx (by rw [e0]; exact Ar17.1) (State.isArrayOf_alike hZ.alike Ar17.2.1) (g := (mkF m 10 #[rv a0, jv z16, .second, iv 8] [(.ref a0), (.int 8)])) rfl rfl (hb hby d1_10) _ k) ?_
  rw [len_of S17 NN17]
  show own_Go p e below s _ _ (s₁.setTop (mkF m 11 #[rv a0, jv z16, .second, iv 8] [(.int 11), (.int 8)]))
  refine own_via (fun k => XS.icmpNo X0.here hx rfl (hb hby d1_11) rfl (by decide) k) ?_
  show own_Go p e below s _ _ (s₁.setTop (mkF m 14 #[rv a0, jv z16, .second, iv 8] []))
  refine own_via (fun k => XS.lloadN X0.here hx rfl (hb hby d1_14) rfl  (XS.bipush X0.here hx rfl (hb hby d1_15) (XS.lshl X0.here hx rfl (hb hby d1_17) rfl (XS.aloadN X0.here hx rfl (hb hby d1_18) rfl rfl  k)))) ?_
  show own_Go p e below s _ _ (s₁.setTop (mkF m 19 #[rv a0, jv z16, .second, iv 8] [(.ref a0), (.long (z16 <<< ((8 : Int32) &&& 0x3f).toInt64))]))
  refine own_via (fun k => XS.iloadN X0.here hx rfl (hb hby d1_19) rfl  k) ?_
  show own_Go p e below s _ _ (s₁.setTop (mkF m 20 #[rv a0, jv z16, .second, iv 8] [(.int 8), (.ref a0), (.long (z16 <<< ((8 : Int32) &&& 0x3f).toInt64))]))
  obtain ⟨cl18, Ar18, q18, S18, NN18, H18, G18⟩ := id P0
  have hin18 : ¬ ((8 : Int32) < 0 ∨ cl18.slots.size ≤ ((8 : Int32)).toNatClampNeg) := inb_of S18 ⟨by decide, by decide⟩
  have hat18 : cl18.slots[((8 : Int32)).toNatClampNeg]? = some (.int w8) := H18.at hin18 rfl
  refine own_via (fun k => X0.baloadBytes hx (j := (8 : Int32)) (v := (.int w8)) (by rw [e0]; exact Ar18.1) (State.isArrayOf_alike hZ.alike Ar18.2.1) Ar18.2.2 hin18 hat18 (g := (mkF m 20 #[rv a0, jv z16, .second, iv 8] [(.int 8), (.ref a0), (.long (z16 <<< ((8 : Int32) &&& 0x3f).toInt64))])) rfl rfl (hb hby d1_20) _ k) ?_
  show own_Go p e below s _ _ (s₁.setTop (mkF m 21 #[rv a0, jv z16, .second, iv 8] [(.int w8), (.long (z16 <<< ((8 : Int32) &&& 0x3f).toInt64))]))
  refine own_via (fun k => XS.sipush X0.here hx rfl (hb hby d1_21) (XS.iand X0.here hx rfl (hb hby d1_24) rfl (XS.i2l X0.here hx rfl (hb hby d1_25) rfl (XS.lor X0.here hx rfl (hb hby d1_26) rfl k)))) ?_
  show own_Go p e below s _ _ (s₁.setTop (mkF m 27 #[rv a0, jv z16, .second, iv 8] [(.long ((z16 <<< ((8 : Int32) &&& 0x3f).toInt64) ||| ((w8 &&& (255 : Int32)).toInt64)))]))
  obtain ⟨z19, hz19⟩ : ∃ z : Int64, z = ((z16 <<< ((8 : Int32) &&& 0x3f).toInt64) ||| ((w8 &&& (255 : Int32)).toInt64)) := ⟨_, rfl⟩
  rw [← hz19]
  show own_Go p e below s _ _ (s₁.setTop (mkF m 27 #[rv a0, jv z16, .second, iv 8] [(.long z19)]))
  refine own_via (fun k => XS.lstoreN X0.here hx rfl (hb hby d1_27) rfl (l' := #[rv a0, jv z19, .second, iv 8]) rfl (XS.iinc X0.here hx rfl (hb hby d1_28) rfl (l' := #[rv a0, jv z19, .second, iv 9]) rfl (XS.goto X0.here hx rfl (pc0 := 31) (pc' := 8) rfl (hb hby d1_31) (by decide) (by decide) (XS.iloadN X0.here hx rfl (hb hby d1_8) rfl  k)))) ?_
  show own_Go p e below s _ _ (s₁.setTop (mkF m 9 #[rv a0, jv z19, .second, iv 9] [(.int 9)]))
  refine own_via (fun k => XS.aloadN X0.here hx rfl (hb hby d1_9) rfl rfl  k) ?_
  show own_Go p e below s _ _ (s₁.setTop (mkF m 10 #[rv a0, jv z19, .second, iv 9] [(.ref a0), (.int 9)]))
  obtain ⟨cl20, Ar20, -, S20, NN20, -, -⟩ := id P0
  refine own_via (fun k => X0.arraylength hx (by rw [e0]; exact Ar20.1) (State.isArrayOf_alike hZ.alike Ar20.2.1) (g := (mkF m 10 #[rv a0, jv z19, .second, iv 9] [(.ref a0), (.int 9)])) rfl rfl (hb hby d1_10) _ k) ?_
  rw [len_of S20 NN20]
  show own_Go p e below s _ _ (s₁.setTop (mkF m 11 #[rv a0, jv z19, .second, iv 9] [(.int 11), (.int 9)]))
  refine own_via (fun k => XS.icmpNo X0.here hx rfl (hb hby d1_11) rfl (by decide) k) ?_
  show own_Go p e below s _ _ (s₁.setTop (mkF m 14 #[rv a0, jv z19, .second, iv 9] []))
  refine own_via (fun k => XS.lloadN X0.here hx rfl (hb hby d1_14) rfl  (XS.bipush X0.here hx rfl (hb hby d1_15) (XS.lshl X0.here hx rfl (hb hby d1_17) rfl (XS.aloadN X0.here hx rfl (hb hby d1_18) rfl rfl  k)))) ?_
  show own_Go p e below s _ _ (s₁.setTop (mkF m 19 #[rv a0, jv z19, .second, iv 9] [(.ref a0), (.long (z19 <<< ((8 : Int32) &&& 0x3f).toInt64))]))
  refine own_via (fun k => XS.iloadN X0.here hx rfl (hb hby d1_19) rfl  k) ?_
  show own_Go p e below s _ _ (s₁.setTop (mkF m 20 #[rv a0, jv z19, .second, iv 9] [(.int 9), (.ref a0), (.long (z19 <<< ((8 : Int32) &&& 0x3f).toInt64))]))
  obtain ⟨cl21, Ar21, q21, S21, NN21, H21, G21⟩ := id P0
  have hin21 : ¬ ((9 : Int32) < 0 ∨ cl21.slots.size ≤ ((9 : Int32)).toNatClampNeg) := inb_of S21 ⟨by decide, by decide⟩
  have hat21 : cl21.slots[((9 : Int32)).toNatClampNeg]? = some (.int w9) := H21.at hin21 rfl
  refine own_via (fun k => X0.baloadBytes hx (j := (9 : Int32)) (v := (.int w9)) (by rw [e0]; exact Ar21.1) (State.isArrayOf_alike hZ.alike Ar21.2.1) Ar21.2.2 hin21 hat21 (g := (mkF m 20 #[rv a0, jv z19, .second, iv 9] [(.int 9), (.ref a0), (.long (z19 <<< ((8 : Int32) &&& 0x3f).toInt64))])) rfl rfl (hb hby d1_20) _ k) ?_
  show own_Go p e below s _ _ (s₁.setTop (mkF m 21 #[rv a0, jv z19, .second, iv 9] [(.int w9), (.long (z19 <<< ((8 : Int32) &&& 0x3f).toInt64))]))
  refine own_via (fun k => XS.sipush X0.here hx rfl (hb hby d1_21) (XS.iand X0.here hx rfl (hb hby d1_24) rfl (XS.i2l X0.here hx rfl (hb hby d1_25) rfl (XS.lor X0.here hx rfl (hb hby d1_26) rfl k)))) ?_
  show own_Go p e below s _ _ (s₁.setTop (mkF m 27 #[rv a0, jv z19, .second, iv 9] [(.long ((z19 <<< ((8 : Int32) &&& 0x3f).toInt64) ||| ((w9 &&& (255 : Int32)).toInt64)))]))
  obtain ⟨z22, hz22⟩ : ∃ z : Int64, z = ((z19 <<< ((8 : Int32) &&& 0x3f).toInt64) ||| ((w9 &&& (255 : Int32)).toInt64)) := ⟨_, rfl⟩
  rw [← hz22]
  show own_Go p e below s _ _ (s₁.setTop (mkF m 27 #[rv a0, jv z19, .second, iv 9] [(.long z22)]))
  refine own_via (fun k => XS.lstoreN X0.here hx rfl (hb hby d1_27) rfl (l' := #[rv a0, jv z22, .second, iv 9]) rfl (XS.iinc X0.here hx rfl (hb hby d1_28) rfl (l' := #[rv a0, jv z22, .second, iv 10]) rfl (XS.goto X0.here hx rfl (pc0 := 31) (pc' := 8) rfl (hb hby d1_31) (by decide) (by decide) (XS.iloadN X0.here hx rfl (hb hby d1_8) rfl  k)))) ?_
  show own_Go p e below s _ _ (s₁.setTop (mkF m 9 #[rv a0, jv z22, .second, iv 10] [(.int 10)]))
  refine own_via (fun k => XS.aloadN X0.here hx rfl (hb hby d1_9) rfl rfl  k) ?_
  show own_Go p e below s _ _ (s₁.setTop (mkF m 10 #[rv a0, jv z22, .second, iv 10] [(.ref a0), (.int 10)]))
  obtain ⟨cl23, Ar23, -, S23, NN23, -, -⟩ := id P0
  refine own_via (fun k => X0.arraylength hx (by rw [e0]; exact Ar23.1) (State.isArrayOf_alike hZ.alike Ar23.2.1) (g := (mkF m 10 #[rv a0, jv z22, .second, iv 10] [(.ref a0), (.int 10)])) rfl rfl (hb hby d1_10) _ k) ?_
  rw [len_of S23 NN23]
  show own_Go p e below s _ _ (s₁.setTop (mkF m 11 #[rv a0, jv z22, .second, iv 10] [(.int 11), (.int 10)]))
  refine own_via (fun k => XS.icmpNo X0.here hx rfl (hb hby d1_11) rfl (by decide) k) ?_
  show own_Go p e below s _ _ (s₁.setTop (mkF m 14 #[rv a0, jv z22, .second, iv 10] []))
  refine own_via (fun k => XS.lloadN X0.here hx rfl (hb hby d1_14) rfl  (XS.bipush X0.here hx rfl (hb hby d1_15) (XS.lshl X0.here hx rfl (hb hby d1_17) rfl (XS.aloadN X0.here hx rfl (hb hby d1_18) rfl rfl  k)))) ?_
  show own_Go p e below s _ _ (s₁.setTop (mkF m 19 #[rv a0, jv z22, .second, iv 10] [(.ref a0), (.long (z22 <<< ((8 : Int32) &&& 0x3f).toInt64))]))
  refine own_via (fun k => XS.iloadN X0.here hx rfl (hb hby d1_19) rfl  k) ?_
  show own_Go p e below s _ _ (s₁.setTop (mkF m 20 #[rv a0, jv z22, .second, iv 10] [(.int 10), (.ref a0), (.long (z22 <<< ((8 : Int32) &&& 0x3f).toInt64))]))
  obtain ⟨cl24, Ar24, q24, S24, NN24, H24, G24⟩ := id P0
  have hin24 : ¬ ((10 : Int32) < 0 ∨ cl24.slots.size ≤ ((10 : Int32)).toNatClampNeg) := inb_of S24 ⟨by decide, by decide⟩
  have hat24 : cl24.slots[((10 : Int32)).toNatClampNeg]? = some (.int w10) := H24.at hin24 rfl
  refine own_via (fun k => X0.baloadBytes hx (j := (10 : Int32)) (v := (.int w10)) (by rw [e0]; exact Ar24.1) (State.isArrayOf_alike hZ.alike Ar24.2.1) Ar24.2.2 hin24 hat24 (g := (mkF m 20 #[rv a0, jv z22, .second, iv 10] [(.int 10), (.ref a0), (.long (z22 <<< ((8 : Int32) &&& 0x3f).toInt64))])) rfl rfl (hb hby d1_20) _ k) ?_
  show own_Go p e below s _ _ (s₁.setTop (mkF m 21 #[rv a0, jv z22, .second, iv 10] [(.int w10), (.long (z22 <<< ((8 : Int32) &&& 0x3f).toInt64))]))
  refine own_via (fun k => XS.sipush X0.here hx rfl (hb hby d1_21) (XS.iand X0.here hx rfl (hb hby d1_24) rfl (XS.i2l X0.here hx rfl (hb hby d1_25) rfl (XS.lor X0.here hx rfl (hb hby d1_26) rfl k)))) ?_
  show own_Go p e below s _ _ (s₁.setTop (mkF m 27 #[rv a0, jv z22, .second, iv 10] [(.long ((z22 <<< ((8 : Int32) &&& 0x3f).toInt64) ||| ((w10 &&& (255 : Int32)).toInt64)))]))
  obtain ⟨z25, hz25⟩ : ∃ z : Int64, z = ((z22 <<< ((8 : Int32) &&& 0x3f).toInt64) ||| ((w10 &&& (255 : Int32)).toInt64)) := ⟨_, rfl⟩
  rw [← hz25]
  show own_Go p e below s _ _ (s₁.setTop (mkF m 27 #[rv a0, jv z22, .second, iv 10] [(.long z25)]))
  refine own_via (fun k => XS.lstoreN X0.here hx rfl (hb hby d1_27) rfl (l' := #[rv a0, jv z25, .second, iv 10]) rfl (XS.iinc X0.here hx rfl (hb hby d1_28) rfl (l' := #[rv a0, jv z25, .second, iv 11]) rfl (XS.goto X0.here hx rfl (pc0 := 31) (pc' := 8) rfl (hb hby d1_31) (by decide) (by decide) (XS.iloadN X0.here hx rfl (hb hby d1_8) rfl  k)))) ?_
  show own_Go p e below s _ _ (s₁.setTop (mkF m 9 #[rv a0, jv z25, .second, iv 11] [(.int 11)]))
  refine own_via (fun k => XS.aloadN X0.here hx rfl (hb hby d1_9) rfl rfl  k) ?_
  show own_Go p e below s _ _ (s₁.setTop (mkF m 10 #[rv a0, jv z25, .second, iv 11] [(.ref a0), (.int 11)]))
  obtain ⟨cl26, Ar26, -, S26, NN26, -, -⟩ := id P0
  refine own_via (fun k => X0.arraylength hx (by rw [e0]; exact Ar26.1) (State.isArrayOf_alike hZ.alike Ar26.2.1) (g := (mkF m 10 #[rv a0, jv z25, .second, iv 11] [(.ref a0), (.int 11)])) rfl rfl (hb hby d1_10) _ k) ?_
  rw [len_of S26 NN26]
  show own_Go p e below s _ _ (s₁.setTop (mkF m 11 #[rv a0, jv z25, .second, iv 11] [(.int 11), (.int 11)]))
  refine own_via (fun k => XS.icmpYes X0.here hx rfl (pc0 := 11) (pc' := 34) rfl (hb hby d1_11) rfl (by decide) (by decide) (by decide) k) ?_
  show own_Go p e below s _ _ (s₁.setTop (mkF m 34 #[rv a0, jv z25, .second, iv 11] []))
  refine own_via (fun k => XS.lloadN X0.here hx rfl (hb hby d1_34) rfl  k) ?_
  show own_Go p e below s _ _ (s₁.setTop (mkF m 35 #[rv a0, jv z25, .second, iv 11] [(.long z25)]))
  exact own_retL X0 hx hlk Bd.returns (hb hby d1_35) (Q := (Q1_11 Z a0 k w0 w1 w2 w3 w4 w5 w6 w7 w8 w9 w10 h0 n0)) ⟨(congrArg (fun z => some (Value.long z)) (show z25 = (own_f1_11 w3 w4 w5 w6 w7 w8 w9 w10) from (by subst hz25 hz22 hz19 hz16 hz13 hz10 hz7 hz4; unfold own_f1_11; exact rfl.symm))), N0, e0⟩ (by decide) (by decide)
theorem pn_0 : plainName "com/example/dani/dani/core/KeyTrailingNumberPinLaw" = true := by first | (simp [plainName, overriddenIn]; done) | decide +kernel
theorem pd_0 : parseMethodDescriptor "([B)J" = some ⟨[(.array .byte)], some .long⟩ := by decide +kernel
theorem ef_0 (m : MethodId) (x0 : Int64) (x1 : Int32) (x2 : Int64) : entryFrame m #[(.long x0), (.int x1), (.long x2)] maxLocals = mkF m 0 #[jv x0, .second, iv x1, jv x2, .second, .unset, .unset] [] := by first | (simp [entryFrame, mkF, argsToLocals, Value.category, maxLocals]; done) | rfl
theorem own_byte (x : Int64) : (((nar .byte (x.toInt32.toInt8.toInt32)) &&& (255 : Int32)).toInt64).toInt = x.toInt % 256 := by
  have a := c_l2i x; have b := c_i2b x.toInt32; have c := c_i2b (x.toInt32.toInt8.toInt32)
  have n : nar .byte (x.toInt32.toInt8.toInt32) = x.toInt32.toInt8.toInt32.toInt8.toInt32 := rfl
  have m := c_mask (nar .byte (x.toInt32.toInt8.toInt32)) 255 8 (by decide) (by decide)
  rw [c_i2l, m, n]; omega
/-- number << 8 | byte -/
theorem own_more (u : Int64) (b : Int64) (hb0 : 0 ≤ b.toInt) (hb1 : b.toInt < 256) : (((u <<< ((8 : Int32) &&& 0x3f).toInt64) ||| b).toInt - (u.toInt * 256 + b.toInt)) % 18446744073709551616 = 0 := by
  have s := c_lshl u 8 8 (by decide)
  have o := c_orL (u <<< ((8 : Int32) &&& 0x3f).toInt64) b 8 (by decide) 256 (by decide) (by omega) hb0 hb1
  omega
theorem own_sh (x : Int64) (q : Int32) (k : Nat) (hk : q.toBitVec.toNat % 64 = k) (h0 : 0 < k) : (((x.toUInt64 >>> (q &&& 0x3f).toInt64.toUInt64).toInt64).toInt) = (x.toInt % 18446744073709551616) / (2 ^ k : Nat) := c_lushr x q k hk h0
theorem own_fin (N0 N1 N2 N3 N4 N5 N6 N7 N8 q B0 B1 B2 B3 B4 B5 B6 B7 : Int) (r : -9223372036854775808 ≤ q ∧ q < 9223372036854775808) (r8 : -9223372036854775808 ≤ N8 ∧ N8 < 9223372036854775808)
  (h0 : N0 = 0) (h1 : (N1 - (N0 * 256 + B0)) % 18446744073709551616 = 0) (h2 : (N2 - (N1 * 256 + B1)) % 18446744073709551616 = 0) (h3 : (N3 - (N2 * 256 + B2)) % 18446744073709551616 = 0) (h4 : (N4 - (N3 * 256 + B3)) % 18446744073709551616 = 0)
  (h5 : (N5 - (N4 * 256 + B4)) % 18446744073709551616 = 0) (h6 : (N6 - (N5 * 256 + B5)) % 18446744073709551616 = 0) (h7 : (N7 - (N6 * 256 + B6)) % 18446744073709551616 = 0) (h8 : (N8 - (N7 * 256 + B7)) % 18446744073709551616 = 0)
  (b0 : B0 = (q % 18446744073709551616) / 72057594037927936 % 256) (b1 : B1 = (q % 18446744073709551616) / 281474976710656 % 256) (b2 : B2 = (q % 18446744073709551616) / 1099511627776 % 256) (b3 : B3 = (q % 18446744073709551616) / 4294967296 % 256)
  (b4 : B4 = (q % 18446744073709551616) / 16777216 % 256) (b5 : B5 = (q % 18446744073709551616) / 65536 % 256) (b6 : B6 = (q % 18446744073709551616) / 256 % 256) (b7 : B7 = q % 256) : N8 = q := by
  have hQ : (q % 18446744073709551616) = B0 * 72057594037927936 + B1 * 281474976710656 + B2 * 1099511627776 + B3 * 4294967296 + B4 * 16777216 + B5 * 65536 + B6 * 256 + B7 := by omega
  clear b0 b1 b2 b3 b4 b5 b6 b7
  have k8 : (N8 - (N0 * 18446744073709551616 + B0 * 72057594037927936 + B1 * 281474976710656 + B2 * 1099511627776 + B3 * 4294967296 + B4 * 16777216 + B5 * 65536 + B6 * 256 + B7)) % 18446744073709551616 = 0 := by omega
  omega
def own_acc (u : Int64) (w : Int32) : Int64 := (u <<< ((8 : Int32) &&& 0x3f).toInt64) ||| ((w &&& (255 : Int32)).toInt64)
theorem own_accI (u x : Int64) : ((own_acc u (nar .byte (x.toInt32.toInt8.toInt32))).toInt - (u.toInt * 256 + x.toInt % 256)) % 18446744073709551616 = 0 := by
  have b := own_byte x
  have m := own_more u (((nar .byte (x.toInt32.toInt8.toInt32)) &&& (255 : Int32)).toInt64) (by omega) (by omega)
  rw [b] at m; exact m
theorem own_main (q0 : Int64) : own_f1_8 (nar .byte ((((q0.toUInt64 >>> ((56 : Int32) &&& 0x3f).toInt64.toUInt64).toInt64).toInt32).toInt8.toInt32)) (nar .byte ((((q0.toUInt64 >>> ((48 : Int32) &&& 0x3f).toInt64.toUInt64).toInt64).toInt32).toInt8.toInt32)) (nar .byte ((((q0.toUInt64 >>> ((40 : Int32) &&& 0x3f).toInt64.toUInt64).toInt64).toInt32).toInt8.toInt32)) (nar .byte ((((q0.toUInt64 >>> ((32 : Int32) &&& 0x3f).toInt64.toUInt64).toInt64).toInt32).toInt8.toInt32)) (nar .byte ((((q0.toUInt64 >>> ((24 : Int32) &&& 0x3f).toInt64.toUInt64).toInt64).toInt32).toInt8.toInt32)) (nar .byte ((((q0.toUInt64 >>> ((16 : Int32) &&& 0x3f).toInt64.toUInt64).toInt64).toInt32).toInt8.toInt32)) (nar .byte ((((q0.toUInt64 >>> ((8 : Int32) &&& 0x3f).toInt64.toUInt64).toInt64).toInt32).toInt8.toInt32)) (nar .byte ((q0.toInt32).toInt8.toInt32)) = q0 := by
  have e : own_f1_8 (nar .byte ((((q0.toUInt64 >>> ((56 : Int32) &&& 0x3f).toInt64.toUInt64).toInt64).toInt32).toInt8.toInt32)) (nar .byte ((((q0.toUInt64 >>> ((48 : Int32) &&& 0x3f).toInt64.toUInt64).toInt64).toInt32).toInt8.toInt32)) (nar .byte ((((q0.toUInt64 >>> ((40 : Int32) &&& 0x3f).toInt64.toUInt64).toInt64).toInt32).toInt8.toInt32)) (nar .byte ((((q0.toUInt64 >>> ((32 : Int32) &&& 0x3f).toInt64.toUInt64).toInt64).toInt32).toInt8.toInt32)) (nar .byte ((((q0.toUInt64 >>> ((24 : Int32) &&& 0x3f).toInt64.toUInt64).toInt64).toInt32).toInt8.toInt32)) (nar .byte ((((q0.toUInt64 >>> ((16 : Int32) &&& 0x3f).toInt64.toUInt64).toInt64).toInt32).toInt8.toInt32)) (nar .byte ((((q0.toUInt64 >>> ((8 : Int32) &&& 0x3f).toInt64.toUInt64).toInt64).toInt32).toInt8.toInt32)) (nar .byte ((q0.toInt32).toInt8.toInt32)) = own_acc (own_acc (own_acc (own_acc (own_acc (own_acc (own_acc ((0 : Int64) ||| (((nar .byte ((((q0.toUInt64 >>> ((56 : Int32) &&& 0x3f).toInt64.toUInt64).toInt64).toInt32).toInt8.toInt32)) &&& (255 : Int32)).toInt64)) (nar .byte ((((q0.toUInt64 >>> ((48 : Int32) &&& 0x3f).toInt64.toUInt64).toInt64).toInt32).toInt8.toInt32))) (nar .byte ((((q0.toUInt64 >>> ((40 : Int32) &&& 0x3f).toInt64.toUInt64).toInt64).toInt32).toInt8.toInt32))) (nar .byte ((((q0.toUInt64 >>> ((32 : Int32) &&& 0x3f).toInt64.toUInt64).toInt64).toInt32).toInt8.toInt32))) (nar .byte ((((q0.toUInt64 >>> ((24 : Int32) &&& 0x3f).toInt64.toUInt64).toInt64).toInt32).toInt8.toInt32))) (nar .byte ((((q0.toUInt64 >>> ((16 : Int32) &&& 0x3f).toInt64.toUInt64).toInt64).toInt32).toInt8.toInt32))) (nar .byte ((((q0.toUInt64 >>> ((8 : Int32) &&& 0x3f).toInt64.toUInt64).toInt64).toInt32).toInt8.toInt32))) (nar .byte ((q0.toInt32).toInt8.toInt32)) := rfl
  rw [e, Int64.zero_or, own_e64]
  have b0 := own_byte ((q0.toUInt64 >>> ((56 : Int32) &&& 0x3f).toInt64.toUInt64).toInt64)
  rw [own_sh q0 56 56 (by decide) (by decide)] at b0
  have h1 := own_accI ((((nar .byte ((((q0.toUInt64 >>> ((56 : Int32) &&& 0x3f).toInt64.toUInt64).toInt64).toInt32).toInt8.toInt32)) &&& (255 : Int32)).toInt64)) ((q0.toUInt64 >>> ((48 : Int32) &&& 0x3f).toInt64.toUInt64).toInt64)
  rw [own_sh q0 48 48 (by decide) (by decide)] at h1
  have h2 := own_accI (own_acc ((((nar .byte ((((q0.toUInt64 >>> ((56 : Int32) &&& 0x3f).toInt64.toUInt64).toInt64).toInt32).toInt8.toInt32)) &&& (255 : Int32)).toInt64)) (nar .byte ((((q0.toUInt64 >>> ((48 : Int32) &&& 0x3f).toInt64.toUInt64).toInt64).toInt32).toInt8.toInt32))) ((q0.toUInt64 >>> ((40 : Int32) &&& 0x3f).toInt64.toUInt64).toInt64)
  rw [own_sh q0 40 40 (by decide) (by decide)] at h2
  have h3 := own_accI (own_acc (own_acc ((((nar .byte ((((q0.toUInt64 >>> ((56 : Int32) &&& 0x3f).toInt64.toUInt64).toInt64).toInt32).toInt8.toInt32)) &&& (255 : Int32)).toInt64)) (nar .byte ((((q0.toUInt64 >>> ((48 : Int32) &&& 0x3f).toInt64.toUInt64).toInt64).toInt32).toInt8.toInt32))) (nar .byte ((((q0.toUInt64 >>> ((40 : Int32) &&& 0x3f).toInt64.toUInt64).toInt64).toInt32).toInt8.toInt32))) ((q0.toUInt64 >>> ((32 : Int32) &&& 0x3f).toInt64.toUInt64).toInt64)
  rw [own_sh q0 32 32 (by decide) (by decide)] at h3
  have h4 := own_accI (own_acc (own_acc (own_acc ((((nar .byte ((((q0.toUInt64 >>> ((56 : Int32) &&& 0x3f).toInt64.toUInt64).toInt64).toInt32).toInt8.toInt32)) &&& (255 : Int32)).toInt64)) (nar .byte ((((q0.toUInt64 >>> ((48 : Int32) &&& 0x3f).toInt64.toUInt64).toInt64).toInt32).toInt8.toInt32))) (nar .byte ((((q0.toUInt64 >>> ((40 : Int32) &&& 0x3f).toInt64.toUInt64).toInt64).toInt32).toInt8.toInt32))) (nar .byte ((((q0.toUInt64 >>> ((32 : Int32) &&& 0x3f).toInt64.toUInt64).toInt64).toInt32).toInt8.toInt32))) ((q0.toUInt64 >>> ((24 : Int32) &&& 0x3f).toInt64.toUInt64).toInt64)
  rw [own_sh q0 24 24 (by decide) (by decide)] at h4
  have h5 := own_accI (own_acc (own_acc (own_acc (own_acc ((((nar .byte ((((q0.toUInt64 >>> ((56 : Int32) &&& 0x3f).toInt64.toUInt64).toInt64).toInt32).toInt8.toInt32)) &&& (255 : Int32)).toInt64)) (nar .byte ((((q0.toUInt64 >>> ((48 : Int32) &&& 0x3f).toInt64.toUInt64).toInt64).toInt32).toInt8.toInt32))) (nar .byte ((((q0.toUInt64 >>> ((40 : Int32) &&& 0x3f).toInt64.toUInt64).toInt64).toInt32).toInt8.toInt32))) (nar .byte ((((q0.toUInt64 >>> ((32 : Int32) &&& 0x3f).toInt64.toUInt64).toInt64).toInt32).toInt8.toInt32))) (nar .byte ((((q0.toUInt64 >>> ((24 : Int32) &&& 0x3f).toInt64.toUInt64).toInt64).toInt32).toInt8.toInt32))) ((q0.toUInt64 >>> ((16 : Int32) &&& 0x3f).toInt64.toUInt64).toInt64)
  rw [own_sh q0 16 16 (by decide) (by decide)] at h5
  have h6 := own_accI (own_acc (own_acc (own_acc (own_acc (own_acc ((((nar .byte ((((q0.toUInt64 >>> ((56 : Int32) &&& 0x3f).toInt64.toUInt64).toInt64).toInt32).toInt8.toInt32)) &&& (255 : Int32)).toInt64)) (nar .byte ((((q0.toUInt64 >>> ((48 : Int32) &&& 0x3f).toInt64.toUInt64).toInt64).toInt32).toInt8.toInt32))) (nar .byte ((((q0.toUInt64 >>> ((40 : Int32) &&& 0x3f).toInt64.toUInt64).toInt64).toInt32).toInt8.toInt32))) (nar .byte ((((q0.toUInt64 >>> ((32 : Int32) &&& 0x3f).toInt64.toUInt64).toInt64).toInt32).toInt8.toInt32))) (nar .byte ((((q0.toUInt64 >>> ((24 : Int32) &&& 0x3f).toInt64.toUInt64).toInt64).toInt32).toInt8.toInt32))) (nar .byte ((((q0.toUInt64 >>> ((16 : Int32) &&& 0x3f).toInt64.toUInt64).toInt64).toInt32).toInt8.toInt32))) ((q0.toUInt64 >>> ((8 : Int32) &&& 0x3f).toInt64.toUInt64).toInt64)
  rw [own_sh q0 8 8 (by decide) (by decide)] at h6
  have h7 := own_accI (own_acc (own_acc (own_acc (own_acc (own_acc (own_acc ((((nar .byte ((((q0.toUInt64 >>> ((56 : Int32) &&& 0x3f).toInt64.toUInt64).toInt64).toInt32).toInt8.toInt32)) &&& (255 : Int32)).toInt64)) (nar .byte ((((q0.toUInt64 >>> ((48 : Int32) &&& 0x3f).toInt64.toUInt64).toInt64).toInt32).toInt8.toInt32))) (nar .byte ((((q0.toUInt64 >>> ((40 : Int32) &&& 0x3f).toInt64.toUInt64).toInt64).toInt32).toInt8.toInt32))) (nar .byte ((((q0.toUInt64 >>> ((32 : Int32) &&& 0x3f).toInt64.toUInt64).toInt64).toInt32).toInt8.toInt32))) (nar .byte ((((q0.toUInt64 >>> ((24 : Int32) &&& 0x3f).toInt64.toUInt64).toInt64).toInt32).toInt8.toInt32))) (nar .byte ((((q0.toUInt64 >>> ((16 : Int32) &&& 0x3f).toInt64.toUInt64).toInt64).toInt32).toInt8.toInt32))) (nar .byte ((((q0.toUInt64 >>> ((8 : Int32) &&& 0x3f).toInt64.toUInt64).toInt64).toInt32).toInt8.toInt32))) q0
  have r8 := rng64 (own_acc (own_acc (own_acc (own_acc (own_acc (own_acc (own_acc ((((nar .byte ((((q0.toUInt64 >>> ((56 : Int32) &&& 0x3f).toInt64.toUInt64).toInt64).toInt32).toInt8.toInt32)) &&& (255 : Int32)).toInt64)) (nar .byte ((((q0.toUInt64 >>> ((48 : Int32) &&& 0x3f).toInt64.toUInt64).toInt64).toInt32).toInt8.toInt32))) (nar .byte ((((q0.toUInt64 >>> ((40 : Int32) &&& 0x3f).toInt64.toUInt64).toInt64).toInt32).toInt8.toInt32))) (nar .byte ((((q0.toUInt64 >>> ((32 : Int32) &&& 0x3f).toInt64.toUInt64).toInt64).toInt32).toInt8.toInt32))) (nar .byte ((((q0.toUInt64 >>> ((24 : Int32) &&& 0x3f).toInt64.toUInt64).toInt64).toInt32).toInt8.toInt32))) (nar .byte ((((q0.toUInt64 >>> ((16 : Int32) &&& 0x3f).toInt64.toUInt64).toInt64).toInt32).toInt8.toInt32))) (nar .byte ((((q0.toUInt64 >>> ((8 : Int32) &&& 0x3f).toInt64.toUInt64).toInt64).toInt32).toInt8.toInt32))) (nar .byte ((q0.toInt32).toInt8.toInt32)))
  generalize h8n : ((own_acc (own_acc (own_acc (own_acc (own_acc (own_acc (own_acc ((((nar .byte ((((q0.toUInt64 >>> ((56 : Int32) &&& 0x3f).toInt64.toUInt64).toInt64).toInt32).toInt8.toInt32)) &&& (255 : Int32)).toInt64)) (nar .byte ((((q0.toUInt64 >>> ((48 : Int32) &&& 0x3f).toInt64.toUInt64).toInt64).toInt32).toInt8.toInt32))) (nar .byte ((((q0.toUInt64 >>> ((40 : Int32) &&& 0x3f).toInt64.toUInt64).toInt64).toInt32).toInt8.toInt32))) (nar .byte ((((q0.toUInt64 >>> ((32 : Int32) &&& 0x3f).toInt64.toUInt64).toInt64).toInt32).toInt8.toInt32))) (nar .byte ((((q0.toUInt64 >>> ((24 : Int32) &&& 0x3f).toInt64.toUInt64).toInt64).toInt32).toInt8.toInt32))) (nar .byte ((((q0.toUInt64 >>> ((16 : Int32) &&& 0x3f).toInt64.toUInt64).toInt64).toInt32).toInt8.toInt32))) (nar .byte ((((q0.toUInt64 >>> ((8 : Int32) &&& 0x3f).toInt64.toUInt64).toInt64).toInt32).toInt8.toInt32))) (nar .byte ((q0.toInt32).toInt8.toInt32)))).toInt = N8 at *
  generalize ((own_acc (own_acc (own_acc (own_acc (own_acc (own_acc ((((nar .byte ((((q0.toUInt64 >>> ((56 : Int32) &&& 0x3f).toInt64.toUInt64).toInt64).toInt32).toInt8.toInt32)) &&& (255 : Int32)).toInt64)) (nar .byte ((((q0.toUInt64 >>> ((48 : Int32) &&& 0x3f).toInt64.toUInt64).toInt64).toInt32).toInt8.toInt32))) (nar .byte ((((q0.toUInt64 >>> ((40 : Int32) &&& 0x3f).toInt64.toUInt64).toInt64).toInt32).toInt8.toInt32))) (nar .byte ((((q0.toUInt64 >>> ((32 : Int32) &&& 0x3f).toInt64.toUInt64).toInt64).toInt32).toInt8.toInt32))) (nar .byte ((((q0.toUInt64 >>> ((24 : Int32) &&& 0x3f).toInt64.toUInt64).toInt64).toInt32).toInt8.toInt32))) (nar .byte ((((q0.toUInt64 >>> ((16 : Int32) &&& 0x3f).toInt64.toUInt64).toInt64).toInt32).toInt8.toInt32))) (nar .byte ((((q0.toUInt64 >>> ((8 : Int32) &&& 0x3f).toInt64.toUInt64).toInt64).toInt32).toInt8.toInt32)))).toInt = N7 at *
  generalize ((own_acc (own_acc (own_acc (own_acc (own_acc ((((nar .byte ((((q0.toUInt64 >>> ((56 : Int32) &&& 0x3f).toInt64.toUInt64).toInt64).toInt32).toInt8.toInt32)) &&& (255 : Int32)).toInt64)) (nar .byte ((((q0.toUInt64 >>> ((48 : Int32) &&& 0x3f).toInt64.toUInt64).toInt64).toInt32).toInt8.toInt32))) (nar .byte ((((q0.toUInt64 >>> ((40 : Int32) &&& 0x3f).toInt64.toUInt64).toInt64).toInt32).toInt8.toInt32))) (nar .byte ((((q0.toUInt64 >>> ((32 : Int32) &&& 0x3f).toInt64.toUInt64).toInt64).toInt32).toInt8.toInt32))) (nar .byte ((((q0.toUInt64 >>> ((24 : Int32) &&& 0x3f).toInt64.toUInt64).toInt64).toInt32).toInt8.toInt32))) (nar .byte ((((q0.toUInt64 >>> ((16 : Int32) &&& 0x3f).toInt64.toUInt64).toInt64).toInt32).toInt8.toInt32)))).toInt = N6 at *
  generalize ((own_acc (own_acc (own_acc (own_acc ((((nar .byte ((((q0.toUInt64 >>> ((56 : Int32) &&& 0x3f).toInt64.toUInt64).toInt64).toInt32).toInt8.toInt32)) &&& (255 : Int32)).toInt64)) (nar .byte ((((q0.toUInt64 >>> ((48 : Int32) &&& 0x3f).toInt64.toUInt64).toInt64).toInt32).toInt8.toInt32))) (nar .byte ((((q0.toUInt64 >>> ((40 : Int32) &&& 0x3f).toInt64.toUInt64).toInt64).toInt32).toInt8.toInt32))) (nar .byte ((((q0.toUInt64 >>> ((32 : Int32) &&& 0x3f).toInt64.toUInt64).toInt64).toInt32).toInt8.toInt32))) (nar .byte ((((q0.toUInt64 >>> ((24 : Int32) &&& 0x3f).toInt64.toUInt64).toInt64).toInt32).toInt8.toInt32)))).toInt = N5 at *
  generalize ((own_acc (own_acc (own_acc ((((nar .byte ((((q0.toUInt64 >>> ((56 : Int32) &&& 0x3f).toInt64.toUInt64).toInt64).toInt32).toInt8.toInt32)) &&& (255 : Int32)).toInt64)) (nar .byte ((((q0.toUInt64 >>> ((48 : Int32) &&& 0x3f).toInt64.toUInt64).toInt64).toInt32).toInt8.toInt32))) (nar .byte ((((q0.toUInt64 >>> ((40 : Int32) &&& 0x3f).toInt64.toUInt64).toInt64).toInt32).toInt8.toInt32))) (nar .byte ((((q0.toUInt64 >>> ((32 : Int32) &&& 0x3f).toInt64.toUInt64).toInt64).toInt32).toInt8.toInt32)))).toInt = N4 at *
  generalize ((own_acc (own_acc ((((nar .byte ((((q0.toUInt64 >>> ((56 : Int32) &&& 0x3f).toInt64.toUInt64).toInt64).toInt32).toInt8.toInt32)) &&& (255 : Int32)).toInt64)) (nar .byte ((((q0.toUInt64 >>> ((48 : Int32) &&& 0x3f).toInt64.toUInt64).toInt64).toInt32).toInt8.toInt32))) (nar .byte ((((q0.toUInt64 >>> ((40 : Int32) &&& 0x3f).toInt64.toUInt64).toInt64).toInt32).toInt8.toInt32)))).toInt = N3 at *
  generalize ((own_acc ((((nar .byte ((((q0.toUInt64 >>> ((56 : Int32) &&& 0x3f).toInt64.toUInt64).toInt64).toInt32).toInt8.toInt32)) &&& (255 : Int32)).toInt64)) (nar .byte ((((q0.toUInt64 >>> ((48 : Int32) &&& 0x3f).toInt64.toUInt64).toInt64).toInt32).toInt8.toInt32)))).toInt = N2 at *
  generalize (((((nar .byte ((((q0.toUInt64 >>> ((56 : Int32) &&& 0x3f).toInt64.toUInt64).toInt64).toInt32).toInt8.toInt32)) &&& (255 : Int32)).toInt64))).toInt = N1 at *
  exact own_fin 0 N1 N2 N3 N4 N5 N6 N7 N8 q0.toInt _ _ _ _ _ _ _ _ (rng64 q0) r8 rfl (by rw [b0]; omega) h1 h2 h3 h4 h5 h6 h7 rfl rfl rfl rfl rfl rfl rfl rfl
theorem own_len (p1 : Int32) : (p1 &&& (3 : Int32)) = (0 : Int32) ∨ (p1 &&& (3 : Int32)) = (1 : Int32) ∨ (p1 &&& (3 : Int32)) = (2 : Int32) ∨ (p1 &&& (3 : Int32)) = (3 : Int32) := by
  have e32_0 : (0 : Int32).toInt = 0 := by decide
  have e32_1 : (1 : Int32).toInt = 1 := by decide
  have e32_2 : (2 : Int32).toInt = 2 := by decide
  have e32_3 : (3 : Int32).toInt = 3 := by decide
  have m := c_mask p1 3 2 (by decide) (by decide)
  simp only [own_e32]; omega
theorem own_law0 (q0 : Int64) (p1 : Int32) (z6 : Int32) (hz6 : z6 = ((((q0.toUInt64 >>> ((56 : Int32) &&& 0x3f).toInt64.toUInt64).toInt64).toInt32).toInt8.toInt32)) (z11 : Int32) (hz11 : z11 = ((((q0.toUInt64 >>> ((48 : Int32) &&& 0x3f).toInt64.toUInt64).toInt64).toInt32).toInt8.toInt32)) (z16 : Int32) (hz16 : z16 = ((((q0.toUInt64 >>> ((40 : Int32) &&& 0x3f).toInt64.toUInt64).toInt64).toInt32).toInt8.toInt32)) (z21 : Int32) (hz21 : z21 = ((((q0.toUInt64 >>> ((32 : Int32) &&& 0x3f).toInt64.toUInt64).toInt64).toInt32).toInt8.toInt32)) (z26 : Int32) (hz26 : z26 = ((((q0.toUInt64 >>> ((24 : Int32) &&& 0x3f).toInt64.toUInt64).toInt64).toInt32).toInt8.toInt32)) (z31 : Int32) (hz31 : z31 = ((((q0.toUInt64 >>> ((16 : Int32) &&& 0x3f).toInt64.toUInt64).toInt64).toInt32).toInt8.toInt32)) (z36 : Int32) (hz36 : z36 = ((((q0.toUInt64 >>> ((8 : Int32) &&& 0x3f).toInt64.toUInt64).toInt64).toInt32).toInt8.toInt32)) (z41 : Int32) (hz41 : z41 = ((q0.toInt32).toInt8.toInt32)) (hl1 : (p1 &&& (3 : Int32)) = (0 : Int32)) : (own_f1_8 (nar .byte z6) (nar .byte z11) (nar .byte z16) (nar .byte z21) (nar .byte z26) (nar .byte z31) (nar .byte z36) (nar .byte z41)) = q0 := by subst hz41 hz36 hz31 hz26 hz21 hz16 hz11 hz6; exact own_main q0
theorem own_law1 (q0 : Int64) (p1 : Int32) (z57 : Int32) (hz57 : z57 = ((((q0.toUInt64 >>> ((56 : Int32) &&& 0x3f).toInt64.toUInt64).toInt64).toInt32).toInt8.toInt32)) (z62 : Int32) (hz62 : z62 = ((((q0.toUInt64 >>> ((48 : Int32) &&& 0x3f).toInt64.toUInt64).toInt64).toInt32).toInt8.toInt32)) (z67 : Int32) (hz67 : z67 = ((((q0.toUInt64 >>> ((40 : Int32) &&& 0x3f).toInt64.toUInt64).toInt64).toInt32).toInt8.toInt32)) (z72 : Int32) (hz72 : z72 = ((((q0.toUInt64 >>> ((32 : Int32) &&& 0x3f).toInt64.toUInt64).toInt64).toInt32).toInt8.toInt32)) (z77 : Int32) (hz77 : z77 = ((((q0.toUInt64 >>> ((24 : Int32) &&& 0x3f).toInt64.toUInt64).toInt64).toInt32).toInt8.toInt32)) (z82 : Int32) (hz82 : z82 = ((((q0.toUInt64 >>> ((16 : Int32) &&& 0x3f).toInt64.toUInt64).toInt64).toInt32).toInt8.toInt32)) (z87 : Int32) (hz87 : z87 = ((((q0.toUInt64 >>> ((8 : Int32) &&& 0x3f).toInt64.toUInt64).toInt64).toInt32).toInt8.toInt32)) (z92 : Int32) (hz92 : z92 = ((q0.toInt32).toInt8.toInt32)) (hl1 : (p1 &&& (3 : Int32)) = (1 : Int32)) : (own_f1_9 (nar .byte z57) (nar .byte z62) (nar .byte z67) (nar .byte z72) (nar .byte z77) (nar .byte z82) (nar .byte z87) (nar .byte z92)) = q0 := by subst hz92 hz87 hz82 hz77 hz72 hz67 hz62 hz57; exact own_main q0
theorem own_law2 (q0 : Int64) (p1 : Int32) (z113 : Int32) (hz113 : z113 = ((((q0.toUInt64 >>> ((56 : Int32) &&& 0x3f).toInt64.toUInt64).toInt64).toInt32).toInt8.toInt32)) (z118 : Int32) (hz118 : z118 = ((((q0.toUInt64 >>> ((48 : Int32) &&& 0x3f).toInt64.toUInt64).toInt64).toInt32).toInt8.toInt32)) (z123 : Int32) (hz123 : z123 = ((((q0.toUInt64 >>> ((40 : Int32) &&& 0x3f).toInt64.toUInt64).toInt64).toInt32).toInt8.toInt32)) (z128 : Int32) (hz128 : z128 = ((((q0.toUInt64 >>> ((32 : Int32) &&& 0x3f).toInt64.toUInt64).toInt64).toInt32).toInt8.toInt32)) (z133 : Int32) (hz133 : z133 = ((((q0.toUInt64 >>> ((24 : Int32) &&& 0x3f).toInt64.toUInt64).toInt64).toInt32).toInt8.toInt32)) (z138 : Int32) (hz138 : z138 = ((((q0.toUInt64 >>> ((16 : Int32) &&& 0x3f).toInt64.toUInt64).toInt64).toInt32).toInt8.toInt32)) (z143 : Int32) (hz143 : z143 = ((((q0.toUInt64 >>> ((8 : Int32) &&& 0x3f).toInt64.toUInt64).toInt64).toInt32).toInt8.toInt32)) (z148 : Int32) (hz148 : z148 = ((q0.toInt32).toInt8.toInt32)) (hl1 : (p1 &&& (3 : Int32)) = (2 : Int32)) : (own_f1_10 (nar .byte z113) (nar .byte z118) (nar .byte z123) (nar .byte z128) (nar .byte z133) (nar .byte z138) (nar .byte z143) (nar .byte z148)) = q0 := by subst hz148 hz143 hz138 hz133 hz128 hz123 hz118 hz113; exact own_main q0
theorem own_law3 (q0 : Int64) (p1 : Int32) (z174 : Int32) (hz174 : z174 = ((((q0.toUInt64 >>> ((56 : Int32) &&& 0x3f).toInt64.toUInt64).toInt64).toInt32).toInt8.toInt32)) (z179 : Int32) (hz179 : z179 = ((((q0.toUInt64 >>> ((48 : Int32) &&& 0x3f).toInt64.toUInt64).toInt64).toInt32).toInt8.toInt32)) (z184 : Int32) (hz184 : z184 = ((((q0.toUInt64 >>> ((40 : Int32) &&& 0x3f).toInt64.toUInt64).toInt64).toInt32).toInt8.toInt32)) (z189 : Int32) (hz189 : z189 = ((((q0.toUInt64 >>> ((32 : Int32) &&& 0x3f).toInt64.toUInt64).toInt64).toInt32).toInt8.toInt32)) (z194 : Int32) (hz194 : z194 = ((((q0.toUInt64 >>> ((24 : Int32) &&& 0x3f).toInt64.toUInt64).toInt64).toInt32).toInt8.toInt32)) (z199 : Int32) (hz199 : z199 = ((((q0.toUInt64 >>> ((16 : Int32) &&& 0x3f).toInt64.toUInt64).toInt64).toInt32).toInt8.toInt32)) (z204 : Int32) (hz204 : z204 = ((((q0.toUInt64 >>> ((8 : Int32) &&& 0x3f).toInt64.toUInt64).toInt64).toInt32).toInt8.toInt32)) (z209 : Int32) (hz209 : z209 = ((q0.toInt32).toInt8.toInt32)) (hl1 : (p1 &&& (3 : Int32)) = (3 : Int32)) : (own_f1_11 (nar .byte z174) (nar .byte z179) (nar .byte z184) (nar .byte z189) (nar .byte z194) (nar .byte z199) (nar .byte z204) (nar .byte z209)) = q0 := by subst hz209 hz204 hz199 hz194 hz189 hz184 hz179 hz174; exact own_main q0
def Q0 (Z : State) (q0 : Int64) (p1 : Int32) (q2 : Int64) (h0 : Heap) (n0 : Nat) (v : Option Value) (h : Heap) (L : List Loc) : Prop := v = some (.int 1) ∧ Fr n0 L
set_option maxRecDepth 65536 in
set_option maxHeartbeats 40000000 in
theorem rm0 (l : Launch) (Z : State) (aw : Array Value) (hw : ∀ d ∈ tables_1, d.before aw Z = true) (ws : List Jvm.Cond) (q0 : Int64) (p1 : Int32) (q2 : Int64) (h0 : Heap) (n0 : Nat) (Z0 : n0 ≤ h0.size)  :
    MetFree l x (head1 (Jvm.Cond.code x code maxLocals ret :: ws) room_1) (fun a U => a = #[(.long q0), (.int p1), (.long q2)] ∧ Z.Warmed39 U.vm ∧ U.heap = h0) (fun _ _ _ _ _ => True) (fun _ U o U' => ∃ v L, o = .returned v ∧ Q0 Z q0 p1 q2 h0 n0 v U'.heap L ∧ FrameEnd U o U' L room_1.cells room_1.slots) := by
  refine MetFree.of_bodySF (plainFor_of_name pn_0) hisR ?_
  intro p e s m args below meth c s₁ Bd hml0 hP hK
  obtain ⟨rfl, hZ, hh⟩ := hP
  have hx := Bd.exec
  have hby := Bd.bytes
  have hml : c.maxLocals = 7 := hml0
  have hown : s.vm.findClass "com/example/dani/dani/core/KeyTrailingNumberPinLaw" = some m.cls := findClass_of_methodNamed Bd.named
  have hnm := (name_of_methodNamed Bd.named Bd.method).1
  have hlk : meth.locks = false := by first | exact BodyLoose.notSynchronized (by assumption) | exact Body.notSynchronized (by assumption)
  have X0 : Stand p l e room_1 s m #[(.long q0), (.int p1), (.long q2)] below meth c s₁ [] 0 0 := Stand.of_body Bd
  have e0 : s₁.heap = h0 := by rw [← hh, Bd.state]; rfl
  have N0 := Fr.nil n0
  refine own_start (CS := (room_1.cells, room_1.slots)) (Q := (Q0 Z q0 p1 q2 h0 n0)) (ef_0 m q0 p1 q2) ?_
  show own_Go p e below s _ _ (s₁.setTop (mkF m 0 #[jv q0, .second, iv p1, jv q2, .second, .unset, .unset] []))
  refine own_via (fun k => XS.iloadN X0.here hx rfl (hb hby at_0) rfl  (XS.iconst X0.here hx rfl (hb hby at_1) (XS.iand X0.here hx rfl (hb hby at_2) rfl (XS.istore X0.here hx rfl (hb hby at_3) rfl (l' := #[jv q0, .second, iv p1, jv q2, .second, iv (p1 &&& (3 : Int32)), .unset]) rfl k)))) ?_
  show own_Go p e below s _ _ (s₁.setTop (mkF m 5 #[jv q0, .second, iv p1, jv q2, .second, iv (p1 &&& (3 : Int32)), .unset] []))
  rcases ((own_len p1) : (p1 &&& (3 : Int32)) = (0 : Int32) ∨ (p1 &&& (3 : Int32)) = (1 : Int32) ∨ (p1 &&& (3 : Int32)) = (2 : Int32) ∨ (p1 &&& (3 : Int32)) = (3 : Int32)) with hl1 | hl1 | hl1 | hl1
  · rw [hl1]
    show own_Go p e below s _ _ (s₁.setTop (mkF m 5 #[jv q0, .second, iv p1, jv q2, .second, iv 0, .unset] []))
    refine own_via (fun k => XS.bipush X0.here hx rfl (hb hby at_5) (XS.iload X0.here hx rfl (hb hby at_7) rfl  (XS.iadd X0.here hx rfl (hb hby at_9) rfl k))) ?_
    show own_Go p e below s _ _ (s₁.setTop (mkF m 10 #[jv q0, .second, iv p1, jv q2, .second, iv 0, .unset] [(.int 8)]))
    obtain ⟨T2, h2, k2, X2, e2, E2, A2, st2⟩ := newP X0 hx hZ (hw _ (List.mem_of_getElem? (i := 0) rfl)) e0 (g := (mkF m 10 #[jv q0, .second, iv p1, jv q2, .second, iv 0, .unset] [(.int 8)])) rfl (hb hby at_10) rfl (by decide) (cap := 8) (by decide) (by decide) (by decide) (by decide)
    obtain ⟨b2, g2⟩ : ∃ z, z = h0.size := ⟨_, rfl⟩
    rw [← g2] at A2 st2
    refine own_via (fun k => st2 _ k) ?_
    show own_Go p e below s _ _ (T2.setTop (mkF m 12 #[jv q0, .second, iv p1, jv q2, .second, iv 0, .unset] [(.ref b2)]))
    have g3 : n0 ≤ b2 := Nat.le_trans Z0 (Nat.le_of_eq g2.symm)
    have Z4 : n0 ≤ h2.size := Nat.le_trans Z0 E2.1
    have B5 : Arv Z h2 b2 k2 .byte (8 : Int32) [(.int 0), (.int 0), (.int 0), (.int 0), (.int 0), (.int 0), (.int 0), (.int 0)] (.int 0) := (Arv.new A2 (by decide)).pad (pad_rep [] (.int 0) 8)
    refine own_via (fun k => XS.astore X2.here hx rfl (hb hby at_12) rfl rfl (l' := #[jv q0, .second, iv p1, jv q2, .second, iv 0, rv b2]) rfl (XS.iload X2.here hx rfl (hb hby at_14) rfl  k)) ?_
    show own_Go p e below s _ _ (T2.setTop (mkF m 16 #[jv q0, .second, iv p1, jv q2, .second, iv 0, rv b2] [(.int 0)]))
    refine own_via (fun k => XS.ifYes X2.here hx rfl (pc0 := 16) (pc' := 26) rfl (hb hby at_16) rfl (by decide) (by decide) (by decide) k) ?_
    show own_Go p e below s _ _ (T2.setTop (mkF m 26 #[jv q0, .second, iv p1, jv q2, .second, iv 0, rv b2] []))
    refine own_via (fun k => XS.iload X2.here hx rfl (hb hby at_26) rfl  (XS.iconst X2.here hx rfl (hb hby at_28) k)) ?_
    show own_Go p e below s _ _ (T2.setTop (mkF m 29 #[jv q0, .second, iv p1, jv q2, .second, iv 0, rv b2] [(.int 1), (.int 0)]))
    refine own_via (fun k => XS.icmpYes X2.here hx rfl (pc0 := 29) (pc' := 42) rfl (hb hby at_29) rfl (by decide) (by decide) (by decide) k) ?_
    show own_Go p e below s _ _ (T2.setTop (mkF m 42 #[jv q0, .second, iv p1, jv q2, .second, iv 0, rv b2] []))
    refine own_via (fun k => XS.iload X2.here hx rfl (hb hby at_42) rfl  (XS.iconst X2.here hx rfl (hb hby at_44) k)) ?_
    show own_Go p e below s _ _ (T2.setTop (mkF m 45 #[jv q0, .second, iv p1, jv q2, .second, iv 0, rv b2] [(.int 2), (.int 0)]))
    refine own_via (fun k => XS.icmpYes X2.here hx rfl (pc0 := 45) (pc' := 58) rfl (hb hby at_45) rfl (by decide) (by decide) (by decide) k) ?_
    show own_Go p e below s _ _ (T2.setTop (mkF m 58 #[jv q0, .second, iv p1, jv q2, .second, iv 0, rv b2] []))
    refine own_via (fun k => XS.aload X2.here hx rfl (hb hby at_58) rfl rfl  (XS.iload X2.here hx rfl (hb hby at_60) rfl  (XS.lloadN X2.here hx rfl (hb hby at_62) rfl  (XS.bipush X2.here hx rfl (hb hby at_63) k)))) ?_
    show own_Go p e below s _ _ (T2.setTop (mkF m 65 #[jv q0, .second, iv p1, jv q2, .second, iv 0, rv b2] [(.int 56), (.long q0), (.int 0), (.ref b2)]))
    refine own_via (fun k => XS.lushr X2.here hx rfl (hb hby at_65) rfl (XS.l2i X2.here hx rfl (hb hby at_66) rfl (XS.i2b X2.here hx rfl (hb hby at_67) rfl k))) ?_
    show own_Go p e below s _ _ (T2.setTop (mkF m 68 #[jv q0, .second, iv p1, jv q2, .second, iv 0, rv b2] [(.int ((((q0.toUInt64 >>> ((56 : Int32) &&& 0x3f).toInt64.toUInt64).toInt64).toInt32).toInt8.toInt32)), (.int 0), (.ref b2)]))
    obtain ⟨z6, hz6⟩ : ∃ z : Int32, z = ((((q0.toUInt64 >>> ((56 : Int32) &&& 0x3f).toInt64.toUInt64).toInt64).toInt32).toInt8.toInt32) := ⟨_, rfl⟩
    rw [← hz6]
    show own_Go p e below s _ _ (T2.setTop (mkF m 68 #[jv q0, .second, iv p1, jv q2, .second, iv 0, rv b2] [(.int z6), (.int 0), (.ref b2)]))
    obtain ⟨cl7, Ar7, q7, S7, NN7, H7, G7⟩ := id B5
    have hin7 : ¬ ((0 : Int32) < 0 ∨ cl7.slots.size ≤ ((0 : Int32)).toNatClampNeg) := inb_of S7 ⟨by decide, by decide⟩
    obtain ⟨T7, h7, X7, e7, W7, st7⟩ := stB X2 hx hZ e2 Ar7 (j := (0 : Int32)) hin7 (g := (mkF m 68 #[jv q0, .second, iv p1, jv q2, .second, iv 0, rv b2] [(.int z6), (.int 0), (.ref b2)])) rfl rfl (hb hby at_68)
    refine own_via (fun k => st7 _ k) ?_
    show own_Go p e below s _ _ (T7.setTop (mkF m 69 #[jv q0, .second, iv p1, jv q2, .second, iv 0, rv b2] []))
    have B8 : Arv Z h7 b2 k2 .byte (8 : Int32) [(.int (nar .byte z6)), (.int 0), (.int 0), (.int 0), (.int 0), (.int 0), (.int 0), (.int 0)] (.int 0) := Arv.set Ar7 q7 S7 NN7 H7 G7 (fits_nar_byte _) W7 0 rfl (Nat.le_of_ble_eq_true rfl)
    have N9 := Fr.snoc X7 N0 g3
    have Z10 : n0 ≤ h7.size := Nat.le_trans Z4 (Keep.of_wr W7).1
    refine own_via (fun k => XS.aload X7.here hx rfl (hb hby at_69) rfl rfl  (XS.iload X7.here hx rfl (hb hby at_71) rfl  (XS.iconst X7.here hx rfl (hb hby at_73) (XS.iadd X7.here hx rfl (hb hby at_74) rfl k)))) ?_
    show own_Go p e below s _ _ (T7.setTop (mkF m 75 #[jv q0, .second, iv p1, jv q2, .second, iv 0, rv b2] [(.int 1), (.ref b2)]))
    refine own_via (fun k => XS.lloadN X7.here hx rfl (hb hby at_75) rfl  (XS.bipush X7.here hx rfl (hb hby at_76) (XS.lushr X7.here hx rfl (hb hby at_78) rfl (XS.l2i X7.here hx rfl (hb hby at_79) rfl k)))) ?_
    show own_Go p e below s _ _ (T7.setTop (mkF m 80 #[jv q0, .second, iv p1, jv q2, .second, iv 0, rv b2] [(.int (((q0.toUInt64 >>> ((48 : Int32) &&& 0x3f).toInt64.toUInt64).toInt64).toInt32)), (.int 1), (.ref b2)]))
    refine own_via (fun k => XS.i2b X7.here hx rfl (hb hby at_80) rfl k) ?_
    show own_Go p e below s _ _ (T7.setTop (mkF m 81 #[jv q0, .second, iv p1, jv q2, .second, iv 0, rv b2] [(.int ((((q0.toUInt64 >>> ((48 : Int32) &&& 0x3f).toInt64.toUInt64).toInt64).toInt32).toInt8.toInt32)), (.int 1), (.ref b2)]))
    obtain ⟨z11, hz11⟩ : ∃ z : Int32, z = ((((q0.toUInt64 >>> ((48 : Int32) &&& 0x3f).toInt64.toUInt64).toInt64).toInt32).toInt8.toInt32) := ⟨_, rfl⟩
    rw [← hz11]
    show own_Go p e below s _ _ (T7.setTop (mkF m 81 #[jv q0, .second, iv p1, jv q2, .second, iv 0, rv b2] [(.int z11), (.int 1), (.ref b2)]))
    obtain ⟨cl12, Ar12, q12, S12, NN12, H12, G12⟩ := id B8
    have hin12 : ¬ ((1 : Int32) < 0 ∨ cl12.slots.size ≤ ((1 : Int32)).toNatClampNeg) := inb_of S12 ⟨by decide, by decide⟩
    obtain ⟨T12, h12, X12, e12, W12, st12⟩ := stB X7 hx hZ e7 Ar12 (j := (1 : Int32)) hin12 (g := (mkF m 81 #[jv q0, .second, iv p1, jv q2, .second, iv 0, rv b2] [(.int z11), (.int 1), (.ref b2)])) rfl rfl (hb hby at_81)
    refine own_via (fun k => st12 _ k) ?_
    show own_Go p e below s _ _ (T12.setTop (mkF m 82 #[jv q0, .second, iv p1, jv q2, .second, iv 0, rv b2] []))
    have B13 : Arv Z h12 b2 k2 .byte (8 : Int32) [(.int (nar .byte z6)), (.int (nar .byte z11)), (.int 0), (.int 0), (.int 0), (.int 0), (.int 0), (.int 0)] (.int 0) := Arv.set Ar12 q12 S12 NN12 H12 G12 (fits_nar_byte _) W12 1 rfl (Nat.le_of_ble_eq_true rfl)
    have N14 := Fr.snoc X12 N9 g3
    have Z15 : n0 ≤ h12.size := Nat.le_trans Z10 (Keep.of_wr W12).1
    refine own_via (fun k => XS.aload X12.here hx rfl (hb hby at_82) rfl rfl  (XS.iload X12.here hx rfl (hb hby at_84) rfl  (XS.iconst X12.here hx rfl (hb hby at_86) (XS.iadd X12.here hx rfl (hb hby at_87) rfl k)))) ?_
    show own_Go p e below s _ _ (T12.setTop (mkF m 88 #[jv q0, .second, iv p1, jv q2, .second, iv 0, rv b2] [(.int 2), (.ref b2)]))
    refine own_via (fun k => XS.lloadN X12.here hx rfl (hb hby at_88) rfl  (XS.bipush X12.here hx rfl (hb hby at_89) (XS.lushr X12.here hx rfl (hb hby at_91) rfl (XS.l2i X12.here hx rfl (hb hby at_92) rfl k)))) ?_
    show own_Go p e below s _ _ (T12.setTop (mkF m 93 #[jv q0, .second, iv p1, jv q2, .second, iv 0, rv b2] [(.int (((q0.toUInt64 >>> ((40 : Int32) &&& 0x3f).toInt64.toUInt64).toInt64).toInt32)), (.int 2), (.ref b2)]))
    refine own_via (fun k => XS.i2b X12.here hx rfl (hb hby at_93) rfl k) ?_
    show own_Go p e below s _ _ (T12.setTop (mkF m 94 #[jv q0, .second, iv p1, jv q2, .second, iv 0, rv b2] [(.int ((((q0.toUInt64 >>> ((40 : Int32) &&& 0x3f).toInt64.toUInt64).toInt64).toInt32).toInt8.toInt32)), (.int 2), (.ref b2)]))
    obtain ⟨z16, hz16⟩ : ∃ z : Int32, z = ((((q0.toUInt64 >>> ((40 : Int32) &&& 0x3f).toInt64.toUInt64).toInt64).toInt32).toInt8.toInt32) := ⟨_, rfl⟩
    rw [← hz16]
    show own_Go p e below s _ _ (T12.setTop (mkF m 94 #[jv q0, .second, iv p1, jv q2, .second, iv 0, rv b2] [(.int z16), (.int 2), (.ref b2)]))
    obtain ⟨cl17, Ar17, q17, S17, NN17, H17, G17⟩ := id B13
    have hin17 : ¬ ((2 : Int32) < 0 ∨ cl17.slots.size ≤ ((2 : Int32)).toNatClampNeg) := inb_of S17 ⟨by decide, by decide⟩
    obtain ⟨T17, h17, X17, e17, W17, st17⟩ := stB X12 hx hZ e12 Ar17 (j := (2 : Int32)) hin17 (g := (mkF m 94 #[jv q0, .second, iv p1, jv q2, .second, iv 0, rv b2] [(.int z16), (.int 2), (.ref b2)])) rfl rfl (hb hby at_94)
    refine own_via (fun k => st17 _ k) ?_
    show own_Go p e below s _ _ (T17.setTop (mkF m 95 #[jv q0, .second, iv p1, jv q2, .second, iv 0, rv b2] []))
    have B18 : Arv Z h17 b2 k2 .byte (8 : Int32) [(.int (nar .byte z6)), (.int (nar .byte z11)), (.int (nar .byte z16)), (.int 0), (.int 0), (.int 0), (.int 0), (.int 0)] (.int 0) := Arv.set Ar17 q17 S17 NN17 H17 G17 (fits_nar_byte _) W17 2 rfl (Nat.le_of_ble_eq_true rfl)
    have N19 := Fr.snoc X17 N14 g3
    have Z20 : n0 ≤ h17.size := Nat.le_trans Z15 (Keep.of_wr W17).1
    refine own_via (fun k => XS.aload X17.here hx rfl (hb hby at_95) rfl rfl  (XS.iload X17.here hx rfl (hb hby at_97) rfl  (XS.iconst X17.here hx rfl (hb hby at_99) (XS.iadd X17.here hx rfl (hb hby at_100) rfl k)))) ?_
    show own_Go p e below s _ _ (T17.setTop (mkF m 101 #[jv q0, .second, iv p1, jv q2, .second, iv 0, rv b2] [(.int 3), (.ref b2)]))
    refine own_via (fun k => XS.lloadN X17.here hx rfl (hb hby at_101) rfl  (XS.bipush X17.here hx rfl (hb hby at_102) (XS.lushr X17.here hx rfl (hb hby at_104) rfl (XS.l2i X17.here hx rfl (hb hby at_105) rfl k)))) ?_
    show own_Go p e below s _ _ (T17.setTop (mkF m 106 #[jv q0, .second, iv p1, jv q2, .second, iv 0, rv b2] [(.int (((q0.toUInt64 >>> ((32 : Int32) &&& 0x3f).toInt64.toUInt64).toInt64).toInt32)), (.int 3), (.ref b2)]))
    refine own_via (fun k => XS.i2b X17.here hx rfl (hb hby at_106) rfl k) ?_
    show own_Go p e below s _ _ (T17.setTop (mkF m 107 #[jv q0, .second, iv p1, jv q2, .second, iv 0, rv b2] [(.int ((((q0.toUInt64 >>> ((32 : Int32) &&& 0x3f).toInt64.toUInt64).toInt64).toInt32).toInt8.toInt32)), (.int 3), (.ref b2)]))
    obtain ⟨z21, hz21⟩ : ∃ z : Int32, z = ((((q0.toUInt64 >>> ((32 : Int32) &&& 0x3f).toInt64.toUInt64).toInt64).toInt32).toInt8.toInt32) := ⟨_, rfl⟩
    rw [← hz21]
    show own_Go p e below s _ _ (T17.setTop (mkF m 107 #[jv q0, .second, iv p1, jv q2, .second, iv 0, rv b2] [(.int z21), (.int 3), (.ref b2)]))
    obtain ⟨cl22, Ar22, q22, S22, NN22, H22, G22⟩ := id B18
    have hin22 : ¬ ((3 : Int32) < 0 ∨ cl22.slots.size ≤ ((3 : Int32)).toNatClampNeg) := inb_of S22 ⟨by decide, by decide⟩
    obtain ⟨T22, h22, X22, e22, W22, st22⟩ := stB X17 hx hZ e17 Ar22 (j := (3 : Int32)) hin22 (g := (mkF m 107 #[jv q0, .second, iv p1, jv q2, .second, iv 0, rv b2] [(.int z21), (.int 3), (.ref b2)])) rfl rfl (hb hby at_107)
    refine own_via (fun k => st22 _ k) ?_
    show own_Go p e below s _ _ (T22.setTop (mkF m 108 #[jv q0, .second, iv p1, jv q2, .second, iv 0, rv b2] []))
    have B23 : Arv Z h22 b2 k2 .byte (8 : Int32) [(.int (nar .byte z6)), (.int (nar .byte z11)), (.int (nar .byte z16)), (.int (nar .byte z21)), (.int 0), (.int 0), (.int 0), (.int 0)] (.int 0) := Arv.set Ar22 q22 S22 NN22 H22 G22 (fits_nar_byte _) W22 3 rfl (Nat.le_of_ble_eq_true rfl)
    have N24 := Fr.snoc X22 N19 g3
    have Z25 : n0 ≤ h22.size := Nat.le_trans Z20 (Keep.of_wr W22).1
    refine own_via (fun k => XS.aload X22.here hx rfl (hb hby at_108) rfl rfl  (XS.iload X22.here hx rfl (hb hby at_110) rfl  (XS.iconst X22.here hx rfl (hb hby at_112) (XS.iadd X22.here hx rfl (hb hby at_113) rfl k)))) ?_
    show own_Go p e below s _ _ (T22.setTop (mkF m 114 #[jv q0, .second, iv p1, jv q2, .second, iv 0, rv b2] [(.int 4), (.ref b2)]))
    refine own_via (fun k => XS.lloadN X22.here hx rfl (hb hby at_114) rfl  (XS.bipush X22.here hx rfl (hb hby at_115) (XS.lushr X22.here hx rfl (hb hby at_117) rfl (XS.l2i X22.here hx rfl (hb hby at_118) rfl k)))) ?_
    show own_Go p e below s _ _ (T22.setTop (mkF m 119 #[jv q0, .second, iv p1, jv q2, .second, iv 0, rv b2] [(.int (((q0.toUInt64 >>> ((24 : Int32) &&& 0x3f).toInt64.toUInt64).toInt64).toInt32)), (.int 4), (.ref b2)]))
    refine own_via (fun k => XS.i2b X22.here hx rfl (hb hby at_119) rfl k) ?_
    show own_Go p e below s _ _ (T22.setTop (mkF m 120 #[jv q0, .second, iv p1, jv q2, .second, iv 0, rv b2] [(.int ((((q0.toUInt64 >>> ((24 : Int32) &&& 0x3f).toInt64.toUInt64).toInt64).toInt32).toInt8.toInt32)), (.int 4), (.ref b2)]))
    obtain ⟨z26, hz26⟩ : ∃ z : Int32, z = ((((q0.toUInt64 >>> ((24 : Int32) &&& 0x3f).toInt64.toUInt64).toInt64).toInt32).toInt8.toInt32) := ⟨_, rfl⟩
    rw [← hz26]
    show own_Go p e below s _ _ (T22.setTop (mkF m 120 #[jv q0, .second, iv p1, jv q2, .second, iv 0, rv b2] [(.int z26), (.int 4), (.ref b2)]))
    obtain ⟨cl27, Ar27, q27, S27, NN27, H27, G27⟩ := id B23
    have hin27 : ¬ ((4 : Int32) < 0 ∨ cl27.slots.size ≤ ((4 : Int32)).toNatClampNeg) := inb_of S27 ⟨by decide, by decide⟩
    obtain ⟨T27, h27, X27, e27, W27, st27⟩ := stB X22 hx hZ e22 Ar27 (j := (4 : Int32)) hin27 (g := (mkF m 120 #[jv q0, .second, iv p1, jv q2, .second, iv 0, rv b2] [(.int z26), (.int 4), (.ref b2)])) rfl rfl (hb hby at_120)
    refine own_via (fun k => st27 _ k) ?_
    show own_Go p e below s _ _ (T27.setTop (mkF m 121 #[jv q0, .second, iv p1, jv q2, .second, iv 0, rv b2] []))
    have B28 : Arv Z h27 b2 k2 .byte (8 : Int32) [(.int (nar .byte z6)), (.int (nar .byte z11)), (.int (nar .byte z16)), (.int (nar .byte z21)), (.int (nar .byte z26)), (.int 0), (.int 0), (.int 0)] (.int 0) := Arv.set Ar27 q27 S27 NN27 H27 G27 (fits_nar_byte _) W27 4 rfl (Nat.le_of_ble_eq_true rfl)
    have N29 := Fr.snoc X27 N24 g3
    have Z30 : n0 ≤ h27.size := Nat.le_trans Z25 (Keep.of_wr W27).1
    refine own_via (fun k => XS.aload X27.here hx rfl (hb hby at_121) rfl rfl  (XS.iload X27.here hx rfl (hb hby at_123) rfl  (XS.iconst X27.here hx rfl (hb hby at_125) (XS.iadd X27.here hx rfl (hb hby at_126) rfl k)))) ?_
    show own_Go p e below s _ _ (T27.setTop (mkF m 127 #[jv q0, .second, iv p1, jv q2, .second, iv 0, rv b2] [(.int 5), (.ref b2)]))
    refine own_via (fun k => XS.lloadN X27.here hx rfl (hb hby at_127) rfl  (XS.bipush X27.here hx rfl (hb hby at_128) (XS.lushr X27.here hx rfl (hb hby at_130) rfl (XS.l2i X27.here hx rfl (hb hby at_131) rfl k)))) ?_
    show own_Go p e below s _ _ (T27.setTop (mkF m 132 #[jv q0, .second, iv p1, jv q2, .second, iv 0, rv b2] [(.int (((q0.toUInt64 >>> ((16 : Int32) &&& 0x3f).toInt64.toUInt64).toInt64).toInt32)), (.int 5), (.ref b2)]))
    refine own_via (fun k => XS.i2b X27.here hx rfl (hb hby at_132) rfl k) ?_
    show own_Go p e below s _ _ (T27.setTop (mkF m 133 #[jv q0, .second, iv p1, jv q2, .second, iv 0, rv b2] [(.int ((((q0.toUInt64 >>> ((16 : Int32) &&& 0x3f).toInt64.toUInt64).toInt64).toInt32).toInt8.toInt32)), (.int 5), (.ref b2)]))
    obtain ⟨z31, hz31⟩ : ∃ z : Int32, z = ((((q0.toUInt64 >>> ((16 : Int32) &&& 0x3f).toInt64.toUInt64).toInt64).toInt32).toInt8.toInt32) := ⟨_, rfl⟩
    rw [← hz31]
    show own_Go p e below s _ _ (T27.setTop (mkF m 133 #[jv q0, .second, iv p1, jv q2, .second, iv 0, rv b2] [(.int z31), (.int 5), (.ref b2)]))
    obtain ⟨cl32, Ar32, q32, S32, NN32, H32, G32⟩ := id B28
    have hin32 : ¬ ((5 : Int32) < 0 ∨ cl32.slots.size ≤ ((5 : Int32)).toNatClampNeg) := inb_of S32 ⟨by decide, by decide⟩
    obtain ⟨T32, h32, X32, e32, W32, st32⟩ := stB X27 hx hZ e27 Ar32 (j := (5 : Int32)) hin32 (g := (mkF m 133 #[jv q0, .second, iv p1, jv q2, .second, iv 0, rv b2] [(.int z31), (.int 5), (.ref b2)])) rfl rfl (hb hby at_133)
    refine own_via (fun k => st32 _ k) ?_
    show own_Go p e below s _ _ (T32.setTop (mkF m 134 #[jv q0, .second, iv p1, jv q2, .second, iv 0, rv b2] []))
    have B33 : Arv Z h32 b2 k2 .byte (8 : Int32) [(.int (nar .byte z6)), (.int (nar .byte z11)), (.int (nar .byte z16)), (.int (nar .byte z21)), (.int (nar .byte z26)), (.int (nar .byte z31)), (.int 0), (.int 0)] (.int 0) := Arv.set Ar32 q32 S32 NN32 H32 G32 (fits_nar_byte _) W32 5 rfl (Nat.le_of_ble_eq_true rfl)
    have N34 := Fr.snoc X32 N29 g3
    have Z35 : n0 ≤ h32.size := Nat.le_trans Z30 (Keep.of_wr W32).1
    refine own_via (fun k => XS.aload X32.here hx rfl (hb hby at_134) rfl rfl  (XS.iload X32.here hx rfl (hb hby at_136) rfl  (XS.bipush X32.here hx rfl (hb hby at_138) (XS.iadd X32.here hx rfl (hb hby at_140) rfl k)))) ?_
    show own_Go p e below s _ _ (T32.setTop (mkF m 141 #[jv q0, .second, iv p1, jv q2, .second, iv 0, rv b2] [(.int 6), (.ref b2)]))
    refine own_via (fun k => XS.lloadN X32.here hx rfl (hb hby at_141) rfl  (XS.bipush X32.here hx rfl (hb hby at_142) (XS.lushr X32.here hx rfl (hb hby at_144) rfl (XS.l2i X32.here hx rfl (hb hby at_145) rfl k)))) ?_
    show own_Go p e below s _ _ (T32.setTop (mkF m 146 #[jv q0, .second, iv p1, jv q2, .second, iv 0, rv b2] [(.int (((q0.toUInt64 >>> ((8 : Int32) &&& 0x3f).toInt64.toUInt64).toInt64).toInt32)), (.int 6), (.ref b2)]))
    refine own_via (fun k => XS.i2b X32.here hx rfl (hb hby at_146) rfl k) ?_
    show own_Go p e below s _ _ (T32.setTop (mkF m 147 #[jv q0, .second, iv p1, jv q2, .second, iv 0, rv b2] [(.int ((((q0.toUInt64 >>> ((8 : Int32) &&& 0x3f).toInt64.toUInt64).toInt64).toInt32).toInt8.toInt32)), (.int 6), (.ref b2)]))
    obtain ⟨z36, hz36⟩ : ∃ z : Int32, z = ((((q0.toUInt64 >>> ((8 : Int32) &&& 0x3f).toInt64.toUInt64).toInt64).toInt32).toInt8.toInt32) := ⟨_, rfl⟩
    rw [← hz36]
    show own_Go p e below s _ _ (T32.setTop (mkF m 147 #[jv q0, .second, iv p1, jv q2, .second, iv 0, rv b2] [(.int z36), (.int 6), (.ref b2)]))
    obtain ⟨cl37, Ar37, q37, S37, NN37, H37, G37⟩ := id B33
    have hin37 : ¬ ((6 : Int32) < 0 ∨ cl37.slots.size ≤ ((6 : Int32)).toNatClampNeg) := inb_of S37 ⟨by decide, by decide⟩
    obtain ⟨T37, h37, X37, e37, W37, st37⟩ := stB X32 hx hZ e32 Ar37 (j := (6 : Int32)) hin37 (g := (mkF m 147 #[jv q0, .second, iv p1, jv q2, .second, iv 0, rv b2] [(.int z36), (.int 6), (.ref b2)])) rfl rfl (hb hby at_147)
    refine own_via (fun k => st37 _ k) ?_
    show own_Go p e below s _ _ (T37.setTop (mkF m 148 #[jv q0, .second, iv p1, jv q2, .second, iv 0, rv b2] []))
    have B38 : Arv Z h37 b2 k2 .byte (8 : Int32) [(.int (nar .byte z6)), (.int (nar .byte z11)), (.int (nar .byte z16)), (.int (nar .byte z21)), (.int (nar .byte z26)), (.int (nar .byte z31)), (.int (nar .byte z36)), (.int 0)] (.int 0) := Arv.set Ar37 q37 S37 NN37 H37 G37 (fits_nar_byte _) W37 6 rfl (Nat.le_of_ble_eq_true rfl)
    have N39 := Fr.snoc X37 N34 g3
    have Z40 : n0 ≤ h37.size := Nat.le_trans Z35 (Keep.of_wr W37).1
    refine own_via (fun k => XS.aload X37.here hx rfl (hb hby at_148) rfl rfl  (XS.iload X37.here hx rfl (hb hby at_150) rfl  (XS.bipush X37.here hx rfl (hb hby at_152) (XS.iadd X37.here hx rfl (hb hby at_154) rfl k)))) ?_
    show own_Go p e below s _ _ (T37.setTop (mkF m 155 #[jv q0, .second, iv p1, jv q2, .second, iv 0, rv b2] [(.int 7), (.ref b2)]))
    refine own_via (fun k => XS.lloadN X37.here hx rfl (hb hby at_155) rfl  (XS.l2i X37.here hx rfl (hb hby at_156) rfl (XS.i2b X37.here hx rfl (hb hby at_157) rfl k))) ?_
    show own_Go p e below s _ _ (T37.setTop (mkF m 158 #[jv q0, .second, iv p1, jv q2, .second, iv 0, rv b2] [(.int ((q0.toInt32).toInt8.toInt32)), (.int 7), (.ref b2)]))
    obtain ⟨z41, hz41⟩ : ∃ z : Int32, z = ((q0.toInt32).toInt8.toInt32) := ⟨_, rfl⟩
    rw [← hz41]
    show own_Go p e below s _ _ (T37.setTop (mkF m 158 #[jv q0, .second, iv p1, jv q2, .second, iv 0, rv b2] [(.int z41), (.int 7), (.ref b2)]))
    obtain ⟨cl42, Ar42, q42, S42, NN42, H42, G42⟩ := id B38
    have hin42 : ¬ ((7 : Int32) < 0 ∨ cl42.slots.size ≤ ((7 : Int32)).toNatClampNeg) := inb_of S42 ⟨by decide, by decide⟩
    obtain ⟨T42, h42, X42, e42, W42, st42⟩ := stB X37 hx hZ e37 Ar42 (j := (7 : Int32)) hin42 (g := (mkF m 158 #[jv q0, .second, iv p1, jv q2, .second, iv 0, rv b2] [(.int z41), (.int 7), (.ref b2)])) rfl rfl (hb hby at_158)
    refine own_via (fun k => st42 _ k) ?_
    show own_Go p e below s _ _ (T42.setTop (mkF m 159 #[jv q0, .second, iv p1, jv q2, .second, iv 0, rv b2] []))
    have B43 : Arv Z h42 b2 k2 .byte (8 : Int32) [(.int (nar .byte z6)), (.int (nar .byte z11)), (.int (nar .byte z16)), (.int (nar .byte z21)), (.int (nar .byte z26)), (.int (nar .byte z31)), (.int (nar .byte z36)), (.int (nar .byte z41))] (.int 0) := Arv.set Ar42 q42 S42 NN42 H42 G42 (fits_nar_byte _) W42 7 rfl (Nat.le_of_ble_eq_true rfl)
    have N44 := Fr.snoc X42 N39 g3
    have Z45 : n0 ≤ h42.size := Nat.le_trans Z40 (Keep.of_wr W42).1
    refine own_via (fun k => XS.aload X42.here hx rfl (hb hby at_159) rfl rfl  k) ?_
    show own_Go p e below s _ _ (T42.setTop (mkF m 161 #[jv q0, .second, iv p1, jv q2, .second, iv 0, rv b2] [(.ref b2)]))
    obtain ⟨_, _, ⟨T46, L46, k46, n46⟩, -, X46, ⟨Lc46, hQ46, l46, y46, z46⟩, st46⟩ := Jvm.LawKit.callS X42 hx (y := (⟨"com/example/dani/dani/core/Key", "trailingNumber", "([B)J"⟩ : MethodName)) hown (mvT hZ (hw _ (List.mem_of_getElem? (i := 1) rfl))) (mvT hZ (hw _ (List.mem_of_getElem? (i := 2) rfl))) (mvT hZ (hw _ (List.mem_of_getElem? (i := 3) rfl))) (mvT hZ (hw _ (List.mem_of_getElem? (i := 4) rfl))) (by decide) (backOf (W := 0) (rm1_8 l Z aw hw [] b2 k2 (nar .byte z6) (nar .byte z11) (nar .byte z16) (nar .byte z21) (nar .byte z26) (nar .byte z31) (nar .byte z36) (nar .byte z41) h42 n0 Z45 B43) hZ (hw _ (List.mem_of_getElem? (i := 4) rfl)) (hw _ (List.mem_of_getElem? (i := 3) rfl)) (by decide) (by decide)) (g := (mkF m 161 #[jv q0, .second, iv p1, jv q2, .second, iv 0, rv b2] [(.ref b2)])) rfl (by rw [hml]; rfl) (argsL := [(.ref b2)]) (rest := []) (lenOf pd_0 rfl) rfl (by show 2 * 0 + _ ≤ _; exact Nat.le_of_eq rfl) (hb hby at_161) (fun _ _ => ⟨rfl, e42, (by decide : 1 + 0 ≤ _), (by decide : 8 + 0 ≤ _)⟩)
    dsimp only [Pt.U, Pt.locs, Pt.cells, Pt.slots] at X46 l46 y46 z46 st46 hQ46
    subst l46 y46 z46
    obtain ⟨rfl, N46q, eh46⟩ := hQ46
    have N47 := Fr.app N44 N46q
    refine own_via (fun k => st46 _ k) ?_
    show own_Go p e below s _ _ (T46.setTop (mkF m 164 #[jv q0, .second, iv p1, jv q2, .second, iv 0, rv b2] [(.long (own_f1_8 (nar .byte z6) (nar .byte z11) (nar .byte z16) (nar .byte z21) (nar .byte z26) (nar .byte z31) (nar .byte z36) (nar .byte z41)))]))
    refine own_via (fun k => XS.lloadN X46.here hx rfl (hb hby at_164) rfl  (XS.lcmp X46.here hx rfl (hb hby at_165) rfl k)) ?_
    show own_Go p e below s _ _ (T46.setTop (mkF m 166 #[jv q0, .second, iv p1, jv q2, .second, iv 0, rv b2] [(.int (lcmpW (own_f1_8 (nar .byte z6) (nar .byte z11) (nar .byte z16) (nar .byte z21) (nar .byte z26) (nar .byte z31) (nar .byte z36) (nar .byte z41)) q0))]))
    refine own_via (fun k => XS.ifNo X46.here hx rfl (hb hby at_166) rfl ((if0 _ _).trans (teq ((lw_eq _ _).mpr (own_law0 q0 p1 z6 hz6 z11 hz11 z16 hz16 z21 hz21 z26 hz26 z31 hz31 z36 hz36 z41 hz41 hl1))).2) k) ?_
    show own_Go p e below s _ _ (T46.setTop (mkF m 169 #[jv q0, .second, iv p1, jv q2, .second, iv 0, rv b2] []))
    refine own_via (fun k => XS.iconst X46.here hx rfl (hb hby at_169) (XS.goto X46.here hx rfl (pc0 := 170) (pc' := 174) rfl (hb hby at_170) (by decide) (by decide) k)) ?_
    show own_Go p e below s _ _ (T46.setTop (mkF m 174 #[jv q0, .second, iv p1, jv q2, .second, iv 0, rv b2] [(.int 1)]))
    exact own_retN X46 hx hlk (t := .boolean) Bd.returns (by simp) (hb hby at_174) (Q := (Q0 Z q0 p1 q2 h0 n0)) ⟨rfl, N47⟩ (by decide) (by decide)
  · rw [hl1]
    show own_Go p e below s _ _ (s₁.setTop (mkF m 5 #[jv q0, .second, iv p1, jv q2, .second, iv 1, .unset] []))
    refine own_via (fun k => XS.bipush X0.here hx rfl (hb hby at_5) (XS.iload X0.here hx rfl (hb hby at_7) rfl  (XS.iadd X0.here hx rfl (hb hby at_9) rfl k))) ?_
    show own_Go p e below s _ _ (s₁.setTop (mkF m 10 #[jv q0, .second, iv p1, jv q2, .second, iv 1, .unset] [(.int 9)]))
    obtain ⟨T48, h48, k48, X48, e48, E48, A48, st48⟩ := newP X0 hx hZ (hw _ (List.mem_of_getElem? (i := 0) rfl)) e0 (g := (mkF m 10 #[jv q0, .second, iv p1, jv q2, .second, iv 1, .unset] [(.int 9)])) rfl (hb hby at_10) rfl (by decide) (cap := 9) (by decide) (by decide) (by decide) (by decide)
    obtain ⟨b48, g48⟩ : ∃ z, z = h0.size := ⟨_, rfl⟩
    rw [← g48] at A48 st48
    refine own_via (fun k => st48 _ k) ?_
    show own_Go p e below s _ _ (T48.setTop (mkF m 12 #[jv q0, .second, iv p1, jv q2, .second, iv 1, .unset] [(.ref b48)]))
    have g49 : n0 ≤ b48 := Nat.le_trans Z0 (Nat.le_of_eq g48.symm)
    have Z50 : n0 ≤ h48.size := Nat.le_trans Z0 E48.1
    have B51 : Arv Z h48 b48 k48 .byte (9 : Int32) [(.int 0), (.int 0), (.int 0), (.int 0), (.int 0), (.int 0), (.int 0), (.int 0), (.int 0)] (.int 0) := (Arv.new A48 (by decide)).pad (pad_rep [] (.int 0) 9)
    refine own_via (fun k => XS.astore X48.here hx rfl (hb hby at_12) rfl rfl (l' := #[jv q0, .second, iv p1, jv q2, .second, iv 1, rv b48]) rfl (XS.iload X48.here hx rfl (hb hby at_14) rfl  k)) ?_
    show own_Go p e below s _ _ (T48.setTop (mkF m 16 #[jv q0, .second, iv p1, jv q2, .second, iv 1, rv b48] [(.int 1)]))
    refine own_via (fun k => XS.ifNo X48.here hx rfl (hb hby at_16) rfl (by decide) k) ?_
    show own_Go p e below s _ _ (T48.setTop (mkF m 19 #[jv q0, .second, iv p1, jv q2, .second, iv 1, rv b48] []))
    refine own_via (fun k => XS.aload X48.here hx rfl (hb hby at_19) rfl rfl  (XS.iconst X48.here hx rfl (hb hby at_21) (XS.lloadN X48.here hx rfl (hb hby at_22) rfl  (XS.l2i X48.here hx rfl (hb hby at_23) rfl k)))) ?_
    show own_Go p e below s _ _ (T48.setTop (mkF m 24 #[jv q0, .second, iv p1, jv q2, .second, iv 1, rv b48] [(.int (q2.toInt32)), (.int 0), (.ref b48)]))
    refine own_via (fun k => XS.i2b X48.here hx rfl (hb hby at_24) rfl k) ?_
    show own_Go p e below s _ _ (T48.setTop (mkF m 25 #[jv q0, .second, iv p1, jv q2, .second, iv 1, rv b48] [(.int ((q2.toInt32).toInt8.toInt32)), (.int 0), (.ref b48)]))
    obtain ⟨z52, hz52⟩ : ∃ z : Int32, z = ((q2.toInt32).toInt8.toInt32) := ⟨_, rfl⟩
    rw [← hz52]
    show own_Go p e below s _ _ (T48.setTop (mkF m 25 #[jv q0, .second, iv p1, jv q2, .second, iv 1, rv b48] [(.int z52), (.int 0), (.ref b48)]))
    obtain ⟨cl53, Ar53, q53, S53, NN53, H53, G53⟩ := id B51
    have hin53 : ¬ ((0 : Int32) < 0 ∨ cl53.slots.size ≤ ((0 : Int32)).toNatClampNeg) := inb_of S53 ⟨by decide, by decide⟩
    obtain ⟨T53, h53, X53, e53, W53, st53⟩ := stB X48 hx hZ e48 Ar53 (j := (0 : Int32)) hin53 (g := (mkF m 25 #[jv q0, .second, iv p1, jv q2, .second, iv 1, rv b48] [(.int z52), (.int 0), (.ref b48)])) rfl rfl (hb hby at_25)
    refine own_via (fun k => st53 _ k) ?_
    show own_Go p e below s _ _ (T53.setTop (mkF m 26 #[jv q0, .second, iv p1, jv q2, .second, iv 1, rv b48] []))
    have B54 : Arv Z h53 b48 k48 .byte (9 : Int32) [(.int (nar .byte z52)), (.int 0), (.int 0), (.int 0), (.int 0), (.int 0), (.int 0), (.int 0), (.int 0)] (.int 0) := Arv.set Ar53 q53 S53 NN53 H53 G53 (fits_nar_byte _) W53 0 rfl (Nat.le_of_ble_eq_true rfl)
    have N55 := Fr.snoc X53 N0 g49
    have Z56 : n0 ≤ h53.size := Nat.le_trans Z50 (Keep.of_wr W53).1
    refine own_via (fun k => XS.iload X53.here hx rfl (hb hby at_26) rfl  (XS.iconst X53.here hx rfl (hb hby at_28) k)) ?_
    show own_Go p e below s _ _ (T53.setTop (mkF m 29 #[jv q0, .second, iv p1, jv q2, .second, iv 1, rv b48] [(.int 1), (.int 1)]))
    refine own_via (fun k => XS.icmpYes X53.here hx rfl (pc0 := 29) (pc' := 42) rfl (hb hby at_29) rfl (by decide) (by decide) (by decide) k) ?_
    show own_Go p e below s _ _ (T53.setTop (mkF m 42 #[jv q0, .second, iv p1, jv q2, .second, iv 1, rv b48] []))
    refine own_via (fun k => XS.iload X53.here hx rfl (hb hby at_42) rfl  (XS.iconst X53.here hx rfl (hb hby at_44) k)) ?_
    show own_Go p e below s _ _ (T53.setTop (mkF m 45 #[jv q0, .second, iv p1, jv q2, .second, iv 1, rv b48] [(.int 2), (.int 1)]))
    refine own_via (fun k => XS.icmpYes X53.here hx rfl (pc0 := 45) (pc' := 58) rfl (hb hby at_45) rfl (by decide) (by decide) (by decide) k) ?_
    show own_Go p e below s _ _ (T53.setTop (mkF m 58 #[jv q0, .second, iv p1, jv q2, .second, iv 1, rv b48] []))
    refine own_via (fun k => XS.aload X53.here hx rfl (hb hby at_58) rfl rfl  (XS.iload X53.here hx rfl (hb hby at_60) rfl  (XS.lloadN X53.here hx rfl (hb hby at_62) rfl  (XS.bipush X53.here hx rfl (hb hby at_63) k)))) ?_
    show own_Go p e below s _ _ (T53.setTop (mkF m 65 #[jv q0, .second, iv p1, jv q2, .second, iv 1, rv b48] [(.int 56), (.long q0), (.int 1), (.ref b48)]))
    refine own_via (fun k => XS.lushr X53.here hx rfl (hb hby at_65) rfl (XS.l2i X53.here hx rfl (hb hby at_66) rfl (XS.i2b X53.here hx rfl (hb hby at_67) rfl k))) ?_
    show own_Go p e below s _ _ (T53.setTop (mkF m 68 #[jv q0, .second, iv p1, jv q2, .second, iv 1, rv b48] [(.int ((((q0.toUInt64 >>> ((56 : Int32) &&& 0x3f).toInt64.toUInt64).toInt64).toInt32).toInt8.toInt32)), (.int 1), (.ref b48)]))
    obtain ⟨z57, hz57⟩ : ∃ z : Int32, z = ((((q0.toUInt64 >>> ((56 : Int32) &&& 0x3f).toInt64.toUInt64).toInt64).toInt32).toInt8.toInt32) := ⟨_, rfl⟩
    rw [← hz57]
    show own_Go p e below s _ _ (T53.setTop (mkF m 68 #[jv q0, .second, iv p1, jv q2, .second, iv 1, rv b48] [(.int z57), (.int 1), (.ref b48)]))
    obtain ⟨cl58, Ar58, q58, S58, NN58, H58, G58⟩ := id B54
    have hin58 : ¬ ((1 : Int32) < 0 ∨ cl58.slots.size ≤ ((1 : Int32)).toNatClampNeg) := inb_of S58 ⟨by decide, by decide⟩
    obtain ⟨T58, h58, X58, e58, W58, st58⟩ := stB X53 hx hZ e53 Ar58 (j := (1 : Int32)) hin58 (g := (mkF m 68 #[jv q0, .second, iv p1, jv q2, .second, iv 1, rv b48] [(.int z57), (.int 1), (.ref b48)])) rfl rfl (hb hby at_68)
    refine own_via (fun k => st58 _ k) ?_
    show own_Go p e below s _ _ (T58.setTop (mkF m 69 #[jv q0, .second, iv p1, jv q2, .second, iv 1, rv b48] []))
    have B59 : Arv Z h58 b48 k48 .byte (9 : Int32) [(.int (nar .byte z52)), (.int (nar .byte z57)), (.int 0), (.int 0), (.int 0), (.int 0), (.int 0), (.int 0), (.int 0)] (.int 0) := Arv.set Ar58 q58 S58 NN58 H58 G58 (fits_nar_byte _) W58 1 rfl (Nat.le_of_ble_eq_true rfl)
    have N60 := Fr.snoc X58 N55 g49
    have Z61 : n0 ≤ h58.size := Nat.le_trans Z56 (Keep.of_wr W58).1
    refine own_via (fun k => XS.aload X58.here hx rfl (hb hby at_69) rfl rfl  (XS.iload X58.here hx rfl (hb hby at_71) rfl  (XS.iconst X58.here hx rfl (hb hby at_73) (XS.iadd X58.here hx rfl (hb hby at_74) rfl k)))) ?_
    show own_Go p e below s _ _ (T58.setTop (mkF m 75 #[jv q0, .second, iv p1, jv q2, .second, iv 1, rv b48] [(.int 2), (.ref b48)]))
    refine own_via (fun k => XS.lloadN X58.here hx rfl (hb hby at_75) rfl  (XS.bipush X58.here hx rfl (hb hby at_76) (XS.lushr X58.here hx rfl (hb hby at_78) rfl (XS.l2i X58.here hx rfl (hb hby at_79) rfl k)))) ?_
    show own_Go p e below s _ _ (T58.setTop (mkF m 80 #[jv q0, .second, iv p1, jv q2, .second, iv 1, rv b48] [(.int (((q0.toUInt64 >>> ((48 : Int32) &&& 0x3f).toInt64.toUInt64).toInt64).toInt32)), (.int 2), (.ref b48)]))
    refine own_via (fun k => XS.i2b X58.here hx rfl (hb hby at_80) rfl k) ?_
    show own_Go p e below s _ _ (T58.setTop (mkF m 81 #[jv q0, .second, iv p1, jv q2, .second, iv 1, rv b48] [(.int ((((q0.toUInt64 >>> ((48 : Int32) &&& 0x3f).toInt64.toUInt64).toInt64).toInt32).toInt8.toInt32)), (.int 2), (.ref b48)]))
    obtain ⟨z62, hz62⟩ : ∃ z : Int32, z = ((((q0.toUInt64 >>> ((48 : Int32) &&& 0x3f).toInt64.toUInt64).toInt64).toInt32).toInt8.toInt32) := ⟨_, rfl⟩
    rw [← hz62]
    show own_Go p e below s _ _ (T58.setTop (mkF m 81 #[jv q0, .second, iv p1, jv q2, .second, iv 1, rv b48] [(.int z62), (.int 2), (.ref b48)]))
    obtain ⟨cl63, Ar63, q63, S63, NN63, H63, G63⟩ := id B59
    have hin63 : ¬ ((2 : Int32) < 0 ∨ cl63.slots.size ≤ ((2 : Int32)).toNatClampNeg) := inb_of S63 ⟨by decide, by decide⟩
    obtain ⟨T63, h63, X63, e63, W63, st63⟩ := stB X58 hx hZ e58 Ar63 (j := (2 : Int32)) hin63 (g := (mkF m 81 #[jv q0, .second, iv p1, jv q2, .second, iv 1, rv b48] [(.int z62), (.int 2), (.ref b48)])) rfl rfl (hb hby at_81)
    refine own_via (fun k => st63 _ k) ?_
    show own_Go p e below s _ _ (T63.setTop (mkF m 82 #[jv q0, .second, iv p1, jv q2, .second, iv 1, rv b48] []))
    have B64 : Arv Z h63 b48 k48 .byte (9 : Int32) [(.int (nar .byte z52)), (.int (nar .byte z57)), (.int (nar .byte z62)), (.int 0), (.int 0), (.int 0), (.int 0), (.int 0), (.int 0)] (.int 0) := Arv.set Ar63 q63 S63 NN63 H63 G63 (fits_nar_byte _) W63 2 rfl (Nat.le_of_ble_eq_true rfl)
    have N65 := Fr.snoc X63 N60 g49
    have Z66 : n0 ≤ h63.size := Nat.le_trans Z61 (Keep.of_wr W63).1
    refine own_via (fun k => XS.aload X63.here hx rfl (hb hby at_82) rfl rfl  (XS.iload X63.here hx rfl (hb hby at_84) rfl  (XS.iconst X63.here hx rfl (hb hby at_86) (XS.iadd X63.here hx rfl (hb hby at_87) rfl k)))) ?_
    show own_Go p e below s _ _ (T63.setTop (mkF m 88 #[jv q0, .second, iv p1, jv q2, .second, iv 1, rv b48] [(.int 3), (.ref b48)]))
    refine own_via (fun k => XS.lloadN X63.here hx rfl (hb hby at_88) rfl  (XS.bipush X63.here hx rfl (hb hby at_89) (XS.lushr X63.here hx rfl (hb hby at_91) rfl (XS.l2i X63.here hx rfl (hb hby at_92) rfl k)))) ?_
    show own_Go p e below s _ _ (T63.setTop (mkF m 93 #[jv q0, .second, iv p1, jv q2, .second, iv 1, rv b48] [(.int (((q0.toUInt64 >>> ((40 : Int32) &&& 0x3f).toInt64.toUInt64).toInt64).toInt32)), (.int 3), (.ref b48)]))
    refine own_via (fun k => XS.i2b X63.here hx rfl (hb hby at_93) rfl k) ?_
    show own_Go p e below s _ _ (T63.setTop (mkF m 94 #[jv q0, .second, iv p1, jv q2, .second, iv 1, rv b48] [(.int ((((q0.toUInt64 >>> ((40 : Int32) &&& 0x3f).toInt64.toUInt64).toInt64).toInt32).toInt8.toInt32)), (.int 3), (.ref b48)]))
    obtain ⟨z67, hz67⟩ : ∃ z : Int32, z = ((((q0.toUInt64 >>> ((40 : Int32) &&& 0x3f).toInt64.toUInt64).toInt64).toInt32).toInt8.toInt32) := ⟨_, rfl⟩
    rw [← hz67]
    show own_Go p e below s _ _ (T63.setTop (mkF m 94 #[jv q0, .second, iv p1, jv q2, .second, iv 1, rv b48] [(.int z67), (.int 3), (.ref b48)]))
    obtain ⟨cl68, Ar68, q68, S68, NN68, H68, G68⟩ := id B64
    have hin68 : ¬ ((3 : Int32) < 0 ∨ cl68.slots.size ≤ ((3 : Int32)).toNatClampNeg) := inb_of S68 ⟨by decide, by decide⟩
    obtain ⟨T68, h68, X68, e68, W68, st68⟩ := stB X63 hx hZ e63 Ar68 (j := (3 : Int32)) hin68 (g := (mkF m 94 #[jv q0, .second, iv p1, jv q2, .second, iv 1, rv b48] [(.int z67), (.int 3), (.ref b48)])) rfl rfl (hb hby at_94)
    refine own_via (fun k => st68 _ k) ?_
    show own_Go p e below s _ _ (T68.setTop (mkF m 95 #[jv q0, .second, iv p1, jv q2, .second, iv 1, rv b48] []))
    have B69 : Arv Z h68 b48 k48 .byte (9 : Int32) [(.int (nar .byte z52)), (.int (nar .byte z57)), (.int (nar .byte z62)), (.int (nar .byte z67)), (.int 0), (.int 0), (.int 0), (.int 0), (.int 0)] (.int 0) := Arv.set Ar68 q68 S68 NN68 H68 G68 (fits_nar_byte _) W68 3 rfl (Nat.le_of_ble_eq_true rfl)
    have N70 := Fr.snoc X68 N65 g49
    have Z71 : n0 ≤ h68.size := Nat.le_trans Z66 (Keep.of_wr W68).1
    refine own_via (fun k => XS.aload X68.here hx rfl (hb hby at_95) rfl rfl  (XS.iload X68.here hx rfl (hb hby at_97) rfl  (XS.iconst X68.here hx rfl (hb hby at_99) (XS.iadd X68.here hx rfl (hb hby at_100) rfl k)))) ?_
    show own_Go p e below s _ _ (T68.setTop (mkF m 101 #[jv q0, .second, iv p1, jv q2, .second, iv 1, rv b48] [(.int 4), (.ref b48)]))
    refine own_via (fun k => XS.lloadN X68.here hx rfl (hb hby at_101) rfl  (XS.bipush X68.here hx rfl (hb hby at_102) (XS.lushr X68.here hx rfl (hb hby at_104) rfl (XS.l2i X68.here hx rfl (hb hby at_105) rfl k)))) ?_
    show own_Go p e below s _ _ (T68.setTop (mkF m 106 #[jv q0, .second, iv p1, jv q2, .second, iv 1, rv b48] [(.int (((q0.toUInt64 >>> ((32 : Int32) &&& 0x3f).toInt64.toUInt64).toInt64).toInt32)), (.int 4), (.ref b48)]))
    refine own_via (fun k => XS.i2b X68.here hx rfl (hb hby at_106) rfl k) ?_
    show own_Go p e below s _ _ (T68.setTop (mkF m 107 #[jv q0, .second, iv p1, jv q2, .second, iv 1, rv b48] [(.int ((((q0.toUInt64 >>> ((32 : Int32) &&& 0x3f).toInt64.toUInt64).toInt64).toInt32).toInt8.toInt32)), (.int 4), (.ref b48)]))
    obtain ⟨z72, hz72⟩ : ∃ z : Int32, z = ((((q0.toUInt64 >>> ((32 : Int32) &&& 0x3f).toInt64.toUInt64).toInt64).toInt32).toInt8.toInt32) := ⟨_, rfl⟩
    rw [← hz72]
    show own_Go p e below s _ _ (T68.setTop (mkF m 107 #[jv q0, .second, iv p1, jv q2, .second, iv 1, rv b48] [(.int z72), (.int 4), (.ref b48)]))
    obtain ⟨cl73, Ar73, q73, S73, NN73, H73, G73⟩ := id B69
    have hin73 : ¬ ((4 : Int32) < 0 ∨ cl73.slots.size ≤ ((4 : Int32)).toNatClampNeg) := inb_of S73 ⟨by decide, by decide⟩
    obtain ⟨T73, h73, X73, e73, W73, st73⟩ := stB X68 hx hZ e68 Ar73 (j := (4 : Int32)) hin73 (g := (mkF m 107 #[jv q0, .second, iv p1, jv q2, .second, iv 1, rv b48] [(.int z72), (.int 4), (.ref b48)])) rfl rfl (hb hby at_107)
    refine own_via (fun k => st73 _ k) ?_
    show own_Go p e below s _ _ (T73.setTop (mkF m 108 #[jv q0, .second, iv p1, jv q2, .second, iv 1, rv b48] []))
    have B74 : Arv Z h73 b48 k48 .byte (9 : Int32) [(.int (nar .byte z52)), (.int (nar .byte z57)), (.int (nar .byte z62)), (.int (nar .byte z67)), (.int (nar .byte z72)), (.int 0), (.int 0), (.int 0), (.int 0)] (.int 0) := Arv.set Ar73 q73 S73 NN73 H73 G73 (fits_nar_byte _) W73 4 rfl (Nat.le_of_ble_eq_true rfl)
    have N75 := Fr.snoc X73 N70 g49
    have Z76 : n0 ≤ h73.size := Nat.le_trans Z71 (Keep.of_wr W73).1
    refine own_via (fun k => XS.aload X73.here hx rfl (hb hby at_108) rfl rfl  (XS.iload X73.here hx rfl (hb hby at_110) rfl  (XS.iconst X73.here hx rfl (hb hby at_112) (XS.iadd X73.here hx rfl (hb hby at_113) rfl k)))) ?_
    show own_Go p e below s _ _ (T73.setTop (mkF m 114 #[jv q0, .second, iv p1, jv q2, .second, iv 1, rv b48] [(.int 5), (.ref b48)]))
    refine own_via (fun k => XS.lloadN X73.here hx rfl (hb hby at_114) rfl  (XS.bipush X73.here hx rfl (hb hby at_115) (XS.lushr X73.here hx rfl (hb hby at_117) rfl (XS.l2i X73.here hx rfl (hb hby at_118) rfl k)))) ?_
    show own_Go p e below s _ _ (T73.setTop (mkF m 119 #[jv q0, .second, iv p1, jv q2, .second, iv 1, rv b48] [(.int (((q0.toUInt64 >>> ((24 : Int32) &&& 0x3f).toInt64.toUInt64).toInt64).toInt32)), (.int 5), (.ref b48)]))
    refine own_via (fun k => XS.i2b X73.here hx rfl (hb hby at_119) rfl k) ?_
    show own_Go p e below s _ _ (T73.setTop (mkF m 120 #[jv q0, .second, iv p1, jv q2, .second, iv 1, rv b48] [(.int ((((q0.toUInt64 >>> ((24 : Int32) &&& 0x3f).toInt64.toUInt64).toInt64).toInt32).toInt8.toInt32)), (.int 5), (.ref b48)]))
    obtain ⟨z77, hz77⟩ : ∃ z : Int32, z = ((((q0.toUInt64 >>> ((24 : Int32) &&& 0x3f).toInt64.toUInt64).toInt64).toInt32).toInt8.toInt32) := ⟨_, rfl⟩
    rw [← hz77]
    show own_Go p e below s _ _ (T73.setTop (mkF m 120 #[jv q0, .second, iv p1, jv q2, .second, iv 1, rv b48] [(.int z77), (.int 5), (.ref b48)]))
    obtain ⟨cl78, Ar78, q78, S78, NN78, H78, G78⟩ := id B74
    have hin78 : ¬ ((5 : Int32) < 0 ∨ cl78.slots.size ≤ ((5 : Int32)).toNatClampNeg) := inb_of S78 ⟨by decide, by decide⟩
    obtain ⟨T78, h78, X78, e78, W78, st78⟩ := stB X73 hx hZ e73 Ar78 (j := (5 : Int32)) hin78 (g := (mkF m 120 #[jv q0, .second, iv p1, jv q2, .second, iv 1, rv b48] [(.int z77), (.int 5), (.ref b48)])) rfl rfl (hb hby at_120)
    refine own_via (fun k => st78 _ k) ?_
    show own_Go p e below s _ _ (T78.setTop (mkF m 121 #[jv q0, .second, iv p1, jv q2, .second, iv 1, rv b48] []))
    have B79 : Arv Z h78 b48 k48 .byte (9 : Int32) [(.int (nar .byte z52)), (.int (nar .byte z57)), (.int (nar .byte z62)), (.int (nar .byte z67)), (.int (nar .byte z72)), (.int (nar .byte z77)), (.int 0), (.int 0), (.int 0)] (.int 0) := Arv.set Ar78 q78 S78 NN78 H78 G78 (fits_nar_byte _) W78 5 rfl (Nat.le_of_ble_eq_true rfl)
    have N80 := Fr.snoc X78 N75 g49
    have Z81 : n0 ≤ h78.size := Nat.le_trans Z76 (Keep.of_wr W78).1
    refine own_via (fun k => XS.aload X78.here hx rfl (hb hby at_121) rfl rfl  (XS.iload X78.here hx rfl (hb hby at_123) rfl  (XS.iconst X78.here hx rfl (hb hby at_125) (XS.iadd X78.here hx rfl (hb hby at_126) rfl k)))) ?_
    show own_Go p e below s _ _ (T78.setTop (mkF m 127 #[jv q0, .second, iv p1, jv q2, .second, iv 1, rv b48] [(.int 6), (.ref b48)]))
    refine own_via (fun k => XS.lloadN X78.here hx rfl (hb hby at_127) rfl  (XS.bipush X78.here hx rfl (hb hby at_128) (XS.lushr X78.here hx rfl (hb hby at_130) rfl (XS.l2i X78.here hx rfl (hb hby at_131) rfl k)))) ?_
    show own_Go p e below s _ _ (T78.setTop (mkF m 132 #[jv q0, .second, iv p1, jv q2, .second, iv 1, rv b48] [(.int (((q0.toUInt64 >>> ((16 : Int32) &&& 0x3f).toInt64.toUInt64).toInt64).toInt32)), (.int 6), (.ref b48)]))
    refine own_via (fun k => XS.i2b X78.here hx rfl (hb hby at_132) rfl k) ?_
    show own_Go p e below s _ _ (T78.setTop (mkF m 133 #[jv q0, .second, iv p1, jv q2, .second, iv 1, rv b48] [(.int ((((q0.toUInt64 >>> ((16 : Int32) &&& 0x3f).toInt64.toUInt64).toInt64).toInt32).toInt8.toInt32)), (.int 6), (.ref b48)]))
    obtain ⟨z82, hz82⟩ : ∃ z : Int32, z = ((((q0.toUInt64 >>> ((16 : Int32) &&& 0x3f).toInt64.toUInt64).toInt64).toInt32).toInt8.toInt32) := ⟨_, rfl⟩
    rw [← hz82]
    show own_Go p e below s _ _ (T78.setTop (mkF m 133 #[jv q0, .second, iv p1, jv q2, .second, iv 1, rv b48] [(.int z82), (.int 6), (.ref b48)]))
    obtain ⟨cl83, Ar83, q83, S83, NN83, H83, G83⟩ := id B79
    have hin83 : ¬ ((6 : Int32) < 0 ∨ cl83.slots.size ≤ ((6 : Int32)).toNatClampNeg) := inb_of S83 ⟨by decide, by decide⟩
    obtain ⟨T83, h83, X83, e83, W83, st83⟩ := stB X78 hx hZ e78 Ar83 (j := (6 : Int32)) hin83 (g := (mkF m 133 #[jv q0, .second, iv p1, jv q2, .second, iv 1, rv b48] [(.int z82), (.int 6), (.ref b48)])) rfl rfl (hb hby at_133)
    refine own_via (fun k => st83 _ k) ?_
    show own_Go p e below s _ _ (T83.setTop (mkF m 134 #[jv q0, .second, iv p1, jv q2, .second, iv 1, rv b48] []))
    have B84 : Arv Z h83 b48 k48 .byte (9 : Int32) [(.int (nar .byte z52)), (.int (nar .byte z57)), (.int (nar .byte z62)), (.int (nar .byte z67)), (.int (nar .byte z72)), (.int (nar .byte z77)), (.int (nar .byte z82)), (.int 0), (.int 0)] (.int 0) := Arv.set Ar83 q83 S83 NN83 H83 G83 (fits_nar_byte _) W83 6 rfl (Nat.le_of_ble_eq_true rfl)
    have N85 := Fr.snoc X83 N80 g49
    have Z86 : n0 ≤ h83.size := Nat.le_trans Z81 (Keep.of_wr W83).1
    refine own_via (fun k => XS.aload X83.here hx rfl (hb hby at_134) rfl rfl  (XS.iload X83.here hx rfl (hb hby at_136) rfl  (XS.bipush X83.here hx rfl (hb hby at_138) (XS.iadd X83.here hx rfl (hb hby at_140) rfl k)))) ?_
    show own_Go p e below s _ _ (T83.setTop (mkF m 141 #[jv q0, .second, iv p1, jv q2, .second, iv 1, rv b48] [(.int 7), (.ref b48)]))
    refine own_via (fun k => XS.lloadN X83.here hx rfl (hb hby at_141) rfl  (XS.bipush X83.here hx rfl (hb hby at_142) (XS.lushr X83.here hx rfl (hb hby at_144) rfl (XS.l2i X83.here hx rfl (hb hby at_145) rfl k)))) ?_
    show own_Go p e below s _ _ (T83.setTop (mkF m 146 #[jv q0, .second, iv p1, jv q2, .second, iv 1, rv b48] [(.int (((q0.toUInt64 >>> ((8 : Int32) &&& 0x3f).toInt64.toUInt64).toInt64).toInt32)), (.int 7), (.ref b48)]))
    refine own_via (fun k => XS.i2b X83.here hx rfl (hb hby at_146) rfl k) ?_
    show own_Go p e below s _ _ (T83.setTop (mkF m 147 #[jv q0, .second, iv p1, jv q2, .second, iv 1, rv b48] [(.int ((((q0.toUInt64 >>> ((8 : Int32) &&& 0x3f).toInt64.toUInt64).toInt64).toInt32).toInt8.toInt32)), (.int 7), (.ref b48)]))
    obtain ⟨z87, hz87⟩ : ∃ z : Int32, z = ((((q0.toUInt64 >>> ((8 : Int32) &&& 0x3f).toInt64.toUInt64).toInt64).toInt32).toInt8.toInt32) := ⟨_, rfl⟩
    rw [← hz87]
    show own_Go p e below s _ _ (T83.setTop (mkF m 147 #[jv q0, .second, iv p1, jv q2, .second, iv 1, rv b48] [(.int z87), (.int 7), (.ref b48)]))
    obtain ⟨cl88, Ar88, q88, S88, NN88, H88, G88⟩ := id B84
    have hin88 : ¬ ((7 : Int32) < 0 ∨ cl88.slots.size ≤ ((7 : Int32)).toNatClampNeg) := inb_of S88 ⟨by decide, by decide⟩
    obtain ⟨T88, h88, X88, e88, W88, st88⟩ := stB X83 hx hZ e83 Ar88 (j := (7 : Int32)) hin88 (g := (mkF m 147 #[jv q0, .second, iv p1, jv q2, .second, iv 1, rv b48] [(.int z87), (.int 7), (.ref b48)])) rfl rfl (hb hby at_147)
    refine own_via (fun k => st88 _ k) ?_
    show own_Go p e below s _ _ (T88.setTop (mkF m 148 #[jv q0, .second, iv p1, jv q2, .second, iv 1, rv b48] []))
    have B89 : Arv Z h88 b48 k48 .byte (9 : Int32) [(.int (nar .byte z52)), (.int (nar .byte z57)), (.int (nar .byte z62)), (.int (nar .byte z67)), (.int (nar .byte z72)), (.int (nar .byte z77)), (.int (nar .byte z82)), (.int (nar .byte z87)), (.int 0)] (.int 0) := Arv.set Ar88 q88 S88 NN88 H88 G88 (fits_nar_byte _) W88 7 rfl (Nat.le_of_ble_eq_true rfl)
    have N90 := Fr.snoc X88 N85 g49
    have Z91 : n0 ≤ h88.size := Nat.le_trans Z86 (Keep.of_wr W88).1
    refine own_via (fun k => XS.aload X88.here hx rfl (hb hby at_148) rfl rfl  (XS.iload X88.here hx rfl (hb hby at_150) rfl  (XS.bipush X88.here hx rfl (hb hby at_152) (XS.iadd X88.here hx rfl (hb hby at_154) rfl k)))) ?_
    show own_Go p e below s _ _ (T88.setTop (mkF m 155 #[jv q0, .second, iv p1, jv q2, .second, iv 1, rv b48] [(.int 8), (.ref b48)]))
    refine own_via (fun k => XS.lloadN X88.here hx rfl (hb hby at_155) rfl  (XS.l2i X88.here hx rfl (hb hby at_156) rfl (XS.i2b X88.here hx rfl (hb hby at_157) rfl k))) ?_
    show own_Go p e below s _ _ (T88.setTop (mkF m 158 #[jv q0, .second, iv p1, jv q2, .second, iv 1, rv b48] [(.int ((q0.toInt32).toInt8.toInt32)), (.int 8), (.ref b48)]))
    obtain ⟨z92, hz92⟩ : ∃ z : Int32, z = ((q0.toInt32).toInt8.toInt32) := ⟨_, rfl⟩
    rw [← hz92]
    show own_Go p e below s _ _ (T88.setTop (mkF m 158 #[jv q0, .second, iv p1, jv q2, .second, iv 1, rv b48] [(.int z92), (.int 8), (.ref b48)]))
    obtain ⟨cl93, Ar93, q93, S93, NN93, H93, G93⟩ := id B89
    have hin93 : ¬ ((8 : Int32) < 0 ∨ cl93.slots.size ≤ ((8 : Int32)).toNatClampNeg) := inb_of S93 ⟨by decide, by decide⟩
    obtain ⟨T93, h93, X93, e93, W93, st93⟩ := stB X88 hx hZ e88 Ar93 (j := (8 : Int32)) hin93 (g := (mkF m 158 #[jv q0, .second, iv p1, jv q2, .second, iv 1, rv b48] [(.int z92), (.int 8), (.ref b48)])) rfl rfl (hb hby at_158)
    refine own_via (fun k => st93 _ k) ?_
    show own_Go p e below s _ _ (T93.setTop (mkF m 159 #[jv q0, .second, iv p1, jv q2, .second, iv 1, rv b48] []))
    have B94 : Arv Z h93 b48 k48 .byte (9 : Int32) [(.int (nar .byte z52)), (.int (nar .byte z57)), (.int (nar .byte z62)), (.int (nar .byte z67)), (.int (nar .byte z72)), (.int (nar .byte z77)), (.int (nar .byte z82)), (.int (nar .byte z87)), (.int (nar .byte z92))] (.int 0) := Arv.set Ar93 q93 S93 NN93 H93 G93 (fits_nar_byte _) W93 8 rfl (Nat.le_of_ble_eq_true rfl)
    have N95 := Fr.snoc X93 N90 g49
    have Z96 : n0 ≤ h93.size := Nat.le_trans Z91 (Keep.of_wr W93).1
    refine own_via (fun k => XS.aload X93.here hx rfl (hb hby at_159) rfl rfl  k) ?_
    show own_Go p e below s _ _ (T93.setTop (mkF m 161 #[jv q0, .second, iv p1, jv q2, .second, iv 1, rv b48] [(.ref b48)]))
    obtain ⟨_, _, ⟨T97, L97, k97, n97⟩, -, X97, ⟨Lc97, hQ97, l97, y97, z97⟩, st97⟩ := Jvm.LawKit.callS X93 hx (y := (⟨"com/example/dani/dani/core/Key", "trailingNumber", "([B)J"⟩ : MethodName)) hown (mvT hZ (hw _ (List.mem_of_getElem? (i := 1) rfl))) (mvT hZ (hw _ (List.mem_of_getElem? (i := 2) rfl))) (mvT hZ (hw _ (List.mem_of_getElem? (i := 3) rfl))) (mvT hZ (hw _ (List.mem_of_getElem? (i := 4) rfl))) (by decide) (backOf (W := 0) (rm1_9 l Z aw hw [] b48 k48 (nar .byte z52) (nar .byte z57) (nar .byte z62) (nar .byte z67) (nar .byte z72) (nar .byte z77) (nar .byte z82) (nar .byte z87) (nar .byte z92) h93 n0 Z96 B94) hZ (hw _ (List.mem_of_getElem? (i := 4) rfl)) (hw _ (List.mem_of_getElem? (i := 3) rfl)) (by decide) (by decide)) (g := (mkF m 161 #[jv q0, .second, iv p1, jv q2, .second, iv 1, rv b48] [(.ref b48)])) rfl (by rw [hml]; rfl) (argsL := [(.ref b48)]) (rest := []) (lenOf pd_0 rfl) rfl (by show 2 * 0 + _ ≤ _; exact Nat.le_of_eq rfl) (hb hby at_161) (fun _ _ => ⟨rfl, e93, (by decide : 1 + 0 ≤ _), (by decide : 9 + 0 ≤ _)⟩)
    dsimp only [Pt.U, Pt.locs, Pt.cells, Pt.slots] at X97 l97 y97 z97 st97 hQ97
    subst l97 y97 z97
    obtain ⟨rfl, N97q, eh97⟩ := hQ97
    have N98 := Fr.app N95 N97q
    refine own_via (fun k => st97 _ k) ?_
    show own_Go p e below s _ _ (T97.setTop (mkF m 164 #[jv q0, .second, iv p1, jv q2, .second, iv 1, rv b48] [(.long (own_f1_9 (nar .byte z57) (nar .byte z62) (nar .byte z67) (nar .byte z72) (nar .byte z77) (nar .byte z82) (nar .byte z87) (nar .byte z92)))]))
    refine own_via (fun k => XS.lloadN X97.here hx rfl (hb hby at_164) rfl  (XS.lcmp X97.here hx rfl (hb hby at_165) rfl k)) ?_
    show own_Go p e below s _ _ (T97.setTop (mkF m 166 #[jv q0, .second, iv p1, jv q2, .second, iv 1, rv b48] [(.int (lcmpW (own_f1_9 (nar .byte z57) (nar .byte z62) (nar .byte z67) (nar .byte z72) (nar .byte z77) (nar .byte z82) (nar .byte z87) (nar .byte z92)) q0))]))
    refine own_via (fun k => XS.ifNo X97.here hx rfl (hb hby at_166) rfl ((if0 _ _).trans (teq ((lw_eq _ _).mpr (own_law1 q0 p1 z57 hz57 z62 hz62 z67 hz67 z72 hz72 z77 hz77 z82 hz82 z87 hz87 z92 hz92 hl1))).2) k) ?_
    show own_Go p e below s _ _ (T97.setTop (mkF m 169 #[jv q0, .second, iv p1, jv q2, .second, iv 1, rv b48] []))
    refine own_via (fun k => XS.iconst X97.here hx rfl (hb hby at_169) (XS.goto X97.here hx rfl (pc0 := 170) (pc' := 174) rfl (hb hby at_170) (by decide) (by decide) k)) ?_
    show own_Go p e below s _ _ (T97.setTop (mkF m 174 #[jv q0, .second, iv p1, jv q2, .second, iv 1, rv b48] [(.int 1)]))
    exact own_retN X97 hx hlk (t := .boolean) Bd.returns (by simp) (hb hby at_174) (Q := (Q0 Z q0 p1 q2 h0 n0)) ⟨rfl, N98⟩ (by decide) (by decide)
  · rw [hl1]
    show own_Go p e below s _ _ (s₁.setTop (mkF m 5 #[jv q0, .second, iv p1, jv q2, .second, iv 2, .unset] []))
    refine own_via (fun k => XS.bipush X0.here hx rfl (hb hby at_5) (XS.iload X0.here hx rfl (hb hby at_7) rfl  (XS.iadd X0.here hx rfl (hb hby at_9) rfl k))) ?_
    show own_Go p e below s _ _ (s₁.setTop (mkF m 10 #[jv q0, .second, iv p1, jv q2, .second, iv 2, .unset] [(.int 10)]))
    obtain ⟨T99, h99, k99, X99, e99, E99, A99, st99⟩ := newP X0 hx hZ (hw _ (List.mem_of_getElem? (i := 0) rfl)) e0 (g := (mkF m 10 #[jv q0, .second, iv p1, jv q2, .second, iv 2, .unset] [(.int 10)])) rfl (hb hby at_10) rfl (by decide) (cap := 10) (by decide) (by decide) (by decide) (by decide)
    obtain ⟨b99, g99⟩ : ∃ z, z = h0.size := ⟨_, rfl⟩
    rw [← g99] at A99 st99
    refine own_via (fun k => st99 _ k) ?_
    show own_Go p e below s _ _ (T99.setTop (mkF m 12 #[jv q0, .second, iv p1, jv q2, .second, iv 2, .unset] [(.ref b99)]))
    have g100 : n0 ≤ b99 := Nat.le_trans Z0 (Nat.le_of_eq g99.symm)
    have Z101 : n0 ≤ h99.size := Nat.le_trans Z0 E99.1
    have B102 : Arv Z h99 b99 k99 .byte (10 : Int32) [(.int 0), (.int 0), (.int 0), (.int 0), (.int 0), (.int 0), (.int 0), (.int 0), (.int 0), (.int 0)] (.int 0) := (Arv.new A99 (by decide)).pad (pad_rep [] (.int 0) 10)
    refine own_via (fun k => XS.astore X99.here hx rfl (hb hby at_12) rfl rfl (l' := #[jv q0, .second, iv p1, jv q2, .second, iv 2, rv b99]) rfl (XS.iload X99.here hx rfl (hb hby at_14) rfl  k)) ?_
    show own_Go p e below s _ _ (T99.setTop (mkF m 16 #[jv q0, .second, iv p1, jv q2, .second, iv 2, rv b99] [(.int 2)]))
    refine own_via (fun k => XS.ifNo X99.here hx rfl (hb hby at_16) rfl (by decide) k) ?_
    show own_Go p e below s _ _ (T99.setTop (mkF m 19 #[jv q0, .second, iv p1, jv q2, .second, iv 2, rv b99] []))
    refine own_via (fun k => XS.aload X99.here hx rfl (hb hby at_19) rfl rfl  (XS.iconst X99.here hx rfl (hb hby at_21) (XS.lloadN X99.here hx rfl (hb hby at_22) rfl  (XS.l2i X99.here hx rfl (hb hby at_23) rfl k)))) ?_
    show own_Go p e below s _ _ (T99.setTop (mkF m 24 #[jv q0, .second, iv p1, jv q2, .second, iv 2, rv b99] [(.int (q2.toInt32)), (.int 0), (.ref b99)]))
    refine own_via (fun k => XS.i2b X99.here hx rfl (hb hby at_24) rfl k) ?_
    show own_Go p e below s _ _ (T99.setTop (mkF m 25 #[jv q0, .second, iv p1, jv q2, .second, iv 2, rv b99] [(.int ((q2.toInt32).toInt8.toInt32)), (.int 0), (.ref b99)]))
    obtain ⟨z103, hz103⟩ : ∃ z : Int32, z = ((q2.toInt32).toInt8.toInt32) := ⟨_, rfl⟩
    rw [← hz103]
    show own_Go p e below s _ _ (T99.setTop (mkF m 25 #[jv q0, .second, iv p1, jv q2, .second, iv 2, rv b99] [(.int z103), (.int 0), (.ref b99)]))
    obtain ⟨cl104, Ar104, q104, S104, NN104, H104, G104⟩ := id B102
    have hin104 : ¬ ((0 : Int32) < 0 ∨ cl104.slots.size ≤ ((0 : Int32)).toNatClampNeg) := inb_of S104 ⟨by decide, by decide⟩
    obtain ⟨T104, h104, X104, e104, W104, st104⟩ := stB X99 hx hZ e99 Ar104 (j := (0 : Int32)) hin104 (g := (mkF m 25 #[jv q0, .second, iv p1, jv q2, .second, iv 2, rv b99] [(.int z103), (.int 0), (.ref b99)])) rfl rfl (hb hby at_25)
    refine own_via (fun k => st104 _ k) ?_
    show own_Go p e below s _ _ (T104.setTop (mkF m 26 #[jv q0, .second, iv p1, jv q2, .second, iv 2, rv b99] []))
    have B105 : Arv Z h104 b99 k99 .byte (10 : Int32) [(.int (nar .byte z103)), (.int 0), (.int 0), (.int 0), (.int 0), (.int 0), (.int 0), (.int 0), (.int 0), (.int 0)] (.int 0) := Arv.set Ar104 q104 S104 NN104 H104 G104 (fits_nar_byte _) W104 0 rfl (Nat.le_of_ble_eq_true rfl)
    have N106 := Fr.snoc X104 N0 g100
    have Z107 : n0 ≤ h104.size := Nat.le_trans Z101 (Keep.of_wr W104).1
    refine own_via (fun k => XS.iload X104.here hx rfl (hb hby at_26) rfl  (XS.iconst X104.here hx rfl (hb hby at_28) k)) ?_
    show own_Go p e below s _ _ (T104.setTop (mkF m 29 #[jv q0, .second, iv p1, jv q2, .second, iv 2, rv b99] [(.int 1), (.int 2)]))
    refine own_via (fun k => XS.icmpNo X104.here hx rfl (hb hby at_29) rfl (by decide) k) ?_
    show own_Go p e below s _ _ (T104.setTop (mkF m 32 #[jv q0, .second, iv p1, jv q2, .second, iv 2, rv b99] []))
    refine own_via (fun k => XS.aload X104.here hx rfl (hb hby at_32) rfl rfl  (XS.iconst X104.here hx rfl (hb hby at_34) (XS.lloadN X104.here hx rfl (hb hby at_35) rfl  (XS.bipush X104.here hx rfl (hb hby at_36) k)))) ?_
    show own_Go p e below s _ _ (T104.setTop (mkF m 38 #[jv q0, .second, iv p1, jv q2, .second, iv 2, rv b99] [(.int 8), (.long q2), (.int 1), (.ref b99)]))
    refine own_via (fun k => XS.lushr X104.here hx rfl (hb hby at_38) rfl (XS.l2i X104.here hx rfl (hb hby at_39) rfl (XS.i2b X104.here hx rfl (hb hby at_40) rfl k))) ?_
    show own_Go p e below s _ _ (T104.setTop (mkF m 41 #[jv q0, .second, iv p1, jv q2, .second, iv 2, rv b99] [(.int ((((q2.toUInt64 >>> ((8 : Int32) &&& 0x3f).toInt64.toUInt64).toInt64).toInt32).toInt8.toInt32)), (.int 1), (.ref b99)]))
    obtain ⟨z108, hz108⟩ : ∃ z : Int32, z = ((((q2.toUInt64 >>> ((8 : Int32) &&& 0x3f).toInt64.toUInt64).toInt64).toInt32).toInt8.toInt32) := ⟨_, rfl⟩
    rw [← hz108]
    show own_Go p e below s _ _ (T104.setTop (mkF m 41 #[jv q0, .second, iv p1, jv q2, .second, iv 2, rv b99] [(.int z108), (.int 1), (.ref b99)]))
    obtain ⟨cl109, Ar109, q109, S109, NN109, H109, G109⟩ := id B105
    have hin109 : ¬ ((1 : Int32) < 0 ∨ cl109.slots.size ≤ ((1 : Int32)).toNatClampNeg) := inb_of S109 ⟨by decide, by decide⟩
    obtain ⟨T109, h109, X109, e109, W109, st109⟩ := stB X104 hx hZ e104 Ar109 (j := (1 : Int32)) hin109 (g := (mkF m 41 #[jv q0, .second, iv p1, jv q2, .second, iv 2, rv b99] [(.int z108), (.int 1), (.ref b99)])) rfl rfl (hb hby at_41)
    refine own_via (fun k => st109 _ k) ?_
    show own_Go p e below s _ _ (T109.setTop (mkF m 42 #[jv q0, .second, iv p1, jv q2, .second, iv 2, rv b99] []))
    have B110 : Arv Z h109 b99 k99 .byte (10 : Int32) [(.int (nar .byte z103)), (.int (nar .byte z108)), (.int 0), (.int 0), (.int 0), (.int 0), (.int 0), (.int 0), (.int 0), (.int 0)] (.int 0) := Arv.set Ar109 q109 S109 NN109 H109 G109 (fits_nar_byte _) W109 1 rfl (Nat.le_of_ble_eq_true rfl)
    have N111 := Fr.snoc X109 N106 g100
    have Z112 : n0 ≤ h109.size := Nat.le_trans Z107 (Keep.of_wr W109).1
    refine own_via (fun k => XS.iload X109.here hx rfl (hb hby at_42) rfl  (XS.iconst X109.here hx rfl (hb hby at_44) k)) ?_
    show own_Go p e below s _ _ (T109.setTop (mkF m 45 #[jv q0, .second, iv p1, jv q2, .second, iv 2, rv b99] [(.int 2), (.int 2)]))
    refine own_via (fun k => XS.icmpYes X109.here hx rfl (pc0 := 45) (pc' := 58) rfl (hb hby at_45) rfl (by decide) (by decide) (by decide) k) ?_
    show own_Go p e below s _ _ (T109.setTop (mkF m 58 #[jv q0, .second, iv p1, jv q2, .second, iv 2, rv b99] []))
    refine own_via (fun k => XS.aload X109.here hx rfl (hb hby at_58) rfl rfl  (XS.iload X109.here hx rfl (hb hby at_60) rfl  (XS.lloadN X109.here hx rfl (hb hby at_62) rfl  (XS.bipush X109.here hx rfl (hb hby at_63) k)))) ?_
    show own_Go p e below s _ _ (T109.setTop (mkF m 65 #[jv q0, .second, iv p1, jv q2, .second, iv 2, rv b99] [(.int 56), (.long q0), (.int 2), (.ref b99)]))
    refine own_via (fun k => XS.lushr X109.here hx rfl (hb hby at_65) rfl (XS.l2i X109.here hx rfl (hb hby at_66) rfl (XS.i2b X109.here hx rfl (hb hby at_67) rfl k))) ?_
    show own_Go p e below s _ _ (T109.setTop (mkF m 68 #[jv q0, .second, iv p1, jv q2, .second, iv 2, rv b99] [(.int ((((q0.toUInt64 >>> ((56 : Int32) &&& 0x3f).toInt64.toUInt64).toInt64).toInt32).toInt8.toInt32)), (.int 2), (.ref b99)]))
    obtain ⟨z113, hz113⟩ : ∃ z : Int32, z = ((((q0.toUInt64 >>> ((56 : Int32) &&& 0x3f).toInt64.toUInt64).toInt64).toInt32).toInt8.toInt32) := ⟨_, rfl⟩
    rw [← hz113]
    show own_Go p e below s _ _ (T109.setTop (mkF m 68 #[jv q0, .second, iv p1, jv q2, .second, iv 2, rv b99] [(.int z113), (.int 2), (.ref b99)]))
    obtain ⟨cl114, Ar114, q114, S114, NN114, H114, G114⟩ := id B110
    have hin114 : ¬ ((2 : Int32) < 0 ∨ cl114.slots.size ≤ ((2 : Int32)).toNatClampNeg) := inb_of S114 ⟨by decide, by decide⟩
    obtain ⟨T114, h114, X114, e114, W114, st114⟩ := stB X109 hx hZ e109 Ar114 (j := (2 : Int32)) hin114 (g := (mkF m 68 #[jv q0, .second, iv p1, jv q2, .second, iv 2, rv b99] [(.int z113), (.int 2), (.ref b99)])) rfl rfl (hb hby at_68)
    refine own_via (fun k => st114 _ k) ?_
    show own_Go p e below s _ _ (T114.setTop (mkF m 69 #[jv q0, .second, iv p1, jv q2, .second, iv 2, rv b99] []))
    have B115 : Arv Z h114 b99 k99 .byte (10 : Int32) [(.int (nar .byte z103)), (.int (nar .byte z108)), (.int (nar .byte z113)), (.int 0), (.int 0), (.int 0), (.int 0), (.int 0), (.int 0), (.int 0)] (.int 0) := Arv.set Ar114 q114 S114 NN114 H114 G114 (fits_nar_byte _) W114 2 rfl (Nat.le_of_ble_eq_true rfl)
    have N116 := Fr.snoc X114 N111 g100
    have Z117 : n0 ≤ h114.size := Nat.le_trans Z112 (Keep.of_wr W114).1
    refine own_via (fun k => XS.aload X114.here hx rfl (hb hby at_69) rfl rfl  (XS.iload X114.here hx rfl (hb hby at_71) rfl  (XS.iconst X114.here hx rfl (hb hby at_73) (XS.iadd X114.here hx rfl (hb hby at_74) rfl k)))) ?_
    show own_Go p e below s _ _ (T114.setTop (mkF m 75 #[jv q0, .second, iv p1, jv q2, .second, iv 2, rv b99] [(.int 3), (.ref b99)]))
    refine own_via (fun k => XS.lloadN X114.here hx rfl (hb hby at_75) rfl  (XS.bipush X114.here hx rfl (hb hby at_76) (XS.lushr X114.here hx rfl (hb hby at_78) rfl (XS.l2i X114.here hx rfl (hb hby at_79) rfl k)))) ?_
    show own_Go p e below s _ _ (T114.setTop (mkF m 80 #[jv q0, .second, iv p1, jv q2, .second, iv 2, rv b99] [(.int (((q0.toUInt64 >>> ((48 : Int32) &&& 0x3f).toInt64.toUInt64).toInt64).toInt32)), (.int 3), (.ref b99)]))
    refine own_via (fun k => XS.i2b X114.here hx rfl (hb hby at_80) rfl k) ?_
    show own_Go p e below s _ _ (T114.setTop (mkF m 81 #[jv q0, .second, iv p1, jv q2, .second, iv 2, rv b99] [(.int ((((q0.toUInt64 >>> ((48 : Int32) &&& 0x3f).toInt64.toUInt64).toInt64).toInt32).toInt8.toInt32)), (.int 3), (.ref b99)]))
    obtain ⟨z118, hz118⟩ : ∃ z : Int32, z = ((((q0.toUInt64 >>> ((48 : Int32) &&& 0x3f).toInt64.toUInt64).toInt64).toInt32).toInt8.toInt32) := ⟨_, rfl⟩
    rw [← hz118]
    show own_Go p e below s _ _ (T114.setTop (mkF m 81 #[jv q0, .second, iv p1, jv q2, .second, iv 2, rv b99] [(.int z118), (.int 3), (.ref b99)]))
    obtain ⟨cl119, Ar119, q119, S119, NN119, H119, G119⟩ := id B115
    have hin119 : ¬ ((3 : Int32) < 0 ∨ cl119.slots.size ≤ ((3 : Int32)).toNatClampNeg) := inb_of S119 ⟨by decide, by decide⟩
    obtain ⟨T119, h119, X119, e119, W119, st119⟩ := stB X114 hx hZ e114 Ar119 (j := (3 : Int32)) hin119 (g := (mkF m 81 #[jv q0, .second, iv p1, jv q2, .second, iv 2, rv b99] [(.int z118), (.int 3), (.ref b99)])) rfl rfl (hb hby at_81)
    refine own_via (fun k => st119 _ k) ?_
    show own_Go p e below s _ _ (T119.setTop (mkF m 82 #[jv q0, .second, iv p1, jv q2, .second, iv 2, rv b99] []))
    have B120 : Arv Z h119 b99 k99 .byte (10 : Int32) [(.int (nar .byte z103)), (.int (nar .byte z108)), (.int (nar .byte z113)), (.int (nar .byte z118)), (.int 0), (.int 0), (.int 0), (.int 0), (.int 0), (.int 0)] (.int 0) := Arv.set Ar119 q119 S119 NN119 H119 G119 (fits_nar_byte _) W119 3 rfl (Nat.le_of_ble_eq_true rfl)
    have N121 := Fr.snoc X119 N116 g100
    have Z122 : n0 ≤ h119.size := Nat.le_trans Z117 (Keep.of_wr W119).1
    refine own_via (fun k => XS.aload X119.here hx rfl (hb hby at_82) rfl rfl  (XS.iload X119.here hx rfl (hb hby at_84) rfl  (XS.iconst X119.here hx rfl (hb hby at_86) (XS.iadd X119.here hx rfl (hb hby at_87) rfl k)))) ?_
    show own_Go p e below s _ _ (T119.setTop (mkF m 88 #[jv q0, .second, iv p1, jv q2, .second, iv 2, rv b99] [(.int 4), (.ref b99)]))
    refine own_via (fun k => XS.lloadN X119.here hx rfl (hb hby at_88) rfl  (XS.bipush X119.here hx rfl (hb hby at_89) (XS.lushr X119.here hx rfl (hb hby at_91) rfl (XS.l2i X119.here hx rfl (hb hby at_92) rfl k)))) ?_
    show own_Go p e below s _ _ (T119.setTop (mkF m 93 #[jv q0, .second, iv p1, jv q2, .second, iv 2, rv b99] [(.int (((q0.toUInt64 >>> ((40 : Int32) &&& 0x3f).toInt64.toUInt64).toInt64).toInt32)), (.int 4), (.ref b99)]))
    refine own_via (fun k => XS.i2b X119.here hx rfl (hb hby at_93) rfl k) ?_
    show own_Go p e below s _ _ (T119.setTop (mkF m 94 #[jv q0, .second, iv p1, jv q2, .second, iv 2, rv b99] [(.int ((((q0.toUInt64 >>> ((40 : Int32) &&& 0x3f).toInt64.toUInt64).toInt64).toInt32).toInt8.toInt32)), (.int 4), (.ref b99)]))
    obtain ⟨z123, hz123⟩ : ∃ z : Int32, z = ((((q0.toUInt64 >>> ((40 : Int32) &&& 0x3f).toInt64.toUInt64).toInt64).toInt32).toInt8.toInt32) := ⟨_, rfl⟩
    rw [← hz123]
    show own_Go p e below s _ _ (T119.setTop (mkF m 94 #[jv q0, .second, iv p1, jv q2, .second, iv 2, rv b99] [(.int z123), (.int 4), (.ref b99)]))
    obtain ⟨cl124, Ar124, q124, S124, NN124, H124, G124⟩ := id B120
    have hin124 : ¬ ((4 : Int32) < 0 ∨ cl124.slots.size ≤ ((4 : Int32)).toNatClampNeg) := inb_of S124 ⟨by decide, by decide⟩
    obtain ⟨T124, h124, X124, e124, W124, st124⟩ := stB X119 hx hZ e119 Ar124 (j := (4 : Int32)) hin124 (g := (mkF m 94 #[jv q0, .second, iv p1, jv q2, .second, iv 2, rv b99] [(.int z123), (.int 4), (.ref b99)])) rfl rfl (hb hby at_94)
    refine own_via (fun k => st124 _ k) ?_
    show own_Go p e below s _ _ (T124.setTop (mkF m 95 #[jv q0, .second, iv p1, jv q2, .second, iv 2, rv b99] []))
    have B125 : Arv Z h124 b99 k99 .byte (10 : Int32) [(.int (nar .byte z103)), (.int (nar .byte z108)), (.int (nar .byte z113)), (.int (nar .byte z118)), (.int (nar .byte z123)), (.int 0), (.int 0), (.int 0), (.int 0), (.int 0)] (.int 0) := Arv.set Ar124 q124 S124 NN124 H124 G124 (fits_nar_byte _) W124 4 rfl (Nat.le_of_ble_eq_true rfl)
    have N126 := Fr.snoc X124 N121 g100
    have Z127 : n0 ≤ h124.size := Nat.le_trans Z122 (Keep.of_wr W124).1
    refine own_via (fun k => XS.aload X124.here hx rfl (hb hby at_95) rfl rfl  (XS.iload X124.here hx rfl (hb hby at_97) rfl  (XS.iconst X124.here hx rfl (hb hby at_99) (XS.iadd X124.here hx rfl (hb hby at_100) rfl k)))) ?_
    show own_Go p e below s _ _ (T124.setTop (mkF m 101 #[jv q0, .second, iv p1, jv q2, .second, iv 2, rv b99] [(.int 5), (.ref b99)]))
    refine own_via (fun k => XS.lloadN X124.here hx rfl (hb hby at_101) rfl  (XS.bipush X124.here hx rfl (hb hby at_102) (XS.lushr X124.here hx rfl (hb hby at_104) rfl (XS.l2i X124.here hx rfl (hb hby at_105) rfl k)))) ?_
    show own_Go p e below s _ _ (T124.setTop (mkF m 106 #[jv q0, .second, iv p1, jv q2, .second, iv 2, rv b99] [(.int (((q0.toUInt64 >>> ((32 : Int32) &&& 0x3f).toInt64.toUInt64).toInt64).toInt32)), (.int 5), (.ref b99)]))
    refine own_via (fun k => XS.i2b X124.here hx rfl (hb hby at_106) rfl k) ?_
    show own_Go p e below s _ _ (T124.setTop (mkF m 107 #[jv q0, .second, iv p1, jv q2, .second, iv 2, rv b99] [(.int ((((q0.toUInt64 >>> ((32 : Int32) &&& 0x3f).toInt64.toUInt64).toInt64).toInt32).toInt8.toInt32)), (.int 5), (.ref b99)]))
    obtain ⟨z128, hz128⟩ : ∃ z : Int32, z = ((((q0.toUInt64 >>> ((32 : Int32) &&& 0x3f).toInt64.toUInt64).toInt64).toInt32).toInt8.toInt32) := ⟨_, rfl⟩
    rw [← hz128]
    show own_Go p e below s _ _ (T124.setTop (mkF m 107 #[jv q0, .second, iv p1, jv q2, .second, iv 2, rv b99] [(.int z128), (.int 5), (.ref b99)]))
    obtain ⟨cl129, Ar129, q129, S129, NN129, H129, G129⟩ := id B125
    have hin129 : ¬ ((5 : Int32) < 0 ∨ cl129.slots.size ≤ ((5 : Int32)).toNatClampNeg) := inb_of S129 ⟨by decide, by decide⟩
    obtain ⟨T129, h129, X129, e129, W129, st129⟩ := stB X124 hx hZ e124 Ar129 (j := (5 : Int32)) hin129 (g := (mkF m 107 #[jv q0, .second, iv p1, jv q2, .second, iv 2, rv b99] [(.int z128), (.int 5), (.ref b99)])) rfl rfl (hb hby at_107)
    refine own_via (fun k => st129 _ k) ?_
    show own_Go p e below s _ _ (T129.setTop (mkF m 108 #[jv q0, .second, iv p1, jv q2, .second, iv 2, rv b99] []))
    have B130 : Arv Z h129 b99 k99 .byte (10 : Int32) [(.int (nar .byte z103)), (.int (nar .byte z108)), (.int (nar .byte z113)), (.int (nar .byte z118)), (.int (nar .byte z123)), (.int (nar .byte z128)), (.int 0), (.int 0), (.int 0), (.int 0)] (.int 0) := Arv.set Ar129 q129 S129 NN129 H129 G129 (fits_nar_byte _) W129 5 rfl (Nat.le_of_ble_eq_true rfl)
    have N131 := Fr.snoc X129 N126 g100
    have Z132 : n0 ≤ h129.size := Nat.le_trans Z127 (Keep.of_wr W129).1
    refine own_via (fun k => XS.aload X129.here hx rfl (hb hby at_108) rfl rfl  (XS.iload X129.here hx rfl (hb hby at_110) rfl  (XS.iconst X129.here hx rfl (hb hby at_112) (XS.iadd X129.here hx rfl (hb hby at_113) rfl k)))) ?_
    show own_Go p e below s _ _ (T129.setTop (mkF m 114 #[jv q0, .second, iv p1, jv q2, .second, iv 2, rv b99] [(.int 6), (.ref b99)]))
    refine own_via (fun k => XS.lloadN X129.here hx rfl (hb hby at_114) rfl  (XS.bipush X129.here hx rfl (hb hby at_115) (XS.lushr X129.here hx rfl (hb hby at_117) rfl (XS.l2i X129.here hx rfl (hb hby at_118) rfl k)))) ?_
    show own_Go p e below s _ _ (T129.setTop (mkF m 119 #[jv q0, .second, iv p1, jv q2, .second, iv 2, rv b99] [(.int (((q0.toUInt64 >>> ((24 : Int32) &&& 0x3f).toInt64.toUInt64).toInt64).toInt32)), (.int 6), (.ref b99)]))
    refine own_via (fun k => XS.i2b X129.here hx rfl (hb hby at_119) rfl k) ?_
    show own_Go p e below s _ _ (T129.setTop (mkF m 120 #[jv q0, .second, iv p1, jv q2, .second, iv 2, rv b99] [(.int ((((q0.toUInt64 >>> ((24 : Int32) &&& 0x3f).toInt64.toUInt64).toInt64).toInt32).toInt8.toInt32)), (.int 6), (.ref b99)]))
    obtain ⟨z133, hz133⟩ : ∃ z : Int32, z = ((((q0.toUInt64 >>> ((24 : Int32) &&& 0x3f).toInt64.toUInt64).toInt64).toInt32).toInt8.toInt32) := ⟨_, rfl⟩
    rw [← hz133]
    show own_Go p e below s _ _ (T129.setTop (mkF m 120 #[jv q0, .second, iv p1, jv q2, .second, iv 2, rv b99] [(.int z133), (.int 6), (.ref b99)]))
    obtain ⟨cl134, Ar134, q134, S134, NN134, H134, G134⟩ := id B130
    have hin134 : ¬ ((6 : Int32) < 0 ∨ cl134.slots.size ≤ ((6 : Int32)).toNatClampNeg) := inb_of S134 ⟨by decide, by decide⟩
    obtain ⟨T134, h134, X134, e134, W134, st134⟩ := stB X129 hx hZ e129 Ar134 (j := (6 : Int32)) hin134 (g := (mkF m 120 #[jv q0, .second, iv p1, jv q2, .second, iv 2, rv b99] [(.int z133), (.int 6), (.ref b99)])) rfl rfl (hb hby at_120)
    refine own_via (fun k => st134 _ k) ?_
    show own_Go p e below s _ _ (T134.setTop (mkF m 121 #[jv q0, .second, iv p1, jv q2, .second, iv 2, rv b99] []))
    have B135 : Arv Z h134 b99 k99 .byte (10 : Int32) [(.int (nar .byte z103)), (.int (nar .byte z108)), (.int (nar .byte z113)), (.int (nar .byte z118)), (.int (nar .byte z123)), (.int (nar .byte z128)), (.int (nar .byte z133)), (.int 0), (.int 0), (.int 0)] (.int 0) := Arv.set Ar134 q134 S134 NN134 H134 G134 (fits_nar_byte _) W134 6 rfl (Nat.le_of_ble_eq_true rfl)
    have N136 := Fr.snoc X134 N131 g100
    have Z137 : n0 ≤ h134.size := Nat.le_trans Z132 (Keep.of_wr W134).1
    refine own_via (fun k => XS.aload X134.here hx rfl (hb hby at_121) rfl rfl  (XS.iload X134.here hx rfl (hb hby at_123) rfl  (XS.iconst X134.here hx rfl (hb hby at_125) (XS.iadd X134.here hx rfl (hb hby at_126) rfl k)))) ?_
    show own_Go p e below s _ _ (T134.setTop (mkF m 127 #[jv q0, .second, iv p1, jv q2, .second, iv 2, rv b99] [(.int 7), (.ref b99)]))
    refine own_via (fun k => XS.lloadN X134.here hx rfl (hb hby at_127) rfl  (XS.bipush X134.here hx rfl (hb hby at_128) (XS.lushr X134.here hx rfl (hb hby at_130) rfl (XS.l2i X134.here hx rfl (hb hby at_131) rfl k)))) ?_
    show own_Go p e below s _ _ (T134.setTop (mkF m 132 #[jv q0, .second, iv p1, jv q2, .second, iv 2, rv b99] [(.int (((q0.toUInt64 >>> ((16 : Int32) &&& 0x3f).toInt64.toUInt64).toInt64).toInt32)), (.int 7), (.ref b99)]))
    refine own_via (fun k => XS.i2b X134.here hx rfl (hb hby at_132) rfl k) ?_
    show own_Go p e below s _ _ (T134.setTop (mkF m 133 #[jv q0, .second, iv p1, jv q2, .second, iv 2, rv b99] [(.int ((((q0.toUInt64 >>> ((16 : Int32) &&& 0x3f).toInt64.toUInt64).toInt64).toInt32).toInt8.toInt32)), (.int 7), (.ref b99)]))
    obtain ⟨z138, hz138⟩ : ∃ z : Int32, z = ((((q0.toUInt64 >>> ((16 : Int32) &&& 0x3f).toInt64.toUInt64).toInt64).toInt32).toInt8.toInt32) := ⟨_, rfl⟩
    rw [← hz138]
    show own_Go p e below s _ _ (T134.setTop (mkF m 133 #[jv q0, .second, iv p1, jv q2, .second, iv 2, rv b99] [(.int z138), (.int 7), (.ref b99)]))
    obtain ⟨cl139, Ar139, q139, S139, NN139, H139, G139⟩ := id B135
    have hin139 : ¬ ((7 : Int32) < 0 ∨ cl139.slots.size ≤ ((7 : Int32)).toNatClampNeg) := inb_of S139 ⟨by decide, by decide⟩
    obtain ⟨T139, h139, X139, e139, W139, st139⟩ := stB X134 hx hZ e134 Ar139 (j := (7 : Int32)) hin139 (g := (mkF m 133 #[jv q0, .second, iv p1, jv q2, .second, iv 2, rv b99] [(.int z138), (.int 7), (.ref b99)])) rfl rfl (hb hby at_133)
    refine own_via (fun k => st139 _ k) ?_
    show own_Go p e below s _ _ (T139.setTop (mkF m 134 #[jv q0, .second, iv p1, jv q2, .second, iv 2, rv b99] []))
    have B140 : Arv Z h139 b99 k99 .byte (10 : Int32) [(.int (nar .byte z103)), (.int (nar .byte z108)), (.int (nar .byte z113)), (.int (nar .byte z118)), (.int (nar .byte z123)), (.int (nar .byte z128)), (.int (nar .byte z133)), (.int (nar .byte z138)), (.int 0), (.int 0)] (.int 0) := Arv.set Ar139 q139 S139 NN139 H139 G139 (fits_nar_byte _) W139 7 rfl (Nat.le_of_ble_eq_true rfl)
    have N141 := Fr.snoc X139 N136 g100
    have Z142 : n0 ≤ h139.size := Nat.le_trans Z137 (Keep.of_wr W139).1
    refine own_via (fun k => XS.aload X139.here hx rfl (hb hby at_134) rfl rfl  (XS.iload X139.here hx rfl (hb hby at_136) rfl  (XS.bipush X139.here hx rfl (hb hby at_138) (XS.iadd X139.here hx rfl (hb hby at_140) rfl k)))) ?_
    show own_Go p e below s _ _ (T139.setTop (mkF m 141 #[jv q0, .second, iv p1, jv q2, .second, iv 2, rv b99] [(.int 8), (.ref b99)]))
    refine own_via (fun k => XS.lloadN X139.here hx rfl (hb hby at_141) rfl  (XS.bipush X139.here hx rfl (hb hby at_142) (XS.lushr X139.here hx rfl (hb hby at_144) rfl (XS.l2i X139.here hx rfl (hb hby at_145) rfl k)))) ?_
    show own_Go p e below s _ _ (T139.setTop (mkF m 146 #[jv q0, .second, iv p1, jv q2, .second, iv 2, rv b99] [(.int (((q0.toUInt64 >>> ((8 : Int32) &&& 0x3f).toInt64.toUInt64).toInt64).toInt32)), (.int 8), (.ref b99)]))
    refine own_via (fun k => XS.i2b X139.here hx rfl (hb hby at_146) rfl k) ?_
    show own_Go p e below s _ _ (T139.setTop (mkF m 147 #[jv q0, .second, iv p1, jv q2, .second, iv 2, rv b99] [(.int ((((q0.toUInt64 >>> ((8 : Int32) &&& 0x3f).toInt64.toUInt64).toInt64).toInt32).toInt8.toInt32)), (.int 8), (.ref b99)]))
    obtain ⟨z143, hz143⟩ : ∃ z : Int32, z = ((((q0.toUInt64 >>> ((8 : Int32) &&& 0x3f).toInt64.toUInt64).toInt64).toInt32).toInt8.toInt32) := ⟨_, rfl⟩
    rw [← hz143]
    show own_Go p e below s _ _ (T139.setTop (mkF m 147 #[jv q0, .second, iv p1, jv q2, .second, iv 2, rv b99] [(.int z143), (.int 8), (.ref b99)]))
    obtain ⟨cl144, Ar144, q144, S144, NN144, H144, G144⟩ := id B140
    have hin144 : ¬ ((8 : Int32) < 0 ∨ cl144.slots.size ≤ ((8 : Int32)).toNatClampNeg) := inb_of S144 ⟨by decide, by decide⟩
    obtain ⟨T144, h144, X144, e144, W144, st144⟩ := stB X139 hx hZ e139 Ar144 (j := (8 : Int32)) hin144 (g := (mkF m 147 #[jv q0, .second, iv p1, jv q2, .second, iv 2, rv b99] [(.int z143), (.int 8), (.ref b99)])) rfl rfl (hb hby at_147)
    refine own_via (fun k => st144 _ k) ?_
    show own_Go p e below s _ _ (T144.setTop (mkF m 148 #[jv q0, .second, iv p1, jv q2, .second, iv 2, rv b99] []))
    have B145 : Arv Z h144 b99 k99 .byte (10 : Int32) [(.int (nar .byte z103)), (.int (nar .byte z108)), (.int (nar .byte z113)), (.int (nar .byte z118)), (.int (nar .byte z123)), (.int (nar .byte z128)), (.int (nar .byte z133)), (.int (nar .byte z138)), (.int (nar .byte z143)), (.int 0)] (.int 0) := Arv.set Ar144 q144 S144 NN144 H144 G144 (fits_nar_byte _) W144 8 rfl (Nat.le_of_ble_eq_true rfl)
    have N146 := Fr.snoc X144 N141 g100
    have Z147 : n0 ≤ h144.size := Nat.le_trans Z142 (Keep.of_wr W144).1
    refine own_via (fun k => XS.aload X144.here hx rfl (hb hby at_148) rfl rfl  (XS.iload X144.here hx rfl (hb hby at_150) rfl  (XS.bipush X144.here hx rfl (hb hby at_152) (XS.iadd X144.here hx rfl (hb hby at_154) rfl k)))) ?_
    show own_Go p e below s _ _ (T144.setTop (mkF m 155 #[jv q0, .second, iv p1, jv q2, .second, iv 2, rv b99] [(.int 9), (.ref b99)]))
    refine own_via (fun k => XS.lloadN X144.here hx rfl (hb hby at_155) rfl  (XS.l2i X144.here hx rfl (hb hby at_156) rfl (XS.i2b X144.here hx rfl (hb hby at_157) rfl k))) ?_
    show own_Go p e below s _ _ (T144.setTop (mkF m 158 #[jv q0, .second, iv p1, jv q2, .second, iv 2, rv b99] [(.int ((q0.toInt32).toInt8.toInt32)), (.int 9), (.ref b99)]))
    obtain ⟨z148, hz148⟩ : ∃ z : Int32, z = ((q0.toInt32).toInt8.toInt32) := ⟨_, rfl⟩
    rw [← hz148]
    show own_Go p e below s _ _ (T144.setTop (mkF m 158 #[jv q0, .second, iv p1, jv q2, .second, iv 2, rv b99] [(.int z148), (.int 9), (.ref b99)]))
    obtain ⟨cl149, Ar149, q149, S149, NN149, H149, G149⟩ := id B145
    have hin149 : ¬ ((9 : Int32) < 0 ∨ cl149.slots.size ≤ ((9 : Int32)).toNatClampNeg) := inb_of S149 ⟨by decide, by decide⟩
    obtain ⟨T149, h149, X149, e149, W149, st149⟩ := stB X144 hx hZ e144 Ar149 (j := (9 : Int32)) hin149 (g := (mkF m 158 #[jv q0, .second, iv p1, jv q2, .second, iv 2, rv b99] [(.int z148), (.int 9), (.ref b99)])) rfl rfl (hb hby at_158)
    refine own_via (fun k => st149 _ k) ?_
    show own_Go p e below s _ _ (T149.setTop (mkF m 159 #[jv q0, .second, iv p1, jv q2, .second, iv 2, rv b99] []))
    have B150 : Arv Z h149 b99 k99 .byte (10 : Int32) [(.int (nar .byte z103)), (.int (nar .byte z108)), (.int (nar .byte z113)), (.int (nar .byte z118)), (.int (nar .byte z123)), (.int (nar .byte z128)), (.int (nar .byte z133)), (.int (nar .byte z138)), (.int (nar .byte z143)), (.int (nar .byte z148))] (.int 0) := Arv.set Ar149 q149 S149 NN149 H149 G149 (fits_nar_byte _) W149 9 rfl (Nat.le_of_ble_eq_true rfl)
    have N151 := Fr.snoc X149 N146 g100
    have Z152 : n0 ≤ h149.size := Nat.le_trans Z147 (Keep.of_wr W149).1
    refine own_via (fun k => XS.aload X149.here hx rfl (hb hby at_159) rfl rfl  k) ?_
    show own_Go p e below s _ _ (T149.setTop (mkF m 161 #[jv q0, .second, iv p1, jv q2, .second, iv 2, rv b99] [(.ref b99)]))
    obtain ⟨_, _, ⟨T153, L153, k153, n153⟩, -, X153, ⟨Lc153, hQ153, l153, y153, z153⟩, st153⟩ := Jvm.LawKit.callS X149 hx (y := (⟨"com/example/dani/dani/core/Key", "trailingNumber", "([B)J"⟩ : MethodName)) hown (mvT hZ (hw _ (List.mem_of_getElem? (i := 1) rfl))) (mvT hZ (hw _ (List.mem_of_getElem? (i := 2) rfl))) (mvT hZ (hw _ (List.mem_of_getElem? (i := 3) rfl))) (mvT hZ (hw _ (List.mem_of_getElem? (i := 4) rfl))) (by decide) (backOf (W := 0) (rm1_10 l Z aw hw [] b99 k99 (nar .byte z103) (nar .byte z108) (nar .byte z113) (nar .byte z118) (nar .byte z123) (nar .byte z128) (nar .byte z133) (nar .byte z138) (nar .byte z143) (nar .byte z148) h149 n0 Z152 B150) hZ (hw _ (List.mem_of_getElem? (i := 4) rfl)) (hw _ (List.mem_of_getElem? (i := 3) rfl)) (by decide) (by decide)) (g := (mkF m 161 #[jv q0, .second, iv p1, jv q2, .second, iv 2, rv b99] [(.ref b99)])) rfl (by rw [hml]; rfl) (argsL := [(.ref b99)]) (rest := []) (lenOf pd_0 rfl) rfl (by show 2 * 0 + _ ≤ _; exact Nat.le_of_eq rfl) (hb hby at_161) (fun _ _ => ⟨rfl, e149, (by decide : 1 + 0 ≤ _), (by decide : 10 + 0 ≤ _)⟩)
    dsimp only [Pt.U, Pt.locs, Pt.cells, Pt.slots] at X153 l153 y153 z153 st153 hQ153
    subst l153 y153 z153
    obtain ⟨rfl, N153q, eh153⟩ := hQ153
    have N154 := Fr.app N151 N153q
    refine own_via (fun k => st153 _ k) ?_
    show own_Go p e below s _ _ (T153.setTop (mkF m 164 #[jv q0, .second, iv p1, jv q2, .second, iv 2, rv b99] [(.long (own_f1_10 (nar .byte z113) (nar .byte z118) (nar .byte z123) (nar .byte z128) (nar .byte z133) (nar .byte z138) (nar .byte z143) (nar .byte z148)))]))
    refine own_via (fun k => XS.lloadN X153.here hx rfl (hb hby at_164) rfl  (XS.lcmp X153.here hx rfl (hb hby at_165) rfl k)) ?_
    show own_Go p e below s _ _ (T153.setTop (mkF m 166 #[jv q0, .second, iv p1, jv q2, .second, iv 2, rv b99] [(.int (lcmpW (own_f1_10 (nar .byte z113) (nar .byte z118) (nar .byte z123) (nar .byte z128) (nar .byte z133) (nar .byte z138) (nar .byte z143) (nar .byte z148)) q0))]))
    refine own_via (fun k => XS.ifNo X153.here hx rfl (hb hby at_166) rfl ((if0 _ _).trans (teq ((lw_eq _ _).mpr (own_law2 q0 p1 z113 hz113 z118 hz118 z123 hz123 z128 hz128 z133 hz133 z138 hz138 z143 hz143 z148 hz148 hl1))).2) k) ?_
    show own_Go p e below s _ _ (T153.setTop (mkF m 169 #[jv q0, .second, iv p1, jv q2, .second, iv 2, rv b99] []))
    refine own_via (fun k => XS.iconst X153.here hx rfl (hb hby at_169) (XS.goto X153.here hx rfl (pc0 := 170) (pc' := 174) rfl (hb hby at_170) (by decide) (by decide) k)) ?_
    show own_Go p e below s _ _ (T153.setTop (mkF m 174 #[jv q0, .second, iv p1, jv q2, .second, iv 2, rv b99] [(.int 1)]))
    exact own_retN X153 hx hlk (t := .boolean) Bd.returns (by simp) (hb hby at_174) (Q := (Q0 Z q0 p1 q2 h0 n0)) ⟨rfl, N154⟩ (by decide) (by decide)
  · rw [hl1]
    show own_Go p e below s _ _ (s₁.setTop (mkF m 5 #[jv q0, .second, iv p1, jv q2, .second, iv 3, .unset] []))
    refine own_via (fun k => XS.bipush X0.here hx rfl (hb hby at_5) (XS.iload X0.here hx rfl (hb hby at_7) rfl  (XS.iadd X0.here hx rfl (hb hby at_9) rfl k))) ?_
    show own_Go p e below s _ _ (s₁.setTop (mkF m 10 #[jv q0, .second, iv p1, jv q2, .second, iv 3, .unset] [(.int 11)]))
    obtain ⟨T155, h155, k155, X155, e155, E155, A155, st155⟩ := newP X0 hx hZ (hw _ (List.mem_of_getElem? (i := 0) rfl)) e0 (g := (mkF m 10 #[jv q0, .second, iv p1, jv q2, .second, iv 3, .unset] [(.int 11)])) rfl (hb hby at_10) rfl (by decide) (cap := 11) (by decide) (by decide) (by decide) (by decide)
    obtain ⟨b155, g155⟩ : ∃ z, z = h0.size := ⟨_, rfl⟩
    rw [← g155] at A155 st155
    refine own_via (fun k => st155 _ k) ?_
    show own_Go p e below s _ _ (T155.setTop (mkF m 12 #[jv q0, .second, iv p1, jv q2, .second, iv 3, .unset] [(.ref b155)]))
    have g156 : n0 ≤ b155 := Nat.le_trans Z0 (Nat.le_of_eq g155.symm)
    have Z157 : n0 ≤ h155.size := Nat.le_trans Z0 E155.1
    have B158 : Arv Z h155 b155 k155 .byte (11 : Int32) [(.int 0), (.int 0), (.int 0), (.int 0), (.int 0), (.int 0), (.int 0), (.int 0), (.int 0), (.int 0), (.int 0)] (.int 0) := (Arv.new A155 (by decide)).pad (pad_rep [] (.int 0) 11)
    refine own_via (fun k => XS.astore X155.here hx rfl (hb hby at_12) rfl rfl (l' := #[jv q0, .second, iv p1, jv q2, .second, iv 3, rv b155]) rfl (XS.iload X155.here hx rfl (hb hby at_14) rfl  k)) ?_
    show own_Go p e below s _ _ (T155.setTop (mkF m 16 #[jv q0, .second, iv p1, jv q2, .second, iv 3, rv b155] [(.int 3)]))
    refine own_via (fun k => XS.ifNo X155.here hx rfl (hb hby at_16) rfl (by decide) k) ?_
    show own_Go p e below s _ _ (T155.setTop (mkF m 19 #[jv q0, .second, iv p1, jv q2, .second, iv 3, rv b155] []))
    refine own_via (fun k => XS.aload X155.here hx rfl (hb hby at_19) rfl rfl  (XS.iconst X155.here hx rfl (hb hby at_21) (XS.lloadN X155.here hx rfl (hb hby at_22) rfl  (XS.l2i X155.here hx rfl (hb hby at_23) rfl k)))) ?_
    show own_Go p e below s _ _ (T155.setTop (mkF m 24 #[jv q0, .second, iv p1, jv q2, .second, iv 3, rv b155] [(.int (q2.toInt32)), (.int 0), (.ref b155)]))
    refine own_via (fun k => XS.i2b X155.here hx rfl (hb hby at_24) rfl k) ?_
    show own_Go p e below s _ _ (T155.setTop (mkF m 25 #[jv q0, .second, iv p1, jv q2, .second, iv 3, rv b155] [(.int ((q2.toInt32).toInt8.toInt32)), (.int 0), (.ref b155)]))
    obtain ⟨z159, hz159⟩ : ∃ z : Int32, z = ((q2.toInt32).toInt8.toInt32) := ⟨_, rfl⟩
    rw [← hz159]
    show own_Go p e below s _ _ (T155.setTop (mkF m 25 #[jv q0, .second, iv p1, jv q2, .second, iv 3, rv b155] [(.int z159), (.int 0), (.ref b155)]))
    obtain ⟨cl160, Ar160, q160, S160, NN160, H160, G160⟩ := id B158
    have hin160 : ¬ ((0 : Int32) < 0 ∨ cl160.slots.size ≤ ((0 : Int32)).toNatClampNeg) := inb_of S160 ⟨by decide, by decide⟩
    obtain ⟨T160, h160, X160, e160, W160, st160⟩ := stB X155 hx hZ e155 Ar160 (j := (0 : Int32)) hin160 (g := (mkF m 25 #[jv q0, .second, iv p1, jv q2, .second, iv 3, rv b155] [(.int z159), (.int 0), (.ref b155)])) rfl rfl (hb hby at_25)
    refine own_via (fun k => st160 _ k) ?_
    show own_Go p e below s _ _ (T160.setTop (mkF m 26 #[jv q0, .second, iv p1, jv q2, .second, iv 3, rv b155] []))
    have B161 : Arv Z h160 b155 k155 .byte (11 : Int32) [(.int (nar .byte z159)), (.int 0), (.int 0), (.int 0), (.int 0), (.int 0), (.int 0), (.int 0), (.int 0), (.int 0), (.int 0)] (.int 0) := Arv.set Ar160 q160 S160 NN160 H160 G160 (fits_nar_byte _) W160 0 rfl (Nat.le_of_ble_eq_true rfl)
    have N162 := Fr.snoc X160 N0 g156
    have Z163 : n0 ≤ h160.size := Nat.le_trans Z157 (Keep.of_wr W160).1
    refine own_via (fun k => XS.iload X160.here hx rfl (hb hby at_26) rfl  (XS.iconst X160.here hx rfl (hb hby at_28) k)) ?_
    show own_Go p e below s _ _ (T160.setTop (mkF m 29 #[jv q0, .second, iv p1, jv q2, .second, iv 3, rv b155] [(.int 1), (.int 3)]))
    refine own_via (fun k => XS.icmpNo X160.here hx rfl (hb hby at_29) rfl (by decide) k) ?_
    show own_Go p e below s _ _ (T160.setTop (mkF m 32 #[jv q0, .second, iv p1, jv q2, .second, iv 3, rv b155] []))
    refine own_via (fun k => XS.aload X160.here hx rfl (hb hby at_32) rfl rfl  (XS.iconst X160.here hx rfl (hb hby at_34) (XS.lloadN X160.here hx rfl (hb hby at_35) rfl  (XS.bipush X160.here hx rfl (hb hby at_36) k)))) ?_
    show own_Go p e below s _ _ (T160.setTop (mkF m 38 #[jv q0, .second, iv p1, jv q2, .second, iv 3, rv b155] [(.int 8), (.long q2), (.int 1), (.ref b155)]))
    refine own_via (fun k => XS.lushr X160.here hx rfl (hb hby at_38) rfl (XS.l2i X160.here hx rfl (hb hby at_39) rfl (XS.i2b X160.here hx rfl (hb hby at_40) rfl k))) ?_
    show own_Go p e below s _ _ (T160.setTop (mkF m 41 #[jv q0, .second, iv p1, jv q2, .second, iv 3, rv b155] [(.int ((((q2.toUInt64 >>> ((8 : Int32) &&& 0x3f).toInt64.toUInt64).toInt64).toInt32).toInt8.toInt32)), (.int 1), (.ref b155)]))
    obtain ⟨z164, hz164⟩ : ∃ z : Int32, z = ((((q2.toUInt64 >>> ((8 : Int32) &&& 0x3f).toInt64.toUInt64).toInt64).toInt32).toInt8.toInt32) := ⟨_, rfl⟩
    rw [← hz164]
    show own_Go p e below s _ _ (T160.setTop (mkF m 41 #[jv q0, .second, iv p1, jv q2, .second, iv 3, rv b155] [(.int z164), (.int 1), (.ref b155)]))
    obtain ⟨cl165, Ar165, q165, S165, NN165, H165, G165⟩ := id B161
    have hin165 : ¬ ((1 : Int32) < 0 ∨ cl165.slots.size ≤ ((1 : Int32)).toNatClampNeg) := inb_of S165 ⟨by decide, by decide⟩
    obtain ⟨T165, h165, X165, e165, W165, st165⟩ := stB X160 hx hZ e160 Ar165 (j := (1 : Int32)) hin165 (g := (mkF m 41 #[jv q0, .second, iv p1, jv q2, .second, iv 3, rv b155] [(.int z164), (.int 1), (.ref b155)])) rfl rfl (hb hby at_41)
    refine own_via (fun k => st165 _ k) ?_
    show own_Go p e below s _ _ (T165.setTop (mkF m 42 #[jv q0, .second, iv p1, jv q2, .second, iv 3, rv b155] []))
    have B166 : Arv Z h165 b155 k155 .byte (11 : Int32) [(.int (nar .byte z159)), (.int (nar .byte z164)), (.int 0), (.int 0), (.int 0), (.int 0), (.int 0), (.int 0), (.int 0), (.int 0), (.int 0)] (.int 0) := Arv.set Ar165 q165 S165 NN165 H165 G165 (fits_nar_byte _) W165 1 rfl (Nat.le_of_ble_eq_true rfl)
    have N167 := Fr.snoc X165 N162 g156
    have Z168 : n0 ≤ h165.size := Nat.le_trans Z163 (Keep.of_wr W165).1
    refine own_via (fun k => XS.iload X165.here hx rfl (hb hby at_42) rfl  (XS.iconst X165.here hx rfl (hb hby at_44) k)) ?_
    show own_Go p e below s _ _ (T165.setTop (mkF m 45 #[jv q0, .second, iv p1, jv q2, .second, iv 3, rv b155] [(.int 2), (.int 3)]))
    refine own_via (fun k => XS.icmpNo X165.here hx rfl (hb hby at_45) rfl (by decide) k) ?_
    show own_Go p e below s _ _ (T165.setTop (mkF m 48 #[jv q0, .second, iv p1, jv q2, .second, iv 3, rv b155] []))
    refine own_via (fun k => XS.aload X165.here hx rfl (hb hby at_48) rfl rfl  (XS.iconst X165.here hx rfl (hb hby at_50) (XS.lloadN X165.here hx rfl (hb hby at_51) rfl  (XS.bipush X165.here hx rfl (hb hby at_52) k)))) ?_
    show own_Go p e below s _ _ (T165.setTop (mkF m 54 #[jv q0, .second, iv p1, jv q2, .second, iv 3, rv b155] [(.int 16), (.long q2), (.int 2), (.ref b155)]))
    refine own_via (fun k => XS.lushr X165.here hx rfl (hb hby at_54) rfl (XS.l2i X165.here hx rfl (hb hby at_55) rfl (XS.i2b X165.here hx rfl (hb hby at_56) rfl k))) ?_
    show own_Go p e below s _ _ (T165.setTop (mkF m 57 #[jv q0, .second, iv p1, jv q2, .second, iv 3, rv b155] [(.int ((((q2.toUInt64 >>> ((16 : Int32) &&& 0x3f).toInt64.toUInt64).toInt64).toInt32).toInt8.toInt32)), (.int 2), (.ref b155)]))
    obtain ⟨z169, hz169⟩ : ∃ z : Int32, z = ((((q2.toUInt64 >>> ((16 : Int32) &&& 0x3f).toInt64.toUInt64).toInt64).toInt32).toInt8.toInt32) := ⟨_, rfl⟩
    rw [← hz169]
    show own_Go p e below s _ _ (T165.setTop (mkF m 57 #[jv q0, .second, iv p1, jv q2, .second, iv 3, rv b155] [(.int z169), (.int 2), (.ref b155)]))
    obtain ⟨cl170, Ar170, q170, S170, NN170, H170, G170⟩ := id B166
    have hin170 : ¬ ((2 : Int32) < 0 ∨ cl170.slots.size ≤ ((2 : Int32)).toNatClampNeg) := inb_of S170 ⟨by decide, by decide⟩
    obtain ⟨T170, h170, X170, e170, W170, st170⟩ := stB X165 hx hZ e165 Ar170 (j := (2 : Int32)) hin170 (g := (mkF m 57 #[jv q0, .second, iv p1, jv q2, .second, iv 3, rv b155] [(.int z169), (.int 2), (.ref b155)])) rfl rfl (hb hby at_57)
    refine own_via (fun k => st170 _ k) ?_
    show own_Go p e below s _ _ (T170.setTop (mkF m 58 #[jv q0, .second, iv p1, jv q2, .second, iv 3, rv b155] []))
    have B171 : Arv Z h170 b155 k155 .byte (11 : Int32) [(.int (nar .byte z159)), (.int (nar .byte z164)), (.int (nar .byte z169)), (.int 0), (.int 0), (.int 0), (.int 0), (.int 0), (.int 0), (.int 0), (.int 0)] (.int 0) := Arv.set Ar170 q170 S170 NN170 H170 G170 (fits_nar_byte _) W170 2 rfl (Nat.le_of_ble_eq_true rfl)
    have N172 := Fr.snoc X170 N167 g156
    have Z173 : n0 ≤ h170.size := Nat.le_trans Z168 (Keep.of_wr W170).1
    refine own_via (fun k => XS.aload X170.here hx rfl (hb hby at_58) rfl rfl  (XS.iload X170.here hx rfl (hb hby at_60) rfl  (XS.lloadN X170.here hx rfl (hb hby at_62) rfl  (XS.bipush X170.here hx rfl (hb hby at_63) k)))) ?_
    show own_Go p e below s _ _ (T170.setTop (mkF m 65 #[jv q0, .second, iv p1, jv q2, .second, iv 3, rv b155] [(.int 56), (.long q0), (.int 3), (.ref b155)]))
    refine own_via (fun k => XS.lushr X170.here hx rfl (hb hby at_65) rfl (XS.l2i X170.here hx rfl (hb hby at_66) rfl (XS.i2b X170.here hx rfl (hb hby at_67) rfl k))) ?_
    show own_Go p e below s _ _ (T170.setTop (mkF m 68 #[jv q0, .second, iv p1, jv q2, .second, iv 3, rv b155] [(.int ((((q0.toUInt64 >>> ((56 : Int32) &&& 0x3f).toInt64.toUInt64).toInt64).toInt32).toInt8.toInt32)), (.int 3), (.ref b155)]))
    obtain ⟨z174, hz174⟩ : ∃ z : Int32, z = ((((q0.toUInt64 >>> ((56 : Int32) &&& 0x3f).toInt64.toUInt64).toInt64).toInt32).toInt8.toInt32) := ⟨_, rfl⟩
    rw [← hz174]
    show own_Go p e below s _ _ (T170.setTop (mkF m 68 #[jv q0, .second, iv p1, jv q2, .second, iv 3, rv b155] [(.int z174), (.int 3), (.ref b155)]))
    obtain ⟨cl175, Ar175, q175, S175, NN175, H175, G175⟩ := id B171
    have hin175 : ¬ ((3 : Int32) < 0 ∨ cl175.slots.size ≤ ((3 : Int32)).toNatClampNeg) := inb_of S175 ⟨by decide, by decide⟩
    obtain ⟨T175, h175, X175, e175, W175, st175⟩ := stB X170 hx hZ e170 Ar175 (j := (3 : Int32)) hin175 (g := (mkF m 68 #[jv q0, .second, iv p1, jv q2, .second, iv 3, rv b155] [(.int z174), (.int 3), (.ref b155)])) rfl rfl (hb hby at_68)
    refine own_via (fun k => st175 _ k) ?_
    show own_Go p e below s _ _ (T175.setTop (mkF m 69 #[jv q0, .second, iv p1, jv q2, .second, iv 3, rv b155] []))
    have B176 : Arv Z h175 b155 k155 .byte (11 : Int32) [(.int (nar .byte z159)), (.int (nar .byte z164)), (.int (nar .byte z169)), (.int (nar .byte z174)), (.int 0), (.int 0), (.int 0), (.int 0), (.int 0), (.int 0), (.int 0)] (.int 0) := Arv.set Ar175 q175 S175 NN175 H175 G175 (fits_nar_byte _) W175 3 rfl (Nat.le_of_ble_eq_true rfl)
    have N177 := Fr.snoc X175 N172 g156
    have Z178 : n0 ≤ h175.size := Nat.le_trans Z173 (Keep.of_wr W175).1
    refine own_via (fun k => XS.aload X175.here hx rfl (hb hby at_69) rfl rfl  (XS.iload X175.here hx rfl (hb hby at_71) rfl  (XS.iconst X175.here hx rfl (hb hby at_73) (XS.iadd X175.here hx rfl (hb hby at_74) rfl k)))) ?_
    show own_Go p e below s _ _ (T175.setTop (mkF m 75 #[jv q0, .second, iv p1, jv q2, .second, iv 3, rv b155] [(.int 4), (.ref b155)]))
    refine own_via (fun k => XS.lloadN X175.here hx rfl (hb hby at_75) rfl  (XS.bipush X175.here hx rfl (hb hby at_76) (XS.lushr X175.here hx rfl (hb hby at_78) rfl (XS.l2i X175.here hx rfl (hb hby at_79) rfl k)))) ?_
    show own_Go p e below s _ _ (T175.setTop (mkF m 80 #[jv q0, .second, iv p1, jv q2, .second, iv 3, rv b155] [(.int (((q0.toUInt64 >>> ((48 : Int32) &&& 0x3f).toInt64.toUInt64).toInt64).toInt32)), (.int 4), (.ref b155)]))
    refine own_via (fun k => XS.i2b X175.here hx rfl (hb hby at_80) rfl k) ?_
    show own_Go p e below s _ _ (T175.setTop (mkF m 81 #[jv q0, .second, iv p1, jv q2, .second, iv 3, rv b155] [(.int ((((q0.toUInt64 >>> ((48 : Int32) &&& 0x3f).toInt64.toUInt64).toInt64).toInt32).toInt8.toInt32)), (.int 4), (.ref b155)]))
    obtain ⟨z179, hz179⟩ : ∃ z : Int32, z = ((((q0.toUInt64 >>> ((48 : Int32) &&& 0x3f).toInt64.toUInt64).toInt64).toInt32).toInt8.toInt32) := ⟨_, rfl⟩
    rw [← hz179]
    show own_Go p e below s _ _ (T175.setTop (mkF m 81 #[jv q0, .second, iv p1, jv q2, .second, iv 3, rv b155] [(.int z179), (.int 4), (.ref b155)]))
    obtain ⟨cl180, Ar180, q180, S180, NN180, H180, G180⟩ := id B176
    have hin180 : ¬ ((4 : Int32) < 0 ∨ cl180.slots.size ≤ ((4 : Int32)).toNatClampNeg) := inb_of S180 ⟨by decide, by decide⟩
    obtain ⟨T180, h180, X180, e180, W180, st180⟩ := stB X175 hx hZ e175 Ar180 (j := (4 : Int32)) hin180 (g := (mkF m 81 #[jv q0, .second, iv p1, jv q2, .second, iv 3, rv b155] [(.int z179), (.int 4), (.ref b155)])) rfl rfl (hb hby at_81)
    refine own_via (fun k => st180 _ k) ?_
    show own_Go p e below s _ _ (T180.setTop (mkF m 82 #[jv q0, .second, iv p1, jv q2, .second, iv 3, rv b155] []))
    have B181 : Arv Z h180 b155 k155 .byte (11 : Int32) [(.int (nar .byte z159)), (.int (nar .byte z164)), (.int (nar .byte z169)), (.int (nar .byte z174)), (.int (nar .byte z179)), (.int 0), (.int 0), (.int 0), (.int 0), (.int 0), (.int 0)] (.int 0) := Arv.set Ar180 q180 S180 NN180 H180 G180 (fits_nar_byte _) W180 4 rfl (Nat.le_of_ble_eq_true rfl)
    have N182 := Fr.snoc X180 N177 g156
    have Z183 : n0 ≤ h180.size := Nat.le_trans Z178 (Keep.of_wr W180).1
    refine own_via (fun k => XS.aload X180.here hx rfl (hb hby at_82) rfl rfl  (XS.iload X180.here hx rfl (hb hby at_84) rfl  (XS.iconst X180.here hx rfl (hb hby at_86) (XS.iadd X180.here hx rfl (hb hby at_87) rfl k)))) ?_
    show own_Go p e below s _ _ (T180.setTop (mkF m 88 #[jv q0, .second, iv p1, jv q2, .second, iv 3, rv b155] [(.int 5), (.ref b155)]))
    refine own_via (fun k => XS.lloadN X180.here hx rfl (hb hby at_88) rfl  (XS.bipush X180.here hx rfl (hb hby at_89) (XS.lushr X180.here hx rfl (hb hby at_91) rfl (XS.l2i X180.here hx rfl (hb hby at_92) rfl k)))) ?_
    show own_Go p e below s _ _ (T180.setTop (mkF m 93 #[jv q0, .second, iv p1, jv q2, .second, iv 3, rv b155] [(.int (((q0.toUInt64 >>> ((40 : Int32) &&& 0x3f).toInt64.toUInt64).toInt64).toInt32)), (.int 5), (.ref b155)]))
    refine own_via (fun k => XS.i2b X180.here hx rfl (hb hby at_93) rfl k) ?_
    show own_Go p e below s _ _ (T180.setTop (mkF m 94 #[jv q0, .second, iv p1, jv q2, .second, iv 3, rv b155] [(.int ((((q0.toUInt64 >>> ((40 : Int32) &&& 0x3f).toInt64.toUInt64).toInt64).toInt32).toInt8.toInt32)), (.int 5), (.ref b155)]))
    obtain ⟨z184, hz184⟩ : ∃ z : Int32, z = ((((q0.toUInt64 >>> ((40 : Int32) &&& 0x3f).toInt64.toUInt64).toInt64).toInt32).toInt8.toInt32) := ⟨_, rfl⟩
    rw [← hz184]
    show own_Go p e below s _ _ (T180.setTop (mkF m 94 #[jv q0, .second, iv p1, jv q2, .second, iv 3, rv b155] [(.int z184), (.int 5), (.ref b155)]))
    obtain ⟨cl185, Ar185, q185, S185, NN185, H185, G185⟩ := id B181
    have hin185 : ¬ ((5 : Int32) < 0 ∨ cl185.slots.size ≤ ((5 : Int32)).toNatClampNeg) := inb_of S185 ⟨by decide, by decide⟩
    obtain ⟨T185, h185, X185, e185, W185, st185⟩ := stB X180 hx hZ e180 Ar185 (j := (5 : Int32)) hin185 (g := (mkF m 94 #[jv q0, .second, iv p1, jv q2, .second, iv 3, rv b155] [(.int z184), (.int 5), (.ref b155)])) rfl rfl (hb hby at_94)
    refine own_via (fun k => st185 _ k) ?_
    show own_Go p e below s _ _ (T185.setTop (mkF m 95 #[jv q0, .second, iv p1, jv q2, .second, iv 3, rv b155] []))
    have B186 : Arv Z h185 b155 k155 .byte (11 : Int32) [(.int (nar .byte z159)), (.int (nar .byte z164)), (.int (nar .byte z169)), (.int (nar .byte z174)), (.int (nar .byte z179)), (.int (nar .byte z184)), (.int 0), (.int 0), (.int 0), (.int 0), (.int 0)] (.int 0) := Arv.set Ar185 q185 S185 NN185 H185 G185 (fits_nar_byte _) W185 5 rfl (Nat.le_of_ble_eq_true rfl)
    have N187 := Fr.snoc X185 N182 g156
    have Z188 : n0 ≤ h185.size := Nat.le_trans Z183 (Keep.of_wr W185).1
    refine own_via (fun k => XS.aload X185.here hx rfl (hb hby at_95) rfl rfl  (XS.iload X185.here hx rfl (hb hby at_97) rfl  (XS.iconst X185.here hx rfl (hb hby at_99) (XS.iadd X185.here hx rfl (hb hby at_100) rfl k)))) ?_
    show own_Go p e below s _ _ (T185.setTop (mkF m 101 #[jv q0, .second, iv p1, jv q2, .second, iv 3, rv b155] [(.int 6), (.ref b155)]))
    refine own_via (fun k => XS.lloadN X185.here hx rfl (hb hby at_101) rfl  (XS.bipush X185.here hx rfl (hb hby at_102) (XS.lushr X185.here hx rfl (hb hby at_104) rfl (XS.l2i X185.here hx rfl (hb hby at_105) rfl k)))) ?_
    show own_Go p e below s _ _ (T185.setTop (mkF m 106 #[jv q0, .second, iv p1, jv q2, .second, iv 3, rv b155] [(.int (((q0.toUInt64 >>> ((32 : Int32) &&& 0x3f).toInt64.toUInt64).toInt64).toInt32)), (.int 6), (.ref b155)]))
    refine own_via (fun k => XS.i2b X185.here hx rfl (hb hby at_106) rfl k) ?_
    show own_Go p e below s _ _ (T185.setTop (mkF m 107 #[jv q0, .second, iv p1, jv q2, .second, iv 3, rv b155] [(.int ((((q0.toUInt64 >>> ((32 : Int32) &&& 0x3f).toInt64.toUInt64).toInt64).toInt32).toInt8.toInt32)), (.int 6), (.ref b155)]))
    obtain ⟨z189, hz189⟩ : ∃ z : Int32, z = ((((q0.toUInt64 >>> ((32 : Int32) &&& 0x3f).toInt64.toUInt64).toInt64).toInt32).toInt8.toInt32) := ⟨_, rfl⟩
    rw [← hz189]
    show own_Go p e below s _ _ (T185.setTop (mkF m 107 #[jv q0, .second, iv p1, jv q2, .second, iv 3, rv b155] [(.int z189), (.int 6), (.ref b155)]))
    obtain ⟨cl190, Ar190, q190, S190, NN190, H190, G190⟩ := id B186
    have hin190 : ¬ ((6 : Int32) < 0 ∨ cl190.slots.size ≤ ((6 : Int32)).toNatClampNeg) := inb_of S190 ⟨by decide, by decide⟩
    obtain ⟨T190, h190, X190, e190, W190, st190⟩ := stB X185 hx hZ e185 Ar190 (j := (6 : Int32)) hin190 (g := (mkF m 107 #[jv q0, .second, iv p1, jv q2, .second, iv 3, rv b155] [(.int z189), (.int 6), (.ref b155)])) rfl rfl (hb hby at_107)
    refine own_via (fun k => st190 _ k) ?_
    show own_Go p e below s _ _ (T190.setTop (mkF m 108 #[jv q0, .second, iv p1, jv q2, .second, iv 3, rv b155] []))
    have B191 : Arv Z h190 b155 k155 .byte (11 : Int32) [(.int (nar .byte z159)), (.int (nar .byte z164)), (.int (nar .byte z169)), (.int (nar .byte z174)), (.int (nar .byte z179)), (.int (nar .byte z184)), (.int (nar .byte z189)), (.int 0), (.int 0), (.int 0), (.int 0)] (.int 0) := Arv.set Ar190 q190 S190 NN190 H190 G190 (fits_nar_byte _) W190 6 rfl (Nat.le_of_ble_eq_true rfl)
    have N192 := Fr.snoc X190 N187 g156
    have Z193 : n0 ≤ h190.size := Nat.le_trans Z188 (Keep.of_wr W190).1
    refine own_via (fun k => XS.aload X190.here hx rfl (hb hby at_108) rfl rfl  (XS.iload X190.here hx rfl (hb hby at_110) rfl  (XS.iconst X190.here hx rfl (hb hby at_112) (XS.iadd X190.here hx rfl (hb hby at_113) rfl k)))) ?_
    show own_Go p e below s _ _ (T190.setTop (mkF m 114 #[jv q0, .second, iv p1, jv q2, .second, iv 3, rv b155] [(.int 7), (.ref b155)]))
    refine own_via (fun k => XS.lloadN X190.here hx rfl (hb hby at_114) rfl  (XS.bipush X190.here hx rfl (hb hby at_115) (XS.lushr X190.here hx rfl (hb hby at_117) rfl (XS.l2i X190.here hx rfl (hb hby at_118) rfl k)))) ?_
    show own_Go p e below s _ _ (T190.setTop (mkF m 119 #[jv q0, .second, iv p1, jv q2, .second, iv 3, rv b155] [(.int (((q0.toUInt64 >>> ((24 : Int32) &&& 0x3f).toInt64.toUInt64).toInt64).toInt32)), (.int 7), (.ref b155)]))
    refine own_via (fun k => XS.i2b X190.here hx rfl (hb hby at_119) rfl k) ?_
    show own_Go p e below s _ _ (T190.setTop (mkF m 120 #[jv q0, .second, iv p1, jv q2, .second, iv 3, rv b155] [(.int ((((q0.toUInt64 >>> ((24 : Int32) &&& 0x3f).toInt64.toUInt64).toInt64).toInt32).toInt8.toInt32)), (.int 7), (.ref b155)]))
    obtain ⟨z194, hz194⟩ : ∃ z : Int32, z = ((((q0.toUInt64 >>> ((24 : Int32) &&& 0x3f).toInt64.toUInt64).toInt64).toInt32).toInt8.toInt32) := ⟨_, rfl⟩
    rw [← hz194]
    show own_Go p e below s _ _ (T190.setTop (mkF m 120 #[jv q0, .second, iv p1, jv q2, .second, iv 3, rv b155] [(.int z194), (.int 7), (.ref b155)]))
    obtain ⟨cl195, Ar195, q195, S195, NN195, H195, G195⟩ := id B191
    have hin195 : ¬ ((7 : Int32) < 0 ∨ cl195.slots.size ≤ ((7 : Int32)).toNatClampNeg) := inb_of S195 ⟨by decide, by decide⟩
    obtain ⟨T195, h195, X195, e195, W195, st195⟩ := stB X190 hx hZ e190 Ar195 (j := (7 : Int32)) hin195 (g := (mkF m 120 #[jv q0, .second, iv p1, jv q2, .second, iv 3, rv b155] [(.int z194), (.int 7), (.ref b155)])) rfl rfl (hb hby at_120)
    refine own_via (fun k => st195 _ k) ?_
    show own_Go p e below s _ _ (T195.setTop (mkF m 121 #[jv q0, .second, iv p1, jv q2, .second, iv 3, rv b155] []))
    have B196 : Arv Z h195 b155 k155 .byte (11 : Int32) [(.int (nar .byte z159)), (.int (nar .byte z164)), (.int (nar .byte z169)), (.int (nar .byte z174)), (.int (nar .byte z179)), (.int (nar .byte z184)), (.int (nar .byte z189)), (.int (nar .byte z194)), (.int 0), (.int 0), (.int 0)] (.int 0) := Arv.set Ar195 q195 S195 NN195 H195 G195 (fits_nar_byte _) W195 7 rfl (Nat.le_of_ble_eq_true rfl)
    have N197 := Fr.snoc X195 N192 g156
    have Z198 : n0 ≤ h195.size := Nat.le_trans Z193 (Keep.of_wr W195).1
    refine own_via (fun k => XS.aload X195.here hx rfl (hb hby at_121) rfl rfl  (XS.iload X195.here hx rfl (hb hby at_123) rfl  (XS.iconst X195.here hx rfl (hb hby at_125) (XS.iadd X195.here hx rfl (hb hby at_126) rfl k)))) ?_
    show own_Go p e below s _ _ (T195.setTop (mkF m 127 #[jv q0, .second, iv p1, jv q2, .second, iv 3, rv b155] [(.int 8), (.ref b155)]))
    refine own_via (fun k => XS.lloadN X195.here hx rfl (hb hby at_127) rfl  (XS.bipush X195.here hx rfl (hb hby at_128) (XS.lushr X195.here hx rfl (hb hby at_130) rfl (XS.l2i X195.here hx rfl (hb hby at_131) rfl k)))) ?_
    show own_Go p e below s _ _ (T195.setTop (mkF m 132 #[jv q0, .second, iv p1, jv q2, .second, iv 3, rv b155] [(.int (((q0.toUInt64 >>> ((16 : Int32) &&& 0x3f).toInt64.toUInt64).toInt64).toInt32)), (.int 8), (.ref b155)]))
    refine own_via (fun k => XS.i2b X195.here hx rfl (hb hby at_132) rfl k) ?_
    show own_Go p e below s _ _ (T195.setTop (mkF m 133 #[jv q0, .second, iv p1, jv q2, .second, iv 3, rv b155] [(.int ((((q0.toUInt64 >>> ((16 : Int32) &&& 0x3f).toInt64.toUInt64).toInt64).toInt32).toInt8.toInt32)), (.int 8), (.ref b155)]))
    obtain ⟨z199, hz199⟩ : ∃ z : Int32, z = ((((q0.toUInt64 >>> ((16 : Int32) &&& 0x3f).toInt64.toUInt64).toInt64).toInt32).toInt8.toInt32) := ⟨_, rfl⟩
    rw [← hz199]
    show own_Go p e below s _ _ (T195.setTop (mkF m 133 #[jv q0, .second, iv p1, jv q2, .second, iv 3, rv b155] [(.int z199), (.int 8), (.ref b155)]))
    obtain ⟨cl200, Ar200, q200, S200, NN200, H200, G200⟩ := id B196
    have hin200 : ¬ ((8 : Int32) < 0 ∨ cl200.slots.size ≤ ((8 : Int32)).toNatClampNeg) := inb_of S200 ⟨by decide, by decide⟩
    obtain ⟨T200, h200, X200, e200, W200, st200⟩ := stB X195 hx hZ e195 Ar200 (j := (8 : Int32)) hin200 (g := (mkF m 133 #[jv q0, .second, iv p1, jv q2, .second, iv 3, rv b155] [(.int z199), (.int 8), (.ref b155)])) rfl rfl (hb hby at_133)
    refine own_via (fun k => st200 _ k) ?_
    show own_Go p e below s _ _ (T200.setTop (mkF m 134 #[jv q0, .second, iv p1, jv q2, .second, iv 3, rv b155] []))
    have B201 : Arv Z h200 b155 k155 .byte (11 : Int32) [(.int (nar .byte z159)), (.int (nar .byte z164)), (.int (nar .byte z169)), (.int (nar .byte z174)), (.int (nar .byte z179)), (.int (nar .byte z184)), (.int (nar .byte z189)), (.int (nar .byte z194)), (.int (nar .byte z199)), (.int 0), (.int 0)] (.int 0) := Arv.set Ar200 q200 S200 NN200 H200 G200 (fits_nar_byte _) W200 8 rfl (Nat.le_of_ble_eq_true rfl)
    have N202 := Fr.snoc X200 N197 g156
    have Z203 : n0 ≤ h200.size := Nat.le_trans Z198 (Keep.of_wr W200).1
    refine own_via (fun k => XS.aload X200.here hx rfl (hb hby at_134) rfl rfl  (XS.iload X200.here hx rfl (hb hby at_136) rfl  (XS.bipush X200.here hx rfl (hb hby at_138) (XS.iadd X200.here hx rfl (hb hby at_140) rfl k)))) ?_
    show own_Go p e below s _ _ (T200.setTop (mkF m 141 #[jv q0, .second, iv p1, jv q2, .second, iv 3, rv b155] [(.int 9), (.ref b155)]))
    refine own_via (fun k => XS.lloadN X200.here hx rfl (hb hby at_141) rfl  (XS.bipush X200.here hx rfl (hb hby at_142) (XS.lushr X200.here hx rfl (hb hby at_144) rfl (XS.l2i X200.here hx rfl (hb hby at_145) rfl k)))) ?_
    show own_Go p e below s _ _ (T200.setTop (mkF m 146 #[jv q0, .second, iv p1, jv q2, .second, iv 3, rv b155] [(.int (((q0.toUInt64 >>> ((8 : Int32) &&& 0x3f).toInt64.toUInt64).toInt64).toInt32)), (.int 9), (.ref b155)]))
    refine own_via (fun k => XS.i2b X200.here hx rfl (hb hby at_146) rfl k) ?_
    show own_Go p e below s _ _ (T200.setTop (mkF m 147 #[jv q0, .second, iv p1, jv q2, .second, iv 3, rv b155] [(.int ((((q0.toUInt64 >>> ((8 : Int32) &&& 0x3f).toInt64.toUInt64).toInt64).toInt32).toInt8.toInt32)), (.int 9), (.ref b155)]))
    obtain ⟨z204, hz204⟩ : ∃ z : Int32, z = ((((q0.toUInt64 >>> ((8 : Int32) &&& 0x3f).toInt64.toUInt64).toInt64).toInt32).toInt8.toInt32) := ⟨_, rfl⟩
    rw [← hz204]
    show own_Go p e below s _ _ (T200.setTop (mkF m 147 #[jv q0, .second, iv p1, jv q2, .second, iv 3, rv b155] [(.int z204), (.int 9), (.ref b155)]))
    obtain ⟨cl205, Ar205, q205, S205, NN205, H205, G205⟩ := id B201
    have hin205 : ¬ ((9 : Int32) < 0 ∨ cl205.slots.size ≤ ((9 : Int32)).toNatClampNeg) := inb_of S205 ⟨by decide, by decide⟩
    obtain ⟨T205, h205, X205, e205, W205, st205⟩ := stB X200 hx hZ e200 Ar205 (j := (9 : Int32)) hin205 (g := (mkF m 147 #[jv q0, .second, iv p1, jv q2, .second, iv 3, rv b155] [(.int z204), (.int 9), (.ref b155)])) rfl rfl (hb hby at_147)
    refine own_via (fun k => st205 _ k) ?_
    show own_Go p e below s _ _ (T205.setTop (mkF m 148 #[jv q0, .second, iv p1, jv q2, .second, iv 3, rv b155] []))
    have B206 : Arv Z h205 b155 k155 .byte (11 : Int32) [(.int (nar .byte z159)), (.int (nar .byte z164)), (.int (nar .byte z169)), (.int (nar .byte z174)), (.int (nar .byte z179)), (.int (nar .byte z184)), (.int (nar .byte z189)), (.int (nar .byte z194)), (.int (nar .byte z199)), (.int (nar .byte z204)), (.int 0)] (.int 0) := Arv.set Ar205 q205 S205 NN205 H205 G205 (fits_nar_byte _) W205 9 rfl (Nat.le_of_ble_eq_true rfl)
    have N207 := Fr.snoc X205 N202 g156
    have Z208 : n0 ≤ h205.size := Nat.le_trans Z203 (Keep.of_wr W205).1
    refine own_via (fun k => XS.aload X205.here hx rfl (hb hby at_148) rfl rfl  (XS.iload X205.here hx rfl (hb hby at_150) rfl  (XS.bipush X205.here hx rfl (hb hby at_152) (XS.iadd X205.here hx rfl (hb hby at_154) rfl k)))) ?_
    show own_Go p e below s _ _ (T205.setTop (mkF m 155 #[jv q0, .second, iv p1, jv q2, .second, iv 3, rv b155] [(.int 10), (.ref b155)]))
    refine own_via (fun k => XS.lloadN X205.here hx rfl (hb hby at_155) rfl  (XS.l2i X205.here hx rfl (hb hby at_156) rfl (XS.i2b X205.here hx rfl (hb hby at_157) rfl k))) ?_
    show own_Go p e below s _ _ (T205.setTop (mkF m 158 #[jv q0, .second, iv p1, jv q2, .second, iv 3, rv b155] [(.int ((q0.toInt32).toInt8.toInt32)), (.int 10), (.ref b155)]))
    obtain ⟨z209, hz209⟩ : ∃ z : Int32, z = ((q0.toInt32).toInt8.toInt32) := ⟨_, rfl⟩
    rw [← hz209]
    show own_Go p e below s _ _ (T205.setTop (mkF m 158 #[jv q0, .second, iv p1, jv q2, .second, iv 3, rv b155] [(.int z209), (.int 10), (.ref b155)]))
    obtain ⟨cl210, Ar210, q210, S210, NN210, H210, G210⟩ := id B206
    have hin210 : ¬ ((10 : Int32) < 0 ∨ cl210.slots.size ≤ ((10 : Int32)).toNatClampNeg) := inb_of S210 ⟨by decide, by decide⟩
    obtain ⟨T210, h210, X210, e210, W210, st210⟩ := stB X205 hx hZ e205 Ar210 (j := (10 : Int32)) hin210 (g := (mkF m 158 #[jv q0, .second, iv p1, jv q2, .second, iv 3, rv b155] [(.int z209), (.int 10), (.ref b155)])) rfl rfl (hb hby at_158)
    refine own_via (fun k => st210 _ k) ?_
    show own_Go p e below s _ _ (T210.setTop (mkF m 159 #[jv q0, .second, iv p1, jv q2, .second, iv 3, rv b155] []))
    have B211 : Arv Z h210 b155 k155 .byte (11 : Int32) [(.int (nar .byte z159)), (.int (nar .byte z164)), (.int (nar .byte z169)), (.int (nar .byte z174)), (.int (nar .byte z179)), (.int (nar .byte z184)), (.int (nar .byte z189)), (.int (nar .byte z194)), (.int (nar .byte z199)), (.int (nar .byte z204)), (.int (nar .byte z209))] (.int 0) := Arv.set Ar210 q210 S210 NN210 H210 G210 (fits_nar_byte _) W210 10 rfl (Nat.le_of_ble_eq_true rfl)
    have N212 := Fr.snoc X210 N207 g156
    have Z213 : n0 ≤ h210.size := Nat.le_trans Z208 (Keep.of_wr W210).1
    refine own_via (fun k => XS.aload X210.here hx rfl (hb hby at_159) rfl rfl  k) ?_
    show own_Go p e below s _ _ (T210.setTop (mkF m 161 #[jv q0, .second, iv p1, jv q2, .second, iv 3, rv b155] [(.ref b155)]))
    obtain ⟨_, _, ⟨T214, L214, k214, n214⟩, -, X214, ⟨Lc214, hQ214, l214, y214, z214⟩, st214⟩ := Jvm.LawKit.callS X210 hx (y := (⟨"com/example/dani/dani/core/Key", "trailingNumber", "([B)J"⟩ : MethodName)) hown (mvT hZ (hw _ (List.mem_of_getElem? (i := 1) rfl))) (mvT hZ (hw _ (List.mem_of_getElem? (i := 2) rfl))) (mvT hZ (hw _ (List.mem_of_getElem? (i := 3) rfl))) (mvT hZ (hw _ (List.mem_of_getElem? (i := 4) rfl))) (by decide) (backOf (W := 0) (rm1_11 l Z aw hw [] b155 k155 (nar .byte z159) (nar .byte z164) (nar .byte z169) (nar .byte z174) (nar .byte z179) (nar .byte z184) (nar .byte z189) (nar .byte z194) (nar .byte z199) (nar .byte z204) (nar .byte z209) h210 n0 Z213 B211) hZ (hw _ (List.mem_of_getElem? (i := 4) rfl)) (hw _ (List.mem_of_getElem? (i := 3) rfl)) (by decide) (by decide)) (g := (mkF m 161 #[jv q0, .second, iv p1, jv q2, .second, iv 3, rv b155] [(.ref b155)])) rfl (by rw [hml]; rfl) (argsL := [(.ref b155)]) (rest := []) (lenOf pd_0 rfl) rfl (by show 2 * 0 + _ ≤ _; exact Nat.le_of_eq rfl) (hb hby at_161) (fun _ _ => ⟨rfl, e210, (by decide : 1 + 0 ≤ _), (by decide : 11 + 0 ≤ _)⟩)
    dsimp only [Pt.U, Pt.locs, Pt.cells, Pt.slots] at X214 l214 y214 z214 st214 hQ214
    subst l214 y214 z214
    obtain ⟨rfl, N214q, eh214⟩ := hQ214
    have N215 := Fr.app N212 N214q
    refine own_via (fun k => st214 _ k) ?_
    show own_Go p e below s _ _ (T214.setTop (mkF m 164 #[jv q0, .second, iv p1, jv q2, .second, iv 3, rv b155] [(.long (own_f1_11 (nar .byte z174) (nar .byte z179) (nar .byte z184) (nar .byte z189) (nar .byte z194) (nar .byte z199) (nar .byte z204) (nar .byte z209)))]))
    refine own_via (fun k => XS.lloadN X214.here hx rfl (hb hby at_164) rfl  (XS.lcmp X214.here hx rfl (hb hby at_165) rfl k)) ?_
    show own_Go p e below s _ _ (T214.setTop (mkF m 166 #[jv q0, .second, iv p1, jv q2, .second, iv 3, rv b155] [(.int (lcmpW (own_f1_11 (nar .byte z174) (nar .byte z179) (nar .byte z184) (nar .byte z189) (nar .byte z194) (nar .byte z199) (nar .byte z204) (nar .byte z209)) q0))]))
    refine own_via (fun k => XS.ifNo X214.here hx rfl (hb hby at_166) rfl ((if0 _ _).trans (teq ((lw_eq _ _).mpr (own_law3 q0 p1 z174 hz174 z179 hz179 z184 hz184 z189 hz189 z194 hz194 z199 hz199 z204 hz204 z209 hz209 hl1))).2) k) ?_
    show own_Go p e below s _ _ (T214.setTop (mkF m 169 #[jv q0, .second, iv p1, jv q2, .second, iv 3, rv b155] []))
    refine own_via (fun k => XS.iconst X214.here hx rfl (hb hby at_169) (XS.goto X214.here hx rfl (pc0 := 170) (pc' := 174) rfl (hb hby at_170) (by decide) (by decide) k)) ?_
    show own_Go p e below s _ _ (T214.setTop (mkF m 174 #[jv q0, .second, iv p1, jv q2, .second, iv 3, rv b155] [(.int 1)]))
    exact own_retN X214 hx hlk (t := .boolean) Bd.returns (by simp) (hb hby at_174) (Q := (Q0 Z q0 p1 q2 h0 n0)) ⟨rfl, N215⟩ (by decide) (by decide)
set_option maxRecDepth 65536 in
set_option maxHeartbeats 40000000 in
theorem comes_1 {Post : Tables → Env → Array Value → State → Outcome → State → Prop} (hpost : ∀ tb e args s v u, (limb_1_1.after args s (.returned v) u = true ∧ limb_1_2.after args s (.returned v) u = true ∧ True) → FrameEnd s (.returned v) u (Jvm.fieldLocs frame_1_writes args s ++ Jvm.arrayLocs frame_1_arrays args s ++ Jvm.staticLocs frame_1_statics s) 16 128 → Post tb e args s (.returned v) u) :
    ArmFor flags0 classFile x code maxLocals ret World_1 tables_1 room_1 Calls_1 rest_1 Pre_1 Post := by
  intro l hfl _ _ p e ha hc hk s m args below hf hA hF happ hP
  obtain ⟨hcalls, hrest, hpre⟩ := hP
  obtain ⟨-, -, -, hnamed, -, -, -, hat⟩ := (Spec.applies_iff hf).mp happ
  obtain ⟨hg, hn⟩ := and_e (Cond.before_iff.mp (show (Jvm.Cond.and given_1 narrow_1).before args s = true from hpre))
  obtain ⟨g1, g2⟩ := and_e hg
  obtain ⟨g3, g4⟩ := and_e g2
  obtain ⟨g5, g6⟩ := and_e g4
  obtain ⟨w0, w1, w2, rfl⟩ : ∃ w0 w1 w2 : Value, args = #[w0, w1, w2] := by
    have hs : args.size = 3 := by simpa [Cond.value, given_1] using g1
    obtain ⟨L⟩ := args
    match L, hs with
    | [w0, w1, w2], _ => exact ⟨w0, w1, w2, rfl⟩
  have hw := fun d (hd : d ∈ tables_1) => atoms_spec (ws := Jvm.Cond.code x code maxLocals ret :: tables_1) hat d (List.mem_cons_of_mem _ hd)
  obtain ⟨i0, ei0⟩ := isL_v g3
  obtain rfl : w0 = (.long i0) := Option.some.inj ei0
  obtain ⟨i1, ei1⟩ := is_v g5
  obtain rfl : w1 = (.int i1) := Option.some.inj ei1
  obtain ⟨i2, ei2⟩ := isL_v g6
  obtain rfl : w2 = (.long i2) := Option.some.inj ei2
  obtain ⟨n, o, h1, h2, h3, _, L, rfl, ⟨rfl, N⟩, hq⟩ := rm0 l s _ hw tables_1 i0 i1 i2 s.heap s.heap.size (Nat.le_refl _) p e ha hc hk s m _ below hf ((Spec.applies_iff_loose hf).mp happ).1 ⟨rfl, State.Warmed39.refl s, rfl⟩ trivial
  refine ⟨n, _, h1, h2, h3, hpost _ _ _ _ _ _ ⟨Cond.after_iff.mpr rfl, Cond.after_iff.mpr (eq_i res_at (Term.int_eval (1)) rfl), trivial⟩ ⟨hq.1, hq.2.1, (hq.2.2.sift fun y hy => Or.inr (N y hy)).mono (by decide) (by decide)⟩⟩
theorem main_1_1 : Claimed_1_1 := comes_1 fun _ _ _ _ _ _ h hF => ⟨h.1, hF⟩
theorem main_1_2 : Claimed_1_2 := comes_1 fun _ _ _ _ _ _ h hF => ⟨h.2.1, hF⟩
end Jvm.Pilot.@@N@@
namespace Jvm.Pilot.@@N@@
open Jvm Jvm.ClassFile Sem Op Lib Jvm.Free Jvm.Stand Jvm.Pilot.@@N@@.Jvm.D
/-! MADE BY PROGRAM (witnessworld.py) out of the Statement's table words and the real class files: 9 classes; the members and pool entries that the words name. The judged class is class 1, her method 1. -/
namespace start1
open Jvm.ClassFile
def u (s : String) : CpInfo := .utf8 (stringToUtf16 s)
/-- a pool by its gaps: so many unusable entries, then the entry; so many at the end -/
def gap : Nat → List CpInfo → List CpInfo
  | 0, r => r
  | n + 1, r => .unusable :: gap n r
def poolList (es : List (Nat × CpInfo)) (last : Nat) : List CpInfo := es.foldr (fun e r => gap e.1 (e.2 :: r)) (gap last [])
def pool (es : List (Nat × CpInfo)) (last : Nat) : Array CpInfo := ⟨poolList es last⟩
def fileOf (pool : Array CpInfo) (this : Nat) (attrs : Array Attribute := #[]) (ms : Array MethodInfo := #[]) (fl : Nat := 33) (sup : Nat := 0) (ifs : Array Nat := #[]) (fds : Array FieldInfo := #[]) : ClassFile where
  minorVersion := 0
  majorVersion := 65
  constantPool := pool
  accessFlags := fl
  thisClass := this
  superClass := sup
  interfaces := ifs
  fields := fds
  methods := ms
  attributes := attrs
def plain (name : String) (sup : Option ClassId) : Class where
  name := name
  kind := .ordinary
  loader := none
  accessFlags := 33
  super := sup
  interfaces := #[]
  cf := none
  fields := #[]
  methods := #[]
  instanceTypes := #[]
  staticTypes := #[]
  resolved := #[]
  callSites := []
  init := .initialized
  statics := none
  mirror := none

def pool0 : Array CpInfo := pool [(5, u "<init>"), (0, u "()V"), (1, .class_ 10), (1, u "java/lang/Object")] 113

def k0m0 : Method := { name := "<init>", desc := "()V", sig := { parameters := [], returnType := none }, accessFlags := 1, code := none }
/-- java/lang/Object -/
def k0 : Class := { plain "java/lang/Object" none with
  accessFlags := 33
  interfaces := #[]
  cf := some (fileOf pool0 8 #[] #[{ accessFlags := 1, nameIndex := 5, descriptorIndex := 6, attributes := #[] }] 33 0 #[] #[])
  fields := #[]
  methods := #[k0m0]
  instanceTypes := #[]
  staticTypes := #[]
  resolved := Array.replicate 124 none
  statics := none }

def pool1 : Array CpInfo := pool [(2, .class_ 4), (1, u "java/lang/Object"), (0, u "<init>"), (0, u "()V"), (0, .methodref 8 9), (0, .class_ 10), (0, .nameAndType 11 12), (0, u "com/example/dani/dani/core/Key"), (0, u "trailingNumber"), (0, u "([B)J"), (0, .class_ 14), (0, u "com/example/dani/dani/core/KeyTrailingNumberPinLaw"), (2, u "law"), (0, u "(JIJ)Z")] 5

def k1m0 : Method := { name := "<init>", desc := "()V", sig := { parameters := [], returnType := none }, accessFlags := 1, code := none }
def k1c1 : Code := { maxStack := 5, maxLocals := 7, code := code, exceptionTable := #[], attributes := #[] }
def k1m1 : Method := { name := "law", desc := "(JIJ)Z", sig := { parameters := [.long, .int, .long], returnType := some .boolean }, accessFlags := 9, code := some k1c1 }
/-- com/example/dani/dani/core/KeyTrailingNumberPinLaw -/
def k1 : Class := { plain "com/example/dani/dani/core/KeyTrailingNumberPinLaw" (some 0) with
  accessFlags := 49
  interfaces := #[]
  cf := some (fileOf pool1 13 #[] #[{ accessFlags := 1, nameIndex := 5, descriptorIndex := 6, attributes := #[] }, { accessFlags := 9, nameIndex := 17, descriptorIndex := 18, attributes := #[] }] 49 2 #[] #[])
  fields := #[]
  methods := #[k1m0, k1m1]
  instanceTypes := #[]
  staticTypes := #[]
  resolved := Array.replicate 24 none
  statics := none }

def pool2 : Array CpInfo := pool [(2, .class_ 4), (1, u "java/lang/Object"), (3, .class_ 10), (1, u "com/example/dani/dani/core/Key"), (0, u "bytes"), (0, u "[B"), (18, u "length"), (0, u "I"), (83, u "trailingNumber"), (0, u "([B)J")] 19

def k2c0 : Code := { maxStack := 4, maxLocals := 4, code := prog_5_method_16_code, exceptionTable := #[], attributes := #[] }
def k2m0 : Method := { name := "trailingNumber", desc := "([B)J", sig := { parameters := [(.array .byte)], returnType := some .long }, accessFlags := 8, code := some k2c0 }
/-- com/example/dani/dani/core/Key -/
def k2 : Class := { plain "com/example/dani/dani/core/Key" (some 0) with
  accessFlags := 32
  interfaces := #[]
  cf := some (fileOf pool2 8 #[] #[{ accessFlags := 8, nameIndex := 116, descriptorIndex := 117, attributes := #[] }] 32 2 #[] #[{ accessFlags := 2, nameIndex := 11, descriptorIndex := 12, attributes := #[] }, { accessFlags := 2, nameIndex := 31, descriptorIndex := 32, attributes := #[] }])
  fields := #[{ name := "bytes", type := (.array .byte), accessFlags := 2, slot := 0, constantValue := 0 }, { name := "length", type := .int, accessFlags := 2, slot := 1, constantValue := 0 }]
  methods := #[k2m0]
  instanceTypes := #[(.array .byte), .int]
  staticTypes := #[]
  resolved := Array.replicate 137 none
  statics := none }

def pool3 : Array CpInfo := pool [(1, u "java/lang/Cloneable"), (0, .class_ 1), (0, u "java/lang/Object"), (0, .class_ 3)] 3

/-- java/lang/Cloneable -/
def k3 : Class := { plain "java/lang/Cloneable" (some 0) with
  accessFlags := 1537
  interfaces := #[]
  cf := some (fileOf pool3 2 #[] #[] 1537 4 #[] #[])
  fields := #[]
  methods := #[]
  instanceTypes := #[]
  staticTypes := #[]
  resolved := Array.replicate 8 none
  statics := none }

def pool4 : Array CpInfo := pool [(1, u "java/io/Serializable"), (0, .class_ 1), (0, u "java/lang/Object"), (0, .class_ 3)] 3

/-- java/io/Serializable -/
def k4 : Class := { plain "java/io/Serializable" (some 0) with
  accessFlags := 1537
  interfaces := #[]
  cf := some (fileOf pool4 2 #[] #[] 1537 4 #[] #[])
  fields := #[]
  methods := #[]
  instanceTypes := #[]
  staticTypes := #[]
  resolved := Array.replicate 8 none
  statics := none }

/-- the primitive byte -/
def k5 : Class := { plain "byte" none with kind := .primitive 'B', accessFlags := 0x411 }
/-- [B -/
def k6 : Class := { plain "[B" (some 0) with kind := .array 5 .byte, interfaces := #[3, 4], accessFlags := 1041 }

/-- the primitive int -/
def k7 : Class := { plain "int" none with kind := .primitive 'I', accessFlags := 0x411 }
/-- [I -/
def k8 : Class := { plain "[I" (some 0) with kind := .array 7 .int, interfaces := #[3, 4], accessFlags := 1041 }

def heap : Heap := #[]
def classes : Array Class := #[k0, k1, k2, k3, k4, k5, k6, k7, k8]
def interned : List (Array UInt16 × Addr) := []
def slotsUsed : Nat := 0
def theMethod : MethodId := ⟨1, 1⟩
def args0 : Array Value := #[.long 5, .int 9, .long 3]
def aboutOver (below : List Frame) : State where
  vm := { classes := classes, interned := interned.toArray }
  heap := heap
  slotsUsed := slotsUsed
  threads := #[{ frames := .invoking theMethod args0 :: below }]
def below0 : List Frame := [.native { method := ⟨0, 0⟩, args := #[] }]
def about1 : State := aboutOver below0
def p0 : Program := .bare "" "" ""
def e0 : Env := launch0.env 0 0 0
theorem w_frames : about1.frames = Frame.invoking theMethod args0 :: below0 := rfl
set_option maxRecDepth 65536 in
theorem w_args : argsFit about1.vm theMethod args0 = true := by decide +kernel
set_option maxRecDepth 65536 in
theorem w_heap : heapFits about1 = true := by decide +kernel
set_option maxRecDepth 65536 in
theorem w_runnable : about1.curStatus? = some .runnable := by decide +kernel
set_option maxRecDepth 65536 in
theorem w_alone : about1.alone = true := by decide +kernel
set_option maxRecDepth 65536 in
theorem w_named : about1.methodNamed? x = some theMethod := by decide +kernel
set_option maxRecDepth 65536 in
theorem w_hears : about1.hears theMethod below0 = true := by decide +kernel
set_option maxRecDepth 65536 in
theorem w_ripe : about1.ripe theMethod args0 below0 = true := by decide +kernel
theorem w_running : about1.status = .running := rfl
set_option maxRecDepth 65536 in
theorem w_room : about1.hasRoom e0.platform room_1 = true :=
  launch0.hasRoom_least _ room_1 (by decide +kernel) (by decide +kernel) (by decide +kernel) (by decide +kernel) (by decide +kernel) (by decide +kernel)
theorem allAtoms_all (ts : List Jvm.Cond) (a : Array Jvm.Value) (st : Jvm.State) : (allAtoms ts).before a st = ts.all (fun c => c.before a st) := by
  induction ts with
  | nil => rfl
  | cons c t ih =>
    show (Jvm.Cond.and c (allAtoms t)).before a st = _
    rw [Jvm.Cond.before_and, ih, List.all_cons]
def words1 : List Jvm.Cond := Jvm.Cond.code x code maxLocals ret :: tables_1
/-- a 'code' word, met by the world's own term for the bytes: nothing is compared byte by byte -/
theorem code_word {y : MethodName} {bytes : ByteArray} {mx : Nat} {rt : Option FieldType} {a : Array Value} {s : State} {m : MethodId} {meth : Method} {c : Code} (h1 : s.methodNamed? y = some m) (h2 : s.vm.method? m = some meth) (h3 : meth.code = some c) (h4 : c.code = bytes)
    (h5 : (c.maxLocals == mx && c.exceptionTable.isEmpty && decide (c.maxStack ≤ mostOperands) && decide (meth.sig.returnType = rt) && !meth.locks && decide (parseMethodDescriptor y.desc = some meth.sig)) = true) : (Jvm.Cond.code y bytes mx rt).before a s = true := by
  simp only [Bool.and_eq_true, beq_iff_eq, Bool.not_eq_true', decide_eq_true_eq] at h5
  obtain ⟨⟨⟨⟨⟨g1, g2⟩, g3⟩, g4⟩, g5⟩, g6⟩ := h5
  simp [Cond.before, Cond.holds, Cond.value, h1, h2, h3, h4, g1, g2, g3, g4, g5, g6]
def isCode : Jvm.Cond → Bool
  | .code _ _ _ _ => true
  | _ => false
theorem all_split {L : List Jvm.Cond} {P : Jvm.Cond → Bool} (h1 : L.all (fun c => isCode c || P c) = true) (h2 : ∀ c ∈ L.filter isCode, P c = true) : L.all P = true := by
  refine List.all_eq_true.mpr fun c hc => ?_
  have h := List.all_eq_true.mp h1 c hc
  rcases Bool.eq_false_or_eq_true (isCode c) with hi | hi
  · exact h2 c (List.mem_filter.mpr ⟨hc, hi⟩)
  · simpa [hi] using h
set_option maxRecDepth 65536 in
theorem w_c0 : (Jvm.Cond.code x code maxLocals ret).before args0 about1 = true := code_word (m := ⟨1, 1⟩) (meth := k1m1) (c := k1c1) (by decide +kernel) rfl rfl rfl (by decide +kernel)
set_option maxRecDepth 65536 in
theorem w_c1 : (Jvm.Cond.code ({ cls := "com/example/dani/dani/core/Key", name := "trailingNumber", desc := "([B)J" } : Jvm.MethodName) prog_5_method_16_code (4 : Nat) (Option.some Jvm.ClassFile.FieldType.long)).before args0 about1 = true := code_word (m := ⟨2, 0⟩) (meth := k2m0) (c := k2c0) (by decide +kernel) rfl rfl rfl (by decide +kernel)
def codes1 : List Jvm.Cond := [Jvm.Cond.code x code maxLocals ret, Jvm.Cond.code ({ cls := "com/example/dani/dani/core/Key", name := "trailingNumber", desc := "([B)J" } : Jvm.MethodName) prog_5_method_16_code (4 : Nat) (Option.some Jvm.ClassFile.FieldType.long)]
set_option maxRecDepth 65536 in
theorem codes_eq : words1.filter isCode = codes1 := rfl
theorem w_codes : ∀ c ∈ words1.filter isCode, c.before args0 about1 = true := by
  rw [codes_eq]
  intro c hc
  simp only [codes1, List.mem_cons, List.not_mem_nil, or_false] at hc
  rcases hc with rfl | rfl
  · exact w_c0
  · exact w_c1
set_option maxRecDepth 65536 in
theorem w_t1 : words1.all (fun c => isCode c || c.before args0 about1) = true := by decide +kernel
theorem w_tables : (allAtoms (Jvm.Cond.code x code maxLocals ret :: tables_1)).before args0 about1 = true := by
  rw [allAtoms_all]
  show words1.all (fun c => c.before args0 about1) = true
  refine all_split ?_ w_codes
  rw [w_t1]
set_option maxRecDepth 65536 in
theorem w_case : (Jvm.Cond.and given_1 narrow_1).before args0 about1 = true := by decide +kernel
theorem w_applies : (headSpec (Jvm.Cond.code x code maxLocals ret :: tables_1) room_1).applies x e0.platform about1 = true :=
  (Spec.applies_iff w_frames).mpr ⟨w_running, w_runnable, w_alone, w_named, w_hears, w_ripe, w_room, w_tables⟩
theorem atStart : AtStart classFile x code maxLocals ret World_1 tables_1 room_1 Calls_1 rest_1 Pre_1 launch0 p0 e0 about1 theMethod args0 below0 :=
  ⟨lists_1, trivial, launch0.admits_env _ _ _, launch0.least_env, fairChoices_fair.cas, fairChoices_fair.clock, w_frames, w_args, w_heap, w_applies, trivial, trivial, w_case⟩
end start1
theorem witness_1 : WitnessClaimed_1 := ⟨start1.p0, start1.e0, start1.about1, start1.theMethod, start1.args0, start1.below0, start1.atStart⟩
end Jvm.Pilot.@@N@@
