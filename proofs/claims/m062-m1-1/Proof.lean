import JvmDerived
import JvmDerived.Pilot.@@N@@Statement
import JvmDerived.Pilot.@@N@@Code
set_option linter.unusedVariables false
set_option linter.unusedSimpArgs false
namespace Jvm.RoadKit
open Sem ClassFile Op Lib Jvm.Stand Jvm.Free Jvm.LawKit
section New
variable {p : Program} {l : Launch} {e : Env} {R : Room} {s : State} {m : MethodId} {args : Array Value} {below : List Frame} {meth : Method} {c : Code} {T : State} {locs : List Loc} {cells slots : Nat}
theorem retI (X : Stand p l e R s m args below meth c T locs cells slots) (hx : p.tables.exec = Jvm.exec) {pc : Nat} {Ls : Array Slot} {z : Int32} {rest : List Value} (hret : meth.sig.returnType = some .int) (hd : decode c.code pc = .ok (.ireturn, 1)) {fs : List Frame}
    (hl : ∀ (f : JFrame) (acts : List Action), f.method = m → f.locked = none → f.entered = [] → (doReturn e (T.setTop f) acts (some (.int z))).1 = T.setFrames fs) : Steps p.tables e below (T.setTop (mkF m pc Ls (.int z :: rest))) (T.setFrames fs) := by
  have hm' : T.vm.method? m = some meth := X.method'
  have hn : narrow .int (.int z) = .int z := rfl
  show Steps p.tables e below (T.setTop { method := m, pc := pc, locals := Ls, stack := _ :: rest, locked := none }) _
  jvm_step X.here [X.here.top, hx, hd, hm', hret, hn]
  first | (intro acts; rw [hl _ acts rfl rfl rfl]) | rw [hl _ _ rfl rfl rfl]
  exact Steps.refl _
abbrev jv (x : Int64) : Slot := .val (.long x)
/-- from the state st the run ends as Q says -/
def own_Go (p : Program) (e : Env) (below : List Frame) (s : State) (Q : Option Value → Heap → List Loc → Prop) (CS : Nat × Nat) (st : State) : Prop :=
  ∃ s₂ o, Steps p.tables e below st s₂ ∧ s₂.status = .running ∧ Ended s₂ below o ∧ ∃ v L, o = .returned v ∧ Q v s₂.heap L ∧ FrameEnd s o s₂ L CS.1 CS.2
variable {Q : Option Value → Heap → List Loc → Prop} {CS : Nat × Nat} {st st' : State}
theorem own_via (h : ∀ {t}, Steps p.tables e below st t → Steps p.tables e below st' t) (g : own_Go p e below s Q CS st) : own_Go p e below s Q CS st' := by
  obtain ⟨s₂, o, h1, h2⟩ := g
  exact ⟨s₂, o, h h1, h2⟩
theorem own_start {g g' : JFrame} (q : g = g') (h : own_Go p e below s Q CS (T.setTop g')) : ∃ s₂ o, Steps p.tables e below (T.setTop g) s₂ ∧ s₂.status = .running ∧ Ended s₂ below o ∧ ∃ v L, o = .returned v ∧ Q v s₂.heap L ∧ FrameEnd s o s₂ L CS.1 CS.2 := q ▸ h
theorem own_retN (X : Stand p l e R s m args below meth c T locs cells slots) (hx : p.tables.exec = Jvm.exec) (hlk : meth.locks = false) {pc : Nat} {Ls : Array Slot} {z : Int32} {t : FieldType} {rest : List Value} (hret : meth.sig.returnType = some t) (ht : t = .boolean ∨ t = .byte ∨ t = .char ∨ t = .short)
    (hd : decode c.code pc = .ok (.ireturn, 1)) (hq : Q (some (.int (nar t z))) T.heap locs) (hc : cells ≤ CS.1) (hs : slots ≤ CS.2) : own_Go p e below s Q CS (T.setTop (mkF m pc Ls (.int z :: rest))) := by
  obtain ⟨fs, hr, hrun, hended, hW, hsame⟩ := X.leave (v := some (.int (nar t z))) (fun h => by rw [hret] at h; cases h) hlk
  exact ⟨_, _, retN X hx hret ht hd hr, hrun, hended, _, _, rfl, hq, ⟨_, rfl⟩, hW, hsame.mono hc hs⟩
theorem own_retI (X : Stand p l e R s m args below meth c T locs cells slots) (hx : p.tables.exec = Jvm.exec) (hlk : meth.locks = false) {pc : Nat} {Ls : Array Slot} {z : Int32} {rest : List Value} (hret : meth.sig.returnType = some .int)
    (hd : decode c.code pc = .ok (.ireturn, 1)) (hq : Q (some (.int z)) T.heap locs) (hc : cells ≤ CS.1) (hs : slots ≤ CS.2) : own_Go p e below s Q CS (T.setTop (mkF m pc Ls (.int z :: rest))) := by
  obtain ⟨fs, hr, hrun, hended, hW, hsame⟩ := X.leave (v := some (.int z)) (fun h => by rw [hret] at h; cases h) hlk
  exact ⟨_, _, retI X hx hret hd hr, hrun, hended, _, _, rfl, hq, ⟨_, rfl⟩, hW, hsame.mono hc hs⟩
theorem own_retL (X : Stand p l e R s m args below meth c T locs cells slots) (hx : p.tables.exec = Jvm.exec) (hlk : meth.locks = false) {pc : Nat} {Ls : Array Slot} {z : Int64} (hret : meth.sig.returnType = some .long)
    (hd : decode c.code pc = .ok (.lreturn, 1)) (hq : Q (some (.long z)) T.heap locs) (hc : cells ≤ CS.1) (hs : slots ≤ CS.2) : own_Go p e below s Q CS (T.setTop (mkF m pc Ls [.long z])) := by
  obtain ⟨fs, hr, hrun, hended, hW, hsame⟩ := X.leave (v := some (.long z)) (fun h => by rw [hret] at h; cases h) hlk
  exact ⟨_, _, X.lreturnOut hx hret hd hr, hrun, hended, _, _, rfl, hq, ⟨_, rfl⟩, hW, hsame.mono hc hs⟩
theorem own_retA (X : Stand p l e R s m args below meth c T locs cells slots) (hx : p.tables.exec = Jvm.exec) (hlk : meth.locks = false) {pc : Nat} {Ls : Array Slot} {w : Value} (hw : w.isRef = true) {t : FieldType} (hret : meth.sig.returnType = some t) (ht : t.isReference = true)
    (hd : decode c.code pc = .ok (.areturn, 1)) (hq : Q (some w) T.heap locs) (hc : cells ≤ CS.1) (hs : slots ≤ CS.2) : own_Go p e below s Q CS (T.setTop (mkF m pc Ls [w])) := by
  obtain ⟨fs, hr, hrun, hended, hW, hsame⟩ := X.leave (v := some w) (fun h => by rw [hret] at h; cases h) hlk
  exact ⟨_, _, X.areturnOut hx hw hret ht hd hr, hrun, hended, _, _, rfl, hq, ⟨_, rfl⟩, hW, hsame.mono hc hs⟩
theorem own_ret0 (X : Stand p l e R s m args below meth c T locs cells slots) (hx : p.tables.exec = Jvm.exec) (hlk : meth.locks = false) {pc : Nat} {Ls : Array Slot} (hret : meth.sig.returnType = none)
    (hd : decode c.code pc = .ok (.return_, 1)) (hq : Q none T.heap locs) (hc : cells ≤ CS.1) (hs : slots ≤ CS.2) : own_Go p e below s Q CS (T.setTop (mkF m pc Ls [])) := by
  obtain ⟨fs, hr, hrun, hended, hW, hsame⟩ := X.leave (v := none) (fun _ => rfl) hlk
  exact ⟨_, _, X.returnOut hx hret hd hr, hrun, hended, _, _, rfl, hq, ⟨_, rfl⟩, hW, hsame.mono hc hs⟩
theorem own_selPriv {s : State} {args args' : Array Value} {y y' : MethodName} {C : String} (w : (Cond.selects C y' y').before args' s = true) (hc : y'.cls = y.cls) (hinst : (Cond.instanceMethod y).before args s = true) (hpriv : s.PrivateAt y) (hy : y.cls ≠ "java/lang/invoke/MethodHandle" ∧ y.cls ≠ "java/lang/invoke/VarHandle") : (Cond.selects y.cls y y).before args s = true := by
  obtain ⟨c2, r2, m2, q1, q2, q3, q4, kP, hkP, hkPi⟩ := Cond.selects_spec w
  exact selects_self_of_private (c := m2.cls) (k := kP) (by rw [← hc]; exact findClass_of_methodNamed q3) hkP hkPi hpriv hinst hy
theorem own_fldI {Z : State} {h : Heap} {a : Addr} {C n d : String} {v w : Int32} (q : v = w) (F : Fld Z h a C n d (.int v)) : Fld Z h a C n d (.int w) := q ▸ F
theorem own_fldJ {Z : State} {h : Heap} {a : Addr} {C n d : String} {v w : Int64} (q : v = w) (F : Fld Z h a C n d (.long v)) : Fld Z h a C n d (.long w) := q ▸ F
theorem own_arv {Z : State} {h : Heap} {a : Addr} {k : ClassId} {ty : FieldType} {n : Int32} {vs vs' : List Value} {d : Value} (q : vs = vs') (F : Arv Z h a k ty n vs d) : Arv Z h a k ty n vs' d := q ▸ F
theorem own_fits {t : FieldType} {v w : Int32} (q : v = w) (F : fits t (.int v) = true) : fits t (.int w) = true := q ▸ F
end New
end Jvm.RoadKit
namespace Jvm.Pilot.@@N@@
open Jvm Jvm.ClassFile Sem Op Lib Jvm.Free Jvm.Stand Jvm.LawKit Jvm.RoadKit Bundle Jvm.Pilot.@@N@@.Jvm.D
theorem own_l32 {x y : Int32} : x < y ↔ x.toInt < y.toInt := Int32.lt_iff_toInt_lt
theorem own_e32 {x y : Int32} : x = y ↔ x.toInt = y.toInt := Int32.toInt_inj.symm
theorem own_l64 {x y : Int64} : x < y ↔ x.toInt < y.toInt := Int64.lt_iff_toInt_lt
theorem own_e64 {x y : Int64} : x = y ↔ x.toInt = y.toInt := Int64.toInt_inj.symm
theorem own_all8 {P : Int8 → Prop} (h : ∀ n : Fin 256, P (Int8.ofBitVec (BitVec.ofFin n))) (i : Int8) : P i := h i.toBitVec.toFin
def own_dg (b : Int32) : Int32 := if b < (48 : Int32) then (-1 : Int32) else (if (57 : Int32) < b then (-1 : Int32) else (b - (48 : Int32)))
theorem own_di1 {b : Int32} (h : b < (48 : Int32)) : own_dg b < (0 : Int32) := by rw [own_dg, if_pos h]; decide
theorem own_di2 {b : Int32} (h : ¬ b < (48 : Int32)) (k : (57 : Int32) < b) : own_dg b < (0 : Int32) := by rw [own_dg, if_neg h, if_pos k]; decide
theorem own_dv {b : Int32} (h : ¬ b < (48 : Int32)) (k : ¬ (57 : Int32) < b) : ¬ own_dg b < (0 : Int32) ∧ (own_dg b).toInt = b.toInt - 48 ∧ 48 ≤ b.toInt ∧ b.toInt ≤ 57 := by
  have e48 : (48 : Int32).toInt = 48 := by decide
  have e57 : (57 : Int32).toInt = 57 := by decide
  have e0 : (0 : Int32).toInt = 0 := by decide
  have s := c_isub b 48; have r := rng32 (b - 48)
  rw [own_dg, if_neg h, if_neg k]
  rw [own_l32] at h k
  refine ⟨fun q => ?_, by omega, by omega, by omega⟩
  rw [own_l32] at q; omega
theorem own_h0 {b : Int32} (h1 : 48 ≤ b.toInt) (h2 : b.toInt ≤ 57) : (((0 : Int32) + b) - (48 : Int32)).toInt = b.toInt - 48 := by
  have e48 : (48 : Int32).toInt = 48 := by decide
  have s := c_isub b 48; have r := rng32 (b - 48)
  rw [Int32.zero_add]; omega
theorem own_hor {u b : Int32} (u1 : 0 ≤ u.toInt) (u2 : u.toInt ≤ 9999) (h1 : 48 ≤ b.toInt) (h2 : b.toInt ≤ 57) : ((((10 : Int32) * u) + b) - (48 : Int32)).toInt = 10 * u.toInt + (b.toInt - 48) := by
  have e48 : (48 : Int32).toInt = 48 := by decide
  have e10 : (10 : Int32).toInt = 10 := by decide
  have m := c_imul 10 u; have a := c_iadd (10 * u) b; have s := c_isub (10 * u + b) 48
  have r := rng32 (10 * u); have r1 := rng32 (10 * u + b); have r2 := rng32 (10 * u + b - 48)
  rw [e10] at m; omega
theorem own_sum {d0 d1 d2 d3 d4 : Int32} (a0 : 0 ≤ d0.toInt ∧ d0.toInt ≤ 9) (a1 : 0 ≤ d1.toInt ∧ d1.toInt ≤ 9) (a2 : 0 ≤ d2.toInt ∧ d2.toInt ≤ 9) (a3 : 0 ≤ d3.toInt ∧ d3.toInt ≤ 9) (a4 : 0 ≤ d4.toInt ∧ d4.toInt ≤ 9) : (((((d0 * (10000 : Int32)) + (d1 * (1000 : Int32))) + (d2 * (100 : Int32))) + (d3 * (10 : Int32))) + d4).toInt = d0.toInt * 10000 + d1.toInt * 1000 + d2.toInt * 100 + d3.toInt * 10 + d4.toInt := by
  have e4 : (10000 : Int32).toInt = 10000 := by decide
  have e3 : (1000 : Int32).toInt = 1000 := by decide
  have e2 : (100 : Int32).toInt = 100 := by decide
  have e1 : (10 : Int32).toInt = 10 := by decide
  have m0 := c_imul d0 10000; have m1 := c_imul d1 1000; have m2 := c_imul d2 100; have m3 := c_imul d3 10
  rw [e4] at m0; rw [e3] at m1; rw [e2] at m2; rw [e1] at m3
  have r0 := rng32 (d0 * 10000); have r1 := rng32 (d1 * 1000); have r2 := rng32 (d2 * 100); have r3 := rng32 (d3 * 10)
  have s1 := c_iadd (d0 * 10000) (d1 * 1000); have t1 := rng32 (d0 * 10000 + d1 * 1000)
  have s2 := c_iadd (d0 * 10000 + d1 * 1000) (d2 * 100); have t2 := rng32 (d0 * 10000 + d1 * 1000 + d2 * 100)
  have s3 := c_iadd (d0 * 10000 + d1 * 1000 + d2 * 100) (d3 * 10); have t3 := rng32 (d0 * 10000 + d1 * 1000 + d2 * 100 + d3 * 10)
  have s4 := c_iadd (d0 * 10000 + d1 * 1000 + d2 * 100 + d3 * 10) d4; have t4 := rng32 (d0 * 10000 + d1 * 1000 + d2 * 100 + d3 * 10 + d4)
  omega
theorem own_c9 {x : Int32} (h0 : ¬ x < (0 : Int32)) (h9 : x < (9 : Int32)) : x = 0 ∨ x = 1 ∨ x = 2 ∨ x = 3 ∨ x = 4 ∨ x = 5 ∨ x = 6 ∨ x = 7 ∨ x = 8 := by
  have e0 : (0 : Int32).toInt = 0 := by decide
  have e1 : (1 : Int32).toInt = 1 := by decide
  have e2 : (2 : Int32).toInt = 2 := by decide
  have e3 : (3 : Int32).toInt = 3 := by decide
  have e4 : (4 : Int32).toInt = 4 := by decide
  have e5 : (5 : Int32).toInt = 5 := by decide
  have e6 : (6 : Int32).toInt = 6 := by decide
  have e7 : (7 : Int32).toInt = 7 := by decide
  have e8 : (8 : Int32).toInt = 8 := by decide
  have e9 : (9 : Int32).toInt = 9 := by decide
  rw [own_l32] at h0 h9; simp only [own_e32]; omega
theorem own_zb {u z m : Int32} (M : Int) (hm : m.toInt = M) (hM : 0 < M) (hz : z = (u &&& (2147483647 : Int32)) % m) : 0 ≤ z.toInt ∧ z.toInt < M := by
  have a := c_mask u 2147483647 31 (by decide) (by decide)
  have r := (c_irem (u &&& (2147483647 : Int32)) m M hm).1 (by omega)
  rw [hz, r]; exact ⟨Int.emod_nonneg _ (by omega), Int.emod_lt_of_pos _ hM⟩
theorem own_zlo {u z m : Int32} (M : Int) (hm : m.toInt = M) (hM : 0 < M) (hz : z = (u &&& (2147483647 : Int32)) % m) : ¬ z < (0 : Int32) := by
  have := own_zb M hm hM hz; have e0 : (0 : Int32).toInt = 0 := by decide
  rw [own_l32]; omega
theorem own_zhi {u z m : Int32} (M : Int) (hm : m.toInt = M) (hM : 0 < M) (hz : z = (u &&& (2147483647 : Int32)) % m) : z < m := by
  have := own_zb M hm hM hz; rw [own_l32]; omega
theorem own_h9 {x y : Int32} (h : x < y) (hy : y.toInt ≤ 9) : x < (9 : Int32) := by
  have e9 : (9 : Int32).toInt = 9 := by decide
  rw [own_l32] at h ⊢; omega
def own_b (w0 w1 w2 w3 w4 w5 w6 w7 j : Int32) : Int32 := if j = 0 then w0 else if j = 1 then w1 else if j = 2 then w2 else if j = 3 then w3 else if j = 4 then w4 else if j = 5 then w5 else if j = 6 then w6 else w7
theorem own_get (w0 w1 w2 w3 w4 w5 w6 w7 j : Int32) (h : ¬ j < (0 : Int32) ∧ j < (8 : Int32)) : ([.int w0, .int w1, .int w2, .int w3, .int w4, .int w5, .int w6, .int w7] : List Value).getD j.toNatClampNeg (.int (0 : Int32)) = .int (own_b w0 w1 w2 w3 w4 w5 w6 w7 j) := by
  have e : j = 0 ∨ j = 1 ∨ j = 2 ∨ j = 3 ∨ j = 4 ∨ j = 5 ∨ j = 6 ∨ j = 7 ∨ j = 8 := own_c9 h.1 (own_h9 h.2 (by decide))
  rcases e with rfl | rfl | rfl | rfl | rfl | rfl | rfl | rfl | rfl
  · rfl
  · rfl
  · rfl
  · rfl
  · rfl
  · rfl
  · rfl
  · rfl
  · exact absurd h.2 (by decide)
theorem d1_0 : decode method_3_code 0 = .ok (.iload_n 2, 1) := by decide +kernel
theorem d1_1 : decode method_3_code 1 = .ok (.iload_n 3, 1) := by decide +kernel
theorem d1_2 : decode method_3_code 2 = .ok (.if_icmp .lt 5, 3) := by decide +kernel
theorem d1_5 : decode method_3_code 5 = .ok (.iconst 0, 1) := by decide +kernel
theorem d1_6 : decode method_3_code 6 = .ok (.ireturn, 1) := by decide +kernel
theorem d1_7 : decode method_3_code 7 = .ok (.aload_n 0, 1) := by decide +kernel
theorem d1_8 : decode method_3_code 8 = .ok (.iload_n 1, 1) := by decide +kernel
theorem d1_9 : decode method_3_code 9 = .ok (.iload_n 2, 1) := by decide +kernel
theorem d1_10 : decode method_3_code 10 = .ok (.iadd, 1) := by decide +kernel
theorem d1_11 : decode method_3_code 11 = .ok (.baload, 1) := by decide +kernel
theorem d1_12 : decode method_3_code 12 = .ok (.istore 4, 2) := by decide +kernel
theorem d1_14 : decode method_3_code 14 = .ok (.iload 4, 2) := by decide +kernel
theorem d1_16 : decode method_3_code 16 = .ok (.bipush 48, 2) := by decide +kernel
theorem d1_18 : decode method_3_code 18 = .ok (.if_icmp .lt 10, 3) := by decide +kernel
theorem d1_21 : decode method_3_code 21 = .ok (.iload 4, 2) := by decide +kernel
theorem d1_23 : decode method_3_code 23 = .ok (.bipush 57, 2) := by decide +kernel
theorem d1_25 : decode method_3_code 25 = .ok (.if_icmp .le 5, 3) := by decide +kernel
theorem d1_28 : decode method_3_code 28 = .ok (.iconst (-1), 1) := by decide +kernel
theorem d1_29 : decode method_3_code 29 = .ok (.ireturn, 1) := by decide +kernel
theorem d1_30 : decode method_3_code 30 = .ok (.iload 4, 2) := by decide +kernel
theorem d1_32 : decode method_3_code 32 = .ok (.bipush 48, 2) := by decide +kernel
theorem d1_34 : decode method_3_code 34 = .ok (.isub, 1) := by decide +kernel
theorem d1_35 : decode method_3_code 35 = .ok (.ireturn, 1) := by decide +kernel
theorem pn_1 : plainName "organico/records/Iso2709DigitsPinLaw" = true := by first | (simp [plainName, overriddenIn]; done) | decide +kernel
theorem ef_1 (m : MethodId) (x0 : Addr) (x1 : Int32) (x2 : Int32) (x3 : Int32) : entryFrame m #[(.ref x0), (.int x1), (.int x2), (.int x3)] 5 = mkF m 0 #[rv x0, iv x1, iv x2, iv x3, .unset] [] := by first | (simp [entryFrame, mkF, argsToLocals, Value.category]; done) | rfl
def own_f1 (p1 : Int32) (p2 : Int32) (p3 : Int32) (g : Int32 → Int32) : Int32 := (if p2 < p3 then (if (g (p1 + p2)) < (48 : Int32) then (-1 : Int32) else (if (57 : Int32) < (g (p1 + p2)) then (-1 : Int32) else ((g (p1 + p2)) - (48 : Int32)))) else (0 : Int32))
def Q1 (Z : State) (a0 : Addr) (p1 : Int32) (p2 : Int32) (p3 : Int32) (k : ClassId) (vs : List Value) (g : Int32 → Int32) (h0 : Heap) (n0 : Nat) (v : Option Value) (h : Heap) (L : List Loc) : Prop := v = some (.int (own_f1 p1 p2 p3 g)) ∧ Fr n0 L ∧ h = h0
set_option maxRecDepth 65536 in
set_option maxHeartbeats 40000000 in
theorem rm1 (l : Launch) (Z : State) (aw : Array Value) (hw : ∀ d ∈ tables_1, d.before aw Z = true) (ws : List Jvm.Cond) (a0 : Addr) (p1 : Int32) (p2 : Int32) (p3 : Int32) (k : ClassId) (vs : List Value) (g : Int32 → Int32) (h0 : Heap) (n0 : Nat) (Z0 : n0 ≤ h0.size) (P0 : Arv Z h0 a0 k .byte (8 : Int32) vs (.int (0 : Int32))) (hg : ∀ j : Int32, ¬ j < (0 : Int32) ∧ j < (8 : Int32) → vs.getD j.toNatClampNeg (.int (0 : Int32)) = .int (g j)) (hin : p2 < p3 → (¬ (p1 + p2) < (0 : Int32) ∧ (p1 + p2) < (8 : Int32))) :
    MetFree l (⟨"organico/records/Iso2709DigitsPinLaw", "digitAt", "([BIII)I"⟩ : MethodName) (head1 (Jvm.Cond.code (⟨"organico/records/Iso2709DigitsPinLaw", "digitAt", "([BIII)I"⟩ : MethodName) method_3_code 5 (some .int) :: ws) ({ frames := 0, cells := 0, slots := 0, locals := 0 } : Room)) (fun a U => a = #[(.ref a0), (.int p1), (.int p2), (.int p3)] ∧ Z.Warmed39 U.vm ∧ U.heap = h0) (fun _ _ _ _ _ => True) (fun _ U o U' => ∃ v L, o = .returned v ∧ Q1 Z a0 p1 p2 p3 k vs g h0 n0 v U'.heap L ∧ FrameEnd U o U' L ({ frames := 0, cells := 0, slots := 0, locals := 0 } : Room).cells ({ frames := 0, cells := 0, slots := 0, locals := 0 } : Room).slots) := by
  refine MetFree.of_bodySF (plainFor_of_name pn_1) hisR ?_
  intro p e s m args below meth c s₁ Bd hml0 hP hK
  obtain ⟨rfl, hZ, hh⟩ := hP
  have hx := Bd.exec
  have hby := Bd.bytes
  have hml : c.maxLocals = 5 := hml0
  have hown : s.vm.findClass "organico/records/Iso2709DigitsPinLaw" = some m.cls := findClass_of_methodNamed Bd.named
  have hnm := (name_of_methodNamed Bd.named Bd.method).1
  have hlk : meth.locks = false := by first | exact BodyLoose.notSynchronized (by assumption) | exact Body.notSynchronized (by assumption)
  have X0 : Stand p l e ({ frames := 0, cells := 0, slots := 0, locals := 0 } : Room) s m #[(.ref a0), (.int p1), (.int p2), (.int p3)] below meth c s₁ [] 0 0 := Stand.of_body Bd
  have e0 : s₁.heap = h0 := by rw [← hh, Bd.state]; rfl
  have N0 := Fr.nil n0
  have K0 : Keep h0 h0 [] := Keep.refl _ _
  refine own_start (CS := (0, 0)) (Q := (Q1 Z a0 p1 p2 p3 k vs g h0 n0)) (ef_1 m a0 p1 p2 p3) ?_
  show own_Go p e below s _ _ (s₁.setTop (mkF m 0 #[rv a0, iv p1, iv p2, iv p3, .unset] []))
  refine own_via (fun k => XS.iloadN X0.here hx rfl (hb hby d1_0) rfl  (XS.iloadN X0.here hx rfl (hb hby d1_1) rfl  k)) ?_
  show own_Go p e below s _ _ (s₁.setTop (mkF m 2 #[rv a0, iv p1, iv p2, iv p3, .unset] [(.int p3), (.int p2)]))
  by_cases hc1 : p2 < p3
  · refine own_via (fun k => XS.icmpYes X0.here hx rfl (pc0 := 2) (pc' := 7) rfl (hb hby d1_2) rfl (tlt hc1).1 (by decide) (by decide) k) ?_
    show own_Go p e below s _ _ (s₁.setTop (mkF m 7 #[rv a0, iv p1, iv p2, iv p3, .unset] []))
    refine own_via (fun k => XS.aloadN X0.here hx rfl (hb hby d1_7) rfl rfl  (XS.iloadN X0.here hx rfl (hb hby d1_8) rfl  (XS.iloadN X0.here hx rfl (hb hby d1_9) rfl  (XS.iadd X0.here hx rfl (hb hby d1_10) rfl k)))) ?_
    show own_Go p e below s _ _ (s₁.setTop (mkF m 11 #[rv a0, iv p1, iv p2, iv p3, .unset] [(.int (p1 + p2)), (.ref a0)]))
    obtain ⟨cl2, Ar2, q2, S2, NN2, H2, G2⟩ := id P0
    have hin2 : ¬ ((p1 + p2) < 0 ∨ cl2.slots.size ≤ ((p1 + p2)).toNatClampNeg) := inb_of S2 (hin hc1)
    have hat2 : cl2.slots[((p1 + p2)).toNatClampNeg]? = some (.int (g (p1 + p2))) := H2.at hin2 (hg _ (hin hc1))
    refine own_via (fun k => X0.baloadBytes hx (j := (p1 + p2)) (v := (.int (g (p1 + p2)))) (by rw [e0]; exact Ar2.1) (State.isArrayOf_alike hZ.alike Ar2.2.1) Ar2.2.2 hin2 hat2 (g := (mkF m 11 #[rv a0, iv p1, iv p2, iv p3, .unset] [(.int (p1 + p2)), (.ref a0)])) rfl rfl (hb hby d1_11) _ k) ?_
    show own_Go p e below s _ _ (s₁.setTop (mkF m 12 #[rv a0, iv p1, iv p2, iv p3, .unset] [(.int (g (p1 + p2)))]))
    refine own_via (fun k => XS.istore X0.here hx rfl (hb hby d1_12) rfl (l' := #[rv a0, iv p1, iv p2, iv p3, iv (g (p1 + p2))]) rfl (XS.iload X0.here hx rfl (hb hby d1_14) rfl  (XS.bipush X0.here hx rfl (hb hby d1_16) k))) ?_
    show own_Go p e below s _ _ (s₁.setTop (mkF m 18 #[rv a0, iv p1, iv p2, iv p3, iv (g (p1 + p2))] [(.int 48), (.int (g (p1 + p2)))]))
    by_cases hc3 : (g (p1 + p2)) < (48 : Int32)
    · refine own_via (fun k => XS.icmpYes X0.here hx rfl (pc0 := 18) (pc' := 28) rfl (hb hby d1_18) rfl (tlt hc3).1 (by decide) (by decide) k) ?_
      show own_Go p e below s _ _ (s₁.setTop (mkF m 28 #[rv a0, iv p1, iv p2, iv p3, iv (g (p1 + p2))] []))
      refine own_via (fun k => XS.iconst X0.here hx rfl (hb hby d1_28) k) ?_
      show own_Go p e below s _ _ (s₁.setTop (mkF m 29 #[rv a0, iv p1, iv p2, iv p3, iv (g (p1 + p2))] [(.int (-1))]))
      exact own_retI X0 hx hlk Bd.returns (hb hby d1_29) (Q := (Q1 Z a0 p1 p2 p3 k vs g h0 n0)) ⟨(congrArg (fun z => some (Value.int z)) (show (-1 : Int32) = (own_f1 p1 p2 p3 g) from (by unfold own_f1; exact ((if_pos hc1).trans ((if_pos hc3).trans rfl)).symm))), N0, e0⟩ (by decide) (by decide)
    · refine own_via (fun k => XS.icmpNo X0.here hx rfl (hb hby d1_18) rfl (flt hc3).1 k) ?_
      show own_Go p e below s _ _ (s₁.setTop (mkF m 21 #[rv a0, iv p1, iv p2, iv p3, iv (g (p1 + p2))] []))
      refine own_via (fun k => XS.iload X0.here hx rfl (hb hby d1_21) rfl  (XS.bipush X0.here hx rfl (hb hby d1_23) k)) ?_
      show own_Go p e below s _ _ (s₁.setTop (mkF m 25 #[rv a0, iv p1, iv p2, iv p3, iv (g (p1 + p2))] [(.int 57), (.int (g (p1 + p2)))]))
      by_cases hc4 : (57 : Int32) < (g (p1 + p2))
      · refine own_via (fun k => XS.icmpNo X0.here hx rfl (hb hby d1_25) rfl (tlt hc4).2.2.2 k) ?_
        show own_Go p e below s _ _ (s₁.setTop (mkF m 28 #[rv a0, iv p1, iv p2, iv p3, iv (g (p1 + p2))] []))
        refine own_via (fun k => XS.iconst X0.here hx rfl (hb hby d1_28) k) ?_
        show own_Go p e below s _ _ (s₁.setTop (mkF m 29 #[rv a0, iv p1, iv p2, iv p3, iv (g (p1 + p2))] [(.int (-1))]))
        exact own_retI X0 hx hlk Bd.returns (hb hby d1_29) (Q := (Q1 Z a0 p1 p2 p3 k vs g h0 n0)) ⟨(congrArg (fun z => some (Value.int z)) (show (-1 : Int32) = (own_f1 p1 p2 p3 g) from (by unfold own_f1; exact ((if_pos hc1).trans ((if_neg hc3).trans ((if_pos hc4).trans rfl))).symm))), N0, e0⟩ (by decide) (by decide)
      · refine own_via (fun k => XS.icmpYes X0.here hx rfl (pc0 := 25) (pc' := 30) rfl (hb hby d1_25) rfl (flt hc4).2.2.2 (by decide) (by decide) k) ?_
        show own_Go p e below s _ _ (s₁.setTop (mkF m 30 #[rv a0, iv p1, iv p2, iv p3, iv (g (p1 + p2))] []))
        refine own_via (fun k => XS.iload X0.here hx rfl (hb hby d1_30) rfl  (XS.bipush X0.here hx rfl (hb hby d1_32) (XS.isub X0.here hx rfl (hb hby d1_34) rfl k))) ?_
        show own_Go p e below s _ _ (s₁.setTop (mkF m 35 #[rv a0, iv p1, iv p2, iv p3, iv (g (p1 + p2))] [(.int ((g (p1 + p2)) - (48 : Int32)))]))
        exact own_retI X0 hx hlk Bd.returns (hb hby d1_35) (Q := (Q1 Z a0 p1 p2 p3 k vs g h0 n0)) ⟨(congrArg (fun z => some (Value.int z)) (show ((g (p1 + p2)) - (48 : Int32)) = (own_f1 p1 p2 p3 g) from (by unfold own_f1; exact ((if_pos hc1).trans ((if_neg hc3).trans ((if_neg hc4).trans rfl))).symm))), N0, e0⟩ (by decide) (by decide)
  · refine own_via (fun k => XS.icmpNo X0.here hx rfl (hb hby d1_2) rfl (flt hc1).1 k) ?_
    show own_Go p e below s _ _ (s₁.setTop (mkF m 5 #[rv a0, iv p1, iv p2, iv p3, .unset] []))
    refine own_via (fun k => XS.iconst X0.here hx rfl (hb hby d1_5) k) ?_
    show own_Go p e below s _ _ (s₁.setTop (mkF m 6 #[rv a0, iv p1, iv p2, iv p3, .unset] [(.int 0)]))
    exact own_retI X0 hx hlk Bd.returns (hb hby d1_6) (Q := (Q1 Z a0 p1 p2 p3 k vs g h0 n0)) ⟨(congrArg (fun z => some (Value.int z)) (show (0 : Int32) = (own_f1 p1 p2 p3 g) from (by unfold own_f1; exact ((if_neg hc1).trans rfl).symm))), N0, e0⟩ (by decide) (by decide)
theorem d2_0 : decode prog_62_method_5_code 0 = .ok (.iconst 0, 1) := by decide +kernel
theorem d2_1 : decode prog_62_method_5_code 1 = .ok (.istore_n 3, 1) := by decide +kernel
theorem d2_2 : decode prog_62_method_5_code 2 = .ok (.iload_n 1, 1) := by decide +kernel
theorem d2_3 : decode prog_62_method_5_code 3 = .ok (.istore 4, 2) := by decide +kernel
theorem d2_5 : decode prog_62_method_5_code 5 = .ok (.iload 4, 2) := by decide +kernel
theorem d2_7 : decode prog_62_method_5_code 7 = .ok (.iload_n 1, 1) := by decide +kernel
theorem d2_8 : decode prog_62_method_5_code 8 = .ok (.iload_n 2, 1) := by decide +kernel
theorem d2_9 : decode prog_62_method_5_code 9 = .ok (.iadd, 1) := by decide +kernel
theorem d2_10 : decode prog_62_method_5_code 10 = .ok (.if_icmp .ge 42, 3) := by decide +kernel
theorem d2_52 : decode prog_62_method_5_code 52 = .ok (.iload_n 3, 1) := by decide +kernel
theorem d2_53 : decode prog_62_method_5_code 53 = .ok (.ireturn, 1) := by decide +kernel
theorem pn_2 : plainName "organico/records/Iso2709" = true := by first | (simp [plainName, overriddenIn]; done) | decide +kernel
theorem ef_2_0 (m : MethodId) (x0 : Addr) (x1 : Int32) (x2 : Int32) : entryFrame m #[(.ref x0), (.int x1), (.int x2)] 5 = mkF m 0 #[rv x0, iv x1, iv x2, .unset, .unset] [] := by first | (simp [entryFrame, mkF, argsToLocals, Value.category]; done) | rfl
def own_f2_0  : Int32 := (0 : Int32)
theorem own_l320_0 (p1 : Int32) (hlo : ¬ p1 < (0 : Int32)) (hhi : p1 < (9 : Int32)) : ¬ (p1 < (p1 + (0 : Int32))) := by
  have h9 := own_h9 hhi (by decide)
  rcases own_c9 hlo h9 with rfl | rfl | rfl | rfl | rfl | rfl | rfl | rfl | rfl <;> revert hlo hhi <;> decide
def Q2_0 (Z : State) (a0 : Addr) (p1 : Int32) (k : ClassId) (vs : List Value) (g : Int32 → Int32) (h0 : Heap) (n0 : Nat) (v : Option Value) (h : Heap) (L : List Loc) : Prop := v = some (.int own_f2_0) ∧ Fr n0 L ∧ h = h0
set_option maxRecDepth 65536 in
set_option maxHeartbeats 40000000 in
theorem rm2_0 (l : Launch) (Z : State) (aw : Array Value) (hw : ∀ d ∈ tables_1, d.before aw Z = true) (ws : List Jvm.Cond) (a0 : Addr) (p1 : Int32) (k : ClassId) (vs : List Value) (g : Int32 → Int32) (h0 : Heap) (n0 : Nat) (Z0 : n0 ≤ h0.size) (P0 : Arv Z h0 a0 k .byte (8 : Int32) vs (.int (0 : Int32))) (hg : ∀ j : Int32, ¬ j < (0 : Int32) ∧ j < (8 : Int32) → vs.getD j.toNatClampNeg (.int (0 : Int32)) = .int (g j)) (hlo : ¬ p1 < (0 : Int32)) (hhi : p1 < (9 : Int32)) :
    MetFree l (⟨"organico/records/Iso2709", "digits", "([BII)I"⟩ : MethodName) (head1 (Jvm.Cond.code (⟨"organico/records/Iso2709", "digits", "([BII)I"⟩ : MethodName) prog_62_method_5_code 5 (some .int) :: ws) ({ frames := 0, cells := 0, slots := 0, locals := 0 } : Room)) (fun a U => a = #[(.ref a0), (.int p1), (.int 0)] ∧ Z.Warmed39 U.vm ∧ U.heap = h0) (fun _ _ _ _ _ => True) (fun _ U o U' => ∃ v L, o = .returned v ∧ Q2_0 Z a0 p1 k vs g h0 n0 v U'.heap L ∧ FrameEnd U o U' L ({ frames := 0, cells := 0, slots := 0, locals := 0 } : Room).cells ({ frames := 0, cells := 0, slots := 0, locals := 0 } : Room).slots) := by
  refine MetFree.of_bodySF (plainFor_of_name pn_2) hisR ?_
  intro p e s m args below meth c s₁ Bd hml0 hP hK
  obtain ⟨rfl, hZ, hh⟩ := hP
  have hx := Bd.exec
  have hby := Bd.bytes
  have hml : c.maxLocals = 5 := hml0
  have hown : s.vm.findClass "organico/records/Iso2709" = some m.cls := findClass_of_methodNamed Bd.named
  have hnm := (name_of_methodNamed Bd.named Bd.method).1
  have hlk : meth.locks = false := by first | exact BodyLoose.notSynchronized (by assumption) | exact Body.notSynchronized (by assumption)
  have X0 : Stand p l e ({ frames := 0, cells := 0, slots := 0, locals := 0 } : Room) s m #[(.ref a0), (.int p1), (.int 0)] below meth c s₁ [] 0 0 := Stand.of_body Bd
  have e0 : s₁.heap = h0 := by rw [← hh, Bd.state]; rfl
  have N0 := Fr.nil n0
  have K0 : Keep h0 h0 [] := Keep.refl _ _
  refine own_start (CS := (0, 0)) (Q := (Q2_0 Z a0 p1 k vs g h0 n0)) (ef_2_0 m a0 p1 (0 : Int32)) ?_
  show own_Go p e below s _ _ (s₁.setTop (mkF m 0 #[rv a0, iv p1, iv 0, .unset, .unset] []))
  refine own_via (fun k => XS.iconst X0.here hx rfl (hb hby d2_0) (XS.istoreN X0.here hx rfl (hb hby d2_1) rfl (l' := #[rv a0, iv p1, iv 0, iv 0, .unset]) rfl (XS.iloadN X0.here hx rfl (hb hby d2_2) rfl  (XS.istore X0.here hx rfl (hb hby d2_3) rfl (l' := #[rv a0, iv p1, iv 0, iv 0, iv p1]) rfl k)))) ?_
  show own_Go p e below s _ _ (s₁.setTop (mkF m 5 #[rv a0, iv p1, iv 0, iv 0, iv p1] []))
  refine own_via (fun k => XS.iload X0.here hx rfl (hb hby d2_5) rfl  (XS.iloadN X0.here hx rfl (hb hby d2_7) rfl  (XS.iloadN X0.here hx rfl (hb hby d2_8) rfl  (XS.iadd X0.here hx rfl (hb hby d2_9) rfl k)))) ?_
  show own_Go p e below s _ _ (s₁.setTop (mkF m 10 #[rv a0, iv p1, iv 0, iv 0, iv p1] [(.int (p1 + (0 : Int32))), (.int p1)]))
  refine own_via (fun k => XS.icmpYes X0.here hx rfl (pc0 := 10) (pc' := 52) rfl (hb hby d2_10) rfl (flt (own_l320_0 p1 hlo hhi)).2.1 (by decide) (by decide) k) ?_
  show own_Go p e below s _ _ (s₁.setTop (mkF m 52 #[rv a0, iv p1, iv 0, iv 0, iv p1] []))
  refine own_via (fun k => XS.iloadN X0.here hx rfl (hb hby d2_52) rfl  k) ?_
  show own_Go p e below s _ _ (s₁.setTop (mkF m 53 #[rv a0, iv p1, iv 0, iv 0, iv p1] [(.int 0)]))
  exact own_retI X0 hx hlk Bd.returns (hb hby d2_53) (Q := (Q2_0 Z a0 p1 k vs g h0 n0)) ⟨(congrArg (fun z => some (Value.int z)) (show (0 : Int32) = own_f2_0 from rfl)), N0, e0⟩ (by decide) (by decide)
theorem d2_13 : decode prog_62_method_5_code 13 = .ok (.aload_n 0, 1) := by decide +kernel
theorem d2_14 : decode prog_62_method_5_code 14 = .ok (.iload 4, 2) := by decide +kernel
theorem d2_16 : decode prog_62_method_5_code 16 = .ok (.baload, 1) := by decide +kernel
theorem d2_17 : decode prog_62_method_5_code 17 = .ok (.bipush 48, 2) := by decide +kernel
theorem d2_19 : decode prog_62_method_5_code 19 = .ok (.if_icmp .lt 12, 3) := by decide +kernel
theorem d2_22 : decode prog_62_method_5_code 22 = .ok (.aload_n 0, 1) := by decide +kernel
theorem d2_23 : decode prog_62_method_5_code 23 = .ok (.iload 4, 2) := by decide +kernel
theorem d2_25 : decode prog_62_method_5_code 25 = .ok (.baload, 1) := by decide +kernel
theorem d2_26 : decode prog_62_method_5_code 26 = .ok (.bipush 57, 2) := by decide +kernel
theorem d2_28 : decode prog_62_method_5_code 28 = .ok (.if_icmp .le 5, 3) := by decide +kernel
theorem d2_31 : decode prog_62_method_5_code 31 = .ok (.iconst (-1), 1) := by decide +kernel
theorem d2_32 : decode prog_62_method_5_code 32 = .ok (.ireturn, 1) := by decide +kernel
theorem d2_33 : decode prog_62_method_5_code 33 = .ok (.bipush 10, 2) := by decide +kernel
theorem d2_35 : decode prog_62_method_5_code 35 = .ok (.iload_n 3, 1) := by decide +kernel
theorem d2_36 : decode prog_62_method_5_code 36 = .ok (.imul, 1) := by decide +kernel
theorem d2_37 : decode prog_62_method_5_code 37 = .ok (.aload_n 0, 1) := by decide +kernel
theorem d2_38 : decode prog_62_method_5_code 38 = .ok (.iload 4, 2) := by decide +kernel
theorem d2_40 : decode prog_62_method_5_code 40 = .ok (.baload, 1) := by decide +kernel
theorem d2_41 : decode prog_62_method_5_code 41 = .ok (.iadd, 1) := by decide +kernel
theorem d2_42 : decode prog_62_method_5_code 42 = .ok (.bipush 48, 2) := by decide +kernel
theorem d2_44 : decode prog_62_method_5_code 44 = .ok (.isub, 1) := by decide +kernel
theorem d2_45 : decode prog_62_method_5_code 45 = .ok (.istore_n 3, 1) := by decide +kernel
theorem d2_46 : decode prog_62_method_5_code 46 = .ok (.iinc 4 1, 3) := by decide +kernel
theorem d2_49 : decode prog_62_method_5_code 49 = .ok (.goto (-44), 3) := by decide +kernel
theorem ef_2_1 (m : MethodId) (x0 : Addr) (x1 : Int32) (x2 : Int32) : entryFrame m #[(.ref x0), (.int x1), (.int x2)] 5 = mkF m 0 #[rv x0, iv x1, iv x2, .unset, .unset] [] := by first | (simp [entryFrame, mkF, argsToLocals, Value.category]; done) | rfl
def own_f2_1 (p1 : Int32) (g : Int32 → Int32) : Int32 := (if (g p1) < (48 : Int32) then (-1 : Int32) else (if (57 : Int32) < (g p1) then (-1 : Int32) else (((0 : Int32) + (g p1)) - (48 : Int32))))
theorem own_l321_0 (p1 : Int32) (hlo : ¬ p1 < (0 : Int32)) (hhi : p1 < (8 : Int32)) : p1 < (p1 + (1 : Int32)) := by
  have h9 := own_h9 hhi (by decide)
  rcases own_c9 hlo h9 with rfl | rfl | rfl | rfl | rfl | rfl | rfl | rfl | rfl <;> revert hlo hhi <;> decide
theorem own_in1_0 (p1 : Int32) (hlo : ¬ p1 < (0 : Int32)) (hhi : p1 < (8 : Int32)) : ¬ p1 < (0 : Int32) ∧ p1 < (8 : Int32) := by
  have h9 := own_h9 hhi (by decide)
  rcases own_c9 hlo h9 with rfl | rfl | rfl | rfl | rfl | rfl | rfl | rfl | rfl <;> revert hlo hhi <;> decide
def Q2_1 (Z : State) (a0 : Addr) (p1 : Int32) (k : ClassId) (vs : List Value) (g : Int32 → Int32) (h0 : Heap) (n0 : Nat) (v : Option Value) (h : Heap) (L : List Loc) : Prop := v = some (.int (own_f2_1 p1 g)) ∧ Fr n0 L ∧ h = h0
set_option maxRecDepth 65536 in
set_option maxHeartbeats 40000000 in
theorem rm2_1 (l : Launch) (Z : State) (aw : Array Value) (hw : ∀ d ∈ tables_1, d.before aw Z = true) (ws : List Jvm.Cond) (a0 : Addr) (p1 : Int32) (k : ClassId) (vs : List Value) (g : Int32 → Int32) (h0 : Heap) (n0 : Nat) (Z0 : n0 ≤ h0.size) (P0 : Arv Z h0 a0 k .byte (8 : Int32) vs (.int (0 : Int32))) (hg : ∀ j : Int32, ¬ j < (0 : Int32) ∧ j < (8 : Int32) → vs.getD j.toNatClampNeg (.int (0 : Int32)) = .int (g j)) (hlo : ¬ p1 < (0 : Int32)) (hhi : p1 < (8 : Int32)) :
    MetFree l (⟨"organico/records/Iso2709", "digits", "([BII)I"⟩ : MethodName) (head1 (Jvm.Cond.code (⟨"organico/records/Iso2709", "digits", "([BII)I"⟩ : MethodName) prog_62_method_5_code 5 (some .int) :: ws) ({ frames := 0, cells := 0, slots := 0, locals := 0 } : Room)) (fun a U => a = #[(.ref a0), (.int p1), (.int 1)] ∧ Z.Warmed39 U.vm ∧ U.heap = h0) (fun _ _ _ _ _ => True) (fun _ U o U' => ∃ v L, o = .returned v ∧ Q2_1 Z a0 p1 k vs g h0 n0 v U'.heap L ∧ FrameEnd U o U' L ({ frames := 0, cells := 0, slots := 0, locals := 0 } : Room).cells ({ frames := 0, cells := 0, slots := 0, locals := 0 } : Room).slots) := by
  refine MetFree.of_bodySF (plainFor_of_name pn_2) hisR ?_
  intro p e s m args below meth c s₁ Bd hml0 hP hK
  obtain ⟨rfl, hZ, hh⟩ := hP
  have hx := Bd.exec
  have hby := Bd.bytes
  have hml : c.maxLocals = 5 := hml0
  have hown : s.vm.findClass "organico/records/Iso2709" = some m.cls := findClass_of_methodNamed Bd.named
  have hnm := (name_of_methodNamed Bd.named Bd.method).1
  have hlk : meth.locks = false := by first | exact BodyLoose.notSynchronized (by assumption) | exact Body.notSynchronized (by assumption)
  have X0 : Stand p l e ({ frames := 0, cells := 0, slots := 0, locals := 0 } : Room) s m #[(.ref a0), (.int p1), (.int 1)] below meth c s₁ [] 0 0 := Stand.of_body Bd
  have e0 : s₁.heap = h0 := by rw [← hh, Bd.state]; rfl
  have N0 := Fr.nil n0
  have K0 : Keep h0 h0 [] := Keep.refl _ _
  refine own_start (CS := (0, 0)) (Q := (Q2_1 Z a0 p1 k vs g h0 n0)) (ef_2_1 m a0 p1 (1 : Int32)) ?_
  show own_Go p e below s _ _ (s₁.setTop (mkF m 0 #[rv a0, iv p1, iv 1, .unset, .unset] []))
  refine own_via (fun k => XS.iconst X0.here hx rfl (hb hby d2_0) (XS.istoreN X0.here hx rfl (hb hby d2_1) rfl (l' := #[rv a0, iv p1, iv 1, iv 0, .unset]) rfl (XS.iloadN X0.here hx rfl (hb hby d2_2) rfl  (XS.istore X0.here hx rfl (hb hby d2_3) rfl (l' := #[rv a0, iv p1, iv 1, iv 0, iv p1]) rfl k)))) ?_
  show own_Go p e below s _ _ (s₁.setTop (mkF m 5 #[rv a0, iv p1, iv 1, iv 0, iv p1] []))
  refine own_via (fun k => XS.iload X0.here hx rfl (hb hby d2_5) rfl  (XS.iloadN X0.here hx rfl (hb hby d2_7) rfl  (XS.iloadN X0.here hx rfl (hb hby d2_8) rfl  (XS.iadd X0.here hx rfl (hb hby d2_9) rfl k)))) ?_
  show own_Go p e below s _ _ (s₁.setTop (mkF m 10 #[rv a0, iv p1, iv 1, iv 0, iv p1] [(.int (p1 + (1 : Int32))), (.int p1)]))
  refine own_via (fun k => XS.icmpNo X0.here hx rfl (hb hby d2_10) rfl (tlt (own_l321_0 p1 hlo hhi)).2.1 k) ?_
  show own_Go p e below s _ _ (s₁.setTop (mkF m 13 #[rv a0, iv p1, iv 1, iv 0, iv p1] []))
  refine own_via (fun k => XS.aloadN X0.here hx rfl (hb hby d2_13) rfl rfl  (XS.iload X0.here hx rfl (hb hby d2_14) rfl  k)) ?_
  show own_Go p e below s _ _ (s₁.setTop (mkF m 16 #[rv a0, iv p1, iv 1, iv 0, iv p1] [(.int p1), (.ref a0)]))
  obtain ⟨cl1, Ar1, q1, S1, NN1, H1, G1⟩ := id P0
  have hin1 : ¬ (p1 < 0 ∨ cl1.slots.size ≤ (p1).toNatClampNeg) := inb_of S1 (own_in1_0 p1 hlo hhi)
  have hat1 : cl1.slots[(p1).toNatClampNeg]? = some (.int (g p1)) := H1.at hin1 (hg _ (own_in1_0 p1 hlo hhi))
  refine own_via (fun k => X0.baloadBytes hx (j := p1) (v := (.int (g p1))) (by rw [e0]; exact Ar1.1) (State.isArrayOf_alike hZ.alike Ar1.2.1) Ar1.2.2 hin1 hat1 (g := (mkF m 16 #[rv a0, iv p1, iv 1, iv 0, iv p1] [(.int p1), (.ref a0)])) rfl rfl (hb hby d2_16) _ k) ?_
  show own_Go p e below s _ _ (s₁.setTop (mkF m 17 #[rv a0, iv p1, iv 1, iv 0, iv p1] [(.int (g p1))]))
  refine own_via (fun k => XS.bipush X0.here hx rfl (hb hby d2_17) k) ?_
  show own_Go p e below s _ _ (s₁.setTop (mkF m 19 #[rv a0, iv p1, iv 1, iv 0, iv p1] [(.int 48), (.int (g p1))]))
  by_cases hc2 : (g p1) < (48 : Int32)
  · refine own_via (fun k => XS.icmpYes X0.here hx rfl (pc0 := 19) (pc' := 31) rfl (hb hby d2_19) rfl (tlt hc2).1 (by decide) (by decide) k) ?_
    show own_Go p e below s _ _ (s₁.setTop (mkF m 31 #[rv a0, iv p1, iv 1, iv 0, iv p1] []))
    refine own_via (fun k => XS.iconst X0.here hx rfl (hb hby d2_31) k) ?_
    show own_Go p e below s _ _ (s₁.setTop (mkF m 32 #[rv a0, iv p1, iv 1, iv 0, iv p1] [(.int (-1))]))
    exact own_retI X0 hx hlk Bd.returns (hb hby d2_32) (Q := (Q2_1 Z a0 p1 k vs g h0 n0)) ⟨(congrArg (fun z => some (Value.int z)) (show (-1 : Int32) = (own_f2_1 p1 g) from (by unfold own_f2_1; exact ((if_pos hc2).trans rfl).symm))), N0, e0⟩ (by decide) (by decide)
  · refine own_via (fun k => XS.icmpNo X0.here hx rfl (hb hby d2_19) rfl (flt hc2).1 k) ?_
    show own_Go p e below s _ _ (s₁.setTop (mkF m 22 #[rv a0, iv p1, iv 1, iv 0, iv p1] []))
    refine own_via (fun k => XS.aloadN X0.here hx rfl (hb hby d2_22) rfl rfl  (XS.iload X0.here hx rfl (hb hby d2_23) rfl  k)) ?_
    show own_Go p e below s _ _ (s₁.setTop (mkF m 25 #[rv a0, iv p1, iv 1, iv 0, iv p1] [(.int p1), (.ref a0)]))
    obtain ⟨cl3, Ar3, q3, S3, NN3, H3, G3⟩ := id P0
    have hin3 : ¬ (p1 < 0 ∨ cl3.slots.size ≤ (p1).toNatClampNeg) := inb_of S3 (own_in1_0 p1 hlo hhi)
    have hat3 : cl3.slots[(p1).toNatClampNeg]? = some (.int (g p1)) := H3.at hin3 (hg _ (own_in1_0 p1 hlo hhi))
    refine own_via (fun k => X0.baloadBytes hx (j := p1) (v := (.int (g p1))) (by rw [e0]; exact Ar3.1) (State.isArrayOf_alike hZ.alike Ar3.2.1) Ar3.2.2 hin3 hat3 (g := (mkF m 25 #[rv a0, iv p1, iv 1, iv 0, iv p1] [(.int p1), (.ref a0)])) rfl rfl (hb hby d2_25) _ k) ?_
    show own_Go p e below s _ _ (s₁.setTop (mkF m 26 #[rv a0, iv p1, iv 1, iv 0, iv p1] [(.int (g p1))]))
    refine own_via (fun k => XS.bipush X0.here hx rfl (hb hby d2_26) k) ?_
    show own_Go p e below s _ _ (s₁.setTop (mkF m 28 #[rv a0, iv p1, iv 1, iv 0, iv p1] [(.int 57), (.int (g p1))]))
    by_cases hc4 : (57 : Int32) < (g p1)
    · refine own_via (fun k => XS.icmpNo X0.here hx rfl (hb hby d2_28) rfl (tlt hc4).2.2.2 k) ?_
      show own_Go p e below s _ _ (s₁.setTop (mkF m 31 #[rv a0, iv p1, iv 1, iv 0, iv p1] []))
      refine own_via (fun k => XS.iconst X0.here hx rfl (hb hby d2_31) k) ?_
      show own_Go p e below s _ _ (s₁.setTop (mkF m 32 #[rv a0, iv p1, iv 1, iv 0, iv p1] [(.int (-1))]))
      exact own_retI X0 hx hlk Bd.returns (hb hby d2_32) (Q := (Q2_1 Z a0 p1 k vs g h0 n0)) ⟨(congrArg (fun z => some (Value.int z)) (show (-1 : Int32) = (own_f2_1 p1 g) from (by unfold own_f2_1; exact ((if_neg hc2).trans ((if_pos hc4).trans rfl)).symm))), N0, e0⟩ (by decide) (by decide)
    · refine own_via (fun k => XS.icmpYes X0.here hx rfl (pc0 := 28) (pc' := 33) rfl (hb hby d2_28) rfl (flt hc4).2.2.2 (by decide) (by decide) k) ?_
      show own_Go p e below s _ _ (s₁.setTop (mkF m 33 #[rv a0, iv p1, iv 1, iv 0, iv p1] []))
      refine own_via (fun k => XS.bipush X0.here hx rfl (hb hby d2_33) (XS.iloadN X0.here hx rfl (hb hby d2_35) rfl  (XS.imul X0.here hx rfl (hb hby d2_36) rfl (XS.aloadN X0.here hx rfl (hb hby d2_37) rfl rfl  k)))) ?_
      show own_Go p e below s _ _ (s₁.setTop (mkF m 38 #[rv a0, iv p1, iv 1, iv 0, iv p1] [(.ref a0), (.int 0)]))
      refine own_via (fun k => XS.iload X0.here hx rfl (hb hby d2_38) rfl  k) ?_
      show own_Go p e below s _ _ (s₁.setTop (mkF m 40 #[rv a0, iv p1, iv 1, iv 0, iv p1] [(.int p1), (.ref a0), (.int 0)]))
      obtain ⟨cl5, Ar5, q5, S5, NN5, H5, G5⟩ := id P0
      have hin5 : ¬ (p1 < 0 ∨ cl5.slots.size ≤ (p1).toNatClampNeg) := inb_of S5 (own_in1_0 p1 hlo hhi)
      have hat5 : cl5.slots[(p1).toNatClampNeg]? = some (.int (g p1)) := H5.at hin5 (hg _ (own_in1_0 p1 hlo hhi))
      refine own_via (fun k => X0.baloadBytes hx (j := p1) (v := (.int (g p1))) (by rw [e0]; exact Ar5.1) (State.isArrayOf_alike hZ.alike Ar5.2.1) Ar5.2.2 hin5 hat5 (g := (mkF m 40 #[rv a0, iv p1, iv 1, iv 0, iv p1] [(.int p1), (.ref a0), (.int 0)])) rfl rfl (hb hby d2_40) _ k) ?_
      show own_Go p e below s _ _ (s₁.setTop (mkF m 41 #[rv a0, iv p1, iv 1, iv 0, iv p1] [(.int (g p1)), (.int 0)]))
      refine own_via (fun k => XS.iadd X0.here hx rfl (hb hby d2_41) rfl (XS.bipush X0.here hx rfl (hb hby d2_42) (XS.isub X0.here hx rfl (hb hby d2_44) rfl (XS.istoreN X0.here hx rfl (hb hby d2_45) rfl (l' := #[rv a0, iv p1, iv 1, iv (((0 : Int32) + (g p1)) - (48 : Int32)), iv p1]) rfl k)))) ?_
      show own_Go p e below s _ _ (s₁.setTop (mkF m 46 #[rv a0, iv p1, iv 1, iv (((0 : Int32) + (g p1)) - (48 : Int32)), iv p1] []))
      refine own_via (fun k => XS.iinc X0.here hx rfl (hb hby d2_46) rfl (l' := #[rv a0, iv p1, iv 1, iv (((0 : Int32) + (g p1)) - (48 : Int32)), iv (p1 + (1 : Int32))]) rfl (XS.goto X0.here hx rfl (pc0 := 49) (pc' := 5) rfl (hb hby d2_49) (by decide) (by decide) (XS.iload X0.here hx rfl (hb hby d2_5) rfl  (XS.iloadN X0.here hx rfl (hb hby d2_7) rfl  k)))) ?_
      show own_Go p e below s _ _ (s₁.setTop (mkF m 8 #[rv a0, iv p1, iv 1, iv (((0 : Int32) + (g p1)) - (48 : Int32)), iv (p1 + (1 : Int32))] [(.int p1), (.int (p1 + (1 : Int32)))]))
      refine own_via (fun k => XS.iloadN X0.here hx rfl (hb hby d2_8) rfl  (XS.iadd X0.here hx rfl (hb hby d2_9) rfl k)) ?_
      show own_Go p e below s _ _ (s₁.setTop (mkF m 10 #[rv a0, iv p1, iv 1, iv (((0 : Int32) + (g p1)) - (48 : Int32)), iv (p1 + (1 : Int32))] [(.int (p1 + (1 : Int32))), (.int (p1 + (1 : Int32)))]))
      refine own_via (fun k => XS.icmpYes X0.here hx rfl (pc0 := 10) (pc' := 52) rfl (hb hby d2_10) rfl (flt Int32.lt_irrefl).2.1 (by decide) (by decide) k) ?_
      show own_Go p e below s _ _ (s₁.setTop (mkF m 52 #[rv a0, iv p1, iv 1, iv (((0 : Int32) + (g p1)) - (48 : Int32)), iv (p1 + (1 : Int32))] []))
      refine own_via (fun k => XS.iloadN X0.here hx rfl (hb hby d2_52) rfl  k) ?_
      show own_Go p e below s _ _ (s₁.setTop (mkF m 53 #[rv a0, iv p1, iv 1, iv (((0 : Int32) + (g p1)) - (48 : Int32)), iv (p1 + (1 : Int32))] [(.int (((0 : Int32) + (g p1)) - (48 : Int32)))]))
      exact own_retI X0 hx hlk Bd.returns (hb hby d2_53) (Q := (Q2_1 Z a0 p1 k vs g h0 n0)) ⟨(congrArg (fun z => some (Value.int z)) (show (((0 : Int32) + (g p1)) - (48 : Int32)) = (own_f2_1 p1 g) from (by unfold own_f2_1; exact ((if_neg hc2).trans ((if_neg hc4).trans rfl)).symm))), N0, e0⟩ (by decide) (by decide)
theorem ef_2_2 (m : MethodId) (x0 : Addr) (x1 : Int32) (x2 : Int32) : entryFrame m #[(.ref x0), (.int x1), (.int x2)] 5 = mkF m 0 #[rv x0, iv x1, iv x2, .unset, .unset] [] := by first | (simp [entryFrame, mkF, argsToLocals, Value.category]; done) | rfl
def own_f2_2 (p1 : Int32) (g : Int32 → Int32) : Int32 := (if (g p1) < (48 : Int32) then (-1 : Int32) else (if (57 : Int32) < (g p1) then (-1 : Int32) else (if (g (p1 + (1 : Int32))) < (48 : Int32) then (-1 : Int32) else (if (57 : Int32) < (g (p1 + (1 : Int32))) then (-1 : Int32) else ((((10 : Int32) * (((0 : Int32) + (g p1)) - (48 : Int32))) + (g (p1 + (1 : Int32)))) - (48 : Int32))))))
theorem own_l322_0 (p1 : Int32) (hlo : ¬ p1 < (0 : Int32)) (hhi : p1 < (7 : Int32)) : p1 < (p1 + (2 : Int32)) := by
  have h9 := own_h9 hhi (by decide)
  rcases own_c9 hlo h9 with rfl | rfl | rfl | rfl | rfl | rfl | rfl | rfl | rfl <;> revert hlo hhi <;> decide
theorem own_in2_0 (p1 : Int32) (hlo : ¬ p1 < (0 : Int32)) (hhi : p1 < (7 : Int32)) : ¬ p1 < (0 : Int32) ∧ p1 < (8 : Int32) := by
  have h9 := own_h9 hhi (by decide)
  rcases own_c9 hlo h9 with rfl | rfl | rfl | rfl | rfl | rfl | rfl | rfl | rfl <;> revert hlo hhi <;> decide
theorem own_l322_1 (p1 : Int32) (hlo : ¬ p1 < (0 : Int32)) (hhi : p1 < (7 : Int32)) : (p1 + (1 : Int32)) < (p1 + (2 : Int32)) := by
  have h9 := own_h9 hhi (by decide)
  rcases own_c9 hlo h9 with rfl | rfl | rfl | rfl | rfl | rfl | rfl | rfl | rfl <;> revert hlo hhi <;> decide
theorem own_in2_1 (p1 : Int32) (hlo : ¬ p1 < (0 : Int32)) (hhi : p1 < (7 : Int32)) : ¬ (p1 + (1 : Int32)) < (0 : Int32) ∧ (p1 + (1 : Int32)) < (8 : Int32) := by
  have h9 := own_h9 hhi (by decide)
  rcases own_c9 hlo h9 with rfl | rfl | rfl | rfl | rfl | rfl | rfl | rfl | rfl <;> revert hlo hhi <;> decide
theorem own_l322_2 (p1 : Int32) (hlo : ¬ p1 < (0 : Int32)) (hhi : p1 < (7 : Int32)) : ¬ (((p1 + (1 : Int32)) + (1 : Int32)) < (p1 + (2 : Int32))) := by
  have h9 := own_h9 hhi (by decide)
  rcases own_c9 hlo h9 with rfl | rfl | rfl | rfl | rfl | rfl | rfl | rfl | rfl <;> revert hlo hhi <;> decide
def Q2_2 (Z : State) (a0 : Addr) (p1 : Int32) (k : ClassId) (vs : List Value) (g : Int32 → Int32) (h0 : Heap) (n0 : Nat) (v : Option Value) (h : Heap) (L : List Loc) : Prop := v = some (.int (own_f2_2 p1 g)) ∧ Fr n0 L ∧ h = h0
set_option maxRecDepth 65536 in
set_option maxHeartbeats 40000000 in
theorem rm2_2 (l : Launch) (Z : State) (aw : Array Value) (hw : ∀ d ∈ tables_1, d.before aw Z = true) (ws : List Jvm.Cond) (a0 : Addr) (p1 : Int32) (k : ClassId) (vs : List Value) (g : Int32 → Int32) (h0 : Heap) (n0 : Nat) (Z0 : n0 ≤ h0.size) (P0 : Arv Z h0 a0 k .byte (8 : Int32) vs (.int (0 : Int32))) (hg : ∀ j : Int32, ¬ j < (0 : Int32) ∧ j < (8 : Int32) → vs.getD j.toNatClampNeg (.int (0 : Int32)) = .int (g j)) (hlo : ¬ p1 < (0 : Int32)) (hhi : p1 < (7 : Int32)) :
    MetFree l (⟨"organico/records/Iso2709", "digits", "([BII)I"⟩ : MethodName) (head1 (Jvm.Cond.code (⟨"organico/records/Iso2709", "digits", "([BII)I"⟩ : MethodName) prog_62_method_5_code 5 (some .int) :: ws) ({ frames := 0, cells := 0, slots := 0, locals := 0 } : Room)) (fun a U => a = #[(.ref a0), (.int p1), (.int 2)] ∧ Z.Warmed39 U.vm ∧ U.heap = h0) (fun _ _ _ _ _ => True) (fun _ U o U' => ∃ v L, o = .returned v ∧ Q2_2 Z a0 p1 k vs g h0 n0 v U'.heap L ∧ FrameEnd U o U' L ({ frames := 0, cells := 0, slots := 0, locals := 0 } : Room).cells ({ frames := 0, cells := 0, slots := 0, locals := 0 } : Room).slots) := by
  refine MetFree.of_bodySF (plainFor_of_name pn_2) hisR ?_
  intro p e s m args below meth c s₁ Bd hml0 hP hK
  obtain ⟨rfl, hZ, hh⟩ := hP
  have hx := Bd.exec
  have hby := Bd.bytes
  have hml : c.maxLocals = 5 := hml0
  have hown : s.vm.findClass "organico/records/Iso2709" = some m.cls := findClass_of_methodNamed Bd.named
  have hnm := (name_of_methodNamed Bd.named Bd.method).1
  have hlk : meth.locks = false := by first | exact BodyLoose.notSynchronized (by assumption) | exact Body.notSynchronized (by assumption)
  have X0 : Stand p l e ({ frames := 0, cells := 0, slots := 0, locals := 0 } : Room) s m #[(.ref a0), (.int p1), (.int 2)] below meth c s₁ [] 0 0 := Stand.of_body Bd
  have e0 : s₁.heap = h0 := by rw [← hh, Bd.state]; rfl
  have N0 := Fr.nil n0
  have K0 : Keep h0 h0 [] := Keep.refl _ _
  refine own_start (CS := (0, 0)) (Q := (Q2_2 Z a0 p1 k vs g h0 n0)) (ef_2_2 m a0 p1 (2 : Int32)) ?_
  show own_Go p e below s _ _ (s₁.setTop (mkF m 0 #[rv a0, iv p1, iv 2, .unset, .unset] []))
  refine own_via (fun k => XS.iconst X0.here hx rfl (hb hby d2_0) (XS.istoreN X0.here hx rfl (hb hby d2_1) rfl (l' := #[rv a0, iv p1, iv 2, iv 0, .unset]) rfl (XS.iloadN X0.here hx rfl (hb hby d2_2) rfl  (XS.istore X0.here hx rfl (hb hby d2_3) rfl (l' := #[rv a0, iv p1, iv 2, iv 0, iv p1]) rfl k)))) ?_
  show own_Go p e below s _ _ (s₁.setTop (mkF m 5 #[rv a0, iv p1, iv 2, iv 0, iv p1] []))
  refine own_via (fun k => XS.iload X0.here hx rfl (hb hby d2_5) rfl  (XS.iloadN X0.here hx rfl (hb hby d2_7) rfl  (XS.iloadN X0.here hx rfl (hb hby d2_8) rfl  (XS.iadd X0.here hx rfl (hb hby d2_9) rfl k)))) ?_
  show own_Go p e below s _ _ (s₁.setTop (mkF m 10 #[rv a0, iv p1, iv 2, iv 0, iv p1] [(.int (p1 + (2 : Int32))), (.int p1)]))
  refine own_via (fun k => XS.icmpNo X0.here hx rfl (hb hby d2_10) rfl (tlt (own_l322_0 p1 hlo hhi)).2.1 k) ?_
  show own_Go p e below s _ _ (s₁.setTop (mkF m 13 #[rv a0, iv p1, iv 2, iv 0, iv p1] []))
  refine own_via (fun k => XS.aloadN X0.here hx rfl (hb hby d2_13) rfl rfl  (XS.iload X0.here hx rfl (hb hby d2_14) rfl  k)) ?_
  show own_Go p e below s _ _ (s₁.setTop (mkF m 16 #[rv a0, iv p1, iv 2, iv 0, iv p1] [(.int p1), (.ref a0)]))
  obtain ⟨cl1, Ar1, q1, S1, NN1, H1, G1⟩ := id P0
  have hin1 : ¬ (p1 < 0 ∨ cl1.slots.size ≤ (p1).toNatClampNeg) := inb_of S1 (own_in2_0 p1 hlo hhi)
  have hat1 : cl1.slots[(p1).toNatClampNeg]? = some (.int (g p1)) := H1.at hin1 (hg _ (own_in2_0 p1 hlo hhi))
  refine own_via (fun k => X0.baloadBytes hx (j := p1) (v := (.int (g p1))) (by rw [e0]; exact Ar1.1) (State.isArrayOf_alike hZ.alike Ar1.2.1) Ar1.2.2 hin1 hat1 (g := (mkF m 16 #[rv a0, iv p1, iv 2, iv 0, iv p1] [(.int p1), (.ref a0)])) rfl rfl (hb hby d2_16) _ k) ?_
  show own_Go p e below s _ _ (s₁.setTop (mkF m 17 #[rv a0, iv p1, iv 2, iv 0, iv p1] [(.int (g p1))]))
  refine own_via (fun k => XS.bipush X0.here hx rfl (hb hby d2_17) k) ?_
  show own_Go p e below s _ _ (s₁.setTop (mkF m 19 #[rv a0, iv p1, iv 2, iv 0, iv p1] [(.int 48), (.int (g p1))]))
  by_cases hc2 : (g p1) < (48 : Int32)
  · refine own_via (fun k => XS.icmpYes X0.here hx rfl (pc0 := 19) (pc' := 31) rfl (hb hby d2_19) rfl (tlt hc2).1 (by decide) (by decide) k) ?_
    show own_Go p e below s _ _ (s₁.setTop (mkF m 31 #[rv a0, iv p1, iv 2, iv 0, iv p1] []))
    refine own_via (fun k => XS.iconst X0.here hx rfl (hb hby d2_31) k) ?_
    show own_Go p e below s _ _ (s₁.setTop (mkF m 32 #[rv a0, iv p1, iv 2, iv 0, iv p1] [(.int (-1))]))
    exact own_retI X0 hx hlk Bd.returns (hb hby d2_32) (Q := (Q2_2 Z a0 p1 k vs g h0 n0)) ⟨(congrArg (fun z => some (Value.int z)) (show (-1 : Int32) = (own_f2_2 p1 g) from (by unfold own_f2_2; exact ((if_pos hc2).trans rfl).symm))), N0, e0⟩ (by decide) (by decide)
  · refine own_via (fun k => XS.icmpNo X0.here hx rfl (hb hby d2_19) rfl (flt hc2).1 k) ?_
    show own_Go p e below s _ _ (s₁.setTop (mkF m 22 #[rv a0, iv p1, iv 2, iv 0, iv p1] []))
    refine own_via (fun k => XS.aloadN X0.here hx rfl (hb hby d2_22) rfl rfl  (XS.iload X0.here hx rfl (hb hby d2_23) rfl  k)) ?_
    show own_Go p e below s _ _ (s₁.setTop (mkF m 25 #[rv a0, iv p1, iv 2, iv 0, iv p1] [(.int p1), (.ref a0)]))
    obtain ⟨cl3, Ar3, q3, S3, NN3, H3, G3⟩ := id P0
    have hin3 : ¬ (p1 < 0 ∨ cl3.slots.size ≤ (p1).toNatClampNeg) := inb_of S3 (own_in2_0 p1 hlo hhi)
    have hat3 : cl3.slots[(p1).toNatClampNeg]? = some (.int (g p1)) := H3.at hin3 (hg _ (own_in2_0 p1 hlo hhi))
    refine own_via (fun k => X0.baloadBytes hx (j := p1) (v := (.int (g p1))) (by rw [e0]; exact Ar3.1) (State.isArrayOf_alike hZ.alike Ar3.2.1) Ar3.2.2 hin3 hat3 (g := (mkF m 25 #[rv a0, iv p1, iv 2, iv 0, iv p1] [(.int p1), (.ref a0)])) rfl rfl (hb hby d2_25) _ k) ?_
    show own_Go p e below s _ _ (s₁.setTop (mkF m 26 #[rv a0, iv p1, iv 2, iv 0, iv p1] [(.int (g p1))]))
    refine own_via (fun k => XS.bipush X0.here hx rfl (hb hby d2_26) k) ?_
    show own_Go p e below s _ _ (s₁.setTop (mkF m 28 #[rv a0, iv p1, iv 2, iv 0, iv p1] [(.int 57), (.int (g p1))]))
    by_cases hc4 : (57 : Int32) < (g p1)
    · refine own_via (fun k => XS.icmpNo X0.here hx rfl (hb hby d2_28) rfl (tlt hc4).2.2.2 k) ?_
      show own_Go p e below s _ _ (s₁.setTop (mkF m 31 #[rv a0, iv p1, iv 2, iv 0, iv p1] []))
      refine own_via (fun k => XS.iconst X0.here hx rfl (hb hby d2_31) k) ?_
      show own_Go p e below s _ _ (s₁.setTop (mkF m 32 #[rv a0, iv p1, iv 2, iv 0, iv p1] [(.int (-1))]))
      exact own_retI X0 hx hlk Bd.returns (hb hby d2_32) (Q := (Q2_2 Z a0 p1 k vs g h0 n0)) ⟨(congrArg (fun z => some (Value.int z)) (show (-1 : Int32) = (own_f2_2 p1 g) from (by unfold own_f2_2; exact ((if_neg hc2).trans ((if_pos hc4).trans rfl)).symm))), N0, e0⟩ (by decide) (by decide)
    · refine own_via (fun k => XS.icmpYes X0.here hx rfl (pc0 := 28) (pc' := 33) rfl (hb hby d2_28) rfl (flt hc4).2.2.2 (by decide) (by decide) k) ?_
      show own_Go p e below s _ _ (s₁.setTop (mkF m 33 #[rv a0, iv p1, iv 2, iv 0, iv p1] []))
      refine own_via (fun k => XS.bipush X0.here hx rfl (hb hby d2_33) (XS.iloadN X0.here hx rfl (hb hby d2_35) rfl  (XS.imul X0.here hx rfl (hb hby d2_36) rfl (XS.aloadN X0.here hx rfl (hb hby d2_37) rfl rfl  k)))) ?_
      show own_Go p e below s _ _ (s₁.setTop (mkF m 38 #[rv a0, iv p1, iv 2, iv 0, iv p1] [(.ref a0), (.int 0)]))
      refine own_via (fun k => XS.iload X0.here hx rfl (hb hby d2_38) rfl  k) ?_
      show own_Go p e below s _ _ (s₁.setTop (mkF m 40 #[rv a0, iv p1, iv 2, iv 0, iv p1] [(.int p1), (.ref a0), (.int 0)]))
      obtain ⟨cl5, Ar5, q5, S5, NN5, H5, G5⟩ := id P0
      have hin5 : ¬ (p1 < 0 ∨ cl5.slots.size ≤ (p1).toNatClampNeg) := inb_of S5 (own_in2_0 p1 hlo hhi)
      have hat5 : cl5.slots[(p1).toNatClampNeg]? = some (.int (g p1)) := H5.at hin5 (hg _ (own_in2_0 p1 hlo hhi))
      refine own_via (fun k => X0.baloadBytes hx (j := p1) (v := (.int (g p1))) (by rw [e0]; exact Ar5.1) (State.isArrayOf_alike hZ.alike Ar5.2.1) Ar5.2.2 hin5 hat5 (g := (mkF m 40 #[rv a0, iv p1, iv 2, iv 0, iv p1] [(.int p1), (.ref a0), (.int 0)])) rfl rfl (hb hby d2_40) _ k) ?_
      show own_Go p e below s _ _ (s₁.setTop (mkF m 41 #[rv a0, iv p1, iv 2, iv 0, iv p1] [(.int (g p1)), (.int 0)]))
      refine own_via (fun k => XS.iadd X0.here hx rfl (hb hby d2_41) rfl (XS.bipush X0.here hx rfl (hb hby d2_42) (XS.isub X0.here hx rfl (hb hby d2_44) rfl (XS.istoreN X0.here hx rfl (hb hby d2_45) rfl (l' := #[rv a0, iv p1, iv 2, iv (((0 : Int32) + (g p1)) - (48 : Int32)), iv p1]) rfl k)))) ?_
      show own_Go p e below s _ _ (s₁.setTop (mkF m 46 #[rv a0, iv p1, iv 2, iv (((0 : Int32) + (g p1)) - (48 : Int32)), iv p1] []))
      refine own_via (fun k => XS.iinc X0.here hx rfl (hb hby d2_46) rfl (l' := #[rv a0, iv p1, iv 2, iv (((0 : Int32) + (g p1)) - (48 : Int32)), iv (p1 + (1 : Int32))]) rfl (XS.goto X0.here hx rfl (pc0 := 49) (pc' := 5) rfl (hb hby d2_49) (by decide) (by decide) (XS.iload X0.here hx rfl (hb hby d2_5) rfl  (XS.iloadN X0.here hx rfl (hb hby d2_7) rfl  k)))) ?_
      show own_Go p e below s _ _ (s₁.setTop (mkF m 8 #[rv a0, iv p1, iv 2, iv (((0 : Int32) + (g p1)) - (48 : Int32)), iv (p1 + (1 : Int32))] [(.int p1), (.int (p1 + (1 : Int32)))]))
      refine own_via (fun k => XS.iloadN X0.here hx rfl (hb hby d2_8) rfl  (XS.iadd X0.here hx rfl (hb hby d2_9) rfl k)) ?_
      show own_Go p e below s _ _ (s₁.setTop (mkF m 10 #[rv a0, iv p1, iv 2, iv (((0 : Int32) + (g p1)) - (48 : Int32)), iv (p1 + (1 : Int32))] [(.int (p1 + (2 : Int32))), (.int (p1 + (1 : Int32)))]))
      refine own_via (fun k => XS.icmpNo X0.here hx rfl (hb hby d2_10) rfl (tlt (own_l322_1 p1 hlo hhi)).2.1 k) ?_
      show own_Go p e below s _ _ (s₁.setTop (mkF m 13 #[rv a0, iv p1, iv 2, iv (((0 : Int32) + (g p1)) - (48 : Int32)), iv (p1 + (1 : Int32))] []))
      refine own_via (fun k => XS.aloadN X0.here hx rfl (hb hby d2_13) rfl rfl  (XS.iload X0.here hx rfl (hb hby d2_14) rfl  k)) ?_
      show own_Go p e below s _ _ (s₁.setTop (mkF m 16 #[rv a0, iv p1, iv 2, iv (((0 : Int32) + (g p1)) - (48 : Int32)), iv (p1 + (1 : Int32))] [(.int (p1 + (1 : Int32))), (.ref a0)]))
      obtain ⟨cl6, Ar6, q6, S6, NN6, H6, G6⟩ := id P0
      have hin6 : ¬ ((p1 + (1 : Int32)) < 0 ∨ cl6.slots.size ≤ ((p1 + (1 : Int32))).toNatClampNeg) := inb_of S6 (own_in2_1 p1 hlo hhi)
      have hat6 : cl6.slots[((p1 + (1 : Int32))).toNatClampNeg]? = some (.int (g (p1 + (1 : Int32)))) := H6.at hin6 (hg _ (own_in2_1 p1 hlo hhi))
      refine own_via (fun k => X0.baloadBytes hx (j := (p1 + (1 : Int32))) (v := (.int (g (p1 + (1 : Int32))))) (by rw [e0]; exact Ar6.1) (State.isArrayOf_alike hZ.alike Ar6.2.1) Ar6.2.2 hin6 hat6 (g := (mkF m 16 #[rv a0, iv p1, iv 2, iv (((0 : Int32) + (g p1)) - (48 : Int32)), iv (p1 + (1 : Int32))] [(.int (p1 + (1 : Int32))), (.ref a0)])) rfl rfl (hb hby d2_16) _ k) ?_
      show own_Go p e below s _ _ (s₁.setTop (mkF m 17 #[rv a0, iv p1, iv 2, iv (((0 : Int32) + (g p1)) - (48 : Int32)), iv (p1 + (1 : Int32))] [(.int (g (p1 + (1 : Int32))))]))
      refine own_via (fun k => XS.bipush X0.here hx rfl (hb hby d2_17) k) ?_
      show own_Go p e below s _ _ (s₁.setTop (mkF m 19 #[rv a0, iv p1, iv 2, iv (((0 : Int32) + (g p1)) - (48 : Int32)), iv (p1 + (1 : Int32))] [(.int 48), (.int (g (p1 + (1 : Int32))))]))
      by_cases hc7 : (g (p1 + (1 : Int32))) < (48 : Int32)
      · refine own_via (fun k => XS.icmpYes X0.here hx rfl (pc0 := 19) (pc' := 31) rfl (hb hby d2_19) rfl (tlt hc7).1 (by decide) (by decide) k) ?_
        show own_Go p e below s _ _ (s₁.setTop (mkF m 31 #[rv a0, iv p1, iv 2, iv (((0 : Int32) + (g p1)) - (48 : Int32)), iv (p1 + (1 : Int32))] []))
        refine own_via (fun k => XS.iconst X0.here hx rfl (hb hby d2_31) k) ?_
        show own_Go p e below s _ _ (s₁.setTop (mkF m 32 #[rv a0, iv p1, iv 2, iv (((0 : Int32) + (g p1)) - (48 : Int32)), iv (p1 + (1 : Int32))] [(.int (-1))]))
        exact own_retI X0 hx hlk Bd.returns (hb hby d2_32) (Q := (Q2_2 Z a0 p1 k vs g h0 n0)) ⟨(congrArg (fun z => some (Value.int z)) (show (-1 : Int32) = (own_f2_2 p1 g) from (by unfold own_f2_2; exact ((if_neg hc2).trans ((if_neg hc4).trans ((if_pos hc7).trans rfl))).symm))), N0, e0⟩ (by decide) (by decide)
      · refine own_via (fun k => XS.icmpNo X0.here hx rfl (hb hby d2_19) rfl (flt hc7).1 k) ?_
        show own_Go p e below s _ _ (s₁.setTop (mkF m 22 #[rv a0, iv p1, iv 2, iv (((0 : Int32) + (g p1)) - (48 : Int32)), iv (p1 + (1 : Int32))] []))
        refine own_via (fun k => XS.aloadN X0.here hx rfl (hb hby d2_22) rfl rfl  (XS.iload X0.here hx rfl (hb hby d2_23) rfl  k)) ?_
        show own_Go p e below s _ _ (s₁.setTop (mkF m 25 #[rv a0, iv p1, iv 2, iv (((0 : Int32) + (g p1)) - (48 : Int32)), iv (p1 + (1 : Int32))] [(.int (p1 + (1 : Int32))), (.ref a0)]))
        obtain ⟨cl8, Ar8, q8, S8, NN8, H8, G8⟩ := id P0
        have hin8 : ¬ ((p1 + (1 : Int32)) < 0 ∨ cl8.slots.size ≤ ((p1 + (1 : Int32))).toNatClampNeg) := inb_of S8 (own_in2_1 p1 hlo hhi)
        have hat8 : cl8.slots[((p1 + (1 : Int32))).toNatClampNeg]? = some (.int (g (p1 + (1 : Int32)))) := H8.at hin8 (hg _ (own_in2_1 p1 hlo hhi))
        refine own_via (fun k => X0.baloadBytes hx (j := (p1 + (1 : Int32))) (v := (.int (g (p1 + (1 : Int32))))) (by rw [e0]; exact Ar8.1) (State.isArrayOf_alike hZ.alike Ar8.2.1) Ar8.2.2 hin8 hat8 (g := (mkF m 25 #[rv a0, iv p1, iv 2, iv (((0 : Int32) + (g p1)) - (48 : Int32)), iv (p1 + (1 : Int32))] [(.int (p1 + (1 : Int32))), (.ref a0)])) rfl rfl (hb hby d2_25) _ k) ?_
        show own_Go p e below s _ _ (s₁.setTop (mkF m 26 #[rv a0, iv p1, iv 2, iv (((0 : Int32) + (g p1)) - (48 : Int32)), iv (p1 + (1 : Int32))] [(.int (g (p1 + (1 : Int32))))]))
        refine own_via (fun k => XS.bipush X0.here hx rfl (hb hby d2_26) k) ?_
        show own_Go p e below s _ _ (s₁.setTop (mkF m 28 #[rv a0, iv p1, iv 2, iv (((0 : Int32) + (g p1)) - (48 : Int32)), iv (p1 + (1 : Int32))] [(.int 57), (.int (g (p1 + (1 : Int32))))]))
        by_cases hc9 : (57 : Int32) < (g (p1 + (1 : Int32)))
        · refine own_via (fun k => XS.icmpNo X0.here hx rfl (hb hby d2_28) rfl (tlt hc9).2.2.2 k) ?_
          show own_Go p e below s _ _ (s₁.setTop (mkF m 31 #[rv a0, iv p1, iv 2, iv (((0 : Int32) + (g p1)) - (48 : Int32)), iv (p1 + (1 : Int32))] []))
          refine own_via (fun k => XS.iconst X0.here hx rfl (hb hby d2_31) k) ?_
          show own_Go p e below s _ _ (s₁.setTop (mkF m 32 #[rv a0, iv p1, iv 2, iv (((0 : Int32) + (g p1)) - (48 : Int32)), iv (p1 + (1 : Int32))] [(.int (-1))]))
          exact own_retI X0 hx hlk Bd.returns (hb hby d2_32) (Q := (Q2_2 Z a0 p1 k vs g h0 n0)) ⟨(congrArg (fun z => some (Value.int z)) (show (-1 : Int32) = (own_f2_2 p1 g) from (by unfold own_f2_2; exact ((if_neg hc2).trans ((if_neg hc4).trans ((if_neg hc7).trans ((if_pos hc9).trans rfl)))).symm))), N0, e0⟩ (by decide) (by decide)
        · refine own_via (fun k => XS.icmpYes X0.here hx rfl (pc0 := 28) (pc' := 33) rfl (hb hby d2_28) rfl (flt hc9).2.2.2 (by decide) (by decide) k) ?_
          show own_Go p e below s _ _ (s₁.setTop (mkF m 33 #[rv a0, iv p1, iv 2, iv (((0 : Int32) + (g p1)) - (48 : Int32)), iv (p1 + (1 : Int32))] []))
          refine own_via (fun k => XS.bipush X0.here hx rfl (hb hby d2_33) (XS.iloadN X0.here hx rfl (hb hby d2_35) rfl  (XS.imul X0.here hx rfl (hb hby d2_36) rfl (XS.aloadN X0.here hx rfl (hb hby d2_37) rfl rfl  k)))) ?_
          show own_Go p e below s _ _ (s₁.setTop (mkF m 38 #[rv a0, iv p1, iv 2, iv (((0 : Int32) + (g p1)) - (48 : Int32)), iv (p1 + (1 : Int32))] [(.ref a0), (.int ((10 : Int32) * (((0 : Int32) + (g p1)) - (48 : Int32))))]))
          refine own_via (fun k => XS.iload X0.here hx rfl (hb hby d2_38) rfl  k) ?_
          show own_Go p e below s _ _ (s₁.setTop (mkF m 40 #[rv a0, iv p1, iv 2, iv (((0 : Int32) + (g p1)) - (48 : Int32)), iv (p1 + (1 : Int32))] [(.int (p1 + (1 : Int32))), (.ref a0), (.int ((10 : Int32) * (((0 : Int32) + (g p1)) - (48 : Int32))))]))
          obtain ⟨cl10, Ar10, q10, S10, NN10, H10, G10⟩ := id P0
          have hin10 : ¬ ((p1 + (1 : Int32)) < 0 ∨ cl10.slots.size ≤ ((p1 + (1 : Int32))).toNatClampNeg) := inb_of S10 (own_in2_1 p1 hlo hhi)
          have hat10 : cl10.slots[((p1 + (1 : Int32))).toNatClampNeg]? = some (.int (g (p1 + (1 : Int32)))) := H10.at hin10 (hg _ (own_in2_1 p1 hlo hhi))
          refine own_via (fun k => X0.baloadBytes hx (j := (p1 + (1 : Int32))) (v := (.int (g (p1 + (1 : Int32))))) (by rw [e0]; exact Ar10.1) (State.isArrayOf_alike hZ.alike Ar10.2.1) Ar10.2.2 hin10 hat10 (g := (mkF m 40 #[rv a0, iv p1, iv 2, iv (((0 : Int32) + (g p1)) - (48 : Int32)), iv (p1 + (1 : Int32))] [(.int (p1 + (1 : Int32))), (.ref a0), (.int ((10 : Int32) * (((0 : Int32) + (g p1)) - (48 : Int32))))])) rfl rfl (hb hby d2_40) _ k) ?_
          show own_Go p e below s _ _ (s₁.setTop (mkF m 41 #[rv a0, iv p1, iv 2, iv (((0 : Int32) + (g p1)) - (48 : Int32)), iv (p1 + (1 : Int32))] [(.int (g (p1 + (1 : Int32)))), (.int ((10 : Int32) * (((0 : Int32) + (g p1)) - (48 : Int32))))]))
          refine own_via (fun k => XS.iadd X0.here hx rfl (hb hby d2_41) rfl (XS.bipush X0.here hx rfl (hb hby d2_42) (XS.isub X0.here hx rfl (hb hby d2_44) rfl (XS.istoreN X0.here hx rfl (hb hby d2_45) rfl (l' := #[rv a0, iv p1, iv 2, iv ((((10 : Int32) * (((0 : Int32) + (g p1)) - (48 : Int32))) + (g (p1 + (1 : Int32)))) - (48 : Int32)), iv (p1 + (1 : Int32))]) rfl k)))) ?_
          show own_Go p e below s _ _ (s₁.setTop (mkF m 46 #[rv a0, iv p1, iv 2, iv ((((10 : Int32) * (((0 : Int32) + (g p1)) - (48 : Int32))) + (g (p1 + (1 : Int32)))) - (48 : Int32)), iv (p1 + (1 : Int32))] []))
          refine own_via (fun k => XS.iinc X0.here hx rfl (hb hby d2_46) rfl (l' := #[rv a0, iv p1, iv 2, iv ((((10 : Int32) * (((0 : Int32) + (g p1)) - (48 : Int32))) + (g (p1 + (1 : Int32)))) - (48 : Int32)), iv ((p1 + (1 : Int32)) + (1 : Int32))]) rfl (XS.goto X0.here hx rfl (pc0 := 49) (pc' := 5) rfl (hb hby d2_49) (by decide) (by decide) (XS.iload X0.here hx rfl (hb hby d2_5) rfl  (XS.iloadN X0.here hx rfl (hb hby d2_7) rfl  k)))) ?_
          show own_Go p e below s _ _ (s₁.setTop (mkF m 8 #[rv a0, iv p1, iv 2, iv ((((10 : Int32) * (((0 : Int32) + (g p1)) - (48 : Int32))) + (g (p1 + (1 : Int32)))) - (48 : Int32)), iv ((p1 + (1 : Int32)) + (1 : Int32))] [(.int p1), (.int ((p1 + (1 : Int32)) + (1 : Int32)))]))
          refine own_via (fun k => XS.iloadN X0.here hx rfl (hb hby d2_8) rfl  (XS.iadd X0.here hx rfl (hb hby d2_9) rfl k)) ?_
          show own_Go p e below s _ _ (s₁.setTop (mkF m 10 #[rv a0, iv p1, iv 2, iv ((((10 : Int32) * (((0 : Int32) + (g p1)) - (48 : Int32))) + (g (p1 + (1 : Int32)))) - (48 : Int32)), iv ((p1 + (1 : Int32)) + (1 : Int32))] [(.int (p1 + (2 : Int32))), (.int ((p1 + (1 : Int32)) + (1 : Int32)))]))
          refine own_via (fun k => XS.icmpYes X0.here hx rfl (pc0 := 10) (pc' := 52) rfl (hb hby d2_10) rfl (flt (own_l322_2 p1 hlo hhi)).2.1 (by decide) (by decide) k) ?_
          show own_Go p e below s _ _ (s₁.setTop (mkF m 52 #[rv a0, iv p1, iv 2, iv ((((10 : Int32) * (((0 : Int32) + (g p1)) - (48 : Int32))) + (g (p1 + (1 : Int32)))) - (48 : Int32)), iv ((p1 + (1 : Int32)) + (1 : Int32))] []))
          refine own_via (fun k => XS.iloadN X0.here hx rfl (hb hby d2_52) rfl  k) ?_
          show own_Go p e below s _ _ (s₁.setTop (mkF m 53 #[rv a0, iv p1, iv 2, iv ((((10 : Int32) * (((0 : Int32) + (g p1)) - (48 : Int32))) + (g (p1 + (1 : Int32)))) - (48 : Int32)), iv ((p1 + (1 : Int32)) + (1 : Int32))] [(.int ((((10 : Int32) * (((0 : Int32) + (g p1)) - (48 : Int32))) + (g (p1 + (1 : Int32)))) - (48 : Int32)))]))
          exact own_retI X0 hx hlk Bd.returns (hb hby d2_53) (Q := (Q2_2 Z a0 p1 k vs g h0 n0)) ⟨(congrArg (fun z => some (Value.int z)) (show ((((10 : Int32) * (((0 : Int32) + (g p1)) - (48 : Int32))) + (g (p1 + (1 : Int32)))) - (48 : Int32)) = (own_f2_2 p1 g) from (by unfold own_f2_2; exact ((if_neg hc2).trans ((if_neg hc4).trans ((if_neg hc7).trans ((if_neg hc9).trans rfl)))).symm))), N0, e0⟩ (by decide) (by decide)
theorem ef_2_3 (m : MethodId) (x0 : Addr) (x1 : Int32) (x2 : Int32) : entryFrame m #[(.ref x0), (.int x1), (.int x2)] 5 = mkF m 0 #[rv x0, iv x1, iv x2, .unset, .unset] [] := by first | (simp [entryFrame, mkF, argsToLocals, Value.category]; done) | rfl
def own_f2_3 (p1 : Int32) (g : Int32 → Int32) : Int32 := (if (g p1) < (48 : Int32) then (-1 : Int32) else (if (57 : Int32) < (g p1) then (-1 : Int32) else (if (g (p1 + (1 : Int32))) < (48 : Int32) then (-1 : Int32) else (if (57 : Int32) < (g (p1 + (1 : Int32))) then (-1 : Int32) else (if (g ((p1 + (1 : Int32)) + (1 : Int32))) < (48 : Int32) then (-1 : Int32) else (if (57 : Int32) < (g ((p1 + (1 : Int32)) + (1 : Int32))) then (-1 : Int32) else ((((10 : Int32) * ((((10 : Int32) * (((0 : Int32) + (g p1)) - (48 : Int32))) + (g (p1 + (1 : Int32)))) - (48 : Int32))) + (g ((p1 + (1 : Int32)) + (1 : Int32)))) - (48 : Int32))))))))
theorem own_l323_0 (p1 : Int32) (hlo : ¬ p1 < (0 : Int32)) (hhi : p1 < (6 : Int32)) : p1 < (p1 + (3 : Int32)) := by
  have h9 := own_h9 hhi (by decide)
  rcases own_c9 hlo h9 with rfl | rfl | rfl | rfl | rfl | rfl | rfl | rfl | rfl <;> revert hlo hhi <;> decide
theorem own_in3_0 (p1 : Int32) (hlo : ¬ p1 < (0 : Int32)) (hhi : p1 < (6 : Int32)) : ¬ p1 < (0 : Int32) ∧ p1 < (8 : Int32) := by
  have h9 := own_h9 hhi (by decide)
  rcases own_c9 hlo h9 with rfl | rfl | rfl | rfl | rfl | rfl | rfl | rfl | rfl <;> revert hlo hhi <;> decide
theorem own_l323_1 (p1 : Int32) (hlo : ¬ p1 < (0 : Int32)) (hhi : p1 < (6 : Int32)) : (p1 + (1 : Int32)) < (p1 + (3 : Int32)) := by
  have h9 := own_h9 hhi (by decide)
  rcases own_c9 hlo h9 with rfl | rfl | rfl | rfl | rfl | rfl | rfl | rfl | rfl <;> revert hlo hhi <;> decide
theorem own_in3_1 (p1 : Int32) (hlo : ¬ p1 < (0 : Int32)) (hhi : p1 < (6 : Int32)) : ¬ (p1 + (1 : Int32)) < (0 : Int32) ∧ (p1 + (1 : Int32)) < (8 : Int32) := by
  have h9 := own_h9 hhi (by decide)
  rcases own_c9 hlo h9 with rfl | rfl | rfl | rfl | rfl | rfl | rfl | rfl | rfl <;> revert hlo hhi <;> decide
theorem own_l323_2 (p1 : Int32) (hlo : ¬ p1 < (0 : Int32)) (hhi : p1 < (6 : Int32)) : ((p1 + (1 : Int32)) + (1 : Int32)) < (p1 + (3 : Int32)) := by
  have h9 := own_h9 hhi (by decide)
  rcases own_c9 hlo h9 with rfl | rfl | rfl | rfl | rfl | rfl | rfl | rfl | rfl <;> revert hlo hhi <;> decide
theorem own_in3_2 (p1 : Int32) (hlo : ¬ p1 < (0 : Int32)) (hhi : p1 < (6 : Int32)) : ¬ ((p1 + (1 : Int32)) + (1 : Int32)) < (0 : Int32) ∧ ((p1 + (1 : Int32)) + (1 : Int32)) < (8 : Int32) := by
  have h9 := own_h9 hhi (by decide)
  rcases own_c9 hlo h9 with rfl | rfl | rfl | rfl | rfl | rfl | rfl | rfl | rfl <;> revert hlo hhi <;> decide
theorem own_l323_3 (p1 : Int32) (hlo : ¬ p1 < (0 : Int32)) (hhi : p1 < (6 : Int32)) : ¬ ((((p1 + (1 : Int32)) + (1 : Int32)) + (1 : Int32)) < (p1 + (3 : Int32))) := by
  have h9 := own_h9 hhi (by decide)
  rcases own_c9 hlo h9 with rfl | rfl | rfl | rfl | rfl | rfl | rfl | rfl | rfl <;> revert hlo hhi <;> decide
def Q2_3 (Z : State) (a0 : Addr) (p1 : Int32) (k : ClassId) (vs : List Value) (g : Int32 → Int32) (h0 : Heap) (n0 : Nat) (v : Option Value) (h : Heap) (L : List Loc) : Prop := v = some (.int (own_f2_3 p1 g)) ∧ Fr n0 L ∧ h = h0
set_option maxRecDepth 65536 in
set_option maxHeartbeats 40000000 in
theorem rm2_3 (l : Launch) (Z : State) (aw : Array Value) (hw : ∀ d ∈ tables_1, d.before aw Z = true) (ws : List Jvm.Cond) (a0 : Addr) (p1 : Int32) (k : ClassId) (vs : List Value) (g : Int32 → Int32) (h0 : Heap) (n0 : Nat) (Z0 : n0 ≤ h0.size) (P0 : Arv Z h0 a0 k .byte (8 : Int32) vs (.int (0 : Int32))) (hg : ∀ j : Int32, ¬ j < (0 : Int32) ∧ j < (8 : Int32) → vs.getD j.toNatClampNeg (.int (0 : Int32)) = .int (g j)) (hlo : ¬ p1 < (0 : Int32)) (hhi : p1 < (6 : Int32)) :
    MetFree l (⟨"organico/records/Iso2709", "digits", "([BII)I"⟩ : MethodName) (head1 (Jvm.Cond.code (⟨"organico/records/Iso2709", "digits", "([BII)I"⟩ : MethodName) prog_62_method_5_code 5 (some .int) :: ws) ({ frames := 0, cells := 0, slots := 0, locals := 0 } : Room)) (fun a U => a = #[(.ref a0), (.int p1), (.int 3)] ∧ Z.Warmed39 U.vm ∧ U.heap = h0) (fun _ _ _ _ _ => True) (fun _ U o U' => ∃ v L, o = .returned v ∧ Q2_3 Z a0 p1 k vs g h0 n0 v U'.heap L ∧ FrameEnd U o U' L ({ frames := 0, cells := 0, slots := 0, locals := 0 } : Room).cells ({ frames := 0, cells := 0, slots := 0, locals := 0 } : Room).slots) := by
  refine MetFree.of_bodySF (plainFor_of_name pn_2) hisR ?_
  intro p e s m args below meth c s₁ Bd hml0 hP hK
  obtain ⟨rfl, hZ, hh⟩ := hP
  have hx := Bd.exec
  have hby := Bd.bytes
  have hml : c.maxLocals = 5 := hml0
  have hown : s.vm.findClass "organico/records/Iso2709" = some m.cls := findClass_of_methodNamed Bd.named
  have hnm := (name_of_methodNamed Bd.named Bd.method).1
  have hlk : meth.locks = false := by first | exact BodyLoose.notSynchronized (by assumption) | exact Body.notSynchronized (by assumption)
  have X0 : Stand p l e ({ frames := 0, cells := 0, slots := 0, locals := 0 } : Room) s m #[(.ref a0), (.int p1), (.int 3)] below meth c s₁ [] 0 0 := Stand.of_body Bd
  have e0 : s₁.heap = h0 := by rw [← hh, Bd.state]; rfl
  have N0 := Fr.nil n0
  have K0 : Keep h0 h0 [] := Keep.refl _ _
  refine own_start (CS := (0, 0)) (Q := (Q2_3 Z a0 p1 k vs g h0 n0)) (ef_2_3 m a0 p1 (3 : Int32)) ?_
  show own_Go p e below s _ _ (s₁.setTop (mkF m 0 #[rv a0, iv p1, iv 3, .unset, .unset] []))
  refine own_via (fun k => XS.iconst X0.here hx rfl (hb hby d2_0) (XS.istoreN X0.here hx rfl (hb hby d2_1) rfl (l' := #[rv a0, iv p1, iv 3, iv 0, .unset]) rfl (XS.iloadN X0.here hx rfl (hb hby d2_2) rfl  (XS.istore X0.here hx rfl (hb hby d2_3) rfl (l' := #[rv a0, iv p1, iv 3, iv 0, iv p1]) rfl k)))) ?_
  show own_Go p e below s _ _ (s₁.setTop (mkF m 5 #[rv a0, iv p1, iv 3, iv 0, iv p1] []))
  refine own_via (fun k => XS.iload X0.here hx rfl (hb hby d2_5) rfl  (XS.iloadN X0.here hx rfl (hb hby d2_7) rfl  (XS.iloadN X0.here hx rfl (hb hby d2_8) rfl  (XS.iadd X0.here hx rfl (hb hby d2_9) rfl k)))) ?_
  show own_Go p e below s _ _ (s₁.setTop (mkF m 10 #[rv a0, iv p1, iv 3, iv 0, iv p1] [(.int (p1 + (3 : Int32))), (.int p1)]))
  refine own_via (fun k => XS.icmpNo X0.here hx rfl (hb hby d2_10) rfl (tlt (own_l323_0 p1 hlo hhi)).2.1 k) ?_
  show own_Go p e below s _ _ (s₁.setTop (mkF m 13 #[rv a0, iv p1, iv 3, iv 0, iv p1] []))
  refine own_via (fun k => XS.aloadN X0.here hx rfl (hb hby d2_13) rfl rfl  (XS.iload X0.here hx rfl (hb hby d2_14) rfl  k)) ?_
  show own_Go p e below s _ _ (s₁.setTop (mkF m 16 #[rv a0, iv p1, iv 3, iv 0, iv p1] [(.int p1), (.ref a0)]))
  obtain ⟨cl1, Ar1, q1, S1, NN1, H1, G1⟩ := id P0
  have hin1 : ¬ (p1 < 0 ∨ cl1.slots.size ≤ (p1).toNatClampNeg) := inb_of S1 (own_in3_0 p1 hlo hhi)
  have hat1 : cl1.slots[(p1).toNatClampNeg]? = some (.int (g p1)) := H1.at hin1 (hg _ (own_in3_0 p1 hlo hhi))
  refine own_via (fun k => X0.baloadBytes hx (j := p1) (v := (.int (g p1))) (by rw [e0]; exact Ar1.1) (State.isArrayOf_alike hZ.alike Ar1.2.1) Ar1.2.2 hin1 hat1 (g := (mkF m 16 #[rv a0, iv p1, iv 3, iv 0, iv p1] [(.int p1), (.ref a0)])) rfl rfl (hb hby d2_16) _ k) ?_
  show own_Go p e below s _ _ (s₁.setTop (mkF m 17 #[rv a0, iv p1, iv 3, iv 0, iv p1] [(.int (g p1))]))
  refine own_via (fun k => XS.bipush X0.here hx rfl (hb hby d2_17) k) ?_
  show own_Go p e below s _ _ (s₁.setTop (mkF m 19 #[rv a0, iv p1, iv 3, iv 0, iv p1] [(.int 48), (.int (g p1))]))
  by_cases hc2 : (g p1) < (48 : Int32)
  · refine own_via (fun k => XS.icmpYes X0.here hx rfl (pc0 := 19) (pc' := 31) rfl (hb hby d2_19) rfl (tlt hc2).1 (by decide) (by decide) k) ?_
    show own_Go p e below s _ _ (s₁.setTop (mkF m 31 #[rv a0, iv p1, iv 3, iv 0, iv p1] []))
    refine own_via (fun k => XS.iconst X0.here hx rfl (hb hby d2_31) k) ?_
    show own_Go p e below s _ _ (s₁.setTop (mkF m 32 #[rv a0, iv p1, iv 3, iv 0, iv p1] [(.int (-1))]))
    exact own_retI X0 hx hlk Bd.returns (hb hby d2_32) (Q := (Q2_3 Z a0 p1 k vs g h0 n0)) ⟨(congrArg (fun z => some (Value.int z)) (show (-1 : Int32) = (own_f2_3 p1 g) from (by unfold own_f2_3; exact ((if_pos hc2).trans rfl).symm))), N0, e0⟩ (by decide) (by decide)
  · refine own_via (fun k => XS.icmpNo X0.here hx rfl (hb hby d2_19) rfl (flt hc2).1 k) ?_
    show own_Go p e below s _ _ (s₁.setTop (mkF m 22 #[rv a0, iv p1, iv 3, iv 0, iv p1] []))
    refine own_via (fun k => XS.aloadN X0.here hx rfl (hb hby d2_22) rfl rfl  (XS.iload X0.here hx rfl (hb hby d2_23) rfl  k)) ?_
    show own_Go p e below s _ _ (s₁.setTop (mkF m 25 #[rv a0, iv p1, iv 3, iv 0, iv p1] [(.int p1), (.ref a0)]))
    obtain ⟨cl3, Ar3, q3, S3, NN3, H3, G3⟩ := id P0
    have hin3 : ¬ (p1 < 0 ∨ cl3.slots.size ≤ (p1).toNatClampNeg) := inb_of S3 (own_in3_0 p1 hlo hhi)
    have hat3 : cl3.slots[(p1).toNatClampNeg]? = some (.int (g p1)) := H3.at hin3 (hg _ (own_in3_0 p1 hlo hhi))
    refine own_via (fun k => X0.baloadBytes hx (j := p1) (v := (.int (g p1))) (by rw [e0]; exact Ar3.1) (State.isArrayOf_alike hZ.alike Ar3.2.1) Ar3.2.2 hin3 hat3 (g := (mkF m 25 #[rv a0, iv p1, iv 3, iv 0, iv p1] [(.int p1), (.ref a0)])) rfl rfl (hb hby d2_25) _ k) ?_
    show own_Go p e below s _ _ (s₁.setTop (mkF m 26 #[rv a0, iv p1, iv 3, iv 0, iv p1] [(.int (g p1))]))
    refine own_via (fun k => XS.bipush X0.here hx rfl (hb hby d2_26) k) ?_
    show own_Go p e below s _ _ (s₁.setTop (mkF m 28 #[rv a0, iv p1, iv 3, iv 0, iv p1] [(.int 57), (.int (g p1))]))
    by_cases hc4 : (57 : Int32) < (g p1)
    · refine own_via (fun k => XS.icmpNo X0.here hx rfl (hb hby d2_28) rfl (tlt hc4).2.2.2 k) ?_
      show own_Go p e below s _ _ (s₁.setTop (mkF m 31 #[rv a0, iv p1, iv 3, iv 0, iv p1] []))
      refine own_via (fun k => XS.iconst X0.here hx rfl (hb hby d2_31) k) ?_
      show own_Go p e below s _ _ (s₁.setTop (mkF m 32 #[rv a0, iv p1, iv 3, iv 0, iv p1] [(.int (-1))]))
      exact own_retI X0 hx hlk Bd.returns (hb hby d2_32) (Q := (Q2_3 Z a0 p1 k vs g h0 n0)) ⟨(congrArg (fun z => some (Value.int z)) (show (-1 : Int32) = (own_f2_3 p1 g) from (by unfold own_f2_3; exact ((if_neg hc2).trans ((if_pos hc4).trans rfl)).symm))), N0, e0⟩ (by decide) (by decide)
    · refine own_via (fun k => XS.icmpYes X0.here hx rfl (pc0 := 28) (pc' := 33) rfl (hb hby d2_28) rfl (flt hc4).2.2.2 (by decide) (by decide) k) ?_
      show own_Go p e below s _ _ (s₁.setTop (mkF m 33 #[rv a0, iv p1, iv 3, iv 0, iv p1] []))
      refine own_via (fun k => XS.bipush X0.here hx rfl (hb hby d2_33) (XS.iloadN X0.here hx rfl (hb hby d2_35) rfl  (XS.imul X0.here hx rfl (hb hby d2_36) rfl (XS.aloadN X0.here hx rfl (hb hby d2_37) rfl rfl  k)))) ?_
      show own_Go p e below s _ _ (s₁.setTop (mkF m 38 #[rv a0, iv p1, iv 3, iv 0, iv p1] [(.ref a0), (.int 0)]))
      refine own_via (fun k => XS.iload X0.here hx rfl (hb hby d2_38) rfl  k) ?_
      show own_Go p e below s _ _ (s₁.setTop (mkF m 40 #[rv a0, iv p1, iv 3, iv 0, iv p1] [(.int p1), (.ref a0), (.int 0)]))
      obtain ⟨cl5, Ar5, q5, S5, NN5, H5, G5⟩ := id P0
      have hin5 : ¬ (p1 < 0 ∨ cl5.slots.size ≤ (p1).toNatClampNeg) := inb_of S5 (own_in3_0 p1 hlo hhi)
      have hat5 : cl5.slots[(p1).toNatClampNeg]? = some (.int (g p1)) := H5.at hin5 (hg _ (own_in3_0 p1 hlo hhi))
      refine own_via (fun k => X0.baloadBytes hx (j := p1) (v := (.int (g p1))) (by rw [e0]; exact Ar5.1) (State.isArrayOf_alike hZ.alike Ar5.2.1) Ar5.2.2 hin5 hat5 (g := (mkF m 40 #[rv a0, iv p1, iv 3, iv 0, iv p1] [(.int p1), (.ref a0), (.int 0)])) rfl rfl (hb hby d2_40) _ k) ?_
      show own_Go p e below s _ _ (s₁.setTop (mkF m 41 #[rv a0, iv p1, iv 3, iv 0, iv p1] [(.int (g p1)), (.int 0)]))
      refine own_via (fun k => XS.iadd X0.here hx rfl (hb hby d2_41) rfl (XS.bipush X0.here hx rfl (hb hby d2_42) (XS.isub X0.here hx rfl (hb hby d2_44) rfl (XS.istoreN X0.here hx rfl (hb hby d2_45) rfl (l' := #[rv a0, iv p1, iv 3, iv (((0 : Int32) + (g p1)) - (48 : Int32)), iv p1]) rfl k)))) ?_
      show own_Go p e below s _ _ (s₁.setTop (mkF m 46 #[rv a0, iv p1, iv 3, iv (((0 : Int32) + (g p1)) - (48 : Int32)), iv p1] []))
      refine own_via (fun k => XS.iinc X0.here hx rfl (hb hby d2_46) rfl (l' := #[rv a0, iv p1, iv 3, iv (((0 : Int32) + (g p1)) - (48 : Int32)), iv (p1 + (1 : Int32))]) rfl (XS.goto X0.here hx rfl (pc0 := 49) (pc' := 5) rfl (hb hby d2_49) (by decide) (by decide) (XS.iload X0.here hx rfl (hb hby d2_5) rfl  (XS.iloadN X0.here hx rfl (hb hby d2_7) rfl  k)))) ?_
      show own_Go p e below s _ _ (s₁.setTop (mkF m 8 #[rv a0, iv p1, iv 3, iv (((0 : Int32) + (g p1)) - (48 : Int32)), iv (p1 + (1 : Int32))] [(.int p1), (.int (p1 + (1 : Int32)))]))
      refine own_via (fun k => XS.iloadN X0.here hx rfl (hb hby d2_8) rfl  (XS.iadd X0.here hx rfl (hb hby d2_9) rfl k)) ?_
      show own_Go p e below s _ _ (s₁.setTop (mkF m 10 #[rv a0, iv p1, iv 3, iv (((0 : Int32) + (g p1)) - (48 : Int32)), iv (p1 + (1 : Int32))] [(.int (p1 + (3 : Int32))), (.int (p1 + (1 : Int32)))]))
      refine own_via (fun k => XS.icmpNo X0.here hx rfl (hb hby d2_10) rfl (tlt (own_l323_1 p1 hlo hhi)).2.1 k) ?_
      show own_Go p e below s _ _ (s₁.setTop (mkF m 13 #[rv a0, iv p1, iv 3, iv (((0 : Int32) + (g p1)) - (48 : Int32)), iv (p1 + (1 : Int32))] []))
      refine own_via (fun k => XS.aloadN X0.here hx rfl (hb hby d2_13) rfl rfl  (XS.iload X0.here hx rfl (hb hby d2_14) rfl  k)) ?_
      show own_Go p e below s _ _ (s₁.setTop (mkF m 16 #[rv a0, iv p1, iv 3, iv (((0 : Int32) + (g p1)) - (48 : Int32)), iv (p1 + (1 : Int32))] [(.int (p1 + (1 : Int32))), (.ref a0)]))
      obtain ⟨cl6, Ar6, q6, S6, NN6, H6, G6⟩ := id P0
      have hin6 : ¬ ((p1 + (1 : Int32)) < 0 ∨ cl6.slots.size ≤ ((p1 + (1 : Int32))).toNatClampNeg) := inb_of S6 (own_in3_1 p1 hlo hhi)
      have hat6 : cl6.slots[((p1 + (1 : Int32))).toNatClampNeg]? = some (.int (g (p1 + (1 : Int32)))) := H6.at hin6 (hg _ (own_in3_1 p1 hlo hhi))
      refine own_via (fun k => X0.baloadBytes hx (j := (p1 + (1 : Int32))) (v := (.int (g (p1 + (1 : Int32))))) (by rw [e0]; exact Ar6.1) (State.isArrayOf_alike hZ.alike Ar6.2.1) Ar6.2.2 hin6 hat6 (g := (mkF m 16 #[rv a0, iv p1, iv 3, iv (((0 : Int32) + (g p1)) - (48 : Int32)), iv (p1 + (1 : Int32))] [(.int (p1 + (1 : Int32))), (.ref a0)])) rfl rfl (hb hby d2_16) _ k) ?_
      show own_Go p e below s _ _ (s₁.setTop (mkF m 17 #[rv a0, iv p1, iv 3, iv (((0 : Int32) + (g p1)) - (48 : Int32)), iv (p1 + (1 : Int32))] [(.int (g (p1 + (1 : Int32))))]))
      refine own_via (fun k => XS.bipush X0.here hx rfl (hb hby d2_17) k) ?_
      show own_Go p e below s _ _ (s₁.setTop (mkF m 19 #[rv a0, iv p1, iv 3, iv (((0 : Int32) + (g p1)) - (48 : Int32)), iv (p1 + (1 : Int32))] [(.int 48), (.int (g (p1 + (1 : Int32))))]))
      by_cases hc7 : (g (p1 + (1 : Int32))) < (48 : Int32)
      · refine own_via (fun k => XS.icmpYes X0.here hx rfl (pc0 := 19) (pc' := 31) rfl (hb hby d2_19) rfl (tlt hc7).1 (by decide) (by decide) k) ?_
        show own_Go p e below s _ _ (s₁.setTop (mkF m 31 #[rv a0, iv p1, iv 3, iv (((0 : Int32) + (g p1)) - (48 : Int32)), iv (p1 + (1 : Int32))] []))
        refine own_via (fun k => XS.iconst X0.here hx rfl (hb hby d2_31) k) ?_
        show own_Go p e below s _ _ (s₁.setTop (mkF m 32 #[rv a0, iv p1, iv 3, iv (((0 : Int32) + (g p1)) - (48 : Int32)), iv (p1 + (1 : Int32))] [(.int (-1))]))
        exact own_retI X0 hx hlk Bd.returns (hb hby d2_32) (Q := (Q2_3 Z a0 p1 k vs g h0 n0)) ⟨(congrArg (fun z => some (Value.int z)) (show (-1 : Int32) = (own_f2_3 p1 g) from (by unfold own_f2_3; exact ((if_neg hc2).trans ((if_neg hc4).trans ((if_pos hc7).trans rfl))).symm))), N0, e0⟩ (by decide) (by decide)
      · refine own_via (fun k => XS.icmpNo X0.here hx rfl (hb hby d2_19) rfl (flt hc7).1 k) ?_
        show own_Go p e below s _ _ (s₁.setTop (mkF m 22 #[rv a0, iv p1, iv 3, iv (((0 : Int32) + (g p1)) - (48 : Int32)), iv (p1 + (1 : Int32))] []))
        refine own_via (fun k => XS.aloadN X0.here hx rfl (hb hby d2_22) rfl rfl  (XS.iload X0.here hx rfl (hb hby d2_23) rfl  k)) ?_
        show own_Go p e below s _ _ (s₁.setTop (mkF m 25 #[rv a0, iv p1, iv 3, iv (((0 : Int32) + (g p1)) - (48 : Int32)), iv (p1 + (1 : Int32))] [(.int (p1 + (1 : Int32))), (.ref a0)]))
        obtain ⟨cl8, Ar8, q8, S8, NN8, H8, G8⟩ := id P0
        have hin8 : ¬ ((p1 + (1 : Int32)) < 0 ∨ cl8.slots.size ≤ ((p1 + (1 : Int32))).toNatClampNeg) := inb_of S8 (own_in3_1 p1 hlo hhi)
        have hat8 : cl8.slots[((p1 + (1 : Int32))).toNatClampNeg]? = some (.int (g (p1 + (1 : Int32)))) := H8.at hin8 (hg _ (own_in3_1 p1 hlo hhi))
        refine own_via (fun k => X0.baloadBytes hx (j := (p1 + (1 : Int32))) (v := (.int (g (p1 + (1 : Int32))))) (by rw [e0]; exact Ar8.1) (State.isArrayOf_alike hZ.alike Ar8.2.1) Ar8.2.2 hin8 hat8 (g := (mkF m 25 #[rv a0, iv p1, iv 3, iv (((0 : Int32) + (g p1)) - (48 : Int32)), iv (p1 + (1 : Int32))] [(.int (p1 + (1 : Int32))), (.ref a0)])) rfl rfl (hb hby d2_25) _ k) ?_
        show own_Go p e below s _ _ (s₁.setTop (mkF m 26 #[rv a0, iv p1, iv 3, iv (((0 : Int32) + (g p1)) - (48 : Int32)), iv (p1 + (1 : Int32))] [(.int (g (p1 + (1 : Int32))))]))
        refine own_via (fun k => XS.bipush X0.here hx rfl (hb hby d2_26) k) ?_
        show own_Go p e below s _ _ (s₁.setTop (mkF m 28 #[rv a0, iv p1, iv 3, iv (((0 : Int32) + (g p1)) - (48 : Int32)), iv (p1 + (1 : Int32))] [(.int 57), (.int (g (p1 + (1 : Int32))))]))
        by_cases hc9 : (57 : Int32) < (g (p1 + (1 : Int32)))
        · refine own_via (fun k => XS.icmpNo X0.here hx rfl (hb hby d2_28) rfl (tlt hc9).2.2.2 k) ?_
          show own_Go p e below s _ _ (s₁.setTop (mkF m 31 #[rv a0, iv p1, iv 3, iv (((0 : Int32) + (g p1)) - (48 : Int32)), iv (p1 + (1 : Int32))] []))
          refine own_via (fun k => XS.iconst X0.here hx rfl (hb hby d2_31) k) ?_
          show own_Go p e below s _ _ (s₁.setTop (mkF m 32 #[rv a0, iv p1, iv 3, iv (((0 : Int32) + (g p1)) - (48 : Int32)), iv (p1 + (1 : Int32))] [(.int (-1))]))
          exact own_retI X0 hx hlk Bd.returns (hb hby d2_32) (Q := (Q2_3 Z a0 p1 k vs g h0 n0)) ⟨(congrArg (fun z => some (Value.int z)) (show (-1 : Int32) = (own_f2_3 p1 g) from (by unfold own_f2_3; exact ((if_neg hc2).trans ((if_neg hc4).trans ((if_neg hc7).trans ((if_pos hc9).trans rfl)))).symm))), N0, e0⟩ (by decide) (by decide)
        · refine own_via (fun k => XS.icmpYes X0.here hx rfl (pc0 := 28) (pc' := 33) rfl (hb hby d2_28) rfl (flt hc9).2.2.2 (by decide) (by decide) k) ?_
          show own_Go p e below s _ _ (s₁.setTop (mkF m 33 #[rv a0, iv p1, iv 3, iv (((0 : Int32) + (g p1)) - (48 : Int32)), iv (p1 + (1 : Int32))] []))
          refine own_via (fun k => XS.bipush X0.here hx rfl (hb hby d2_33) (XS.iloadN X0.here hx rfl (hb hby d2_35) rfl  (XS.imul X0.here hx rfl (hb hby d2_36) rfl (XS.aloadN X0.here hx rfl (hb hby d2_37) rfl rfl  k)))) ?_
          show own_Go p e below s _ _ (s₁.setTop (mkF m 38 #[rv a0, iv p1, iv 3, iv (((0 : Int32) + (g p1)) - (48 : Int32)), iv (p1 + (1 : Int32))] [(.ref a0), (.int ((10 : Int32) * (((0 : Int32) + (g p1)) - (48 : Int32))))]))
          refine own_via (fun k => XS.iload X0.here hx rfl (hb hby d2_38) rfl  k) ?_
          show own_Go p e below s _ _ (s₁.setTop (mkF m 40 #[rv a0, iv p1, iv 3, iv (((0 : Int32) + (g p1)) - (48 : Int32)), iv (p1 + (1 : Int32))] [(.int (p1 + (1 : Int32))), (.ref a0), (.int ((10 : Int32) * (((0 : Int32) + (g p1)) - (48 : Int32))))]))
          obtain ⟨cl10, Ar10, q10, S10, NN10, H10, G10⟩ := id P0
          have hin10 : ¬ ((p1 + (1 : Int32)) < 0 ∨ cl10.slots.size ≤ ((p1 + (1 : Int32))).toNatClampNeg) := inb_of S10 (own_in3_1 p1 hlo hhi)
          have hat10 : cl10.slots[((p1 + (1 : Int32))).toNatClampNeg]? = some (.int (g (p1 + (1 : Int32)))) := H10.at hin10 (hg _ (own_in3_1 p1 hlo hhi))
          refine own_via (fun k => X0.baloadBytes hx (j := (p1 + (1 : Int32))) (v := (.int (g (p1 + (1 : Int32))))) (by rw [e0]; exact Ar10.1) (State.isArrayOf_alike hZ.alike Ar10.2.1) Ar10.2.2 hin10 hat10 (g := (mkF m 40 #[rv a0, iv p1, iv 3, iv (((0 : Int32) + (g p1)) - (48 : Int32)), iv (p1 + (1 : Int32))] [(.int (p1 + (1 : Int32))), (.ref a0), (.int ((10 : Int32) * (((0 : Int32) + (g p1)) - (48 : Int32))))])) rfl rfl (hb hby d2_40) _ k) ?_
          show own_Go p e below s _ _ (s₁.setTop (mkF m 41 #[rv a0, iv p1, iv 3, iv (((0 : Int32) + (g p1)) - (48 : Int32)), iv (p1 + (1 : Int32))] [(.int (g (p1 + (1 : Int32)))), (.int ((10 : Int32) * (((0 : Int32) + (g p1)) - (48 : Int32))))]))
          refine own_via (fun k => XS.iadd X0.here hx rfl (hb hby d2_41) rfl (XS.bipush X0.here hx rfl (hb hby d2_42) (XS.isub X0.here hx rfl (hb hby d2_44) rfl (XS.istoreN X0.here hx rfl (hb hby d2_45) rfl (l' := #[rv a0, iv p1, iv 3, iv ((((10 : Int32) * (((0 : Int32) + (g p1)) - (48 : Int32))) + (g (p1 + (1 : Int32)))) - (48 : Int32)), iv (p1 + (1 : Int32))]) rfl k)))) ?_
          show own_Go p e below s _ _ (s₁.setTop (mkF m 46 #[rv a0, iv p1, iv 3, iv ((((10 : Int32) * (((0 : Int32) + (g p1)) - (48 : Int32))) + (g (p1 + (1 : Int32)))) - (48 : Int32)), iv (p1 + (1 : Int32))] []))
          refine own_via (fun k => XS.iinc X0.here hx rfl (hb hby d2_46) rfl (l' := #[rv a0, iv p1, iv 3, iv ((((10 : Int32) * (((0 : Int32) + (g p1)) - (48 : Int32))) + (g (p1 + (1 : Int32)))) - (48 : Int32)), iv ((p1 + (1 : Int32)) + (1 : Int32))]) rfl (XS.goto X0.here hx rfl (pc0 := 49) (pc' := 5) rfl (hb hby d2_49) (by decide) (by decide) (XS.iload X0.here hx rfl (hb hby d2_5) rfl  (XS.iloadN X0.here hx rfl (hb hby d2_7) rfl  k)))) ?_
          show own_Go p e below s _ _ (s₁.setTop (mkF m 8 #[rv a0, iv p1, iv 3, iv ((((10 : Int32) * (((0 : Int32) + (g p1)) - (48 : Int32))) + (g (p1 + (1 : Int32)))) - (48 : Int32)), iv ((p1 + (1 : Int32)) + (1 : Int32))] [(.int p1), (.int ((p1 + (1 : Int32)) + (1 : Int32)))]))
          refine own_via (fun k => XS.iloadN X0.here hx rfl (hb hby d2_8) rfl  (XS.iadd X0.here hx rfl (hb hby d2_9) rfl k)) ?_
          show own_Go p e below s _ _ (s₁.setTop (mkF m 10 #[rv a0, iv p1, iv 3, iv ((((10 : Int32) * (((0 : Int32) + (g p1)) - (48 : Int32))) + (g (p1 + (1 : Int32)))) - (48 : Int32)), iv ((p1 + (1 : Int32)) + (1 : Int32))] [(.int (p1 + (3 : Int32))), (.int ((p1 + (1 : Int32)) + (1 : Int32)))]))
          refine own_via (fun k => XS.icmpNo X0.here hx rfl (hb hby d2_10) rfl (tlt (own_l323_2 p1 hlo hhi)).2.1 k) ?_
          show own_Go p e below s _ _ (s₁.setTop (mkF m 13 #[rv a0, iv p1, iv 3, iv ((((10 : Int32) * (((0 : Int32) + (g p1)) - (48 : Int32))) + (g (p1 + (1 : Int32)))) - (48 : Int32)), iv ((p1 + (1 : Int32)) + (1 : Int32))] []))
          refine own_via (fun k => XS.aloadN X0.here hx rfl (hb hby d2_13) rfl rfl  (XS.iload X0.here hx rfl (hb hby d2_14) rfl  k)) ?_
          show own_Go p e below s _ _ (s₁.setTop (mkF m 16 #[rv a0, iv p1, iv 3, iv ((((10 : Int32) * (((0 : Int32) + (g p1)) - (48 : Int32))) + (g (p1 + (1 : Int32)))) - (48 : Int32)), iv ((p1 + (1 : Int32)) + (1 : Int32))] [(.int ((p1 + (1 : Int32)) + (1 : Int32))), (.ref a0)]))
          obtain ⟨cl11, Ar11, q11, S11, NN11, H11, G11⟩ := id P0
          have hin11 : ¬ (((p1 + (1 : Int32)) + (1 : Int32)) < 0 ∨ cl11.slots.size ≤ (((p1 + (1 : Int32)) + (1 : Int32))).toNatClampNeg) := inb_of S11 (own_in3_2 p1 hlo hhi)
          have hat11 : cl11.slots[(((p1 + (1 : Int32)) + (1 : Int32))).toNatClampNeg]? = some (.int (g ((p1 + (1 : Int32)) + (1 : Int32)))) := H11.at hin11 (hg _ (own_in3_2 p1 hlo hhi))
          refine own_via (fun k => X0.baloadBytes hx (j := ((p1 + (1 : Int32)) + (1 : Int32))) (v := (.int (g ((p1 + (1 : Int32)) + (1 : Int32))))) (by rw [e0]; exact Ar11.1) (State.isArrayOf_alike hZ.alike Ar11.2.1) Ar11.2.2 hin11 hat11 (g := (mkF m 16 #[rv a0, iv p1, iv 3, iv ((((10 : Int32) * (((0 : Int32) + (g p1)) - (48 : Int32))) + (g (p1 + (1 : Int32)))) - (48 : Int32)), iv ((p1 + (1 : Int32)) + (1 : Int32))] [(.int ((p1 + (1 : Int32)) + (1 : Int32))), (.ref a0)])) rfl rfl (hb hby d2_16) _ k) ?_
          show own_Go p e below s _ _ (s₁.setTop (mkF m 17 #[rv a0, iv p1, iv 3, iv ((((10 : Int32) * (((0 : Int32) + (g p1)) - (48 : Int32))) + (g (p1 + (1 : Int32)))) - (48 : Int32)), iv ((p1 + (1 : Int32)) + (1 : Int32))] [(.int (g ((p1 + (1 : Int32)) + (1 : Int32))))]))
          refine own_via (fun k => XS.bipush X0.here hx rfl (hb hby d2_17) k) ?_
          show own_Go p e below s _ _ (s₁.setTop (mkF m 19 #[rv a0, iv p1, iv 3, iv ((((10 : Int32) * (((0 : Int32) + (g p1)) - (48 : Int32))) + (g (p1 + (1 : Int32)))) - (48 : Int32)), iv ((p1 + (1 : Int32)) + (1 : Int32))] [(.int 48), (.int (g ((p1 + (1 : Int32)) + (1 : Int32))))]))
          by_cases hc12 : (g ((p1 + (1 : Int32)) + (1 : Int32))) < (48 : Int32)
          · refine own_via (fun k => XS.icmpYes X0.here hx rfl (pc0 := 19) (pc' := 31) rfl (hb hby d2_19) rfl (tlt hc12).1 (by decide) (by decide) k) ?_
            show own_Go p e below s _ _ (s₁.setTop (mkF m 31 #[rv a0, iv p1, iv 3, iv ((((10 : Int32) * (((0 : Int32) + (g p1)) - (48 : Int32))) + (g (p1 + (1 : Int32)))) - (48 : Int32)), iv ((p1 + (1 : Int32)) + (1 : Int32))] []))
            refine own_via (fun k => XS.iconst X0.here hx rfl (hb hby d2_31) k) ?_
            show own_Go p e below s _ _ (s₁.setTop (mkF m 32 #[rv a0, iv p1, iv 3, iv ((((10 : Int32) * (((0 : Int32) + (g p1)) - (48 : Int32))) + (g (p1 + (1 : Int32)))) - (48 : Int32)), iv ((p1 + (1 : Int32)) + (1 : Int32))] [(.int (-1))]))
            exact own_retI X0 hx hlk Bd.returns (hb hby d2_32) (Q := (Q2_3 Z a0 p1 k vs g h0 n0)) ⟨(congrArg (fun z => some (Value.int z)) (show (-1 : Int32) = (own_f2_3 p1 g) from (by unfold own_f2_3; exact ((if_neg hc2).trans ((if_neg hc4).trans ((if_neg hc7).trans ((if_neg hc9).trans ((if_pos hc12).trans rfl))))).symm))), N0, e0⟩ (by decide) (by decide)
          · refine own_via (fun k => XS.icmpNo X0.here hx rfl (hb hby d2_19) rfl (flt hc12).1 k) ?_
            show own_Go p e below s _ _ (s₁.setTop (mkF m 22 #[rv a0, iv p1, iv 3, iv ((((10 : Int32) * (((0 : Int32) + (g p1)) - (48 : Int32))) + (g (p1 + (1 : Int32)))) - (48 : Int32)), iv ((p1 + (1 : Int32)) + (1 : Int32))] []))
            refine own_via (fun k => XS.aloadN X0.here hx rfl (hb hby d2_22) rfl rfl  (XS.iload X0.here hx rfl (hb hby d2_23) rfl  k)) ?_
            show own_Go p e below s _ _ (s₁.setTop (mkF m 25 #[rv a0, iv p1, iv 3, iv ((((10 : Int32) * (((0 : Int32) + (g p1)) - (48 : Int32))) + (g (p1 + (1 : Int32)))) - (48 : Int32)), iv ((p1 + (1 : Int32)) + (1 : Int32))] [(.int ((p1 + (1 : Int32)) + (1 : Int32))), (.ref a0)]))
            obtain ⟨cl13, Ar13, q13, S13, NN13, H13, G13⟩ := id P0
            have hin13 : ¬ (((p1 + (1 : Int32)) + (1 : Int32)) < 0 ∨ cl13.slots.size ≤ (((p1 + (1 : Int32)) + (1 : Int32))).toNatClampNeg) := inb_of S13 (own_in3_2 p1 hlo hhi)
            have hat13 : cl13.slots[(((p1 + (1 : Int32)) + (1 : Int32))).toNatClampNeg]? = some (.int (g ((p1 + (1 : Int32)) + (1 : Int32)))) := H13.at hin13 (hg _ (own_in3_2 p1 hlo hhi))
            refine own_via (fun k => X0.baloadBytes hx (j := ((p1 + (1 : Int32)) + (1 : Int32))) (v := (.int (g ((p1 + (1 : Int32)) + (1 : Int32))))) (by rw [e0]; exact Ar13.1) (State.isArrayOf_alike hZ.alike Ar13.2.1) Ar13.2.2 hin13 hat13 (g := (mkF m 25 #[rv a0, iv p1, iv 3, iv ((((10 : Int32) * (((0 : Int32) + (g p1)) - (48 : Int32))) + (g (p1 + (1 : Int32)))) - (48 : Int32)), iv ((p1 + (1 : Int32)) + (1 : Int32))] [(.int ((p1 + (1 : Int32)) + (1 : Int32))), (.ref a0)])) rfl rfl (hb hby d2_25) _ k) ?_
            show own_Go p e below s _ _ (s₁.setTop (mkF m 26 #[rv a0, iv p1, iv 3, iv ((((10 : Int32) * (((0 : Int32) + (g p1)) - (48 : Int32))) + (g (p1 + (1 : Int32)))) - (48 : Int32)), iv ((p1 + (1 : Int32)) + (1 : Int32))] [(.int (g ((p1 + (1 : Int32)) + (1 : Int32))))]))
            refine own_via (fun k => XS.bipush X0.here hx rfl (hb hby d2_26) k) ?_
            show own_Go p e below s _ _ (s₁.setTop (mkF m 28 #[rv a0, iv p1, iv 3, iv ((((10 : Int32) * (((0 : Int32) + (g p1)) - (48 : Int32))) + (g (p1 + (1 : Int32)))) - (48 : Int32)), iv ((p1 + (1 : Int32)) + (1 : Int32))] [(.int 57), (.int (g ((p1 + (1 : Int32)) + (1 : Int32))))]))
            by_cases hc14 : (57 : Int32) < (g ((p1 + (1 : Int32)) + (1 : Int32)))
            · refine own_via (fun k => XS.icmpNo X0.here hx rfl (hb hby d2_28) rfl (tlt hc14).2.2.2 k) ?_
              show own_Go p e below s _ _ (s₁.setTop (mkF m 31 #[rv a0, iv p1, iv 3, iv ((((10 : Int32) * (((0 : Int32) + (g p1)) - (48 : Int32))) + (g (p1 + (1 : Int32)))) - (48 : Int32)), iv ((p1 + (1 : Int32)) + (1 : Int32))] []))
              refine own_via (fun k => XS.iconst X0.here hx rfl (hb hby d2_31) k) ?_
              show own_Go p e below s _ _ (s₁.setTop (mkF m 32 #[rv a0, iv p1, iv 3, iv ((((10 : Int32) * (((0 : Int32) + (g p1)) - (48 : Int32))) + (g (p1 + (1 : Int32)))) - (48 : Int32)), iv ((p1 + (1 : Int32)) + (1 : Int32))] [(.int (-1))]))
              exact own_retI X0 hx hlk Bd.returns (hb hby d2_32) (Q := (Q2_3 Z a0 p1 k vs g h0 n0)) ⟨(congrArg (fun z => some (Value.int z)) (show (-1 : Int32) = (own_f2_3 p1 g) from (by unfold own_f2_3; exact ((if_neg hc2).trans ((if_neg hc4).trans ((if_neg hc7).trans ((if_neg hc9).trans ((if_neg hc12).trans ((if_pos hc14).trans rfl)))))).symm))), N0, e0⟩ (by decide) (by decide)
            · refine own_via (fun k => XS.icmpYes X0.here hx rfl (pc0 := 28) (pc' := 33) rfl (hb hby d2_28) rfl (flt hc14).2.2.2 (by decide) (by decide) k) ?_
              show own_Go p e below s _ _ (s₁.setTop (mkF m 33 #[rv a0, iv p1, iv 3, iv ((((10 : Int32) * (((0 : Int32) + (g p1)) - (48 : Int32))) + (g (p1 + (1 : Int32)))) - (48 : Int32)), iv ((p1 + (1 : Int32)) + (1 : Int32))] []))
              refine own_via (fun k => XS.bipush X0.here hx rfl (hb hby d2_33) (XS.iloadN X0.here hx rfl (hb hby d2_35) rfl  (XS.imul X0.here hx rfl (hb hby d2_36) rfl (XS.aloadN X0.here hx rfl (hb hby d2_37) rfl rfl  k)))) ?_
              show own_Go p e below s _ _ (s₁.setTop (mkF m 38 #[rv a0, iv p1, iv 3, iv ((((10 : Int32) * (((0 : Int32) + (g p1)) - (48 : Int32))) + (g (p1 + (1 : Int32)))) - (48 : Int32)), iv ((p1 + (1 : Int32)) + (1 : Int32))] [(.ref a0), (.int ((10 : Int32) * ((((10 : Int32) * (((0 : Int32) + (g p1)) - (48 : Int32))) + (g (p1 + (1 : Int32)))) - (48 : Int32))))]))
              refine own_via (fun k => XS.iload X0.here hx rfl (hb hby d2_38) rfl  k) ?_
              show own_Go p e below s _ _ (s₁.setTop (mkF m 40 #[rv a0, iv p1, iv 3, iv ((((10 : Int32) * (((0 : Int32) + (g p1)) - (48 : Int32))) + (g (p1 + (1 : Int32)))) - (48 : Int32)), iv ((p1 + (1 : Int32)) + (1 : Int32))] [(.int ((p1 + (1 : Int32)) + (1 : Int32))), (.ref a0), (.int ((10 : Int32) * ((((10 : Int32) * (((0 : Int32) + (g p1)) - (48 : Int32))) + (g (p1 + (1 : Int32)))) - (48 : Int32))))]))
              obtain ⟨cl15, Ar15, q15, S15, NN15, H15, G15⟩ := id P0
              have hin15 : ¬ (((p1 + (1 : Int32)) + (1 : Int32)) < 0 ∨ cl15.slots.size ≤ (((p1 + (1 : Int32)) + (1 : Int32))).toNatClampNeg) := inb_of S15 (own_in3_2 p1 hlo hhi)
              have hat15 : cl15.slots[(((p1 + (1 : Int32)) + (1 : Int32))).toNatClampNeg]? = some (.int (g ((p1 + (1 : Int32)) + (1 : Int32)))) := H15.at hin15 (hg _ (own_in3_2 p1 hlo hhi))
              refine own_via (fun k => X0.baloadBytes hx (j := ((p1 + (1 : Int32)) + (1 : Int32))) (v := (.int (g ((p1 + (1 : Int32)) + (1 : Int32))))) (by rw [e0]; exact Ar15.1) (State.isArrayOf_alike hZ.alike Ar15.2.1) Ar15.2.2 hin15 hat15 (g := (mkF m 40 #[rv a0, iv p1, iv 3, iv ((((10 : Int32) * (((0 : Int32) + (g p1)) - (48 : Int32))) + (g (p1 + (1 : Int32)))) - (48 : Int32)), iv ((p1 + (1 : Int32)) + (1 : Int32))] [(.int ((p1 + (1 : Int32)) + (1 : Int32))), (.ref a0), (.int ((10 : Int32) * ((((10 : Int32) * (((0 : Int32) + (g p1)) - (48 : Int32))) + (g (p1 + (1 : Int32)))) - (48 : Int32))))])) rfl rfl (hb hby d2_40) _ k) ?_
              show own_Go p e below s _ _ (s₁.setTop (mkF m 41 #[rv a0, iv p1, iv 3, iv ((((10 : Int32) * (((0 : Int32) + (g p1)) - (48 : Int32))) + (g (p1 + (1 : Int32)))) - (48 : Int32)), iv ((p1 + (1 : Int32)) + (1 : Int32))] [(.int (g ((p1 + (1 : Int32)) + (1 : Int32)))), (.int ((10 : Int32) * ((((10 : Int32) * (((0 : Int32) + (g p1)) - (48 : Int32))) + (g (p1 + (1 : Int32)))) - (48 : Int32))))]))
              refine own_via (fun k => XS.iadd X0.here hx rfl (hb hby d2_41) rfl (XS.bipush X0.here hx rfl (hb hby d2_42) (XS.isub X0.here hx rfl (hb hby d2_44) rfl (XS.istoreN X0.here hx rfl (hb hby d2_45) rfl (l' := #[rv a0, iv p1, iv 3, iv ((((10 : Int32) * ((((10 : Int32) * (((0 : Int32) + (g p1)) - (48 : Int32))) + (g (p1 + (1 : Int32)))) - (48 : Int32))) + (g ((p1 + (1 : Int32)) + (1 : Int32)))) - (48 : Int32)), iv ((p1 + (1 : Int32)) + (1 : Int32))]) rfl k)))) ?_
              show own_Go p e below s _ _ (s₁.setTop (mkF m 46 #[rv a0, iv p1, iv 3, iv ((((10 : Int32) * ((((10 : Int32) * (((0 : Int32) + (g p1)) - (48 : Int32))) + (g (p1 + (1 : Int32)))) - (48 : Int32))) + (g ((p1 + (1 : Int32)) + (1 : Int32)))) - (48 : Int32)), iv ((p1 + (1 : Int32)) + (1 : Int32))] []))
              refine own_via (fun k => XS.iinc X0.here hx rfl (hb hby d2_46) rfl (l' := #[rv a0, iv p1, iv 3, iv ((((10 : Int32) * ((((10 : Int32) * (((0 : Int32) + (g p1)) - (48 : Int32))) + (g (p1 + (1 : Int32)))) - (48 : Int32))) + (g ((p1 + (1 : Int32)) + (1 : Int32)))) - (48 : Int32)), iv (((p1 + (1 : Int32)) + (1 : Int32)) + (1 : Int32))]) rfl (XS.goto X0.here hx rfl (pc0 := 49) (pc' := 5) rfl (hb hby d2_49) (by decide) (by decide) (XS.iload X0.here hx rfl (hb hby d2_5) rfl  (XS.iloadN X0.here hx rfl (hb hby d2_7) rfl  k)))) ?_
              show own_Go p e below s _ _ (s₁.setTop (mkF m 8 #[rv a0, iv p1, iv 3, iv ((((10 : Int32) * ((((10 : Int32) * (((0 : Int32) + (g p1)) - (48 : Int32))) + (g (p1 + (1 : Int32)))) - (48 : Int32))) + (g ((p1 + (1 : Int32)) + (1 : Int32)))) - (48 : Int32)), iv (((p1 + (1 : Int32)) + (1 : Int32)) + (1 : Int32))] [(.int p1), (.int (((p1 + (1 : Int32)) + (1 : Int32)) + (1 : Int32)))]))
              refine own_via (fun k => XS.iloadN X0.here hx rfl (hb hby d2_8) rfl  (XS.iadd X0.here hx rfl (hb hby d2_9) rfl k)) ?_
              show own_Go p e below s _ _ (s₁.setTop (mkF m 10 #[rv a0, iv p1, iv 3, iv ((((10 : Int32) * ((((10 : Int32) * (((0 : Int32) + (g p1)) - (48 : Int32))) + (g (p1 + (1 : Int32)))) - (48 : Int32))) + (g ((p1 + (1 : Int32)) + (1 : Int32)))) - (48 : Int32)), iv (((p1 + (1 : Int32)) + (1 : Int32)) + (1 : Int32))] [(.int (p1 + (3 : Int32))), (.int (((p1 + (1 : Int32)) + (1 : Int32)) + (1 : Int32)))]))
              refine own_via (fun k => XS.icmpYes X0.here hx rfl (pc0 := 10) (pc' := 52) rfl (hb hby d2_10) rfl (flt (own_l323_3 p1 hlo hhi)).2.1 (by decide) (by decide) k) ?_
              show own_Go p e below s _ _ (s₁.setTop (mkF m 52 #[rv a0, iv p1, iv 3, iv ((((10 : Int32) * ((((10 : Int32) * (((0 : Int32) + (g p1)) - (48 : Int32))) + (g (p1 + (1 : Int32)))) - (48 : Int32))) + (g ((p1 + (1 : Int32)) + (1 : Int32)))) - (48 : Int32)), iv (((p1 + (1 : Int32)) + (1 : Int32)) + (1 : Int32))] []))
              refine own_via (fun k => XS.iloadN X0.here hx rfl (hb hby d2_52) rfl  k) ?_
              show own_Go p e below s _ _ (s₁.setTop (mkF m 53 #[rv a0, iv p1, iv 3, iv ((((10 : Int32) * ((((10 : Int32) * (((0 : Int32) + (g p1)) - (48 : Int32))) + (g (p1 + (1 : Int32)))) - (48 : Int32))) + (g ((p1 + (1 : Int32)) + (1 : Int32)))) - (48 : Int32)), iv (((p1 + (1 : Int32)) + (1 : Int32)) + (1 : Int32))] [(.int ((((10 : Int32) * ((((10 : Int32) * (((0 : Int32) + (g p1)) - (48 : Int32))) + (g (p1 + (1 : Int32)))) - (48 : Int32))) + (g ((p1 + (1 : Int32)) + (1 : Int32)))) - (48 : Int32)))]))
              exact own_retI X0 hx hlk Bd.returns (hb hby d2_53) (Q := (Q2_3 Z a0 p1 k vs g h0 n0)) ⟨(congrArg (fun z => some (Value.int z)) (show ((((10 : Int32) * ((((10 : Int32) * (((0 : Int32) + (g p1)) - (48 : Int32))) + (g (p1 + (1 : Int32)))) - (48 : Int32))) + (g ((p1 + (1 : Int32)) + (1 : Int32)))) - (48 : Int32)) = (own_f2_3 p1 g) from (by unfold own_f2_3; exact ((if_neg hc2).trans ((if_neg hc4).trans ((if_neg hc7).trans ((if_neg hc9).trans ((if_neg hc12).trans ((if_neg hc14).trans rfl)))))).symm))), N0, e0⟩ (by decide) (by decide)
theorem ef_2_4 (m : MethodId) (x0 : Addr) (x1 : Int32) (x2 : Int32) : entryFrame m #[(.ref x0), (.int x1), (.int x2)] 5 = mkF m 0 #[rv x0, iv x1, iv x2, .unset, .unset] [] := by first | (simp [entryFrame, mkF, argsToLocals, Value.category]; done) | rfl
def own_f2_4 (p1 : Int32) (g : Int32 → Int32) : Int32 := (if (g p1) < (48 : Int32) then (-1 : Int32) else (if (57 : Int32) < (g p1) then (-1 : Int32) else (if (g (p1 + (1 : Int32))) < (48 : Int32) then (-1 : Int32) else (if (57 : Int32) < (g (p1 + (1 : Int32))) then (-1 : Int32) else (if (g ((p1 + (1 : Int32)) + (1 : Int32))) < (48 : Int32) then (-1 : Int32) else (if (57 : Int32) < (g ((p1 + (1 : Int32)) + (1 : Int32))) then (-1 : Int32) else (if (g (((p1 + (1 : Int32)) + (1 : Int32)) + (1 : Int32))) < (48 : Int32) then (-1 : Int32) else (if (57 : Int32) < (g (((p1 + (1 : Int32)) + (1 : Int32)) + (1 : Int32))) then (-1 : Int32) else ((((10 : Int32) * ((((10 : Int32) * ((((10 : Int32) * (((0 : Int32) + (g p1)) - (48 : Int32))) + (g (p1 + (1 : Int32)))) - (48 : Int32))) + (g ((p1 + (1 : Int32)) + (1 : Int32)))) - (48 : Int32))) + (g (((p1 + (1 : Int32)) + (1 : Int32)) + (1 : Int32)))) - (48 : Int32))))))))))
theorem own_l324_0 (p1 : Int32) (hlo : ¬ p1 < (0 : Int32)) (hhi : p1 < (5 : Int32)) : p1 < (p1 + (4 : Int32)) := by
  have h9 := own_h9 hhi (by decide)
  rcases own_c9 hlo h9 with rfl | rfl | rfl | rfl | rfl | rfl | rfl | rfl | rfl <;> revert hlo hhi <;> decide
theorem own_in4_0 (p1 : Int32) (hlo : ¬ p1 < (0 : Int32)) (hhi : p1 < (5 : Int32)) : ¬ p1 < (0 : Int32) ∧ p1 < (8 : Int32) := by
  have h9 := own_h9 hhi (by decide)
  rcases own_c9 hlo h9 with rfl | rfl | rfl | rfl | rfl | rfl | rfl | rfl | rfl <;> revert hlo hhi <;> decide
theorem own_l324_1 (p1 : Int32) (hlo : ¬ p1 < (0 : Int32)) (hhi : p1 < (5 : Int32)) : (p1 + (1 : Int32)) < (p1 + (4 : Int32)) := by
  have h9 := own_h9 hhi (by decide)
  rcases own_c9 hlo h9 with rfl | rfl | rfl | rfl | rfl | rfl | rfl | rfl | rfl <;> revert hlo hhi <;> decide
theorem own_in4_1 (p1 : Int32) (hlo : ¬ p1 < (0 : Int32)) (hhi : p1 < (5 : Int32)) : ¬ (p1 + (1 : Int32)) < (0 : Int32) ∧ (p1 + (1 : Int32)) < (8 : Int32) := by
  have h9 := own_h9 hhi (by decide)
  rcases own_c9 hlo h9 with rfl | rfl | rfl | rfl | rfl | rfl | rfl | rfl | rfl <;> revert hlo hhi <;> decide
theorem own_l324_2 (p1 : Int32) (hlo : ¬ p1 < (0 : Int32)) (hhi : p1 < (5 : Int32)) : ((p1 + (1 : Int32)) + (1 : Int32)) < (p1 + (4 : Int32)) := by
  have h9 := own_h9 hhi (by decide)
  rcases own_c9 hlo h9 with rfl | rfl | rfl | rfl | rfl | rfl | rfl | rfl | rfl <;> revert hlo hhi <;> decide
theorem own_in4_2 (p1 : Int32) (hlo : ¬ p1 < (0 : Int32)) (hhi : p1 < (5 : Int32)) : ¬ ((p1 + (1 : Int32)) + (1 : Int32)) < (0 : Int32) ∧ ((p1 + (1 : Int32)) + (1 : Int32)) < (8 : Int32) := by
  have h9 := own_h9 hhi (by decide)
  rcases own_c9 hlo h9 with rfl | rfl | rfl | rfl | rfl | rfl | rfl | rfl | rfl <;> revert hlo hhi <;> decide
theorem own_l324_3 (p1 : Int32) (hlo : ¬ p1 < (0 : Int32)) (hhi : p1 < (5 : Int32)) : (((p1 + (1 : Int32)) + (1 : Int32)) + (1 : Int32)) < (p1 + (4 : Int32)) := by
  have h9 := own_h9 hhi (by decide)
  rcases own_c9 hlo h9 with rfl | rfl | rfl | rfl | rfl | rfl | rfl | rfl | rfl <;> revert hlo hhi <;> decide
theorem own_in4_3 (p1 : Int32) (hlo : ¬ p1 < (0 : Int32)) (hhi : p1 < (5 : Int32)) : ¬ (((p1 + (1 : Int32)) + (1 : Int32)) + (1 : Int32)) < (0 : Int32) ∧ (((p1 + (1 : Int32)) + (1 : Int32)) + (1 : Int32)) < (8 : Int32) := by
  have h9 := own_h9 hhi (by decide)
  rcases own_c9 hlo h9 with rfl | rfl | rfl | rfl | rfl | rfl | rfl | rfl | rfl <;> revert hlo hhi <;> decide
theorem own_l324_4 (p1 : Int32) (hlo : ¬ p1 < (0 : Int32)) (hhi : p1 < (5 : Int32)) : ¬ (((((p1 + (1 : Int32)) + (1 : Int32)) + (1 : Int32)) + (1 : Int32)) < (p1 + (4 : Int32))) := by
  have h9 := own_h9 hhi (by decide)
  rcases own_c9 hlo h9 with rfl | rfl | rfl | rfl | rfl | rfl | rfl | rfl | rfl <;> revert hlo hhi <;> decide
def Q2_4 (Z : State) (a0 : Addr) (p1 : Int32) (k : ClassId) (vs : List Value) (g : Int32 → Int32) (h0 : Heap) (n0 : Nat) (v : Option Value) (h : Heap) (L : List Loc) : Prop := v = some (.int (own_f2_4 p1 g)) ∧ Fr n0 L ∧ h = h0
set_option maxRecDepth 65536 in
set_option maxHeartbeats 40000000 in
theorem rm2_4 (l : Launch) (Z : State) (aw : Array Value) (hw : ∀ d ∈ tables_1, d.before aw Z = true) (ws : List Jvm.Cond) (a0 : Addr) (p1 : Int32) (k : ClassId) (vs : List Value) (g : Int32 → Int32) (h0 : Heap) (n0 : Nat) (Z0 : n0 ≤ h0.size) (P0 : Arv Z h0 a0 k .byte (8 : Int32) vs (.int (0 : Int32))) (hg : ∀ j : Int32, ¬ j < (0 : Int32) ∧ j < (8 : Int32) → vs.getD j.toNatClampNeg (.int (0 : Int32)) = .int (g j)) (hlo : ¬ p1 < (0 : Int32)) (hhi : p1 < (5 : Int32)) :
    MetFree l (⟨"organico/records/Iso2709", "digits", "([BII)I"⟩ : MethodName) (head1 (Jvm.Cond.code (⟨"organico/records/Iso2709", "digits", "([BII)I"⟩ : MethodName) prog_62_method_5_code 5 (some .int) :: ws) ({ frames := 0, cells := 0, slots := 0, locals := 0 } : Room)) (fun a U => a = #[(.ref a0), (.int p1), (.int 4)] ∧ Z.Warmed39 U.vm ∧ U.heap = h0) (fun _ _ _ _ _ => True) (fun _ U o U' => ∃ v L, o = .returned v ∧ Q2_4 Z a0 p1 k vs g h0 n0 v U'.heap L ∧ FrameEnd U o U' L ({ frames := 0, cells := 0, slots := 0, locals := 0 } : Room).cells ({ frames := 0, cells := 0, slots := 0, locals := 0 } : Room).slots) := by
  refine MetFree.of_bodySF (plainFor_of_name pn_2) hisR ?_
  intro p e s m args below meth c s₁ Bd hml0 hP hK
  obtain ⟨rfl, hZ, hh⟩ := hP
  have hx := Bd.exec
  have hby := Bd.bytes
  have hml : c.maxLocals = 5 := hml0
  have hown : s.vm.findClass "organico/records/Iso2709" = some m.cls := findClass_of_methodNamed Bd.named
  have hnm := (name_of_methodNamed Bd.named Bd.method).1
  have hlk : meth.locks = false := by first | exact BodyLoose.notSynchronized (by assumption) | exact Body.notSynchronized (by assumption)
  have X0 : Stand p l e ({ frames := 0, cells := 0, slots := 0, locals := 0 } : Room) s m #[(.ref a0), (.int p1), (.int 4)] below meth c s₁ [] 0 0 := Stand.of_body Bd
  have e0 : s₁.heap = h0 := by rw [← hh, Bd.state]; rfl
  have N0 := Fr.nil n0
  have K0 : Keep h0 h0 [] := Keep.refl _ _
  refine own_start (CS := (0, 0)) (Q := (Q2_4 Z a0 p1 k vs g h0 n0)) (ef_2_4 m a0 p1 (4 : Int32)) ?_
  show own_Go p e below s _ _ (s₁.setTop (mkF m 0 #[rv a0, iv p1, iv 4, .unset, .unset] []))
  refine own_via (fun k => XS.iconst X0.here hx rfl (hb hby d2_0) (XS.istoreN X0.here hx rfl (hb hby d2_1) rfl (l' := #[rv a0, iv p1, iv 4, iv 0, .unset]) rfl (XS.iloadN X0.here hx rfl (hb hby d2_2) rfl  (XS.istore X0.here hx rfl (hb hby d2_3) rfl (l' := #[rv a0, iv p1, iv 4, iv 0, iv p1]) rfl k)))) ?_
  show own_Go p e below s _ _ (s₁.setTop (mkF m 5 #[rv a0, iv p1, iv 4, iv 0, iv p1] []))
  refine own_via (fun k => XS.iload X0.here hx rfl (hb hby d2_5) rfl  (XS.iloadN X0.here hx rfl (hb hby d2_7) rfl  (XS.iloadN X0.here hx rfl (hb hby d2_8) rfl  (XS.iadd X0.here hx rfl (hb hby d2_9) rfl k)))) ?_
  show own_Go p e below s _ _ (s₁.setTop (mkF m 10 #[rv a0, iv p1, iv 4, iv 0, iv p1] [(.int (p1 + (4 : Int32))), (.int p1)]))
  refine own_via (fun k => XS.icmpNo X0.here hx rfl (hb hby d2_10) rfl (tlt (own_l324_0 p1 hlo hhi)).2.1 k) ?_
  show own_Go p e below s _ _ (s₁.setTop (mkF m 13 #[rv a0, iv p1, iv 4, iv 0, iv p1] []))
  refine own_via (fun k => XS.aloadN X0.here hx rfl (hb hby d2_13) rfl rfl  (XS.iload X0.here hx rfl (hb hby d2_14) rfl  k)) ?_
  show own_Go p e below s _ _ (s₁.setTop (mkF m 16 #[rv a0, iv p1, iv 4, iv 0, iv p1] [(.int p1), (.ref a0)]))
  obtain ⟨cl1, Ar1, q1, S1, NN1, H1, G1⟩ := id P0
  have hin1 : ¬ (p1 < 0 ∨ cl1.slots.size ≤ (p1).toNatClampNeg) := inb_of S1 (own_in4_0 p1 hlo hhi)
  have hat1 : cl1.slots[(p1).toNatClampNeg]? = some (.int (g p1)) := H1.at hin1 (hg _ (own_in4_0 p1 hlo hhi))
  refine own_via (fun k => X0.baloadBytes hx (j := p1) (v := (.int (g p1))) (by rw [e0]; exact Ar1.1) (State.isArrayOf_alike hZ.alike Ar1.2.1) Ar1.2.2 hin1 hat1 (g := (mkF m 16 #[rv a0, iv p1, iv 4, iv 0, iv p1] [(.int p1), (.ref a0)])) rfl rfl (hb hby d2_16) _ k) ?_
  show own_Go p e below s _ _ (s₁.setTop (mkF m 17 #[rv a0, iv p1, iv 4, iv 0, iv p1] [(.int (g p1))]))
  refine own_via (fun k => XS.bipush X0.here hx rfl (hb hby d2_17) k) ?_
  show own_Go p e below s _ _ (s₁.setTop (mkF m 19 #[rv a0, iv p1, iv 4, iv 0, iv p1] [(.int 48), (.int (g p1))]))
  by_cases hc2 : (g p1) < (48 : Int32)
  · refine own_via (fun k => XS.icmpYes X0.here hx rfl (pc0 := 19) (pc' := 31) rfl (hb hby d2_19) rfl (tlt hc2).1 (by decide) (by decide) k) ?_
    show own_Go p e below s _ _ (s₁.setTop (mkF m 31 #[rv a0, iv p1, iv 4, iv 0, iv p1] []))
    refine own_via (fun k => XS.iconst X0.here hx rfl (hb hby d2_31) k) ?_
    show own_Go p e below s _ _ (s₁.setTop (mkF m 32 #[rv a0, iv p1, iv 4, iv 0, iv p1] [(.int (-1))]))
    exact own_retI X0 hx hlk Bd.returns (hb hby d2_32) (Q := (Q2_4 Z a0 p1 k vs g h0 n0)) ⟨(congrArg (fun z => some (Value.int z)) (show (-1 : Int32) = (own_f2_4 p1 g) from (by unfold own_f2_4; exact ((if_pos hc2).trans rfl).symm))), N0, e0⟩ (by decide) (by decide)
  · refine own_via (fun k => XS.icmpNo X0.here hx rfl (hb hby d2_19) rfl (flt hc2).1 k) ?_
    show own_Go p e below s _ _ (s₁.setTop (mkF m 22 #[rv a0, iv p1, iv 4, iv 0, iv p1] []))
    refine own_via (fun k => XS.aloadN X0.here hx rfl (hb hby d2_22) rfl rfl  (XS.iload X0.here hx rfl (hb hby d2_23) rfl  k)) ?_
    show own_Go p e below s _ _ (s₁.setTop (mkF m 25 #[rv a0, iv p1, iv 4, iv 0, iv p1] [(.int p1), (.ref a0)]))
    obtain ⟨cl3, Ar3, q3, S3, NN3, H3, G3⟩ := id P0
    have hin3 : ¬ (p1 < 0 ∨ cl3.slots.size ≤ (p1).toNatClampNeg) := inb_of S3 (own_in4_0 p1 hlo hhi)
    have hat3 : cl3.slots[(p1).toNatClampNeg]? = some (.int (g p1)) := H3.at hin3 (hg _ (own_in4_0 p1 hlo hhi))
    refine own_via (fun k => X0.baloadBytes hx (j := p1) (v := (.int (g p1))) (by rw [e0]; exact Ar3.1) (State.isArrayOf_alike hZ.alike Ar3.2.1) Ar3.2.2 hin3 hat3 (g := (mkF m 25 #[rv a0, iv p1, iv 4, iv 0, iv p1] [(.int p1), (.ref a0)])) rfl rfl (hb hby d2_25) _ k) ?_
    show own_Go p e below s _ _ (s₁.setTop (mkF m 26 #[rv a0, iv p1, iv 4, iv 0, iv p1] [(.int (g p1))]))
    refine own_via (fun k => XS.bipush X0.here hx rfl (hb hby d2_26) k) ?_
    show own_Go p e below s _ _ (s₁.setTop (mkF m 28 #[rv a0, iv p1, iv 4, iv 0, iv p1] [(.int 57), (.int (g p1))]))
    by_cases hc4 : (57 : Int32) < (g p1)
    · refine own_via (fun k => XS.icmpNo X0.here hx rfl (hb hby d2_28) rfl (tlt hc4).2.2.2 k) ?_
      show own_Go p e below s _ _ (s₁.setTop (mkF m 31 #[rv a0, iv p1, iv 4, iv 0, iv p1] []))
      refine own_via (fun k => XS.iconst X0.here hx rfl (hb hby d2_31) k) ?_
      show own_Go p e below s _ _ (s₁.setTop (mkF m 32 #[rv a0, iv p1, iv 4, iv 0, iv p1] [(.int (-1))]))
      exact own_retI X0 hx hlk Bd.returns (hb hby d2_32) (Q := (Q2_4 Z a0 p1 k vs g h0 n0)) ⟨(congrArg (fun z => some (Value.int z)) (show (-1 : Int32) = (own_f2_4 p1 g) from (by unfold own_f2_4; exact ((if_neg hc2).trans ((if_pos hc4).trans rfl)).symm))), N0, e0⟩ (by decide) (by decide)
    · refine own_via (fun k => XS.icmpYes X0.here hx rfl (pc0 := 28) (pc' := 33) rfl (hb hby d2_28) rfl (flt hc4).2.2.2 (by decide) (by decide) k) ?_
      show own_Go p e below s _ _ (s₁.setTop (mkF m 33 #[rv a0, iv p1, iv 4, iv 0, iv p1] []))
      refine own_via (fun k => XS.bipush X0.here hx rfl (hb hby d2_33) (XS.iloadN X0.here hx rfl (hb hby d2_35) rfl  (XS.imul X0.here hx rfl (hb hby d2_36) rfl (XS.aloadN X0.here hx rfl (hb hby d2_37) rfl rfl  k)))) ?_
      show own_Go p e below s _ _ (s₁.setTop (mkF m 38 #[rv a0, iv p1, iv 4, iv 0, iv p1] [(.ref a0), (.int 0)]))
      refine own_via (fun k => XS.iload X0.here hx rfl (hb hby d2_38) rfl  k) ?_
      show own_Go p e below s _ _ (s₁.setTop (mkF m 40 #[rv a0, iv p1, iv 4, iv 0, iv p1] [(.int p1), (.ref a0), (.int 0)]))
      obtain ⟨cl5, Ar5, q5, S5, NN5, H5, G5⟩ := id P0
      have hin5 : ¬ (p1 < 0 ∨ cl5.slots.size ≤ (p1).toNatClampNeg) := inb_of S5 (own_in4_0 p1 hlo hhi)
      have hat5 : cl5.slots[(p1).toNatClampNeg]? = some (.int (g p1)) := H5.at hin5 (hg _ (own_in4_0 p1 hlo hhi))
      refine own_via (fun k => X0.baloadBytes hx (j := p1) (v := (.int (g p1))) (by rw [e0]; exact Ar5.1) (State.isArrayOf_alike hZ.alike Ar5.2.1) Ar5.2.2 hin5 hat5 (g := (mkF m 40 #[rv a0, iv p1, iv 4, iv 0, iv p1] [(.int p1), (.ref a0), (.int 0)])) rfl rfl (hb hby d2_40) _ k) ?_
      show own_Go p e below s _ _ (s₁.setTop (mkF m 41 #[rv a0, iv p1, iv 4, iv 0, iv p1] [(.int (g p1)), (.int 0)]))
      refine own_via (fun k => XS.iadd X0.here hx rfl (hb hby d2_41) rfl (XS.bipush X0.here hx rfl (hb hby d2_42) (XS.isub X0.here hx rfl (hb hby d2_44) rfl (XS.istoreN X0.here hx rfl (hb hby d2_45) rfl (l' := #[rv a0, iv p1, iv 4, iv (((0 : Int32) + (g p1)) - (48 : Int32)), iv p1]) rfl k)))) ?_
      show own_Go p e below s _ _ (s₁.setTop (mkF m 46 #[rv a0, iv p1, iv 4, iv (((0 : Int32) + (g p1)) - (48 : Int32)), iv p1] []))
      refine own_via (fun k => XS.iinc X0.here hx rfl (hb hby d2_46) rfl (l' := #[rv a0, iv p1, iv 4, iv (((0 : Int32) + (g p1)) - (48 : Int32)), iv (p1 + (1 : Int32))]) rfl (XS.goto X0.here hx rfl (pc0 := 49) (pc' := 5) rfl (hb hby d2_49) (by decide) (by decide) (XS.iload X0.here hx rfl (hb hby d2_5) rfl  (XS.iloadN X0.here hx rfl (hb hby d2_7) rfl  k)))) ?_
      show own_Go p e below s _ _ (s₁.setTop (mkF m 8 #[rv a0, iv p1, iv 4, iv (((0 : Int32) + (g p1)) - (48 : Int32)), iv (p1 + (1 : Int32))] [(.int p1), (.int (p1 + (1 : Int32)))]))
      refine own_via (fun k => XS.iloadN X0.here hx rfl (hb hby d2_8) rfl  (XS.iadd X0.here hx rfl (hb hby d2_9) rfl k)) ?_
      show own_Go p e below s _ _ (s₁.setTop (mkF m 10 #[rv a0, iv p1, iv 4, iv (((0 : Int32) + (g p1)) - (48 : Int32)), iv (p1 + (1 : Int32))] [(.int (p1 + (4 : Int32))), (.int (p1 + (1 : Int32)))]))
      refine own_via (fun k => XS.icmpNo X0.here hx rfl (hb hby d2_10) rfl (tlt (own_l324_1 p1 hlo hhi)).2.1 k) ?_
      show own_Go p e below s _ _ (s₁.setTop (mkF m 13 #[rv a0, iv p1, iv 4, iv (((0 : Int32) + (g p1)) - (48 : Int32)), iv (p1 + (1 : Int32))] []))
      refine own_via (fun k => XS.aloadN X0.here hx rfl (hb hby d2_13) rfl rfl  (XS.iload X0.here hx rfl (hb hby d2_14) rfl  k)) ?_
      show own_Go p e below s _ _ (s₁.setTop (mkF m 16 #[rv a0, iv p1, iv 4, iv (((0 : Int32) + (g p1)) - (48 : Int32)), iv (p1 + (1 : Int32))] [(.int (p1 + (1 : Int32))), (.ref a0)]))
      obtain ⟨cl6, Ar6, q6, S6, NN6, H6, G6⟩ := id P0
      have hin6 : ¬ ((p1 + (1 : Int32)) < 0 ∨ cl6.slots.size ≤ ((p1 + (1 : Int32))).toNatClampNeg) := inb_of S6 (own_in4_1 p1 hlo hhi)
      have hat6 : cl6.slots[((p1 + (1 : Int32))).toNatClampNeg]? = some (.int (g (p1 + (1 : Int32)))) := H6.at hin6 (hg _ (own_in4_1 p1 hlo hhi))
      refine own_via (fun k => X0.baloadBytes hx (j := (p1 + (1 : Int32))) (v := (.int (g (p1 + (1 : Int32))))) (by rw [e0]; exact Ar6.1) (State.isArrayOf_alike hZ.alike Ar6.2.1) Ar6.2.2 hin6 hat6 (g := (mkF m 16 #[rv a0, iv p1, iv 4, iv (((0 : Int32) + (g p1)) - (48 : Int32)), iv (p1 + (1 : Int32))] [(.int (p1 + (1 : Int32))), (.ref a0)])) rfl rfl (hb hby d2_16) _ k) ?_
      show own_Go p e below s _ _ (s₁.setTop (mkF m 17 #[rv a0, iv p1, iv 4, iv (((0 : Int32) + (g p1)) - (48 : Int32)), iv (p1 + (1 : Int32))] [(.int (g (p1 + (1 : Int32))))]))
      refine own_via (fun k => XS.bipush X0.here hx rfl (hb hby d2_17) k) ?_
      show own_Go p e below s _ _ (s₁.setTop (mkF m 19 #[rv a0, iv p1, iv 4, iv (((0 : Int32) + (g p1)) - (48 : Int32)), iv (p1 + (1 : Int32))] [(.int 48), (.int (g (p1 + (1 : Int32))))]))
      by_cases hc7 : (g (p1 + (1 : Int32))) < (48 : Int32)
      · refine own_via (fun k => XS.icmpYes X0.here hx rfl (pc0 := 19) (pc' := 31) rfl (hb hby d2_19) rfl (tlt hc7).1 (by decide) (by decide) k) ?_
        show own_Go p e below s _ _ (s₁.setTop (mkF m 31 #[rv a0, iv p1, iv 4, iv (((0 : Int32) + (g p1)) - (48 : Int32)), iv (p1 + (1 : Int32))] []))
        refine own_via (fun k => XS.iconst X0.here hx rfl (hb hby d2_31) k) ?_
        show own_Go p e below s _ _ (s₁.setTop (mkF m 32 #[rv a0, iv p1, iv 4, iv (((0 : Int32) + (g p1)) - (48 : Int32)), iv (p1 + (1 : Int32))] [(.int (-1))]))
        exact own_retI X0 hx hlk Bd.returns (hb hby d2_32) (Q := (Q2_4 Z a0 p1 k vs g h0 n0)) ⟨(congrArg (fun z => some (Value.int z)) (show (-1 : Int32) = (own_f2_4 p1 g) from (by unfold own_f2_4; exact ((if_neg hc2).trans ((if_neg hc4).trans ((if_pos hc7).trans rfl))).symm))), N0, e0⟩ (by decide) (by decide)
      · refine own_via (fun k => XS.icmpNo X0.here hx rfl (hb hby d2_19) rfl (flt hc7).1 k) ?_
        show own_Go p e below s _ _ (s₁.setTop (mkF m 22 #[rv a0, iv p1, iv 4, iv (((0 : Int32) + (g p1)) - (48 : Int32)), iv (p1 + (1 : Int32))] []))
        refine own_via (fun k => XS.aloadN X0.here hx rfl (hb hby d2_22) rfl rfl  (XS.iload X0.here hx rfl (hb hby d2_23) rfl  k)) ?_
        show own_Go p e below s _ _ (s₁.setTop (mkF m 25 #[rv a0, iv p1, iv 4, iv (((0 : Int32) + (g p1)) - (48 : Int32)), iv (p1 + (1 : Int32))] [(.int (p1 + (1 : Int32))), (.ref a0)]))
        obtain ⟨cl8, Ar8, q8, S8, NN8, H8, G8⟩ := id P0
        have hin8 : ¬ ((p1 + (1 : Int32)) < 0 ∨ cl8.slots.size ≤ ((p1 + (1 : Int32))).toNatClampNeg) := inb_of S8 (own_in4_1 p1 hlo hhi)
        have hat8 : cl8.slots[((p1 + (1 : Int32))).toNatClampNeg]? = some (.int (g (p1 + (1 : Int32)))) := H8.at hin8 (hg _ (own_in4_1 p1 hlo hhi))
        refine own_via (fun k => X0.baloadBytes hx (j := (p1 + (1 : Int32))) (v := (.int (g (p1 + (1 : Int32))))) (by rw [e0]; exact Ar8.1) (State.isArrayOf_alike hZ.alike Ar8.2.1) Ar8.2.2 hin8 hat8 (g := (mkF m 25 #[rv a0, iv p1, iv 4, iv (((0 : Int32) + (g p1)) - (48 : Int32)), iv (p1 + (1 : Int32))] [(.int (p1 + (1 : Int32))), (.ref a0)])) rfl rfl (hb hby d2_25) _ k) ?_
        show own_Go p e below s _ _ (s₁.setTop (mkF m 26 #[rv a0, iv p1, iv 4, iv (((0 : Int32) + (g p1)) - (48 : Int32)), iv (p1 + (1 : Int32))] [(.int (g (p1 + (1 : Int32))))]))
        refine own_via (fun k => XS.bipush X0.here hx rfl (hb hby d2_26) k) ?_
        show own_Go p e below s _ _ (s₁.setTop (mkF m 28 #[rv a0, iv p1, iv 4, iv (((0 : Int32) + (g p1)) - (48 : Int32)), iv (p1 + (1 : Int32))] [(.int 57), (.int (g (p1 + (1 : Int32))))]))
        by_cases hc9 : (57 : Int32) < (g (p1 + (1 : Int32)))
        · refine own_via (fun k => XS.icmpNo X0.here hx rfl (hb hby d2_28) rfl (tlt hc9).2.2.2 k) ?_
          show own_Go p e below s _ _ (s₁.setTop (mkF m 31 #[rv a0, iv p1, iv 4, iv (((0 : Int32) + (g p1)) - (48 : Int32)), iv (p1 + (1 : Int32))] []))
          refine own_via (fun k => XS.iconst X0.here hx rfl (hb hby d2_31) k) ?_
          show own_Go p e below s _ _ (s₁.setTop (mkF m 32 #[rv a0, iv p1, iv 4, iv (((0 : Int32) + (g p1)) - (48 : Int32)), iv (p1 + (1 : Int32))] [(.int (-1))]))
          exact own_retI X0 hx hlk Bd.returns (hb hby d2_32) (Q := (Q2_4 Z a0 p1 k vs g h0 n0)) ⟨(congrArg (fun z => some (Value.int z)) (show (-1 : Int32) = (own_f2_4 p1 g) from (by unfold own_f2_4; exact ((if_neg hc2).trans ((if_neg hc4).trans ((if_neg hc7).trans ((if_pos hc9).trans rfl)))).symm))), N0, e0⟩ (by decide) (by decide)
        · refine own_via (fun k => XS.icmpYes X0.here hx rfl (pc0 := 28) (pc' := 33) rfl (hb hby d2_28) rfl (flt hc9).2.2.2 (by decide) (by decide) k) ?_
          show own_Go p e below s _ _ (s₁.setTop (mkF m 33 #[rv a0, iv p1, iv 4, iv (((0 : Int32) + (g p1)) - (48 : Int32)), iv (p1 + (1 : Int32))] []))
          refine own_via (fun k => XS.bipush X0.here hx rfl (hb hby d2_33) (XS.iloadN X0.here hx rfl (hb hby d2_35) rfl  (XS.imul X0.here hx rfl (hb hby d2_36) rfl (XS.aloadN X0.here hx rfl (hb hby d2_37) rfl rfl  k)))) ?_
          show own_Go p e below s _ _ (s₁.setTop (mkF m 38 #[rv a0, iv p1, iv 4, iv (((0 : Int32) + (g p1)) - (48 : Int32)), iv (p1 + (1 : Int32))] [(.ref a0), (.int ((10 : Int32) * (((0 : Int32) + (g p1)) - (48 : Int32))))]))
          refine own_via (fun k => XS.iload X0.here hx rfl (hb hby d2_38) rfl  k) ?_
          show own_Go p e below s _ _ (s₁.setTop (mkF m 40 #[rv a0, iv p1, iv 4, iv (((0 : Int32) + (g p1)) - (48 : Int32)), iv (p1 + (1 : Int32))] [(.int (p1 + (1 : Int32))), (.ref a0), (.int ((10 : Int32) * (((0 : Int32) + (g p1)) - (48 : Int32))))]))
          obtain ⟨cl10, Ar10, q10, S10, NN10, H10, G10⟩ := id P0
          have hin10 : ¬ ((p1 + (1 : Int32)) < 0 ∨ cl10.slots.size ≤ ((p1 + (1 : Int32))).toNatClampNeg) := inb_of S10 (own_in4_1 p1 hlo hhi)
          have hat10 : cl10.slots[((p1 + (1 : Int32))).toNatClampNeg]? = some (.int (g (p1 + (1 : Int32)))) := H10.at hin10 (hg _ (own_in4_1 p1 hlo hhi))
          refine own_via (fun k => X0.baloadBytes hx (j := (p1 + (1 : Int32))) (v := (.int (g (p1 + (1 : Int32))))) (by rw [e0]; exact Ar10.1) (State.isArrayOf_alike hZ.alike Ar10.2.1) Ar10.2.2 hin10 hat10 (g := (mkF m 40 #[rv a0, iv p1, iv 4, iv (((0 : Int32) + (g p1)) - (48 : Int32)), iv (p1 + (1 : Int32))] [(.int (p1 + (1 : Int32))), (.ref a0), (.int ((10 : Int32) * (((0 : Int32) + (g p1)) - (48 : Int32))))])) rfl rfl (hb hby d2_40) _ k) ?_
          show own_Go p e below s _ _ (s₁.setTop (mkF m 41 #[rv a0, iv p1, iv 4, iv (((0 : Int32) + (g p1)) - (48 : Int32)), iv (p1 + (1 : Int32))] [(.int (g (p1 + (1 : Int32)))), (.int ((10 : Int32) * (((0 : Int32) + (g p1)) - (48 : Int32))))]))
          refine own_via (fun k => XS.iadd X0.here hx rfl (hb hby d2_41) rfl (XS.bipush X0.here hx rfl (hb hby d2_42) (XS.isub X0.here hx rfl (hb hby d2_44) rfl (XS.istoreN X0.here hx rfl (hb hby d2_45) rfl (l' := #[rv a0, iv p1, iv 4, iv ((((10 : Int32) * (((0 : Int32) + (g p1)) - (48 : Int32))) + (g (p1 + (1 : Int32)))) - (48 : Int32)), iv (p1 + (1 : Int32))]) rfl k)))) ?_
          show own_Go p e below s _ _ (s₁.setTop (mkF m 46 #[rv a0, iv p1, iv 4, iv ((((10 : Int32) * (((0 : Int32) + (g p1)) - (48 : Int32))) + (g (p1 + (1 : Int32)))) - (48 : Int32)), iv (p1 + (1 : Int32))] []))
          refine own_via (fun k => XS.iinc X0.here hx rfl (hb hby d2_46) rfl (l' := #[rv a0, iv p1, iv 4, iv ((((10 : Int32) * (((0 : Int32) + (g p1)) - (48 : Int32))) + (g (p1 + (1 : Int32)))) - (48 : Int32)), iv ((p1 + (1 : Int32)) + (1 : Int32))]) rfl (XS.goto X0.here hx rfl (pc0 := 49) (pc' := 5) rfl (hb hby d2_49) (by decide) (by decide) (XS.iload X0.here hx rfl (hb hby d2_5) rfl  (XS.iloadN X0.here hx rfl (hb hby d2_7) rfl  k)))) ?_
          show own_Go p e below s _ _ (s₁.setTop (mkF m 8 #[rv a0, iv p1, iv 4, iv ((((10 : Int32) * (((0 : Int32) + (g p1)) - (48 : Int32))) + (g (p1 + (1 : Int32)))) - (48 : Int32)), iv ((p1 + (1 : Int32)) + (1 : Int32))] [(.int p1), (.int ((p1 + (1 : Int32)) + (1 : Int32)))]))
          refine own_via (fun k => XS.iloadN X0.here hx rfl (hb hby d2_8) rfl  (XS.iadd X0.here hx rfl (hb hby d2_9) rfl k)) ?_
          show own_Go p e below s _ _ (s₁.setTop (mkF m 10 #[rv a0, iv p1, iv 4, iv ((((10 : Int32) * (((0 : Int32) + (g p1)) - (48 : Int32))) + (g (p1 + (1 : Int32)))) - (48 : Int32)), iv ((p1 + (1 : Int32)) + (1 : Int32))] [(.int (p1 + (4 : Int32))), (.int ((p1 + (1 : Int32)) + (1 : Int32)))]))
          refine own_via (fun k => XS.icmpNo X0.here hx rfl (hb hby d2_10) rfl (tlt (own_l324_2 p1 hlo hhi)).2.1 k) ?_
          show own_Go p e below s _ _ (s₁.setTop (mkF m 13 #[rv a0, iv p1, iv 4, iv ((((10 : Int32) * (((0 : Int32) + (g p1)) - (48 : Int32))) + (g (p1 + (1 : Int32)))) - (48 : Int32)), iv ((p1 + (1 : Int32)) + (1 : Int32))] []))
          refine own_via (fun k => XS.aloadN X0.here hx rfl (hb hby d2_13) rfl rfl  (XS.iload X0.here hx rfl (hb hby d2_14) rfl  k)) ?_
          show own_Go p e below s _ _ (s₁.setTop (mkF m 16 #[rv a0, iv p1, iv 4, iv ((((10 : Int32) * (((0 : Int32) + (g p1)) - (48 : Int32))) + (g (p1 + (1 : Int32)))) - (48 : Int32)), iv ((p1 + (1 : Int32)) + (1 : Int32))] [(.int ((p1 + (1 : Int32)) + (1 : Int32))), (.ref a0)]))
          obtain ⟨cl11, Ar11, q11, S11, NN11, H11, G11⟩ := id P0
          have hin11 : ¬ (((p1 + (1 : Int32)) + (1 : Int32)) < 0 ∨ cl11.slots.size ≤ (((p1 + (1 : Int32)) + (1 : Int32))).toNatClampNeg) := inb_of S11 (own_in4_2 p1 hlo hhi)
          have hat11 : cl11.slots[(((p1 + (1 : Int32)) + (1 : Int32))).toNatClampNeg]? = some (.int (g ((p1 + (1 : Int32)) + (1 : Int32)))) := H11.at hin11 (hg _ (own_in4_2 p1 hlo hhi))
          refine own_via (fun k => X0.baloadBytes hx (j := ((p1 + (1 : Int32)) + (1 : Int32))) (v := (.int (g ((p1 + (1 : Int32)) + (1 : Int32))))) (by rw [e0]; exact Ar11.1) (State.isArrayOf_alike hZ.alike Ar11.2.1) Ar11.2.2 hin11 hat11 (g := (mkF m 16 #[rv a0, iv p1, iv 4, iv ((((10 : Int32) * (((0 : Int32) + (g p1)) - (48 : Int32))) + (g (p1 + (1 : Int32)))) - (48 : Int32)), iv ((p1 + (1 : Int32)) + (1 : Int32))] [(.int ((p1 + (1 : Int32)) + (1 : Int32))), (.ref a0)])) rfl rfl (hb hby d2_16) _ k) ?_
          show own_Go p e below s _ _ (s₁.setTop (mkF m 17 #[rv a0, iv p1, iv 4, iv ((((10 : Int32) * (((0 : Int32) + (g p1)) - (48 : Int32))) + (g (p1 + (1 : Int32)))) - (48 : Int32)), iv ((p1 + (1 : Int32)) + (1 : Int32))] [(.int (g ((p1 + (1 : Int32)) + (1 : Int32))))]))
          refine own_via (fun k => XS.bipush X0.here hx rfl (hb hby d2_17) k) ?_
          show own_Go p e below s _ _ (s₁.setTop (mkF m 19 #[rv a0, iv p1, iv 4, iv ((((10 : Int32) * (((0 : Int32) + (g p1)) - (48 : Int32))) + (g (p1 + (1 : Int32)))) - (48 : Int32)), iv ((p1 + (1 : Int32)) + (1 : Int32))] [(.int 48), (.int (g ((p1 + (1 : Int32)) + (1 : Int32))))]))
          by_cases hc12 : (g ((p1 + (1 : Int32)) + (1 : Int32))) < (48 : Int32)
          · refine own_via (fun k => XS.icmpYes X0.here hx rfl (pc0 := 19) (pc' := 31) rfl (hb hby d2_19) rfl (tlt hc12).1 (by decide) (by decide) k) ?_
            show own_Go p e below s _ _ (s₁.setTop (mkF m 31 #[rv a0, iv p1, iv 4, iv ((((10 : Int32) * (((0 : Int32) + (g p1)) - (48 : Int32))) + (g (p1 + (1 : Int32)))) - (48 : Int32)), iv ((p1 + (1 : Int32)) + (1 : Int32))] []))
            refine own_via (fun k => XS.iconst X0.here hx rfl (hb hby d2_31) k) ?_
            show own_Go p e below s _ _ (s₁.setTop (mkF m 32 #[rv a0, iv p1, iv 4, iv ((((10 : Int32) * (((0 : Int32) + (g p1)) - (48 : Int32))) + (g (p1 + (1 : Int32)))) - (48 : Int32)), iv ((p1 + (1 : Int32)) + (1 : Int32))] [(.int (-1))]))
            exact own_retI X0 hx hlk Bd.returns (hb hby d2_32) (Q := (Q2_4 Z a0 p1 k vs g h0 n0)) ⟨(congrArg (fun z => some (Value.int z)) (show (-1 : Int32) = (own_f2_4 p1 g) from (by unfold own_f2_4; exact ((if_neg hc2).trans ((if_neg hc4).trans ((if_neg hc7).trans ((if_neg hc9).trans ((if_pos hc12).trans rfl))))).symm))), N0, e0⟩ (by decide) (by decide)
          · refine own_via (fun k => XS.icmpNo X0.here hx rfl (hb hby d2_19) rfl (flt hc12).1 k) ?_
            show own_Go p e below s _ _ (s₁.setTop (mkF m 22 #[rv a0, iv p1, iv 4, iv ((((10 : Int32) * (((0 : Int32) + (g p1)) - (48 : Int32))) + (g (p1 + (1 : Int32)))) - (48 : Int32)), iv ((p1 + (1 : Int32)) + (1 : Int32))] []))
            refine own_via (fun k => XS.aloadN X0.here hx rfl (hb hby d2_22) rfl rfl  (XS.iload X0.here hx rfl (hb hby d2_23) rfl  k)) ?_
            show own_Go p e below s _ _ (s₁.setTop (mkF m 25 #[rv a0, iv p1, iv 4, iv ((((10 : Int32) * (((0 : Int32) + (g p1)) - (48 : Int32))) + (g (p1 + (1 : Int32)))) - (48 : Int32)), iv ((p1 + (1 : Int32)) + (1 : Int32))] [(.int ((p1 + (1 : Int32)) + (1 : Int32))), (.ref a0)]))
            obtain ⟨cl13, Ar13, q13, S13, NN13, H13, G13⟩ := id P0
            have hin13 : ¬ (((p1 + (1 : Int32)) + (1 : Int32)) < 0 ∨ cl13.slots.size ≤ (((p1 + (1 : Int32)) + (1 : Int32))).toNatClampNeg) := inb_of S13 (own_in4_2 p1 hlo hhi)
            have hat13 : cl13.slots[(((p1 + (1 : Int32)) + (1 : Int32))).toNatClampNeg]? = some (.int (g ((p1 + (1 : Int32)) + (1 : Int32)))) := H13.at hin13 (hg _ (own_in4_2 p1 hlo hhi))
            refine own_via (fun k => X0.baloadBytes hx (j := ((p1 + (1 : Int32)) + (1 : Int32))) (v := (.int (g ((p1 + (1 : Int32)) + (1 : Int32))))) (by rw [e0]; exact Ar13.1) (State.isArrayOf_alike hZ.alike Ar13.2.1) Ar13.2.2 hin13 hat13 (g := (mkF m 25 #[rv a0, iv p1, iv 4, iv ((((10 : Int32) * (((0 : Int32) + (g p1)) - (48 : Int32))) + (g (p1 + (1 : Int32)))) - (48 : Int32)), iv ((p1 + (1 : Int32)) + (1 : Int32))] [(.int ((p1 + (1 : Int32)) + (1 : Int32))), (.ref a0)])) rfl rfl (hb hby d2_25) _ k) ?_
            show own_Go p e below s _ _ (s₁.setTop (mkF m 26 #[rv a0, iv p1, iv 4, iv ((((10 : Int32) * (((0 : Int32) + (g p1)) - (48 : Int32))) + (g (p1 + (1 : Int32)))) - (48 : Int32)), iv ((p1 + (1 : Int32)) + (1 : Int32))] [(.int (g ((p1 + (1 : Int32)) + (1 : Int32))))]))
            refine own_via (fun k => XS.bipush X0.here hx rfl (hb hby d2_26) k) ?_
            show own_Go p e below s _ _ (s₁.setTop (mkF m 28 #[rv a0, iv p1, iv 4, iv ((((10 : Int32) * (((0 : Int32) + (g p1)) - (48 : Int32))) + (g (p1 + (1 : Int32)))) - (48 : Int32)), iv ((p1 + (1 : Int32)) + (1 : Int32))] [(.int 57), (.int (g ((p1 + (1 : Int32)) + (1 : Int32))))]))
            by_cases hc14 : (57 : Int32) < (g ((p1 + (1 : Int32)) + (1 : Int32)))
            · refine own_via (fun k => XS.icmpNo X0.here hx rfl (hb hby d2_28) rfl (tlt hc14).2.2.2 k) ?_
              show own_Go p e below s _ _ (s₁.setTop (mkF m 31 #[rv a0, iv p1, iv 4, iv ((((10 : Int32) * (((0 : Int32) + (g p1)) - (48 : Int32))) + (g (p1 + (1 : Int32)))) - (48 : Int32)), iv ((p1 + (1 : Int32)) + (1 : Int32))] []))
              refine own_via (fun k => XS.iconst X0.here hx rfl (hb hby d2_31) k) ?_
              show own_Go p e below s _ _ (s₁.setTop (mkF m 32 #[rv a0, iv p1, iv 4, iv ((((10 : Int32) * (((0 : Int32) + (g p1)) - (48 : Int32))) + (g (p1 + (1 : Int32)))) - (48 : Int32)), iv ((p1 + (1 : Int32)) + (1 : Int32))] [(.int (-1))]))
              exact own_retI X0 hx hlk Bd.returns (hb hby d2_32) (Q := (Q2_4 Z a0 p1 k vs g h0 n0)) ⟨(congrArg (fun z => some (Value.int z)) (show (-1 : Int32) = (own_f2_4 p1 g) from (by unfold own_f2_4; exact ((if_neg hc2).trans ((if_neg hc4).trans ((if_neg hc7).trans ((if_neg hc9).trans ((if_neg hc12).trans ((if_pos hc14).trans rfl)))))).symm))), N0, e0⟩ (by decide) (by decide)
            · refine own_via (fun k => XS.icmpYes X0.here hx rfl (pc0 := 28) (pc' := 33) rfl (hb hby d2_28) rfl (flt hc14).2.2.2 (by decide) (by decide) k) ?_
              show own_Go p e below s _ _ (s₁.setTop (mkF m 33 #[rv a0, iv p1, iv 4, iv ((((10 : Int32) * (((0 : Int32) + (g p1)) - (48 : Int32))) + (g (p1 + (1 : Int32)))) - (48 : Int32)), iv ((p1 + (1 : Int32)) + (1 : Int32))] []))
              refine own_via (fun k => XS.bipush X0.here hx rfl (hb hby d2_33) (XS.iloadN X0.here hx rfl (hb hby d2_35) rfl  (XS.imul X0.here hx rfl (hb hby d2_36) rfl (XS.aloadN X0.here hx rfl (hb hby d2_37) rfl rfl  k)))) ?_
              show own_Go p e below s _ _ (s₁.setTop (mkF m 38 #[rv a0, iv p1, iv 4, iv ((((10 : Int32) * (((0 : Int32) + (g p1)) - (48 : Int32))) + (g (p1 + (1 : Int32)))) - (48 : Int32)), iv ((p1 + (1 : Int32)) + (1 : Int32))] [(.ref a0), (.int ((10 : Int32) * ((((10 : Int32) * (((0 : Int32) + (g p1)) - (48 : Int32))) + (g (p1 + (1 : Int32)))) - (48 : Int32))))]))
              refine own_via (fun k => XS.iload X0.here hx rfl (hb hby d2_38) rfl  k) ?_
              show own_Go p e below s _ _ (s₁.setTop (mkF m 40 #[rv a0, iv p1, iv 4, iv ((((10 : Int32) * (((0 : Int32) + (g p1)) - (48 : Int32))) + (g (p1 + (1 : Int32)))) - (48 : Int32)), iv ((p1 + (1 : Int32)) + (1 : Int32))] [(.int ((p1 + (1 : Int32)) + (1 : Int32))), (.ref a0), (.int ((10 : Int32) * ((((10 : Int32) * (((0 : Int32) + (g p1)) - (48 : Int32))) + (g (p1 + (1 : Int32)))) - (48 : Int32))))]))
              obtain ⟨cl15, Ar15, q15, S15, NN15, H15, G15⟩ := id P0
              have hin15 : ¬ (((p1 + (1 : Int32)) + (1 : Int32)) < 0 ∨ cl15.slots.size ≤ (((p1 + (1 : Int32)) + (1 : Int32))).toNatClampNeg) := inb_of S15 (own_in4_2 p1 hlo hhi)
              have hat15 : cl15.slots[(((p1 + (1 : Int32)) + (1 : Int32))).toNatClampNeg]? = some (.int (g ((p1 + (1 : Int32)) + (1 : Int32)))) := H15.at hin15 (hg _ (own_in4_2 p1 hlo hhi))
              refine own_via (fun k => X0.baloadBytes hx (j := ((p1 + (1 : Int32)) + (1 : Int32))) (v := (.int (g ((p1 + (1 : Int32)) + (1 : Int32))))) (by rw [e0]; exact Ar15.1) (State.isArrayOf_alike hZ.alike Ar15.2.1) Ar15.2.2 hin15 hat15 (g := (mkF m 40 #[rv a0, iv p1, iv 4, iv ((((10 : Int32) * (((0 : Int32) + (g p1)) - (48 : Int32))) + (g (p1 + (1 : Int32)))) - (48 : Int32)), iv ((p1 + (1 : Int32)) + (1 : Int32))] [(.int ((p1 + (1 : Int32)) + (1 : Int32))), (.ref a0), (.int ((10 : Int32) * ((((10 : Int32) * (((0 : Int32) + (g p1)) - (48 : Int32))) + (g (p1 + (1 : Int32)))) - (48 : Int32))))])) rfl rfl (hb hby d2_40) _ k) ?_
              show own_Go p e below s _ _ (s₁.setTop (mkF m 41 #[rv a0, iv p1, iv 4, iv ((((10 : Int32) * (((0 : Int32) + (g p1)) - (48 : Int32))) + (g (p1 + (1 : Int32)))) - (48 : Int32)), iv ((p1 + (1 : Int32)) + (1 : Int32))] [(.int (g ((p1 + (1 : Int32)) + (1 : Int32)))), (.int ((10 : Int32) * ((((10 : Int32) * (((0 : Int32) + (g p1)) - (48 : Int32))) + (g (p1 + (1 : Int32)))) - (48 : Int32))))]))
              refine own_via (fun k => XS.iadd X0.here hx rfl (hb hby d2_41) rfl (XS.bipush X0.here hx rfl (hb hby d2_42) (XS.isub X0.here hx rfl (hb hby d2_44) rfl (XS.istoreN X0.here hx rfl (hb hby d2_45) rfl (l' := #[rv a0, iv p1, iv 4, iv ((((10 : Int32) * ((((10 : Int32) * (((0 : Int32) + (g p1)) - (48 : Int32))) + (g (p1 + (1 : Int32)))) - (48 : Int32))) + (g ((p1 + (1 : Int32)) + (1 : Int32)))) - (48 : Int32)), iv ((p1 + (1 : Int32)) + (1 : Int32))]) rfl k)))) ?_
              show own_Go p e below s _ _ (s₁.setTop (mkF m 46 #[rv a0, iv p1, iv 4, iv ((((10 : Int32) * ((((10 : Int32) * (((0 : Int32) + (g p1)) - (48 : Int32))) + (g (p1 + (1 : Int32)))) - (48 : Int32))) + (g ((p1 + (1 : Int32)) + (1 : Int32)))) - (48 : Int32)), iv ((p1 + (1 : Int32)) + (1 : Int32))] []))
              refine own_via (fun k => XS.iinc X0.here hx rfl (hb hby d2_46) rfl (l' := #[rv a0, iv p1, iv 4, iv ((((10 : Int32) * ((((10 : Int32) * (((0 : Int32) + (g p1)) - (48 : Int32))) + (g (p1 + (1 : Int32)))) - (48 : Int32))) + (g ((p1 + (1 : Int32)) + (1 : Int32)))) - (48 : Int32)), iv (((p1 + (1 : Int32)) + (1 : Int32)) + (1 : Int32))]) rfl (XS.goto X0.here hx rfl (pc0 := 49) (pc' := 5) rfl (hb hby d2_49) (by decide) (by decide) (XS.iload X0.here hx rfl (hb hby d2_5) rfl  (XS.iloadN X0.here hx rfl (hb hby d2_7) rfl  k)))) ?_
              show own_Go p e below s _ _ (s₁.setTop (mkF m 8 #[rv a0, iv p1, iv 4, iv ((((10 : Int32) * ((((10 : Int32) * (((0 : Int32) + (g p1)) - (48 : Int32))) + (g (p1 + (1 : Int32)))) - (48 : Int32))) + (g ((p1 + (1 : Int32)) + (1 : Int32)))) - (48 : Int32)), iv (((p1 + (1 : Int32)) + (1 : Int32)) + (1 : Int32))] [(.int p1), (.int (((p1 + (1 : Int32)) + (1 : Int32)) + (1 : Int32)))]))
              refine own_via (fun k => XS.iloadN X0.here hx rfl (hb hby d2_8) rfl  (XS.iadd X0.here hx rfl (hb hby d2_9) rfl k)) ?_
              show own_Go p e below s _ _ (s₁.setTop (mkF m 10 #[rv a0, iv p1, iv 4, iv ((((10 : Int32) * ((((10 : Int32) * (((0 : Int32) + (g p1)) - (48 : Int32))) + (g (p1 + (1 : Int32)))) - (48 : Int32))) + (g ((p1 + (1 : Int32)) + (1 : Int32)))) - (48 : Int32)), iv (((p1 + (1 : Int32)) + (1 : Int32)) + (1 : Int32))] [(.int (p1 + (4 : Int32))), (.int (((p1 + (1 : Int32)) + (1 : Int32)) + (1 : Int32)))]))
              refine own_via (fun k => XS.icmpNo X0.here hx rfl (hb hby d2_10) rfl (tlt (own_l324_3 p1 hlo hhi)).2.1 k) ?_
              show own_Go p e below s _ _ (s₁.setTop (mkF m 13 #[rv a0, iv p1, iv 4, iv ((((10 : Int32) * ((((10 : Int32) * (((0 : Int32) + (g p1)) - (48 : Int32))) + (g (p1 + (1 : Int32)))) - (48 : Int32))) + (g ((p1 + (1 : Int32)) + (1 : Int32)))) - (48 : Int32)), iv (((p1 + (1 : Int32)) + (1 : Int32)) + (1 : Int32))] []))
              refine own_via (fun k => XS.aloadN X0.here hx rfl (hb hby d2_13) rfl rfl  (XS.iload X0.here hx rfl (hb hby d2_14) rfl  k)) ?_
              show own_Go p e below s _ _ (s₁.setTop (mkF m 16 #[rv a0, iv p1, iv 4, iv ((((10 : Int32) * ((((10 : Int32) * (((0 : Int32) + (g p1)) - (48 : Int32))) + (g (p1 + (1 : Int32)))) - (48 : Int32))) + (g ((p1 + (1 : Int32)) + (1 : Int32)))) - (48 : Int32)), iv (((p1 + (1 : Int32)) + (1 : Int32)) + (1 : Int32))] [(.int (((p1 + (1 : Int32)) + (1 : Int32)) + (1 : Int32))), (.ref a0)]))
              obtain ⟨cl16, Ar16, q16, S16, NN16, H16, G16⟩ := id P0
              have hin16 : ¬ ((((p1 + (1 : Int32)) + (1 : Int32)) + (1 : Int32)) < 0 ∨ cl16.slots.size ≤ ((((p1 + (1 : Int32)) + (1 : Int32)) + (1 : Int32))).toNatClampNeg) := inb_of S16 (own_in4_3 p1 hlo hhi)
              have hat16 : cl16.slots[((((p1 + (1 : Int32)) + (1 : Int32)) + (1 : Int32))).toNatClampNeg]? = some (.int (g (((p1 + (1 : Int32)) + (1 : Int32)) + (1 : Int32)))) := H16.at hin16 (hg _ (own_in4_3 p1 hlo hhi))
              refine own_via (fun k => X0.baloadBytes hx (j := (((p1 + (1 : Int32)) + (1 : Int32)) + (1 : Int32))) (v := (.int (g (((p1 + (1 : Int32)) + (1 : Int32)) + (1 : Int32))))) (by rw [e0]; exact Ar16.1) (State.isArrayOf_alike hZ.alike Ar16.2.1) Ar16.2.2 hin16 hat16 (g := (mkF m 16 #[rv a0, iv p1, iv 4, iv ((((10 : Int32) * ((((10 : Int32) * (((0 : Int32) + (g p1)) - (48 : Int32))) + (g (p1 + (1 : Int32)))) - (48 : Int32))) + (g ((p1 + (1 : Int32)) + (1 : Int32)))) - (48 : Int32)), iv (((p1 + (1 : Int32)) + (1 : Int32)) + (1 : Int32))] [(.int (((p1 + (1 : Int32)) + (1 : Int32)) + (1 : Int32))), (.ref a0)])) rfl rfl (hb hby d2_16) _ k) ?_
              show own_Go p e below s _ _ (s₁.setTop (mkF m 17 #[rv a0, iv p1, iv 4, iv ((((10 : Int32) * ((((10 : Int32) * (((0 : Int32) + (g p1)) - (48 : Int32))) + (g (p1 + (1 : Int32)))) - (48 : Int32))) + (g ((p1 + (1 : Int32)) + (1 : Int32)))) - (48 : Int32)), iv (((p1 + (1 : Int32)) + (1 : Int32)) + (1 : Int32))] [(.int (g (((p1 + (1 : Int32)) + (1 : Int32)) + (1 : Int32))))]))
              refine own_via (fun k => XS.bipush X0.here hx rfl (hb hby d2_17) k) ?_
              show own_Go p e below s _ _ (s₁.setTop (mkF m 19 #[rv a0, iv p1, iv 4, iv ((((10 : Int32) * ((((10 : Int32) * (((0 : Int32) + (g p1)) - (48 : Int32))) + (g (p1 + (1 : Int32)))) - (48 : Int32))) + (g ((p1 + (1 : Int32)) + (1 : Int32)))) - (48 : Int32)), iv (((p1 + (1 : Int32)) + (1 : Int32)) + (1 : Int32))] [(.int 48), (.int (g (((p1 + (1 : Int32)) + (1 : Int32)) + (1 : Int32))))]))
              by_cases hc17 : (g (((p1 + (1 : Int32)) + (1 : Int32)) + (1 : Int32))) < (48 : Int32)
              · refine own_via (fun k => XS.icmpYes X0.here hx rfl (pc0 := 19) (pc' := 31) rfl (hb hby d2_19) rfl (tlt hc17).1 (by decide) (by decide) k) ?_
                show own_Go p e below s _ _ (s₁.setTop (mkF m 31 #[rv a0, iv p1, iv 4, iv ((((10 : Int32) * ((((10 : Int32) * (((0 : Int32) + (g p1)) - (48 : Int32))) + (g (p1 + (1 : Int32)))) - (48 : Int32))) + (g ((p1 + (1 : Int32)) + (1 : Int32)))) - (48 : Int32)), iv (((p1 + (1 : Int32)) + (1 : Int32)) + (1 : Int32))] []))
                refine own_via (fun k => XS.iconst X0.here hx rfl (hb hby d2_31) k) ?_
                show own_Go p e below s _ _ (s₁.setTop (mkF m 32 #[rv a0, iv p1, iv 4, iv ((((10 : Int32) * ((((10 : Int32) * (((0 : Int32) + (g p1)) - (48 : Int32))) + (g (p1 + (1 : Int32)))) - (48 : Int32))) + (g ((p1 + (1 : Int32)) + (1 : Int32)))) - (48 : Int32)), iv (((p1 + (1 : Int32)) + (1 : Int32)) + (1 : Int32))] [(.int (-1))]))
                exact own_retI X0 hx hlk Bd.returns (hb hby d2_32) (Q := (Q2_4 Z a0 p1 k vs g h0 n0)) ⟨(congrArg (fun z => some (Value.int z)) (show (-1 : Int32) = (own_f2_4 p1 g) from (by unfold own_f2_4; exact ((if_neg hc2).trans ((if_neg hc4).trans ((if_neg hc7).trans ((if_neg hc9).trans ((if_neg hc12).trans ((if_neg hc14).trans ((if_pos hc17).trans rfl))))))).symm))), N0, e0⟩ (by decide) (by decide)
              · refine own_via (fun k => XS.icmpNo X0.here hx rfl (hb hby d2_19) rfl (flt hc17).1 k) ?_
                show own_Go p e below s _ _ (s₁.setTop (mkF m 22 #[rv a0, iv p1, iv 4, iv ((((10 : Int32) * ((((10 : Int32) * (((0 : Int32) + (g p1)) - (48 : Int32))) + (g (p1 + (1 : Int32)))) - (48 : Int32))) + (g ((p1 + (1 : Int32)) + (1 : Int32)))) - (48 : Int32)), iv (((p1 + (1 : Int32)) + (1 : Int32)) + (1 : Int32))] []))
                refine own_via (fun k => XS.aloadN X0.here hx rfl (hb hby d2_22) rfl rfl  (XS.iload X0.here hx rfl (hb hby d2_23) rfl  k)) ?_
                show own_Go p e below s _ _ (s₁.setTop (mkF m 25 #[rv a0, iv p1, iv 4, iv ((((10 : Int32) * ((((10 : Int32) * (((0 : Int32) + (g p1)) - (48 : Int32))) + (g (p1 + (1 : Int32)))) - (48 : Int32))) + (g ((p1 + (1 : Int32)) + (1 : Int32)))) - (48 : Int32)), iv (((p1 + (1 : Int32)) + (1 : Int32)) + (1 : Int32))] [(.int (((p1 + (1 : Int32)) + (1 : Int32)) + (1 : Int32))), (.ref a0)]))
                obtain ⟨cl18, Ar18, q18, S18, NN18, H18, G18⟩ := id P0
                have hin18 : ¬ ((((p1 + (1 : Int32)) + (1 : Int32)) + (1 : Int32)) < 0 ∨ cl18.slots.size ≤ ((((p1 + (1 : Int32)) + (1 : Int32)) + (1 : Int32))).toNatClampNeg) := inb_of S18 (own_in4_3 p1 hlo hhi)
                have hat18 : cl18.slots[((((p1 + (1 : Int32)) + (1 : Int32)) + (1 : Int32))).toNatClampNeg]? = some (.int (g (((p1 + (1 : Int32)) + (1 : Int32)) + (1 : Int32)))) := H18.at hin18 (hg _ (own_in4_3 p1 hlo hhi))
                refine own_via (fun k => X0.baloadBytes hx (j := (((p1 + (1 : Int32)) + (1 : Int32)) + (1 : Int32))) (v := (.int (g (((p1 + (1 : Int32)) + (1 : Int32)) + (1 : Int32))))) (by rw [e0]; exact Ar18.1) (State.isArrayOf_alike hZ.alike Ar18.2.1) Ar18.2.2 hin18 hat18 (g := (mkF m 25 #[rv a0, iv p1, iv 4, iv ((((10 : Int32) * ((((10 : Int32) * (((0 : Int32) + (g p1)) - (48 : Int32))) + (g (p1 + (1 : Int32)))) - (48 : Int32))) + (g ((p1 + (1 : Int32)) + (1 : Int32)))) - (48 : Int32)), iv (((p1 + (1 : Int32)) + (1 : Int32)) + (1 : Int32))] [(.int (((p1 + (1 : Int32)) + (1 : Int32)) + (1 : Int32))), (.ref a0)])) rfl rfl (hb hby d2_25) _ k) ?_
                show own_Go p e below s _ _ (s₁.setTop (mkF m 26 #[rv a0, iv p1, iv 4, iv ((((10 : Int32) * ((((10 : Int32) * (((0 : Int32) + (g p1)) - (48 : Int32))) + (g (p1 + (1 : Int32)))) - (48 : Int32))) + (g ((p1 + (1 : Int32)) + (1 : Int32)))) - (48 : Int32)), iv (((p1 + (1 : Int32)) + (1 : Int32)) + (1 : Int32))] [(.int (g (((p1 + (1 : Int32)) + (1 : Int32)) + (1 : Int32))))]))
                refine own_via (fun k => XS.bipush X0.here hx rfl (hb hby d2_26) k) ?_
                show own_Go p e below s _ _ (s₁.setTop (mkF m 28 #[rv a0, iv p1, iv 4, iv ((((10 : Int32) * ((((10 : Int32) * (((0 : Int32) + (g p1)) - (48 : Int32))) + (g (p1 + (1 : Int32)))) - (48 : Int32))) + (g ((p1 + (1 : Int32)) + (1 : Int32)))) - (48 : Int32)), iv (((p1 + (1 : Int32)) + (1 : Int32)) + (1 : Int32))] [(.int 57), (.int (g (((p1 + (1 : Int32)) + (1 : Int32)) + (1 : Int32))))]))
                by_cases hc19 : (57 : Int32) < (g (((p1 + (1 : Int32)) + (1 : Int32)) + (1 : Int32)))
                · refine own_via (fun k => XS.icmpNo X0.here hx rfl (hb hby d2_28) rfl (tlt hc19).2.2.2 k) ?_
                  show own_Go p e below s _ _ (s₁.setTop (mkF m 31 #[rv a0, iv p1, iv 4, iv ((((10 : Int32) * ((((10 : Int32) * (((0 : Int32) + (g p1)) - (48 : Int32))) + (g (p1 + (1 : Int32)))) - (48 : Int32))) + (g ((p1 + (1 : Int32)) + (1 : Int32)))) - (48 : Int32)), iv (((p1 + (1 : Int32)) + (1 : Int32)) + (1 : Int32))] []))
                  refine own_via (fun k => XS.iconst X0.here hx rfl (hb hby d2_31) k) ?_
                  show own_Go p e below s _ _ (s₁.setTop (mkF m 32 #[rv a0, iv p1, iv 4, iv ((((10 : Int32) * ((((10 : Int32) * (((0 : Int32) + (g p1)) - (48 : Int32))) + (g (p1 + (1 : Int32)))) - (48 : Int32))) + (g ((p1 + (1 : Int32)) + (1 : Int32)))) - (48 : Int32)), iv (((p1 + (1 : Int32)) + (1 : Int32)) + (1 : Int32))] [(.int (-1))]))
                  exact own_retI X0 hx hlk Bd.returns (hb hby d2_32) (Q := (Q2_4 Z a0 p1 k vs g h0 n0)) ⟨(congrArg (fun z => some (Value.int z)) (show (-1 : Int32) = (own_f2_4 p1 g) from (by unfold own_f2_4; exact ((if_neg hc2).trans ((if_neg hc4).trans ((if_neg hc7).trans ((if_neg hc9).trans ((if_neg hc12).trans ((if_neg hc14).trans ((if_neg hc17).trans ((if_pos hc19).trans rfl)))))))).symm))), N0, e0⟩ (by decide) (by decide)
                · refine own_via (fun k => XS.icmpYes X0.here hx rfl (pc0 := 28) (pc' := 33) rfl (hb hby d2_28) rfl (flt hc19).2.2.2 (by decide) (by decide) k) ?_
                  show own_Go p e below s _ _ (s₁.setTop (mkF m 33 #[rv a0, iv p1, iv 4, iv ((((10 : Int32) * ((((10 : Int32) * (((0 : Int32) + (g p1)) - (48 : Int32))) + (g (p1 + (1 : Int32)))) - (48 : Int32))) + (g ((p1 + (1 : Int32)) + (1 : Int32)))) - (48 : Int32)), iv (((p1 + (1 : Int32)) + (1 : Int32)) + (1 : Int32))] []))
                  refine own_via (fun k => XS.bipush X0.here hx rfl (hb hby d2_33) (XS.iloadN X0.here hx rfl (hb hby d2_35) rfl  (XS.imul X0.here hx rfl (hb hby d2_36) rfl (XS.aloadN X0.here hx rfl (hb hby d2_37) rfl rfl  k)))) ?_
                  show own_Go p e below s _ _ (s₁.setTop (mkF m 38 #[rv a0, iv p1, iv 4, iv ((((10 : Int32) * ((((10 : Int32) * (((0 : Int32) + (g p1)) - (48 : Int32))) + (g (p1 + (1 : Int32)))) - (48 : Int32))) + (g ((p1 + (1 : Int32)) + (1 : Int32)))) - (48 : Int32)), iv (((p1 + (1 : Int32)) + (1 : Int32)) + (1 : Int32))] [(.ref a0), (.int ((10 : Int32) * ((((10 : Int32) * ((((10 : Int32) * (((0 : Int32) + (g p1)) - (48 : Int32))) + (g (p1 + (1 : Int32)))) - (48 : Int32))) + (g ((p1 + (1 : Int32)) + (1 : Int32)))) - (48 : Int32))))]))
                  refine own_via (fun k => XS.iload X0.here hx rfl (hb hby d2_38) rfl  k) ?_
                  show own_Go p e below s _ _ (s₁.setTop (mkF m 40 #[rv a0, iv p1, iv 4, iv ((((10 : Int32) * ((((10 : Int32) * (((0 : Int32) + (g p1)) - (48 : Int32))) + (g (p1 + (1 : Int32)))) - (48 : Int32))) + (g ((p1 + (1 : Int32)) + (1 : Int32)))) - (48 : Int32)), iv (((p1 + (1 : Int32)) + (1 : Int32)) + (1 : Int32))] [(.int (((p1 + (1 : Int32)) + (1 : Int32)) + (1 : Int32))), (.ref a0), (.int ((10 : Int32) * ((((10 : Int32) * ((((10 : Int32) * (((0 : Int32) + (g p1)) - (48 : Int32))) + (g (p1 + (1 : Int32)))) - (48 : Int32))) + (g ((p1 + (1 : Int32)) + (1 : Int32)))) - (48 : Int32))))]))
                  obtain ⟨cl20, Ar20, q20, S20, NN20, H20, G20⟩ := id P0
                  have hin20 : ¬ ((((p1 + (1 : Int32)) + (1 : Int32)) + (1 : Int32)) < 0 ∨ cl20.slots.size ≤ ((((p1 + (1 : Int32)) + (1 : Int32)) + (1 : Int32))).toNatClampNeg) := inb_of S20 (own_in4_3 p1 hlo hhi)
                  have hat20 : cl20.slots[((((p1 + (1 : Int32)) + (1 : Int32)) + (1 : Int32))).toNatClampNeg]? = some (.int (g (((p1 + (1 : Int32)) + (1 : Int32)) + (1 : Int32)))) := H20.at hin20 (hg _ (own_in4_3 p1 hlo hhi))
                  refine own_via (fun k => X0.baloadBytes hx (j := (((p1 + (1 : Int32)) + (1 : Int32)) + (1 : Int32))) (v := (.int (g (((p1 + (1 : Int32)) + (1 : Int32)) + (1 : Int32))))) (by rw [e0]; exact Ar20.1) (State.isArrayOf_alike hZ.alike Ar20.2.1) Ar20.2.2 hin20 hat20 (g := (mkF m 40 #[rv a0, iv p1, iv 4, iv ((((10 : Int32) * ((((10 : Int32) * (((0 : Int32) + (g p1)) - (48 : Int32))) + (g (p1 + (1 : Int32)))) - (48 : Int32))) + (g ((p1 + (1 : Int32)) + (1 : Int32)))) - (48 : Int32)), iv (((p1 + (1 : Int32)) + (1 : Int32)) + (1 : Int32))] [(.int (((p1 + (1 : Int32)) + (1 : Int32)) + (1 : Int32))), (.ref a0), (.int ((10 : Int32) * ((((10 : Int32) * ((((10 : Int32) * (((0 : Int32) + (g p1)) - (48 : Int32))) + (g (p1 + (1 : Int32)))) - (48 : Int32))) + (g ((p1 + (1 : Int32)) + (1 : Int32)))) - (48 : Int32))))])) rfl rfl (hb hby d2_40) _ k) ?_
                  show own_Go p e below s _ _ (s₁.setTop (mkF m 41 #[rv a0, iv p1, iv 4, iv ((((10 : Int32) * ((((10 : Int32) * (((0 : Int32) + (g p1)) - (48 : Int32))) + (g (p1 + (1 : Int32)))) - (48 : Int32))) + (g ((p1 + (1 : Int32)) + (1 : Int32)))) - (48 : Int32)), iv (((p1 + (1 : Int32)) + (1 : Int32)) + (1 : Int32))] [(.int (g (((p1 + (1 : Int32)) + (1 : Int32)) + (1 : Int32)))), (.int ((10 : Int32) * ((((10 : Int32) * ((((10 : Int32) * (((0 : Int32) + (g p1)) - (48 : Int32))) + (g (p1 + (1 : Int32)))) - (48 : Int32))) + (g ((p1 + (1 : Int32)) + (1 : Int32)))) - (48 : Int32))))]))
                  refine own_via (fun k => XS.iadd X0.here hx rfl (hb hby d2_41) rfl (XS.bipush X0.here hx rfl (hb hby d2_42) (XS.isub X0.here hx rfl (hb hby d2_44) rfl (XS.istoreN X0.here hx rfl (hb hby d2_45) rfl (l' := #[rv a0, iv p1, iv 4, iv ((((10 : Int32) * ((((10 : Int32) * ((((10 : Int32) * (((0 : Int32) + (g p1)) - (48 : Int32))) + (g (p1 + (1 : Int32)))) - (48 : Int32))) + (g ((p1 + (1 : Int32)) + (1 : Int32)))) - (48 : Int32))) + (g (((p1 + (1 : Int32)) + (1 : Int32)) + (1 : Int32)))) - (48 : Int32)), iv (((p1 + (1 : Int32)) + (1 : Int32)) + (1 : Int32))]) rfl k)))) ?_
                  show own_Go p e below s _ _ (s₁.setTop (mkF m 46 #[rv a0, iv p1, iv 4, iv ((((10 : Int32) * ((((10 : Int32) * ((((10 : Int32) * (((0 : Int32) + (g p1)) - (48 : Int32))) + (g (p1 + (1 : Int32)))) - (48 : Int32))) + (g ((p1 + (1 : Int32)) + (1 : Int32)))) - (48 : Int32))) + (g (((p1 + (1 : Int32)) + (1 : Int32)) + (1 : Int32)))) - (48 : Int32)), iv (((p1 + (1 : Int32)) + (1 : Int32)) + (1 : Int32))] []))
                  refine own_via (fun k => XS.iinc X0.here hx rfl (hb hby d2_46) rfl (l' := #[rv a0, iv p1, iv 4, iv ((((10 : Int32) * ((((10 : Int32) * ((((10 : Int32) * (((0 : Int32) + (g p1)) - (48 : Int32))) + (g (p1 + (1 : Int32)))) - (48 : Int32))) + (g ((p1 + (1 : Int32)) + (1 : Int32)))) - (48 : Int32))) + (g (((p1 + (1 : Int32)) + (1 : Int32)) + (1 : Int32)))) - (48 : Int32)), iv ((((p1 + (1 : Int32)) + (1 : Int32)) + (1 : Int32)) + (1 : Int32))]) rfl (XS.goto X0.here hx rfl (pc0 := 49) (pc' := 5) rfl (hb hby d2_49) (by decide) (by decide) (XS.iload X0.here hx rfl (hb hby d2_5) rfl  (XS.iloadN X0.here hx rfl (hb hby d2_7) rfl  k)))) ?_
                  show own_Go p e below s _ _ (s₁.setTop (mkF m 8 #[rv a0, iv p1, iv 4, iv ((((10 : Int32) * ((((10 : Int32) * ((((10 : Int32) * (((0 : Int32) + (g p1)) - (48 : Int32))) + (g (p1 + (1 : Int32)))) - (48 : Int32))) + (g ((p1 + (1 : Int32)) + (1 : Int32)))) - (48 : Int32))) + (g (((p1 + (1 : Int32)) + (1 : Int32)) + (1 : Int32)))) - (48 : Int32)), iv ((((p1 + (1 : Int32)) + (1 : Int32)) + (1 : Int32)) + (1 : Int32))] [(.int p1), (.int ((((p1 + (1 : Int32)) + (1 : Int32)) + (1 : Int32)) + (1 : Int32)))]))
                  refine own_via (fun k => XS.iloadN X0.here hx rfl (hb hby d2_8) rfl  (XS.iadd X0.here hx rfl (hb hby d2_9) rfl k)) ?_
                  show own_Go p e below s _ _ (s₁.setTop (mkF m 10 #[rv a0, iv p1, iv 4, iv ((((10 : Int32) * ((((10 : Int32) * ((((10 : Int32) * (((0 : Int32) + (g p1)) - (48 : Int32))) + (g (p1 + (1 : Int32)))) - (48 : Int32))) + (g ((p1 + (1 : Int32)) + (1 : Int32)))) - (48 : Int32))) + (g (((p1 + (1 : Int32)) + (1 : Int32)) + (1 : Int32)))) - (48 : Int32)), iv ((((p1 + (1 : Int32)) + (1 : Int32)) + (1 : Int32)) + (1 : Int32))] [(.int (p1 + (4 : Int32))), (.int ((((p1 + (1 : Int32)) + (1 : Int32)) + (1 : Int32)) + (1 : Int32)))]))
                  refine own_via (fun k => XS.icmpYes X0.here hx rfl (pc0 := 10) (pc' := 52) rfl (hb hby d2_10) rfl (flt (own_l324_4 p1 hlo hhi)).2.1 (by decide) (by decide) k) ?_
                  show own_Go p e below s _ _ (s₁.setTop (mkF m 52 #[rv a0, iv p1, iv 4, iv ((((10 : Int32) * ((((10 : Int32) * ((((10 : Int32) * (((0 : Int32) + (g p1)) - (48 : Int32))) + (g (p1 + (1 : Int32)))) - (48 : Int32))) + (g ((p1 + (1 : Int32)) + (1 : Int32)))) - (48 : Int32))) + (g (((p1 + (1 : Int32)) + (1 : Int32)) + (1 : Int32)))) - (48 : Int32)), iv ((((p1 + (1 : Int32)) + (1 : Int32)) + (1 : Int32)) + (1 : Int32))] []))
                  refine own_via (fun k => XS.iloadN X0.here hx rfl (hb hby d2_52) rfl  k) ?_
                  show own_Go p e below s _ _ (s₁.setTop (mkF m 53 #[rv a0, iv p1, iv 4, iv ((((10 : Int32) * ((((10 : Int32) * ((((10 : Int32) * (((0 : Int32) + (g p1)) - (48 : Int32))) + (g (p1 + (1 : Int32)))) - (48 : Int32))) + (g ((p1 + (1 : Int32)) + (1 : Int32)))) - (48 : Int32))) + (g (((p1 + (1 : Int32)) + (1 : Int32)) + (1 : Int32)))) - (48 : Int32)), iv ((((p1 + (1 : Int32)) + (1 : Int32)) + (1 : Int32)) + (1 : Int32))] [(.int ((((10 : Int32) * ((((10 : Int32) * ((((10 : Int32) * (((0 : Int32) + (g p1)) - (48 : Int32))) + (g (p1 + (1 : Int32)))) - (48 : Int32))) + (g ((p1 + (1 : Int32)) + (1 : Int32)))) - (48 : Int32))) + (g (((p1 + (1 : Int32)) + (1 : Int32)) + (1 : Int32)))) - (48 : Int32)))]))
                  exact own_retI X0 hx hlk Bd.returns (hb hby d2_53) (Q := (Q2_4 Z a0 p1 k vs g h0 n0)) ⟨(congrArg (fun z => some (Value.int z)) (show ((((10 : Int32) * ((((10 : Int32) * ((((10 : Int32) * (((0 : Int32) + (g p1)) - (48 : Int32))) + (g (p1 + (1 : Int32)))) - (48 : Int32))) + (g ((p1 + (1 : Int32)) + (1 : Int32)))) - (48 : Int32))) + (g (((p1 + (1 : Int32)) + (1 : Int32)) + (1 : Int32)))) - (48 : Int32)) = (own_f2_4 p1 g) from (by unfold own_f2_4; exact ((if_neg hc2).trans ((if_neg hc4).trans ((if_neg hc7).trans ((if_neg hc9).trans ((if_neg hc12).trans ((if_neg hc14).trans ((if_neg hc17).trans ((if_neg hc19).trans rfl)))))))).symm))), N0, e0⟩ (by decide) (by decide)
theorem ef_2_5 (m : MethodId) (x0 : Addr) (x1 : Int32) (x2 : Int32) : entryFrame m #[(.ref x0), (.int x1), (.int x2)] 5 = mkF m 0 #[rv x0, iv x1, iv x2, .unset, .unset] [] := by first | (simp [entryFrame, mkF, argsToLocals, Value.category]; done) | rfl
def own_f2_5 (p1 : Int32) (g : Int32 → Int32) : Int32 := (if (g p1) < (48 : Int32) then (-1 : Int32) else (if (57 : Int32) < (g p1) then (-1 : Int32) else (if (g (p1 + (1 : Int32))) < (48 : Int32) then (-1 : Int32) else (if (57 : Int32) < (g (p1 + (1 : Int32))) then (-1 : Int32) else (if (g ((p1 + (1 : Int32)) + (1 : Int32))) < (48 : Int32) then (-1 : Int32) else (if (57 : Int32) < (g ((p1 + (1 : Int32)) + (1 : Int32))) then (-1 : Int32) else (if (g (((p1 + (1 : Int32)) + (1 : Int32)) + (1 : Int32))) < (48 : Int32) then (-1 : Int32) else (if (57 : Int32) < (g (((p1 + (1 : Int32)) + (1 : Int32)) + (1 : Int32))) then (-1 : Int32) else (if (g ((((p1 + (1 : Int32)) + (1 : Int32)) + (1 : Int32)) + (1 : Int32))) < (48 : Int32) then (-1 : Int32) else (if (57 : Int32) < (g ((((p1 + (1 : Int32)) + (1 : Int32)) + (1 : Int32)) + (1 : Int32))) then (-1 : Int32) else ((((10 : Int32) * ((((10 : Int32) * ((((10 : Int32) * ((((10 : Int32) * (((0 : Int32) + (g p1)) - (48 : Int32))) + (g (p1 + (1 : Int32)))) - (48 : Int32))) + (g ((p1 + (1 : Int32)) + (1 : Int32)))) - (48 : Int32))) + (g (((p1 + (1 : Int32)) + (1 : Int32)) + (1 : Int32)))) - (48 : Int32))) + (g ((((p1 + (1 : Int32)) + (1 : Int32)) + (1 : Int32)) + (1 : Int32)))) - (48 : Int32))))))))))))
theorem own_l325_0 (p1 : Int32) (hlo : ¬ p1 < (0 : Int32)) (hhi : p1 < (4 : Int32)) : p1 < (p1 + (5 : Int32)) := by
  have h9 := own_h9 hhi (by decide)
  rcases own_c9 hlo h9 with rfl | rfl | rfl | rfl | rfl | rfl | rfl | rfl | rfl <;> revert hlo hhi <;> decide
theorem own_in5_0 (p1 : Int32) (hlo : ¬ p1 < (0 : Int32)) (hhi : p1 < (4 : Int32)) : ¬ p1 < (0 : Int32) ∧ p1 < (8 : Int32) := by
  have h9 := own_h9 hhi (by decide)
  rcases own_c9 hlo h9 with rfl | rfl | rfl | rfl | rfl | rfl | rfl | rfl | rfl <;> revert hlo hhi <;> decide
theorem own_l325_1 (p1 : Int32) (hlo : ¬ p1 < (0 : Int32)) (hhi : p1 < (4 : Int32)) : (p1 + (1 : Int32)) < (p1 + (5 : Int32)) := by
  have h9 := own_h9 hhi (by decide)
  rcases own_c9 hlo h9 with rfl | rfl | rfl | rfl | rfl | rfl | rfl | rfl | rfl <;> revert hlo hhi <;> decide
theorem own_in5_1 (p1 : Int32) (hlo : ¬ p1 < (0 : Int32)) (hhi : p1 < (4 : Int32)) : ¬ (p1 + (1 : Int32)) < (0 : Int32) ∧ (p1 + (1 : Int32)) < (8 : Int32) := by
  have h9 := own_h9 hhi (by decide)
  rcases own_c9 hlo h9 with rfl | rfl | rfl | rfl | rfl | rfl | rfl | rfl | rfl <;> revert hlo hhi <;> decide
theorem own_l325_2 (p1 : Int32) (hlo : ¬ p1 < (0 : Int32)) (hhi : p1 < (4 : Int32)) : ((p1 + (1 : Int32)) + (1 : Int32)) < (p1 + (5 : Int32)) := by
  have h9 := own_h9 hhi (by decide)
  rcases own_c9 hlo h9 with rfl | rfl | rfl | rfl | rfl | rfl | rfl | rfl | rfl <;> revert hlo hhi <;> decide
theorem own_in5_2 (p1 : Int32) (hlo : ¬ p1 < (0 : Int32)) (hhi : p1 < (4 : Int32)) : ¬ ((p1 + (1 : Int32)) + (1 : Int32)) < (0 : Int32) ∧ ((p1 + (1 : Int32)) + (1 : Int32)) < (8 : Int32) := by
  have h9 := own_h9 hhi (by decide)
  rcases own_c9 hlo h9 with rfl | rfl | rfl | rfl | rfl | rfl | rfl | rfl | rfl <;> revert hlo hhi <;> decide
theorem own_l325_3 (p1 : Int32) (hlo : ¬ p1 < (0 : Int32)) (hhi : p1 < (4 : Int32)) : (((p1 + (1 : Int32)) + (1 : Int32)) + (1 : Int32)) < (p1 + (5 : Int32)) := by
  have h9 := own_h9 hhi (by decide)
  rcases own_c9 hlo h9 with rfl | rfl | rfl | rfl | rfl | rfl | rfl | rfl | rfl <;> revert hlo hhi <;> decide
theorem own_in5_3 (p1 : Int32) (hlo : ¬ p1 < (0 : Int32)) (hhi : p1 < (4 : Int32)) : ¬ (((p1 + (1 : Int32)) + (1 : Int32)) + (1 : Int32)) < (0 : Int32) ∧ (((p1 + (1 : Int32)) + (1 : Int32)) + (1 : Int32)) < (8 : Int32) := by
  have h9 := own_h9 hhi (by decide)
  rcases own_c9 hlo h9 with rfl | rfl | rfl | rfl | rfl | rfl | rfl | rfl | rfl <;> revert hlo hhi <;> decide
theorem own_l325_4 (p1 : Int32) (hlo : ¬ p1 < (0 : Int32)) (hhi : p1 < (4 : Int32)) : ((((p1 + (1 : Int32)) + (1 : Int32)) + (1 : Int32)) + (1 : Int32)) < (p1 + (5 : Int32)) := by
  have h9 := own_h9 hhi (by decide)
  rcases own_c9 hlo h9 with rfl | rfl | rfl | rfl | rfl | rfl | rfl | rfl | rfl <;> revert hlo hhi <;> decide
theorem own_in5_4 (p1 : Int32) (hlo : ¬ p1 < (0 : Int32)) (hhi : p1 < (4 : Int32)) : ¬ ((((p1 + (1 : Int32)) + (1 : Int32)) + (1 : Int32)) + (1 : Int32)) < (0 : Int32) ∧ ((((p1 + (1 : Int32)) + (1 : Int32)) + (1 : Int32)) + (1 : Int32)) < (8 : Int32) := by
  have h9 := own_h9 hhi (by decide)
  rcases own_c9 hlo h9 with rfl | rfl | rfl | rfl | rfl | rfl | rfl | rfl | rfl <;> revert hlo hhi <;> decide
theorem own_l325_5 (p1 : Int32) (hlo : ¬ p1 < (0 : Int32)) (hhi : p1 < (4 : Int32)) : ¬ ((((((p1 + (1 : Int32)) + (1 : Int32)) + (1 : Int32)) + (1 : Int32)) + (1 : Int32)) < (p1 + (5 : Int32))) := by
  have h9 := own_h9 hhi (by decide)
  rcases own_c9 hlo h9 with rfl | rfl | rfl | rfl | rfl | rfl | rfl | rfl | rfl <;> revert hlo hhi <;> decide
def Q2_5 (Z : State) (a0 : Addr) (p1 : Int32) (k : ClassId) (vs : List Value) (g : Int32 → Int32) (h0 : Heap) (n0 : Nat) (v : Option Value) (h : Heap) (L : List Loc) : Prop := v = some (.int (own_f2_5 p1 g)) ∧ Fr n0 L ∧ h = h0
set_option maxRecDepth 65536 in
set_option maxHeartbeats 40000000 in
theorem rm2_5 (l : Launch) (Z : State) (aw : Array Value) (hw : ∀ d ∈ tables_1, d.before aw Z = true) (ws : List Jvm.Cond) (a0 : Addr) (p1 : Int32) (k : ClassId) (vs : List Value) (g : Int32 → Int32) (h0 : Heap) (n0 : Nat) (Z0 : n0 ≤ h0.size) (P0 : Arv Z h0 a0 k .byte (8 : Int32) vs (.int (0 : Int32))) (hg : ∀ j : Int32, ¬ j < (0 : Int32) ∧ j < (8 : Int32) → vs.getD j.toNatClampNeg (.int (0 : Int32)) = .int (g j)) (hlo : ¬ p1 < (0 : Int32)) (hhi : p1 < (4 : Int32)) :
    MetFree l (⟨"organico/records/Iso2709", "digits", "([BII)I"⟩ : MethodName) (head1 (Jvm.Cond.code (⟨"organico/records/Iso2709", "digits", "([BII)I"⟩ : MethodName) prog_62_method_5_code 5 (some .int) :: ws) ({ frames := 0, cells := 0, slots := 0, locals := 0 } : Room)) (fun a U => a = #[(.ref a0), (.int p1), (.int 5)] ∧ Z.Warmed39 U.vm ∧ U.heap = h0) (fun _ _ _ _ _ => True) (fun _ U o U' => ∃ v L, o = .returned v ∧ Q2_5 Z a0 p1 k vs g h0 n0 v U'.heap L ∧ FrameEnd U o U' L ({ frames := 0, cells := 0, slots := 0, locals := 0 } : Room).cells ({ frames := 0, cells := 0, slots := 0, locals := 0 } : Room).slots) := by
  refine MetFree.of_bodySF (plainFor_of_name pn_2) hisR ?_
  intro p e s m args below meth c s₁ Bd hml0 hP hK
  obtain ⟨rfl, hZ, hh⟩ := hP
  have hx := Bd.exec
  have hby := Bd.bytes
  have hml : c.maxLocals = 5 := hml0
  have hown : s.vm.findClass "organico/records/Iso2709" = some m.cls := findClass_of_methodNamed Bd.named
  have hnm := (name_of_methodNamed Bd.named Bd.method).1
  have hlk : meth.locks = false := by first | exact BodyLoose.notSynchronized (by assumption) | exact Body.notSynchronized (by assumption)
  have X0 : Stand p l e ({ frames := 0, cells := 0, slots := 0, locals := 0 } : Room) s m #[(.ref a0), (.int p1), (.int 5)] below meth c s₁ [] 0 0 := Stand.of_body Bd
  have e0 : s₁.heap = h0 := by rw [← hh, Bd.state]; rfl
  have N0 := Fr.nil n0
  have K0 : Keep h0 h0 [] := Keep.refl _ _
  refine own_start (CS := (0, 0)) (Q := (Q2_5 Z a0 p1 k vs g h0 n0)) (ef_2_5 m a0 p1 (5 : Int32)) ?_
  show own_Go p e below s _ _ (s₁.setTop (mkF m 0 #[rv a0, iv p1, iv 5, .unset, .unset] []))
  refine own_via (fun k => XS.iconst X0.here hx rfl (hb hby d2_0) (XS.istoreN X0.here hx rfl (hb hby d2_1) rfl (l' := #[rv a0, iv p1, iv 5, iv 0, .unset]) rfl (XS.iloadN X0.here hx rfl (hb hby d2_2) rfl  (XS.istore X0.here hx rfl (hb hby d2_3) rfl (l' := #[rv a0, iv p1, iv 5, iv 0, iv p1]) rfl k)))) ?_
  show own_Go p e below s _ _ (s₁.setTop (mkF m 5 #[rv a0, iv p1, iv 5, iv 0, iv p1] []))
  refine own_via (fun k => XS.iload X0.here hx rfl (hb hby d2_5) rfl  (XS.iloadN X0.here hx rfl (hb hby d2_7) rfl  (XS.iloadN X0.here hx rfl (hb hby d2_8) rfl  (XS.iadd X0.here hx rfl (hb hby d2_9) rfl k)))) ?_
  show own_Go p e below s _ _ (s₁.setTop (mkF m 10 #[rv a0, iv p1, iv 5, iv 0, iv p1] [(.int (p1 + (5 : Int32))), (.int p1)]))
  refine own_via (fun k => XS.icmpNo X0.here hx rfl (hb hby d2_10) rfl (tlt (own_l325_0 p1 hlo hhi)).2.1 k) ?_
  show own_Go p e below s _ _ (s₁.setTop (mkF m 13 #[rv a0, iv p1, iv 5, iv 0, iv p1] []))
  refine own_via (fun k => XS.aloadN X0.here hx rfl (hb hby d2_13) rfl rfl  (XS.iload X0.here hx rfl (hb hby d2_14) rfl  k)) ?_
  show own_Go p e below s _ _ (s₁.setTop (mkF m 16 #[rv a0, iv p1, iv 5, iv 0, iv p1] [(.int p1), (.ref a0)]))
  obtain ⟨cl1, Ar1, q1, S1, NN1, H1, G1⟩ := id P0
  have hin1 : ¬ (p1 < 0 ∨ cl1.slots.size ≤ (p1).toNatClampNeg) := inb_of S1 (own_in5_0 p1 hlo hhi)
  have hat1 : cl1.slots[(p1).toNatClampNeg]? = some (.int (g p1)) := H1.at hin1 (hg _ (own_in5_0 p1 hlo hhi))
  refine own_via (fun k => X0.baloadBytes hx (j := p1) (v := (.int (g p1))) (by rw [e0]; exact Ar1.1) (State.isArrayOf_alike hZ.alike Ar1.2.1) Ar1.2.2 hin1 hat1 (g := (mkF m 16 #[rv a0, iv p1, iv 5, iv 0, iv p1] [(.int p1), (.ref a0)])) rfl rfl (hb hby d2_16) _ k) ?_
  show own_Go p e below s _ _ (s₁.setTop (mkF m 17 #[rv a0, iv p1, iv 5, iv 0, iv p1] [(.int (g p1))]))
  refine own_via (fun k => XS.bipush X0.here hx rfl (hb hby d2_17) k) ?_
  show own_Go p e below s _ _ (s₁.setTop (mkF m 19 #[rv a0, iv p1, iv 5, iv 0, iv p1] [(.int 48), (.int (g p1))]))
  by_cases hc2 : (g p1) < (48 : Int32)
  · refine own_via (fun k => XS.icmpYes X0.here hx rfl (pc0 := 19) (pc' := 31) rfl (hb hby d2_19) rfl (tlt hc2).1 (by decide) (by decide) k) ?_
    show own_Go p e below s _ _ (s₁.setTop (mkF m 31 #[rv a0, iv p1, iv 5, iv 0, iv p1] []))
    refine own_via (fun k => XS.iconst X0.here hx rfl (hb hby d2_31) k) ?_
    show own_Go p e below s _ _ (s₁.setTop (mkF m 32 #[rv a0, iv p1, iv 5, iv 0, iv p1] [(.int (-1))]))
    exact own_retI X0 hx hlk Bd.returns (hb hby d2_32) (Q := (Q2_5 Z a0 p1 k vs g h0 n0)) ⟨(congrArg (fun z => some (Value.int z)) (show (-1 : Int32) = (own_f2_5 p1 g) from (by unfold own_f2_5; exact ((if_pos hc2).trans rfl).symm))), N0, e0⟩ (by decide) (by decide)
  · refine own_via (fun k => XS.icmpNo X0.here hx rfl (hb hby d2_19) rfl (flt hc2).1 k) ?_
    show own_Go p e below s _ _ (s₁.setTop (mkF m 22 #[rv a0, iv p1, iv 5, iv 0, iv p1] []))
    refine own_via (fun k => XS.aloadN X0.here hx rfl (hb hby d2_22) rfl rfl  (XS.iload X0.here hx rfl (hb hby d2_23) rfl  k)) ?_
    show own_Go p e below s _ _ (s₁.setTop (mkF m 25 #[rv a0, iv p1, iv 5, iv 0, iv p1] [(.int p1), (.ref a0)]))
    obtain ⟨cl3, Ar3, q3, S3, NN3, H3, G3⟩ := id P0
    have hin3 : ¬ (p1 < 0 ∨ cl3.slots.size ≤ (p1).toNatClampNeg) := inb_of S3 (own_in5_0 p1 hlo hhi)
    have hat3 : cl3.slots[(p1).toNatClampNeg]? = some (.int (g p1)) := H3.at hin3 (hg _ (own_in5_0 p1 hlo hhi))
    refine own_via (fun k => X0.baloadBytes hx (j := p1) (v := (.int (g p1))) (by rw [e0]; exact Ar3.1) (State.isArrayOf_alike hZ.alike Ar3.2.1) Ar3.2.2 hin3 hat3 (g := (mkF m 25 #[rv a0, iv p1, iv 5, iv 0, iv p1] [(.int p1), (.ref a0)])) rfl rfl (hb hby d2_25) _ k) ?_
    show own_Go p e below s _ _ (s₁.setTop (mkF m 26 #[rv a0, iv p1, iv 5, iv 0, iv p1] [(.int (g p1))]))
    refine own_via (fun k => XS.bipush X0.here hx rfl (hb hby d2_26) k) ?_
    show own_Go p e below s _ _ (s₁.setTop (mkF m 28 #[rv a0, iv p1, iv 5, iv 0, iv p1] [(.int 57), (.int (g p1))]))
    by_cases hc4 : (57 : Int32) < (g p1)
    · refine own_via (fun k => XS.icmpNo X0.here hx rfl (hb hby d2_28) rfl (tlt hc4).2.2.2 k) ?_
      show own_Go p e below s _ _ (s₁.setTop (mkF m 31 #[rv a0, iv p1, iv 5, iv 0, iv p1] []))
      refine own_via (fun k => XS.iconst X0.here hx rfl (hb hby d2_31) k) ?_
      show own_Go p e below s _ _ (s₁.setTop (mkF m 32 #[rv a0, iv p1, iv 5, iv 0, iv p1] [(.int (-1))]))
      exact own_retI X0 hx hlk Bd.returns (hb hby d2_32) (Q := (Q2_5 Z a0 p1 k vs g h0 n0)) ⟨(congrArg (fun z => some (Value.int z)) (show (-1 : Int32) = (own_f2_5 p1 g) from (by unfold own_f2_5; exact ((if_neg hc2).trans ((if_pos hc4).trans rfl)).symm))), N0, e0⟩ (by decide) (by decide)
    · refine own_via (fun k => XS.icmpYes X0.here hx rfl (pc0 := 28) (pc' := 33) rfl (hb hby d2_28) rfl (flt hc4).2.2.2 (by decide) (by decide) k) ?_
      show own_Go p e below s _ _ (s₁.setTop (mkF m 33 #[rv a0, iv p1, iv 5, iv 0, iv p1] []))
      refine own_via (fun k => XS.bipush X0.here hx rfl (hb hby d2_33) (XS.iloadN X0.here hx rfl (hb hby d2_35) rfl  (XS.imul X0.here hx rfl (hb hby d2_36) rfl (XS.aloadN X0.here hx rfl (hb hby d2_37) rfl rfl  k)))) ?_
      show own_Go p e below s _ _ (s₁.setTop (mkF m 38 #[rv a0, iv p1, iv 5, iv 0, iv p1] [(.ref a0), (.int 0)]))
      refine own_via (fun k => XS.iload X0.here hx rfl (hb hby d2_38) rfl  k) ?_
      show own_Go p e below s _ _ (s₁.setTop (mkF m 40 #[rv a0, iv p1, iv 5, iv 0, iv p1] [(.int p1), (.ref a0), (.int 0)]))
      obtain ⟨cl5, Ar5, q5, S5, NN5, H5, G5⟩ := id P0
      have hin5 : ¬ (p1 < 0 ∨ cl5.slots.size ≤ (p1).toNatClampNeg) := inb_of S5 (own_in5_0 p1 hlo hhi)
      have hat5 : cl5.slots[(p1).toNatClampNeg]? = some (.int (g p1)) := H5.at hin5 (hg _ (own_in5_0 p1 hlo hhi))
      refine own_via (fun k => X0.baloadBytes hx (j := p1) (v := (.int (g p1))) (by rw [e0]; exact Ar5.1) (State.isArrayOf_alike hZ.alike Ar5.2.1) Ar5.2.2 hin5 hat5 (g := (mkF m 40 #[rv a0, iv p1, iv 5, iv 0, iv p1] [(.int p1), (.ref a0), (.int 0)])) rfl rfl (hb hby d2_40) _ k) ?_
      show own_Go p e below s _ _ (s₁.setTop (mkF m 41 #[rv a0, iv p1, iv 5, iv 0, iv p1] [(.int (g p1)), (.int 0)]))
      refine own_via (fun k => XS.iadd X0.here hx rfl (hb hby d2_41) rfl (XS.bipush X0.here hx rfl (hb hby d2_42) (XS.isub X0.here hx rfl (hb hby d2_44) rfl (XS.istoreN X0.here hx rfl (hb hby d2_45) rfl (l' := #[rv a0, iv p1, iv 5, iv (((0 : Int32) + (g p1)) - (48 : Int32)), iv p1]) rfl k)))) ?_
      show own_Go p e below s _ _ (s₁.setTop (mkF m 46 #[rv a0, iv p1, iv 5, iv (((0 : Int32) + (g p1)) - (48 : Int32)), iv p1] []))
      refine own_via (fun k => XS.iinc X0.here hx rfl (hb hby d2_46) rfl (l' := #[rv a0, iv p1, iv 5, iv (((0 : Int32) + (g p1)) - (48 : Int32)), iv (p1 + (1 : Int32))]) rfl (XS.goto X0.here hx rfl (pc0 := 49) (pc' := 5) rfl (hb hby d2_49) (by decide) (by decide) (XS.iload X0.here hx rfl (hb hby d2_5) rfl  (XS.iloadN X0.here hx rfl (hb hby d2_7) rfl  k)))) ?_
      show own_Go p e below s _ _ (s₁.setTop (mkF m 8 #[rv a0, iv p1, iv 5, iv (((0 : Int32) + (g p1)) - (48 : Int32)), iv (p1 + (1 : Int32))] [(.int p1), (.int (p1 + (1 : Int32)))]))
      refine own_via (fun k => XS.iloadN X0.here hx rfl (hb hby d2_8) rfl  (XS.iadd X0.here hx rfl (hb hby d2_9) rfl k)) ?_
      show own_Go p e below s _ _ (s₁.setTop (mkF m 10 #[rv a0, iv p1, iv 5, iv (((0 : Int32) + (g p1)) - (48 : Int32)), iv (p1 + (1 : Int32))] [(.int (p1 + (5 : Int32))), (.int (p1 + (1 : Int32)))]))
      refine own_via (fun k => XS.icmpNo X0.here hx rfl (hb hby d2_10) rfl (tlt (own_l325_1 p1 hlo hhi)).2.1 k) ?_
      show own_Go p e below s _ _ (s₁.setTop (mkF m 13 #[rv a0, iv p1, iv 5, iv (((0 : Int32) + (g p1)) - (48 : Int32)), iv (p1 + (1 : Int32))] []))
      refine own_via (fun k => XS.aloadN X0.here hx rfl (hb hby d2_13) rfl rfl  (XS.iload X0.here hx rfl (hb hby d2_14) rfl  k)) ?_
      show own_Go p e below s _ _ (s₁.setTop (mkF m 16 #[rv a0, iv p1, iv 5, iv (((0 : Int32) + (g p1)) - (48 : Int32)), iv (p1 + (1 : Int32))] [(.int (p1 + (1 : Int32))), (.ref a0)]))
      obtain ⟨cl6, Ar6, q6, S6, NN6, H6, G6⟩ := id P0
      have hin6 : ¬ ((p1 + (1 : Int32)) < 0 ∨ cl6.slots.size ≤ ((p1 + (1 : Int32))).toNatClampNeg) := inb_of S6 (own_in5_1 p1 hlo hhi)
      have hat6 : cl6.slots[((p1 + (1 : Int32))).toNatClampNeg]? = some (.int (g (p1 + (1 : Int32)))) := H6.at hin6 (hg _ (own_in5_1 p1 hlo hhi))
      refine own_via (fun k => X0.baloadBytes hx (j := (p1 + (1 : Int32))) (v := (.int (g (p1 + (1 : Int32))))) (by rw [e0]; exact Ar6.1) (State.isArrayOf_alike hZ.alike Ar6.2.1) Ar6.2.2 hin6 hat6 (g := (mkF m 16 #[rv a0, iv p1, iv 5, iv (((0 : Int32) + (g p1)) - (48 : Int32)), iv (p1 + (1 : Int32))] [(.int (p1 + (1 : Int32))), (.ref a0)])) rfl rfl (hb hby d2_16) _ k) ?_
      show own_Go p e below s _ _ (s₁.setTop (mkF m 17 #[rv a0, iv p1, iv 5, iv (((0 : Int32) + (g p1)) - (48 : Int32)), iv (p1 + (1 : Int32))] [(.int (g (p1 + (1 : Int32))))]))
      refine own_via (fun k => XS.bipush X0.here hx rfl (hb hby d2_17) k) ?_
      show own_Go p e below s _ _ (s₁.setTop (mkF m 19 #[rv a0, iv p1, iv 5, iv (((0 : Int32) + (g p1)) - (48 : Int32)), iv (p1 + (1 : Int32))] [(.int 48), (.int (g (p1 + (1 : Int32))))]))
      by_cases hc7 : (g (p1 + (1 : Int32))) < (48 : Int32)
      · refine own_via (fun k => XS.icmpYes X0.here hx rfl (pc0 := 19) (pc' := 31) rfl (hb hby d2_19) rfl (tlt hc7).1 (by decide) (by decide) k) ?_
        show own_Go p e below s _ _ (s₁.setTop (mkF m 31 #[rv a0, iv p1, iv 5, iv (((0 : Int32) + (g p1)) - (48 : Int32)), iv (p1 + (1 : Int32))] []))
        refine own_via (fun k => XS.iconst X0.here hx rfl (hb hby d2_31) k) ?_
        show own_Go p e below s _ _ (s₁.setTop (mkF m 32 #[rv a0, iv p1, iv 5, iv (((0 : Int32) + (g p1)) - (48 : Int32)), iv (p1 + (1 : Int32))] [(.int (-1))]))
        exact own_retI X0 hx hlk Bd.returns (hb hby d2_32) (Q := (Q2_5 Z a0 p1 k vs g h0 n0)) ⟨(congrArg (fun z => some (Value.int z)) (show (-1 : Int32) = (own_f2_5 p1 g) from (by unfold own_f2_5; exact ((if_neg hc2).trans ((if_neg hc4).trans ((if_pos hc7).trans rfl))).symm))), N0, e0⟩ (by decide) (by decide)
      · refine own_via (fun k => XS.icmpNo X0.here hx rfl (hb hby d2_19) rfl (flt hc7).1 k) ?_
        show own_Go p e below s _ _ (s₁.setTop (mkF m 22 #[rv a0, iv p1, iv 5, iv (((0 : Int32) + (g p1)) - (48 : Int32)), iv (p1 + (1 : Int32))] []))
        refine own_via (fun k => XS.aloadN X0.here hx rfl (hb hby d2_22) rfl rfl  (XS.iload X0.here hx rfl (hb hby d2_23) rfl  k)) ?_
        show own_Go p e below s _ _ (s₁.setTop (mkF m 25 #[rv a0, iv p1, iv 5, iv (((0 : Int32) + (g p1)) - (48 : Int32)), iv (p1 + (1 : Int32))] [(.int (p1 + (1 : Int32))), (.ref a0)]))
        obtain ⟨cl8, Ar8, q8, S8, NN8, H8, G8⟩ := id P0
        have hin8 : ¬ ((p1 + (1 : Int32)) < 0 ∨ cl8.slots.size ≤ ((p1 + (1 : Int32))).toNatClampNeg) := inb_of S8 (own_in5_1 p1 hlo hhi)
        have hat8 : cl8.slots[((p1 + (1 : Int32))).toNatClampNeg]? = some (.int (g (p1 + (1 : Int32)))) := H8.at hin8 (hg _ (own_in5_1 p1 hlo hhi))
        refine own_via (fun k => X0.baloadBytes hx (j := (p1 + (1 : Int32))) (v := (.int (g (p1 + (1 : Int32))))) (by rw [e0]; exact Ar8.1) (State.isArrayOf_alike hZ.alike Ar8.2.1) Ar8.2.2 hin8 hat8 (g := (mkF m 25 #[rv a0, iv p1, iv 5, iv (((0 : Int32) + (g p1)) - (48 : Int32)), iv (p1 + (1 : Int32))] [(.int (p1 + (1 : Int32))), (.ref a0)])) rfl rfl (hb hby d2_25) _ k) ?_
        show own_Go p e below s _ _ (s₁.setTop (mkF m 26 #[rv a0, iv p1, iv 5, iv (((0 : Int32) + (g p1)) - (48 : Int32)), iv (p1 + (1 : Int32))] [(.int (g (p1 + (1 : Int32))))]))
        refine own_via (fun k => XS.bipush X0.here hx rfl (hb hby d2_26) k) ?_
        show own_Go p e below s _ _ (s₁.setTop (mkF m 28 #[rv a0, iv p1, iv 5, iv (((0 : Int32) + (g p1)) - (48 : Int32)), iv (p1 + (1 : Int32))] [(.int 57), (.int (g (p1 + (1 : Int32))))]))
        by_cases hc9 : (57 : Int32) < (g (p1 + (1 : Int32)))
        · refine own_via (fun k => XS.icmpNo X0.here hx rfl (hb hby d2_28) rfl (tlt hc9).2.2.2 k) ?_
          show own_Go p e below s _ _ (s₁.setTop (mkF m 31 #[rv a0, iv p1, iv 5, iv (((0 : Int32) + (g p1)) - (48 : Int32)), iv (p1 + (1 : Int32))] []))
          refine own_via (fun k => XS.iconst X0.here hx rfl (hb hby d2_31) k) ?_
          show own_Go p e below s _ _ (s₁.setTop (mkF m 32 #[rv a0, iv p1, iv 5, iv (((0 : Int32) + (g p1)) - (48 : Int32)), iv (p1 + (1 : Int32))] [(.int (-1))]))
          exact own_retI X0 hx hlk Bd.returns (hb hby d2_32) (Q := (Q2_5 Z a0 p1 k vs g h0 n0)) ⟨(congrArg (fun z => some (Value.int z)) (show (-1 : Int32) = (own_f2_5 p1 g) from (by unfold own_f2_5; exact ((if_neg hc2).trans ((if_neg hc4).trans ((if_neg hc7).trans ((if_pos hc9).trans rfl)))).symm))), N0, e0⟩ (by decide) (by decide)
        · refine own_via (fun k => XS.icmpYes X0.here hx rfl (pc0 := 28) (pc' := 33) rfl (hb hby d2_28) rfl (flt hc9).2.2.2 (by decide) (by decide) k) ?_
          show own_Go p e below s _ _ (s₁.setTop (mkF m 33 #[rv a0, iv p1, iv 5, iv (((0 : Int32) + (g p1)) - (48 : Int32)), iv (p1 + (1 : Int32))] []))
          refine own_via (fun k => XS.bipush X0.here hx rfl (hb hby d2_33) (XS.iloadN X0.here hx rfl (hb hby d2_35) rfl  (XS.imul X0.here hx rfl (hb hby d2_36) rfl (XS.aloadN X0.here hx rfl (hb hby d2_37) rfl rfl  k)))) ?_
          show own_Go p e below s _ _ (s₁.setTop (mkF m 38 #[rv a0, iv p1, iv 5, iv (((0 : Int32) + (g p1)) - (48 : Int32)), iv (p1 + (1 : Int32))] [(.ref a0), (.int ((10 : Int32) * (((0 : Int32) + (g p1)) - (48 : Int32))))]))
          refine own_via (fun k => XS.iload X0.here hx rfl (hb hby d2_38) rfl  k) ?_
          show own_Go p e below s _ _ (s₁.setTop (mkF m 40 #[rv a0, iv p1, iv 5, iv (((0 : Int32) + (g p1)) - (48 : Int32)), iv (p1 + (1 : Int32))] [(.int (p1 + (1 : Int32))), (.ref a0), (.int ((10 : Int32) * (((0 : Int32) + (g p1)) - (48 : Int32))))]))
          obtain ⟨cl10, Ar10, q10, S10, NN10, H10, G10⟩ := id P0
          have hin10 : ¬ ((p1 + (1 : Int32)) < 0 ∨ cl10.slots.size ≤ ((p1 + (1 : Int32))).toNatClampNeg) := inb_of S10 (own_in5_1 p1 hlo hhi)
          have hat10 : cl10.slots[((p1 + (1 : Int32))).toNatClampNeg]? = some (.int (g (p1 + (1 : Int32)))) := H10.at hin10 (hg _ (own_in5_1 p1 hlo hhi))
          refine own_via (fun k => X0.baloadBytes hx (j := (p1 + (1 : Int32))) (v := (.int (g (p1 + (1 : Int32))))) (by rw [e0]; exact Ar10.1) (State.isArrayOf_alike hZ.alike Ar10.2.1) Ar10.2.2 hin10 hat10 (g := (mkF m 40 #[rv a0, iv p1, iv 5, iv (((0 : Int32) + (g p1)) - (48 : Int32)), iv (p1 + (1 : Int32))] [(.int (p1 + (1 : Int32))), (.ref a0), (.int ((10 : Int32) * (((0 : Int32) + (g p1)) - (48 : Int32))))])) rfl rfl (hb hby d2_40) _ k) ?_
          show own_Go p e below s _ _ (s₁.setTop (mkF m 41 #[rv a0, iv p1, iv 5, iv (((0 : Int32) + (g p1)) - (48 : Int32)), iv (p1 + (1 : Int32))] [(.int (g (p1 + (1 : Int32)))), (.int ((10 : Int32) * (((0 : Int32) + (g p1)) - (48 : Int32))))]))
          refine own_via (fun k => XS.iadd X0.here hx rfl (hb hby d2_41) rfl (XS.bipush X0.here hx rfl (hb hby d2_42) (XS.isub X0.here hx rfl (hb hby d2_44) rfl (XS.istoreN X0.here hx rfl (hb hby d2_45) rfl (l' := #[rv a0, iv p1, iv 5, iv ((((10 : Int32) * (((0 : Int32) + (g p1)) - (48 : Int32))) + (g (p1 + (1 : Int32)))) - (48 : Int32)), iv (p1 + (1 : Int32))]) rfl k)))) ?_
          show own_Go p e below s _ _ (s₁.setTop (mkF m 46 #[rv a0, iv p1, iv 5, iv ((((10 : Int32) * (((0 : Int32) + (g p1)) - (48 : Int32))) + (g (p1 + (1 : Int32)))) - (48 : Int32)), iv (p1 + (1 : Int32))] []))
          refine own_via (fun k => XS.iinc X0.here hx rfl (hb hby d2_46) rfl (l' := #[rv a0, iv p1, iv 5, iv ((((10 : Int32) * (((0 : Int32) + (g p1)) - (48 : Int32))) + (g (p1 + (1 : Int32)))) - (48 : Int32)), iv ((p1 + (1 : Int32)) + (1 : Int32))]) rfl (XS.goto X0.here hx rfl (pc0 := 49) (pc' := 5) rfl (hb hby d2_49) (by decide) (by decide) (XS.iload X0.here hx rfl (hb hby d2_5) rfl  (XS.iloadN X0.here hx rfl (hb hby d2_7) rfl  k)))) ?_
          show own_Go p e below s _ _ (s₁.setTop (mkF m 8 #[rv a0, iv p1, iv 5, iv ((((10 : Int32) * (((0 : Int32) + (g p1)) - (48 : Int32))) + (g (p1 + (1 : Int32)))) - (48 : Int32)), iv ((p1 + (1 : Int32)) + (1 : Int32))] [(.int p1), (.int ((p1 + (1 : Int32)) + (1 : Int32)))]))
          refine own_via (fun k => XS.iloadN X0.here hx rfl (hb hby d2_8) rfl  (XS.iadd X0.here hx rfl (hb hby d2_9) rfl k)) ?_
          show own_Go p e below s _ _ (s₁.setTop (mkF m 10 #[rv a0, iv p1, iv 5, iv ((((10 : Int32) * (((0 : Int32) + (g p1)) - (48 : Int32))) + (g (p1 + (1 : Int32)))) - (48 : Int32)), iv ((p1 + (1 : Int32)) + (1 : Int32))] [(.int (p1 + (5 : Int32))), (.int ((p1 + (1 : Int32)) + (1 : Int32)))]))
          refine own_via (fun k => XS.icmpNo X0.here hx rfl (hb hby d2_10) rfl (tlt (own_l325_2 p1 hlo hhi)).2.1 k) ?_
          show own_Go p e below s _ _ (s₁.setTop (mkF m 13 #[rv a0, iv p1, iv 5, iv ((((10 : Int32) * (((0 : Int32) + (g p1)) - (48 : Int32))) + (g (p1 + (1 : Int32)))) - (48 : Int32)), iv ((p1 + (1 : Int32)) + (1 : Int32))] []))
          refine own_via (fun k => XS.aloadN X0.here hx rfl (hb hby d2_13) rfl rfl  (XS.iload X0.here hx rfl (hb hby d2_14) rfl  k)) ?_
          show own_Go p e below s _ _ (s₁.setTop (mkF m 16 #[rv a0, iv p1, iv 5, iv ((((10 : Int32) * (((0 : Int32) + (g p1)) - (48 : Int32))) + (g (p1 + (1 : Int32)))) - (48 : Int32)), iv ((p1 + (1 : Int32)) + (1 : Int32))] [(.int ((p1 + (1 : Int32)) + (1 : Int32))), (.ref a0)]))
          obtain ⟨cl11, Ar11, q11, S11, NN11, H11, G11⟩ := id P0
          have hin11 : ¬ (((p1 + (1 : Int32)) + (1 : Int32)) < 0 ∨ cl11.slots.size ≤ (((p1 + (1 : Int32)) + (1 : Int32))).toNatClampNeg) := inb_of S11 (own_in5_2 p1 hlo hhi)
          have hat11 : cl11.slots[(((p1 + (1 : Int32)) + (1 : Int32))).toNatClampNeg]? = some (.int (g ((p1 + (1 : Int32)) + (1 : Int32)))) := H11.at hin11 (hg _ (own_in5_2 p1 hlo hhi))
          refine own_via (fun k => X0.baloadBytes hx (j := ((p1 + (1 : Int32)) + (1 : Int32))) (v := (.int (g ((p1 + (1 : Int32)) + (1 : Int32))))) (by rw [e0]; exact Ar11.1) (State.isArrayOf_alike hZ.alike Ar11.2.1) Ar11.2.2 hin11 hat11 (g := (mkF m 16 #[rv a0, iv p1, iv 5, iv ((((10 : Int32) * (((0 : Int32) + (g p1)) - (48 : Int32))) + (g (p1 + (1 : Int32)))) - (48 : Int32)), iv ((p1 + (1 : Int32)) + (1 : Int32))] [(.int ((p1 + (1 : Int32)) + (1 : Int32))), (.ref a0)])) rfl rfl (hb hby d2_16) _ k) ?_
          show own_Go p e below s _ _ (s₁.setTop (mkF m 17 #[rv a0, iv p1, iv 5, iv ((((10 : Int32) * (((0 : Int32) + (g p1)) - (48 : Int32))) + (g (p1 + (1 : Int32)))) - (48 : Int32)), iv ((p1 + (1 : Int32)) + (1 : Int32))] [(.int (g ((p1 + (1 : Int32)) + (1 : Int32))))]))
          refine own_via (fun k => XS.bipush X0.here hx rfl (hb hby d2_17) k) ?_
          show own_Go p e below s _ _ (s₁.setTop (mkF m 19 #[rv a0, iv p1, iv 5, iv ((((10 : Int32) * (((0 : Int32) + (g p1)) - (48 : Int32))) + (g (p1 + (1 : Int32)))) - (48 : Int32)), iv ((p1 + (1 : Int32)) + (1 : Int32))] [(.int 48), (.int (g ((p1 + (1 : Int32)) + (1 : Int32))))]))
          by_cases hc12 : (g ((p1 + (1 : Int32)) + (1 : Int32))) < (48 : Int32)
          · refine own_via (fun k => XS.icmpYes X0.here hx rfl (pc0 := 19) (pc' := 31) rfl (hb hby d2_19) rfl (tlt hc12).1 (by decide) (by decide) k) ?_
            show own_Go p e below s _ _ (s₁.setTop (mkF m 31 #[rv a0, iv p1, iv 5, iv ((((10 : Int32) * (((0 : Int32) + (g p1)) - (48 : Int32))) + (g (p1 + (1 : Int32)))) - (48 : Int32)), iv ((p1 + (1 : Int32)) + (1 : Int32))] []))
            refine own_via (fun k => XS.iconst X0.here hx rfl (hb hby d2_31) k) ?_
            show own_Go p e below s _ _ (s₁.setTop (mkF m 32 #[rv a0, iv p1, iv 5, iv ((((10 : Int32) * (((0 : Int32) + (g p1)) - (48 : Int32))) + (g (p1 + (1 : Int32)))) - (48 : Int32)), iv ((p1 + (1 : Int32)) + (1 : Int32))] [(.int (-1))]))
            exact own_retI X0 hx hlk Bd.returns (hb hby d2_32) (Q := (Q2_5 Z a0 p1 k vs g h0 n0)) ⟨(congrArg (fun z => some (Value.int z)) (show (-1 : Int32) = (own_f2_5 p1 g) from (by unfold own_f2_5; exact ((if_neg hc2).trans ((if_neg hc4).trans ((if_neg hc7).trans ((if_neg hc9).trans ((if_pos hc12).trans rfl))))).symm))), N0, e0⟩ (by decide) (by decide)
          · refine own_via (fun k => XS.icmpNo X0.here hx rfl (hb hby d2_19) rfl (flt hc12).1 k) ?_
            show own_Go p e below s _ _ (s₁.setTop (mkF m 22 #[rv a0, iv p1, iv 5, iv ((((10 : Int32) * (((0 : Int32) + (g p1)) - (48 : Int32))) + (g (p1 + (1 : Int32)))) - (48 : Int32)), iv ((p1 + (1 : Int32)) + (1 : Int32))] []))
            refine own_via (fun k => XS.aloadN X0.here hx rfl (hb hby d2_22) rfl rfl  (XS.iload X0.here hx rfl (hb hby d2_23) rfl  k)) ?_
            show own_Go p e below s _ _ (s₁.setTop (mkF m 25 #[rv a0, iv p1, iv 5, iv ((((10 : Int32) * (((0 : Int32) + (g p1)) - (48 : Int32))) + (g (p1 + (1 : Int32)))) - (48 : Int32)), iv ((p1 + (1 : Int32)) + (1 : Int32))] [(.int ((p1 + (1 : Int32)) + (1 : Int32))), (.ref a0)]))
            obtain ⟨cl13, Ar13, q13, S13, NN13, H13, G13⟩ := id P0
            have hin13 : ¬ (((p1 + (1 : Int32)) + (1 : Int32)) < 0 ∨ cl13.slots.size ≤ (((p1 + (1 : Int32)) + (1 : Int32))).toNatClampNeg) := inb_of S13 (own_in5_2 p1 hlo hhi)
            have hat13 : cl13.slots[(((p1 + (1 : Int32)) + (1 : Int32))).toNatClampNeg]? = some (.int (g ((p1 + (1 : Int32)) + (1 : Int32)))) := H13.at hin13 (hg _ (own_in5_2 p1 hlo hhi))
            refine own_via (fun k => X0.baloadBytes hx (j := ((p1 + (1 : Int32)) + (1 : Int32))) (v := (.int (g ((p1 + (1 : Int32)) + (1 : Int32))))) (by rw [e0]; exact Ar13.1) (State.isArrayOf_alike hZ.alike Ar13.2.1) Ar13.2.2 hin13 hat13 (g := (mkF m 25 #[rv a0, iv p1, iv 5, iv ((((10 : Int32) * (((0 : Int32) + (g p1)) - (48 : Int32))) + (g (p1 + (1 : Int32)))) - (48 : Int32)), iv ((p1 + (1 : Int32)) + (1 : Int32))] [(.int ((p1 + (1 : Int32)) + (1 : Int32))), (.ref a0)])) rfl rfl (hb hby d2_25) _ k) ?_
            show own_Go p e below s _ _ (s₁.setTop (mkF m 26 #[rv a0, iv p1, iv 5, iv ((((10 : Int32) * (((0 : Int32) + (g p1)) - (48 : Int32))) + (g (p1 + (1 : Int32)))) - (48 : Int32)), iv ((p1 + (1 : Int32)) + (1 : Int32))] [(.int (g ((p1 + (1 : Int32)) + (1 : Int32))))]))
            refine own_via (fun k => XS.bipush X0.here hx rfl (hb hby d2_26) k) ?_
            show own_Go p e below s _ _ (s₁.setTop (mkF m 28 #[rv a0, iv p1, iv 5, iv ((((10 : Int32) * (((0 : Int32) + (g p1)) - (48 : Int32))) + (g (p1 + (1 : Int32)))) - (48 : Int32)), iv ((p1 + (1 : Int32)) + (1 : Int32))] [(.int 57), (.int (g ((p1 + (1 : Int32)) + (1 : Int32))))]))
            by_cases hc14 : (57 : Int32) < (g ((p1 + (1 : Int32)) + (1 : Int32)))
            · refine own_via (fun k => XS.icmpNo X0.here hx rfl (hb hby d2_28) rfl (tlt hc14).2.2.2 k) ?_
              show own_Go p e below s _ _ (s₁.setTop (mkF m 31 #[rv a0, iv p1, iv 5, iv ((((10 : Int32) * (((0 : Int32) + (g p1)) - (48 : Int32))) + (g (p1 + (1 : Int32)))) - (48 : Int32)), iv ((p1 + (1 : Int32)) + (1 : Int32))] []))
              refine own_via (fun k => XS.iconst X0.here hx rfl (hb hby d2_31) k) ?_
              show own_Go p e below s _ _ (s₁.setTop (mkF m 32 #[rv a0, iv p1, iv 5, iv ((((10 : Int32) * (((0 : Int32) + (g p1)) - (48 : Int32))) + (g (p1 + (1 : Int32)))) - (48 : Int32)), iv ((p1 + (1 : Int32)) + (1 : Int32))] [(.int (-1))]))
              exact own_retI X0 hx hlk Bd.returns (hb hby d2_32) (Q := (Q2_5 Z a0 p1 k vs g h0 n0)) ⟨(congrArg (fun z => some (Value.int z)) (show (-1 : Int32) = (own_f2_5 p1 g) from (by unfold own_f2_5; exact ((if_neg hc2).trans ((if_neg hc4).trans ((if_neg hc7).trans ((if_neg hc9).trans ((if_neg hc12).trans ((if_pos hc14).trans rfl)))))).symm))), N0, e0⟩ (by decide) (by decide)
            · refine own_via (fun k => XS.icmpYes X0.here hx rfl (pc0 := 28) (pc' := 33) rfl (hb hby d2_28) rfl (flt hc14).2.2.2 (by decide) (by decide) k) ?_
              show own_Go p e below s _ _ (s₁.setTop (mkF m 33 #[rv a0, iv p1, iv 5, iv ((((10 : Int32) * (((0 : Int32) + (g p1)) - (48 : Int32))) + (g (p1 + (1 : Int32)))) - (48 : Int32)), iv ((p1 + (1 : Int32)) + (1 : Int32))] []))
              refine own_via (fun k => XS.bipush X0.here hx rfl (hb hby d2_33) (XS.iloadN X0.here hx rfl (hb hby d2_35) rfl  (XS.imul X0.here hx rfl (hb hby d2_36) rfl (XS.aloadN X0.here hx rfl (hb hby d2_37) rfl rfl  k)))) ?_
              show own_Go p e below s _ _ (s₁.setTop (mkF m 38 #[rv a0, iv p1, iv 5, iv ((((10 : Int32) * (((0 : Int32) + (g p1)) - (48 : Int32))) + (g (p1 + (1 : Int32)))) - (48 : Int32)), iv ((p1 + (1 : Int32)) + (1 : Int32))] [(.ref a0), (.int ((10 : Int32) * ((((10 : Int32) * (((0 : Int32) + (g p1)) - (48 : Int32))) + (g (p1 + (1 : Int32)))) - (48 : Int32))))]))
              refine own_via (fun k => XS.iload X0.here hx rfl (hb hby d2_38) rfl  k) ?_
              show own_Go p e below s _ _ (s₁.setTop (mkF m 40 #[rv a0, iv p1, iv 5, iv ((((10 : Int32) * (((0 : Int32) + (g p1)) - (48 : Int32))) + (g (p1 + (1 : Int32)))) - (48 : Int32)), iv ((p1 + (1 : Int32)) + (1 : Int32))] [(.int ((p1 + (1 : Int32)) + (1 : Int32))), (.ref a0), (.int ((10 : Int32) * ((((10 : Int32) * (((0 : Int32) + (g p1)) - (48 : Int32))) + (g (p1 + (1 : Int32)))) - (48 : Int32))))]))
              obtain ⟨cl15, Ar15, q15, S15, NN15, H15, G15⟩ := id P0
              have hin15 : ¬ (((p1 + (1 : Int32)) + (1 : Int32)) < 0 ∨ cl15.slots.size ≤ (((p1 + (1 : Int32)) + (1 : Int32))).toNatClampNeg) := inb_of S15 (own_in5_2 p1 hlo hhi)
              have hat15 : cl15.slots[(((p1 + (1 : Int32)) + (1 : Int32))).toNatClampNeg]? = some (.int (g ((p1 + (1 : Int32)) + (1 : Int32)))) := H15.at hin15 (hg _ (own_in5_2 p1 hlo hhi))
              refine own_via (fun k => X0.baloadBytes hx (j := ((p1 + (1 : Int32)) + (1 : Int32))) (v := (.int (g ((p1 + (1 : Int32)) + (1 : Int32))))) (by rw [e0]; exact Ar15.1) (State.isArrayOf_alike hZ.alike Ar15.2.1) Ar15.2.2 hin15 hat15 (g := (mkF m 40 #[rv a0, iv p1, iv 5, iv ((((10 : Int32) * (((0 : Int32) + (g p1)) - (48 : Int32))) + (g (p1 + (1 : Int32)))) - (48 : Int32)), iv ((p1 + (1 : Int32)) + (1 : Int32))] [(.int ((p1 + (1 : Int32)) + (1 : Int32))), (.ref a0), (.int ((10 : Int32) * ((((10 : Int32) * (((0 : Int32) + (g p1)) - (48 : Int32))) + (g (p1 + (1 : Int32)))) - (48 : Int32))))])) rfl rfl (hb hby d2_40) _ k) ?_
              show own_Go p e below s _ _ (s₁.setTop (mkF m 41 #[rv a0, iv p1, iv 5, iv ((((10 : Int32) * (((0 : Int32) + (g p1)) - (48 : Int32))) + (g (p1 + (1 : Int32)))) - (48 : Int32)), iv ((p1 + (1 : Int32)) + (1 : Int32))] [(.int (g ((p1 + (1 : Int32)) + (1 : Int32)))), (.int ((10 : Int32) * ((((10 : Int32) * (((0 : Int32) + (g p1)) - (48 : Int32))) + (g (p1 + (1 : Int32)))) - (48 : Int32))))]))
              refine own_via (fun k => XS.iadd X0.here hx rfl (hb hby d2_41) rfl (XS.bipush X0.here hx rfl (hb hby d2_42) (XS.isub X0.here hx rfl (hb hby d2_44) rfl (XS.istoreN X0.here hx rfl (hb hby d2_45) rfl (l' := #[rv a0, iv p1, iv 5, iv ((((10 : Int32) * ((((10 : Int32) * (((0 : Int32) + (g p1)) - (48 : Int32))) + (g (p1 + (1 : Int32)))) - (48 : Int32))) + (g ((p1 + (1 : Int32)) + (1 : Int32)))) - (48 : Int32)), iv ((p1 + (1 : Int32)) + (1 : Int32))]) rfl k)))) ?_
              show own_Go p e below s _ _ (s₁.setTop (mkF m 46 #[rv a0, iv p1, iv 5, iv ((((10 : Int32) * ((((10 : Int32) * (((0 : Int32) + (g p1)) - (48 : Int32))) + (g (p1 + (1 : Int32)))) - (48 : Int32))) + (g ((p1 + (1 : Int32)) + (1 : Int32)))) - (48 : Int32)), iv ((p1 + (1 : Int32)) + (1 : Int32))] []))
              refine own_via (fun k => XS.iinc X0.here hx rfl (hb hby d2_46) rfl (l' := #[rv a0, iv p1, iv 5, iv ((((10 : Int32) * ((((10 : Int32) * (((0 : Int32) + (g p1)) - (48 : Int32))) + (g (p1 + (1 : Int32)))) - (48 : Int32))) + (g ((p1 + (1 : Int32)) + (1 : Int32)))) - (48 : Int32)), iv (((p1 + (1 : Int32)) + (1 : Int32)) + (1 : Int32))]) rfl (XS.goto X0.here hx rfl (pc0 := 49) (pc' := 5) rfl (hb hby d2_49) (by decide) (by decide) (XS.iload X0.here hx rfl (hb hby d2_5) rfl  (XS.iloadN X0.here hx rfl (hb hby d2_7) rfl  k)))) ?_
              show own_Go p e below s _ _ (s₁.setTop (mkF m 8 #[rv a0, iv p1, iv 5, iv ((((10 : Int32) * ((((10 : Int32) * (((0 : Int32) + (g p1)) - (48 : Int32))) + (g (p1 + (1 : Int32)))) - (48 : Int32))) + (g ((p1 + (1 : Int32)) + (1 : Int32)))) - (48 : Int32)), iv (((p1 + (1 : Int32)) + (1 : Int32)) + (1 : Int32))] [(.int p1), (.int (((p1 + (1 : Int32)) + (1 : Int32)) + (1 : Int32)))]))
              refine own_via (fun k => XS.iloadN X0.here hx rfl (hb hby d2_8) rfl  (XS.iadd X0.here hx rfl (hb hby d2_9) rfl k)) ?_
              show own_Go p e below s _ _ (s₁.setTop (mkF m 10 #[rv a0, iv p1, iv 5, iv ((((10 : Int32) * ((((10 : Int32) * (((0 : Int32) + (g p1)) - (48 : Int32))) + (g (p1 + (1 : Int32)))) - (48 : Int32))) + (g ((p1 + (1 : Int32)) + (1 : Int32)))) - (48 : Int32)), iv (((p1 + (1 : Int32)) + (1 : Int32)) + (1 : Int32))] [(.int (p1 + (5 : Int32))), (.int (((p1 + (1 : Int32)) + (1 : Int32)) + (1 : Int32)))]))
              refine own_via (fun k => XS.icmpNo X0.here hx rfl (hb hby d2_10) rfl (tlt (own_l325_3 p1 hlo hhi)).2.1 k) ?_
              show own_Go p e below s _ _ (s₁.setTop (mkF m 13 #[rv a0, iv p1, iv 5, iv ((((10 : Int32) * ((((10 : Int32) * (((0 : Int32) + (g p1)) - (48 : Int32))) + (g (p1 + (1 : Int32)))) - (48 : Int32))) + (g ((p1 + (1 : Int32)) + (1 : Int32)))) - (48 : Int32)), iv (((p1 + (1 : Int32)) + (1 : Int32)) + (1 : Int32))] []))
              refine own_via (fun k => XS.aloadN X0.here hx rfl (hb hby d2_13) rfl rfl  (XS.iload X0.here hx rfl (hb hby d2_14) rfl  k)) ?_
              show own_Go p e below s _ _ (s₁.setTop (mkF m 16 #[rv a0, iv p1, iv 5, iv ((((10 : Int32) * ((((10 : Int32) * (((0 : Int32) + (g p1)) - (48 : Int32))) + (g (p1 + (1 : Int32)))) - (48 : Int32))) + (g ((p1 + (1 : Int32)) + (1 : Int32)))) - (48 : Int32)), iv (((p1 + (1 : Int32)) + (1 : Int32)) + (1 : Int32))] [(.int (((p1 + (1 : Int32)) + (1 : Int32)) + (1 : Int32))), (.ref a0)]))
              obtain ⟨cl16, Ar16, q16, S16, NN16, H16, G16⟩ := id P0
              have hin16 : ¬ ((((p1 + (1 : Int32)) + (1 : Int32)) + (1 : Int32)) < 0 ∨ cl16.slots.size ≤ ((((p1 + (1 : Int32)) + (1 : Int32)) + (1 : Int32))).toNatClampNeg) := inb_of S16 (own_in5_3 p1 hlo hhi)
              have hat16 : cl16.slots[((((p1 + (1 : Int32)) + (1 : Int32)) + (1 : Int32))).toNatClampNeg]? = some (.int (g (((p1 + (1 : Int32)) + (1 : Int32)) + (1 : Int32)))) := H16.at hin16 (hg _ (own_in5_3 p1 hlo hhi))
              refine own_via (fun k => X0.baloadBytes hx (j := (((p1 + (1 : Int32)) + (1 : Int32)) + (1 : Int32))) (v := (.int (g (((p1 + (1 : Int32)) + (1 : Int32)) + (1 : Int32))))) (by rw [e0]; exact Ar16.1) (State.isArrayOf_alike hZ.alike Ar16.2.1) Ar16.2.2 hin16 hat16 (g := (mkF m 16 #[rv a0, iv p1, iv 5, iv ((((10 : Int32) * ((((10 : Int32) * (((0 : Int32) + (g p1)) - (48 : Int32))) + (g (p1 + (1 : Int32)))) - (48 : Int32))) + (g ((p1 + (1 : Int32)) + (1 : Int32)))) - (48 : Int32)), iv (((p1 + (1 : Int32)) + (1 : Int32)) + (1 : Int32))] [(.int (((p1 + (1 : Int32)) + (1 : Int32)) + (1 : Int32))), (.ref a0)])) rfl rfl (hb hby d2_16) _ k) ?_
              show own_Go p e below s _ _ (s₁.setTop (mkF m 17 #[rv a0, iv p1, iv 5, iv ((((10 : Int32) * ((((10 : Int32) * (((0 : Int32) + (g p1)) - (48 : Int32))) + (g (p1 + (1 : Int32)))) - (48 : Int32))) + (g ((p1 + (1 : Int32)) + (1 : Int32)))) - (48 : Int32)), iv (((p1 + (1 : Int32)) + (1 : Int32)) + (1 : Int32))] [(.int (g (((p1 + (1 : Int32)) + (1 : Int32)) + (1 : Int32))))]))
              refine own_via (fun k => XS.bipush X0.here hx rfl (hb hby d2_17) k) ?_
              show own_Go p e below s _ _ (s₁.setTop (mkF m 19 #[rv a0, iv p1, iv 5, iv ((((10 : Int32) * ((((10 : Int32) * (((0 : Int32) + (g p1)) - (48 : Int32))) + (g (p1 + (1 : Int32)))) - (48 : Int32))) + (g ((p1 + (1 : Int32)) + (1 : Int32)))) - (48 : Int32)), iv (((p1 + (1 : Int32)) + (1 : Int32)) + (1 : Int32))] [(.int 48), (.int (g (((p1 + (1 : Int32)) + (1 : Int32)) + (1 : Int32))))]))
              by_cases hc17 : (g (((p1 + (1 : Int32)) + (1 : Int32)) + (1 : Int32))) < (48 : Int32)
              · refine own_via (fun k => XS.icmpYes X0.here hx rfl (pc0 := 19) (pc' := 31) rfl (hb hby d2_19) rfl (tlt hc17).1 (by decide) (by decide) k) ?_
                show own_Go p e below s _ _ (s₁.setTop (mkF m 31 #[rv a0, iv p1, iv 5, iv ((((10 : Int32) * ((((10 : Int32) * (((0 : Int32) + (g p1)) - (48 : Int32))) + (g (p1 + (1 : Int32)))) - (48 : Int32))) + (g ((p1 + (1 : Int32)) + (1 : Int32)))) - (48 : Int32)), iv (((p1 + (1 : Int32)) + (1 : Int32)) + (1 : Int32))] []))
                refine own_via (fun k => XS.iconst X0.here hx rfl (hb hby d2_31) k) ?_
                show own_Go p e below s _ _ (s₁.setTop (mkF m 32 #[rv a0, iv p1, iv 5, iv ((((10 : Int32) * ((((10 : Int32) * (((0 : Int32) + (g p1)) - (48 : Int32))) + (g (p1 + (1 : Int32)))) - (48 : Int32))) + (g ((p1 + (1 : Int32)) + (1 : Int32)))) - (48 : Int32)), iv (((p1 + (1 : Int32)) + (1 : Int32)) + (1 : Int32))] [(.int (-1))]))
                exact own_retI X0 hx hlk Bd.returns (hb hby d2_32) (Q := (Q2_5 Z a0 p1 k vs g h0 n0)) ⟨(congrArg (fun z => some (Value.int z)) (show (-1 : Int32) = (own_f2_5 p1 g) from (by unfold own_f2_5; exact ((if_neg hc2).trans ((if_neg hc4).trans ((if_neg hc7).trans ((if_neg hc9).trans ((if_neg hc12).trans ((if_neg hc14).trans ((if_pos hc17).trans rfl))))))).symm))), N0, e0⟩ (by decide) (by decide)
              · refine own_via (fun k => XS.icmpNo X0.here hx rfl (hb hby d2_19) rfl (flt hc17).1 k) ?_
                show own_Go p e below s _ _ (s₁.setTop (mkF m 22 #[rv a0, iv p1, iv 5, iv ((((10 : Int32) * ((((10 : Int32) * (((0 : Int32) + (g p1)) - (48 : Int32))) + (g (p1 + (1 : Int32)))) - (48 : Int32))) + (g ((p1 + (1 : Int32)) + (1 : Int32)))) - (48 : Int32)), iv (((p1 + (1 : Int32)) + (1 : Int32)) + (1 : Int32))] []))
                refine own_via (fun k => XS.aloadN X0.here hx rfl (hb hby d2_22) rfl rfl  (XS.iload X0.here hx rfl (hb hby d2_23) rfl  k)) ?_
                show own_Go p e below s _ _ (s₁.setTop (mkF m 25 #[rv a0, iv p1, iv 5, iv ((((10 : Int32) * ((((10 : Int32) * (((0 : Int32) + (g p1)) - (48 : Int32))) + (g (p1 + (1 : Int32)))) - (48 : Int32))) + (g ((p1 + (1 : Int32)) + (1 : Int32)))) - (48 : Int32)), iv (((p1 + (1 : Int32)) + (1 : Int32)) + (1 : Int32))] [(.int (((p1 + (1 : Int32)) + (1 : Int32)) + (1 : Int32))), (.ref a0)]))
                obtain ⟨cl18, Ar18, q18, S18, NN18, H18, G18⟩ := id P0
                have hin18 : ¬ ((((p1 + (1 : Int32)) + (1 : Int32)) + (1 : Int32)) < 0 ∨ cl18.slots.size ≤ ((((p1 + (1 : Int32)) + (1 : Int32)) + (1 : Int32))).toNatClampNeg) := inb_of S18 (own_in5_3 p1 hlo hhi)
                have hat18 : cl18.slots[((((p1 + (1 : Int32)) + (1 : Int32)) + (1 : Int32))).toNatClampNeg]? = some (.int (g (((p1 + (1 : Int32)) + (1 : Int32)) + (1 : Int32)))) := H18.at hin18 (hg _ (own_in5_3 p1 hlo hhi))
                refine own_via (fun k => X0.baloadBytes hx (j := (((p1 + (1 : Int32)) + (1 : Int32)) + (1 : Int32))) (v := (.int (g (((p1 + (1 : Int32)) + (1 : Int32)) + (1 : Int32))))) (by rw [e0]; exact Ar18.1) (State.isArrayOf_alike hZ.alike Ar18.2.1) Ar18.2.2 hin18 hat18 (g := (mkF m 25 #[rv a0, iv p1, iv 5, iv ((((10 : Int32) * ((((10 : Int32) * (((0 : Int32) + (g p1)) - (48 : Int32))) + (g (p1 + (1 : Int32)))) - (48 : Int32))) + (g ((p1 + (1 : Int32)) + (1 : Int32)))) - (48 : Int32)), iv (((p1 + (1 : Int32)) + (1 : Int32)) + (1 : Int32))] [(.int (((p1 + (1 : Int32)) + (1 : Int32)) + (1 : Int32))), (.ref a0)])) rfl rfl (hb hby d2_25) _ k) ?_
                show own_Go p e below s _ _ (s₁.setTop (mkF m 26 #[rv a0, iv p1, iv 5, iv ((((10 : Int32) * ((((10 : Int32) * (((0 : Int32) + (g p1)) - (48 : Int32))) + (g (p1 + (1 : Int32)))) - (48 : Int32))) + (g ((p1 + (1 : Int32)) + (1 : Int32)))) - (48 : Int32)), iv (((p1 + (1 : Int32)) + (1 : Int32)) + (1 : Int32))] [(.int (g (((p1 + (1 : Int32)) + (1 : Int32)) + (1 : Int32))))]))
                refine own_via (fun k => XS.bipush X0.here hx rfl (hb hby d2_26) k) ?_
                show own_Go p e below s _ _ (s₁.setTop (mkF m 28 #[rv a0, iv p1, iv 5, iv ((((10 : Int32) * ((((10 : Int32) * (((0 : Int32) + (g p1)) - (48 : Int32))) + (g (p1 + (1 : Int32)))) - (48 : Int32))) + (g ((p1 + (1 : Int32)) + (1 : Int32)))) - (48 : Int32)), iv (((p1 + (1 : Int32)) + (1 : Int32)) + (1 : Int32))] [(.int 57), (.int (g (((p1 + (1 : Int32)) + (1 : Int32)) + (1 : Int32))))]))
                by_cases hc19 : (57 : Int32) < (g (((p1 + (1 : Int32)) + (1 : Int32)) + (1 : Int32)))
                · refine own_via (fun k => XS.icmpNo X0.here hx rfl (hb hby d2_28) rfl (tlt hc19).2.2.2 k) ?_
                  show own_Go p e below s _ _ (s₁.setTop (mkF m 31 #[rv a0, iv p1, iv 5, iv ((((10 : Int32) * ((((10 : Int32) * (((0 : Int32) + (g p1)) - (48 : Int32))) + (g (p1 + (1 : Int32)))) - (48 : Int32))) + (g ((p1 + (1 : Int32)) + (1 : Int32)))) - (48 : Int32)), iv (((p1 + (1 : Int32)) + (1 : Int32)) + (1 : Int32))] []))
                  refine own_via (fun k => XS.iconst X0.here hx rfl (hb hby d2_31) k) ?_
                  show own_Go p e below s _ _ (s₁.setTop (mkF m 32 #[rv a0, iv p1, iv 5, iv ((((10 : Int32) * ((((10 : Int32) * (((0 : Int32) + (g p1)) - (48 : Int32))) + (g (p1 + (1 : Int32)))) - (48 : Int32))) + (g ((p1 + (1 : Int32)) + (1 : Int32)))) - (48 : Int32)), iv (((p1 + (1 : Int32)) + (1 : Int32)) + (1 : Int32))] [(.int (-1))]))
                  exact own_retI X0 hx hlk Bd.returns (hb hby d2_32) (Q := (Q2_5 Z a0 p1 k vs g h0 n0)) ⟨(congrArg (fun z => some (Value.int z)) (show (-1 : Int32) = (own_f2_5 p1 g) from (by unfold own_f2_5; exact ((if_neg hc2).trans ((if_neg hc4).trans ((if_neg hc7).trans ((if_neg hc9).trans ((if_neg hc12).trans ((if_neg hc14).trans ((if_neg hc17).trans ((if_pos hc19).trans rfl)))))))).symm))), N0, e0⟩ (by decide) (by decide)
                · refine own_via (fun k => XS.icmpYes X0.here hx rfl (pc0 := 28) (pc' := 33) rfl (hb hby d2_28) rfl (flt hc19).2.2.2 (by decide) (by decide) k) ?_
                  show own_Go p e below s _ _ (s₁.setTop (mkF m 33 #[rv a0, iv p1, iv 5, iv ((((10 : Int32) * ((((10 : Int32) * (((0 : Int32) + (g p1)) - (48 : Int32))) + (g (p1 + (1 : Int32)))) - (48 : Int32))) + (g ((p1 + (1 : Int32)) + (1 : Int32)))) - (48 : Int32)), iv (((p1 + (1 : Int32)) + (1 : Int32)) + (1 : Int32))] []))
                  refine own_via (fun k => XS.bipush X0.here hx rfl (hb hby d2_33) (XS.iloadN X0.here hx rfl (hb hby d2_35) rfl  (XS.imul X0.here hx rfl (hb hby d2_36) rfl (XS.aloadN X0.here hx rfl (hb hby d2_37) rfl rfl  k)))) ?_
                  show own_Go p e below s _ _ (s₁.setTop (mkF m 38 #[rv a0, iv p1, iv 5, iv ((((10 : Int32) * ((((10 : Int32) * (((0 : Int32) + (g p1)) - (48 : Int32))) + (g (p1 + (1 : Int32)))) - (48 : Int32))) + (g ((p1 + (1 : Int32)) + (1 : Int32)))) - (48 : Int32)), iv (((p1 + (1 : Int32)) + (1 : Int32)) + (1 : Int32))] [(.ref a0), (.int ((10 : Int32) * ((((10 : Int32) * ((((10 : Int32) * (((0 : Int32) + (g p1)) - (48 : Int32))) + (g (p1 + (1 : Int32)))) - (48 : Int32))) + (g ((p1 + (1 : Int32)) + (1 : Int32)))) - (48 : Int32))))]))
                  refine own_via (fun k => XS.iload X0.here hx rfl (hb hby d2_38) rfl  k) ?_
                  show own_Go p e below s _ _ (s₁.setTop (mkF m 40 #[rv a0, iv p1, iv 5, iv ((((10 : Int32) * ((((10 : Int32) * (((0 : Int32) + (g p1)) - (48 : Int32))) + (g (p1 + (1 : Int32)))) - (48 : Int32))) + (g ((p1 + (1 : Int32)) + (1 : Int32)))) - (48 : Int32)), iv (((p1 + (1 : Int32)) + (1 : Int32)) + (1 : Int32))] [(.int (((p1 + (1 : Int32)) + (1 : Int32)) + (1 : Int32))), (.ref a0), (.int ((10 : Int32) * ((((10 : Int32) * ((((10 : Int32) * (((0 : Int32) + (g p1)) - (48 : Int32))) + (g (p1 + (1 : Int32)))) - (48 : Int32))) + (g ((p1 + (1 : Int32)) + (1 : Int32)))) - (48 : Int32))))]))
                  obtain ⟨cl20, Ar20, q20, S20, NN20, H20, G20⟩ := id P0
                  have hin20 : ¬ ((((p1 + (1 : Int32)) + (1 : Int32)) + (1 : Int32)) < 0 ∨ cl20.slots.size ≤ ((((p1 + (1 : Int32)) + (1 : Int32)) + (1 : Int32))).toNatClampNeg) := inb_of S20 (own_in5_3 p1 hlo hhi)
                  have hat20 : cl20.slots[((((p1 + (1 : Int32)) + (1 : Int32)) + (1 : Int32))).toNatClampNeg]? = some (.int (g (((p1 + (1 : Int32)) + (1 : Int32)) + (1 : Int32)))) := H20.at hin20 (hg _ (own_in5_3 p1 hlo hhi))
                  refine own_via (fun k => X0.baloadBytes hx (j := (((p1 + (1 : Int32)) + (1 : Int32)) + (1 : Int32))) (v := (.int (g (((p1 + (1 : Int32)) + (1 : Int32)) + (1 : Int32))))) (by rw [e0]; exact Ar20.1) (State.isArrayOf_alike hZ.alike Ar20.2.1) Ar20.2.2 hin20 hat20 (g := (mkF m 40 #[rv a0, iv p1, iv 5, iv ((((10 : Int32) * ((((10 : Int32) * (((0 : Int32) + (g p1)) - (48 : Int32))) + (g (p1 + (1 : Int32)))) - (48 : Int32))) + (g ((p1 + (1 : Int32)) + (1 : Int32)))) - (48 : Int32)), iv (((p1 + (1 : Int32)) + (1 : Int32)) + (1 : Int32))] [(.int (((p1 + (1 : Int32)) + (1 : Int32)) + (1 : Int32))), (.ref a0), (.int ((10 : Int32) * ((((10 : Int32) * ((((10 : Int32) * (((0 : Int32) + (g p1)) - (48 : Int32))) + (g (p1 + (1 : Int32)))) - (48 : Int32))) + (g ((p1 + (1 : Int32)) + (1 : Int32)))) - (48 : Int32))))])) rfl rfl (hb hby d2_40) _ k) ?_
                  show own_Go p e below s _ _ (s₁.setTop (mkF m 41 #[rv a0, iv p1, iv 5, iv ((((10 : Int32) * ((((10 : Int32) * (((0 : Int32) + (g p1)) - (48 : Int32))) + (g (p1 + (1 : Int32)))) - (48 : Int32))) + (g ((p1 + (1 : Int32)) + (1 : Int32)))) - (48 : Int32)), iv (((p1 + (1 : Int32)) + (1 : Int32)) + (1 : Int32))] [(.int (g (((p1 + (1 : Int32)) + (1 : Int32)) + (1 : Int32)))), (.int ((10 : Int32) * ((((10 : Int32) * ((((10 : Int32) * (((0 : Int32) + (g p1)) - (48 : Int32))) + (g (p1 + (1 : Int32)))) - (48 : Int32))) + (g ((p1 + (1 : Int32)) + (1 : Int32)))) - (48 : Int32))))]))
                  refine own_via (fun k => XS.iadd X0.here hx rfl (hb hby d2_41) rfl (XS.bipush X0.here hx rfl (hb hby d2_42) (XS.isub X0.here hx rfl (hb hby d2_44) rfl (XS.istoreN X0.here hx rfl (hb hby d2_45) rfl (l' := #[rv a0, iv p1, iv 5, iv ((((10 : Int32) * ((((10 : Int32) * ((((10 : Int32) * (((0 : Int32) + (g p1)) - (48 : Int32))) + (g (p1 + (1 : Int32)))) - (48 : Int32))) + (g ((p1 + (1 : Int32)) + (1 : Int32)))) - (48 : Int32))) + (g (((p1 + (1 : Int32)) + (1 : Int32)) + (1 : Int32)))) - (48 : Int32)), iv (((p1 + (1 : Int32)) + (1 : Int32)) + (1 : Int32))]) rfl k)))) ?_
                  show own_Go p e below s _ _ (s₁.setTop (mkF m 46 #[rv a0, iv p1, iv 5, iv ((((10 : Int32) * ((((10 : Int32) * ((((10 : Int32) * (((0 : Int32) + (g p1)) - (48 : Int32))) + (g (p1 + (1 : Int32)))) - (48 : Int32))) + (g ((p1 + (1 : Int32)) + (1 : Int32)))) - (48 : Int32))) + (g (((p1 + (1 : Int32)) + (1 : Int32)) + (1 : Int32)))) - (48 : Int32)), iv (((p1 + (1 : Int32)) + (1 : Int32)) + (1 : Int32))] []))
                  refine own_via (fun k => XS.iinc X0.here hx rfl (hb hby d2_46) rfl (l' := #[rv a0, iv p1, iv 5, iv ((((10 : Int32) * ((((10 : Int32) * ((((10 : Int32) * (((0 : Int32) + (g p1)) - (48 : Int32))) + (g (p1 + (1 : Int32)))) - (48 : Int32))) + (g ((p1 + (1 : Int32)) + (1 : Int32)))) - (48 : Int32))) + (g (((p1 + (1 : Int32)) + (1 : Int32)) + (1 : Int32)))) - (48 : Int32)), iv ((((p1 + (1 : Int32)) + (1 : Int32)) + (1 : Int32)) + (1 : Int32))]) rfl (XS.goto X0.here hx rfl (pc0 := 49) (pc' := 5) rfl (hb hby d2_49) (by decide) (by decide) (XS.iload X0.here hx rfl (hb hby d2_5) rfl  (XS.iloadN X0.here hx rfl (hb hby d2_7) rfl  k)))) ?_
                  show own_Go p e below s _ _ (s₁.setTop (mkF m 8 #[rv a0, iv p1, iv 5, iv ((((10 : Int32) * ((((10 : Int32) * ((((10 : Int32) * (((0 : Int32) + (g p1)) - (48 : Int32))) + (g (p1 + (1 : Int32)))) - (48 : Int32))) + (g ((p1 + (1 : Int32)) + (1 : Int32)))) - (48 : Int32))) + (g (((p1 + (1 : Int32)) + (1 : Int32)) + (1 : Int32)))) - (48 : Int32)), iv ((((p1 + (1 : Int32)) + (1 : Int32)) + (1 : Int32)) + (1 : Int32))] [(.int p1), (.int ((((p1 + (1 : Int32)) + (1 : Int32)) + (1 : Int32)) + (1 : Int32)))]))
                  refine own_via (fun k => XS.iloadN X0.here hx rfl (hb hby d2_8) rfl  (XS.iadd X0.here hx rfl (hb hby d2_9) rfl k)) ?_
                  show own_Go p e below s _ _ (s₁.setTop (mkF m 10 #[rv a0, iv p1, iv 5, iv ((((10 : Int32) * ((((10 : Int32) * ((((10 : Int32) * (((0 : Int32) + (g p1)) - (48 : Int32))) + (g (p1 + (1 : Int32)))) - (48 : Int32))) + (g ((p1 + (1 : Int32)) + (1 : Int32)))) - (48 : Int32))) + (g (((p1 + (1 : Int32)) + (1 : Int32)) + (1 : Int32)))) - (48 : Int32)), iv ((((p1 + (1 : Int32)) + (1 : Int32)) + (1 : Int32)) + (1 : Int32))] [(.int (p1 + (5 : Int32))), (.int ((((p1 + (1 : Int32)) + (1 : Int32)) + (1 : Int32)) + (1 : Int32)))]))
                  refine own_via (fun k => XS.icmpNo X0.here hx rfl (hb hby d2_10) rfl (tlt (own_l325_4 p1 hlo hhi)).2.1 k) ?_
                  show own_Go p e below s _ _ (s₁.setTop (mkF m 13 #[rv a0, iv p1, iv 5, iv ((((10 : Int32) * ((((10 : Int32) * ((((10 : Int32) * (((0 : Int32) + (g p1)) - (48 : Int32))) + (g (p1 + (1 : Int32)))) - (48 : Int32))) + (g ((p1 + (1 : Int32)) + (1 : Int32)))) - (48 : Int32))) + (g (((p1 + (1 : Int32)) + (1 : Int32)) + (1 : Int32)))) - (48 : Int32)), iv ((((p1 + (1 : Int32)) + (1 : Int32)) + (1 : Int32)) + (1 : Int32))] []))
                  refine own_via (fun k => XS.aloadN X0.here hx rfl (hb hby d2_13) rfl rfl  (XS.iload X0.here hx rfl (hb hby d2_14) rfl  k)) ?_
                  show own_Go p e below s _ _ (s₁.setTop (mkF m 16 #[rv a0, iv p1, iv 5, iv ((((10 : Int32) * ((((10 : Int32) * ((((10 : Int32) * (((0 : Int32) + (g p1)) - (48 : Int32))) + (g (p1 + (1 : Int32)))) - (48 : Int32))) + (g ((p1 + (1 : Int32)) + (1 : Int32)))) - (48 : Int32))) + (g (((p1 + (1 : Int32)) + (1 : Int32)) + (1 : Int32)))) - (48 : Int32)), iv ((((p1 + (1 : Int32)) + (1 : Int32)) + (1 : Int32)) + (1 : Int32))] [(.int ((((p1 + (1 : Int32)) + (1 : Int32)) + (1 : Int32)) + (1 : Int32))), (.ref a0)]))
                  obtain ⟨cl21, Ar21, q21, S21, NN21, H21, G21⟩ := id P0
                  have hin21 : ¬ (((((p1 + (1 : Int32)) + (1 : Int32)) + (1 : Int32)) + (1 : Int32)) < 0 ∨ cl21.slots.size ≤ (((((p1 + (1 : Int32)) + (1 : Int32)) + (1 : Int32)) + (1 : Int32))).toNatClampNeg) := inb_of S21 (own_in5_4 p1 hlo hhi)
                  have hat21 : cl21.slots[(((((p1 + (1 : Int32)) + (1 : Int32)) + (1 : Int32)) + (1 : Int32))).toNatClampNeg]? = some (.int (g ((((p1 + (1 : Int32)) + (1 : Int32)) + (1 : Int32)) + (1 : Int32)))) := H21.at hin21 (hg _ (own_in5_4 p1 hlo hhi))
                  refine own_via (fun k => X0.baloadBytes hx (j := ((((p1 + (1 : Int32)) + (1 : Int32)) + (1 : Int32)) + (1 : Int32))) (v := (.int (g ((((p1 + (1 : Int32)) + (1 : Int32)) + (1 : Int32)) + (1 : Int32))))) (by rw [e0]; exact Ar21.1) (State.isArrayOf_alike hZ.alike Ar21.2.1) Ar21.2.2 hin21 hat21 (g := (mkF m 16 #[rv a0, iv p1, iv 5, iv ((((10 : Int32) * ((((10 : Int32) * ((((10 : Int32) * (((0 : Int32) + (g p1)) - (48 : Int32))) + (g (p1 + (1 : Int32)))) - (48 : Int32))) + (g ((p1 + (1 : Int32)) + (1 : Int32)))) - (48 : Int32))) + (g (((p1 + (1 : Int32)) + (1 : Int32)) + (1 : Int32)))) - (48 : Int32)), iv ((((p1 + (1 : Int32)) + (1 : Int32)) + (1 : Int32)) + (1 : Int32))] [(.int ((((p1 + (1 : Int32)) + (1 : Int32)) + (1 : Int32)) + (1 : Int32))), (.ref a0)])) rfl rfl (hb hby d2_16) _ k) ?_
                  show own_Go p e below s _ _ (s₁.setTop (mkF m 17 #[rv a0, iv p1, iv 5, iv ((((10 : Int32) * ((((10 : Int32) * ((((10 : Int32) * (((0 : Int32) + (g p1)) - (48 : Int32))) + (g (p1 + (1 : Int32)))) - (48 : Int32))) + (g ((p1 + (1 : Int32)) + (1 : Int32)))) - (48 : Int32))) + (g (((p1 + (1 : Int32)) + (1 : Int32)) + (1 : Int32)))) - (48 : Int32)), iv ((((p1 + (1 : Int32)) + (1 : Int32)) + (1 : Int32)) + (1 : Int32))] [(.int (g ((((p1 + (1 : Int32)) + (1 : Int32)) + (1 : Int32)) + (1 : Int32))))]))
                  refine own_via (fun k => XS.bipush X0.here hx rfl (hb hby d2_17) k) ?_
                  show own_Go p e below s _ _ (s₁.setTop (mkF m 19 #[rv a0, iv p1, iv 5, iv ((((10 : Int32) * ((((10 : Int32) * ((((10 : Int32) * (((0 : Int32) + (g p1)) - (48 : Int32))) + (g (p1 + (1 : Int32)))) - (48 : Int32))) + (g ((p1 + (1 : Int32)) + (1 : Int32)))) - (48 : Int32))) + (g (((p1 + (1 : Int32)) + (1 : Int32)) + (1 : Int32)))) - (48 : Int32)), iv ((((p1 + (1 : Int32)) + (1 : Int32)) + (1 : Int32)) + (1 : Int32))] [(.int 48), (.int (g ((((p1 + (1 : Int32)) + (1 : Int32)) + (1 : Int32)) + (1 : Int32))))]))
                  by_cases hc22 : (g ((((p1 + (1 : Int32)) + (1 : Int32)) + (1 : Int32)) + (1 : Int32))) < (48 : Int32)
                  · refine own_via (fun k => XS.icmpYes X0.here hx rfl (pc0 := 19) (pc' := 31) rfl (hb hby d2_19) rfl (tlt hc22).1 (by decide) (by decide) k) ?_
                    show own_Go p e below s _ _ (s₁.setTop (mkF m 31 #[rv a0, iv p1, iv 5, iv ((((10 : Int32) * ((((10 : Int32) * ((((10 : Int32) * (((0 : Int32) + (g p1)) - (48 : Int32))) + (g (p1 + (1 : Int32)))) - (48 : Int32))) + (g ((p1 + (1 : Int32)) + (1 : Int32)))) - (48 : Int32))) + (g (((p1 + (1 : Int32)) + (1 : Int32)) + (1 : Int32)))) - (48 : Int32)), iv ((((p1 + (1 : Int32)) + (1 : Int32)) + (1 : Int32)) + (1 : Int32))] []))
                    refine own_via (fun k => XS.iconst X0.here hx rfl (hb hby d2_31) k) ?_
                    show own_Go p e below s _ _ (s₁.setTop (mkF m 32 #[rv a0, iv p1, iv 5, iv ((((10 : Int32) * ((((10 : Int32) * ((((10 : Int32) * (((0 : Int32) + (g p1)) - (48 : Int32))) + (g (p1 + (1 : Int32)))) - (48 : Int32))) + (g ((p1 + (1 : Int32)) + (1 : Int32)))) - (48 : Int32))) + (g (((p1 + (1 : Int32)) + (1 : Int32)) + (1 : Int32)))) - (48 : Int32)), iv ((((p1 + (1 : Int32)) + (1 : Int32)) + (1 : Int32)) + (1 : Int32))] [(.int (-1))]))
                    exact own_retI X0 hx hlk Bd.returns (hb hby d2_32) (Q := (Q2_5 Z a0 p1 k vs g h0 n0)) ⟨(congrArg (fun z => some (Value.int z)) (show (-1 : Int32) = (own_f2_5 p1 g) from (by unfold own_f2_5; exact ((if_neg hc2).trans ((if_neg hc4).trans ((if_neg hc7).trans ((if_neg hc9).trans ((if_neg hc12).trans ((if_neg hc14).trans ((if_neg hc17).trans ((if_neg hc19).trans ((if_pos hc22).trans rfl))))))))).symm))), N0, e0⟩ (by decide) (by decide)
                  · refine own_via (fun k => XS.icmpNo X0.here hx rfl (hb hby d2_19) rfl (flt hc22).1 k) ?_
                    show own_Go p e below s _ _ (s₁.setTop (mkF m 22 #[rv a0, iv p1, iv 5, iv ((((10 : Int32) * ((((10 : Int32) * ((((10 : Int32) * (((0 : Int32) + (g p1)) - (48 : Int32))) + (g (p1 + (1 : Int32)))) - (48 : Int32))) + (g ((p1 + (1 : Int32)) + (1 : Int32)))) - (48 : Int32))) + (g (((p1 + (1 : Int32)) + (1 : Int32)) + (1 : Int32)))) - (48 : Int32)), iv ((((p1 + (1 : Int32)) + (1 : Int32)) + (1 : Int32)) + (1 : Int32))] []))
                    refine own_via (fun k => XS.aloadN X0.here hx rfl (hb hby d2_22) rfl rfl  (XS.iload X0.here hx rfl (hb hby d2_23) rfl  k)) ?_
                    show own_Go p e below s _ _ (s₁.setTop (mkF m 25 #[rv a0, iv p1, iv 5, iv ((((10 : Int32) * ((((10 : Int32) * ((((10 : Int32) * (((0 : Int32) + (g p1)) - (48 : Int32))) + (g (p1 + (1 : Int32)))) - (48 : Int32))) + (g ((p1 + (1 : Int32)) + (1 : Int32)))) - (48 : Int32))) + (g (((p1 + (1 : Int32)) + (1 : Int32)) + (1 : Int32)))) - (48 : Int32)), iv ((((p1 + (1 : Int32)) + (1 : Int32)) + (1 : Int32)) + (1 : Int32))] [(.int ((((p1 + (1 : Int32)) + (1 : Int32)) + (1 : Int32)) + (1 : Int32))), (.ref a0)]))
                    obtain ⟨cl23, Ar23, q23, S23, NN23, H23, G23⟩ := id P0
                    have hin23 : ¬ (((((p1 + (1 : Int32)) + (1 : Int32)) + (1 : Int32)) + (1 : Int32)) < 0 ∨ cl23.slots.size ≤ (((((p1 + (1 : Int32)) + (1 : Int32)) + (1 : Int32)) + (1 : Int32))).toNatClampNeg) := inb_of S23 (own_in5_4 p1 hlo hhi)
                    have hat23 : cl23.slots[(((((p1 + (1 : Int32)) + (1 : Int32)) + (1 : Int32)) + (1 : Int32))).toNatClampNeg]? = some (.int (g ((((p1 + (1 : Int32)) + (1 : Int32)) + (1 : Int32)) + (1 : Int32)))) := H23.at hin23 (hg _ (own_in5_4 p1 hlo hhi))
                    refine own_via (fun k => X0.baloadBytes hx (j := ((((p1 + (1 : Int32)) + (1 : Int32)) + (1 : Int32)) + (1 : Int32))) (v := (.int (g ((((p1 + (1 : Int32)) + (1 : Int32)) + (1 : Int32)) + (1 : Int32))))) (by rw [e0]; exact Ar23.1) (State.isArrayOf_alike hZ.alike Ar23.2.1) Ar23.2.2 hin23 hat23 (g := (mkF m 25 #[rv a0, iv p1, iv 5, iv ((((10 : Int32) * ((((10 : Int32) * ((((10 : Int32) * (((0 : Int32) + (g p1)) - (48 : Int32))) + (g (p1 + (1 : Int32)))) - (48 : Int32))) + (g ((p1 + (1 : Int32)) + (1 : Int32)))) - (48 : Int32))) + (g (((p1 + (1 : Int32)) + (1 : Int32)) + (1 : Int32)))) - (48 : Int32)), iv ((((p1 + (1 : Int32)) + (1 : Int32)) + (1 : Int32)) + (1 : Int32))] [(.int ((((p1 + (1 : Int32)) + (1 : Int32)) + (1 : Int32)) + (1 : Int32))), (.ref a0)])) rfl rfl (hb hby d2_25) _ k) ?_
                    show own_Go p e below s _ _ (s₁.setTop (mkF m 26 #[rv a0, iv p1, iv 5, iv ((((10 : Int32) * ((((10 : Int32) * ((((10 : Int32) * (((0 : Int32) + (g p1)) - (48 : Int32))) + (g (p1 + (1 : Int32)))) - (48 : Int32))) + (g ((p1 + (1 : Int32)) + (1 : Int32)))) - (48 : Int32))) + (g (((p1 + (1 : Int32)) + (1 : Int32)) + (1 : Int32)))) - (48 : Int32)), iv ((((p1 + (1 : Int32)) + (1 : Int32)) + (1 : Int32)) + (1 : Int32))] [(.int (g ((((p1 + (1 : Int32)) + (1 : Int32)) + (1 : Int32)) + (1 : Int32))))]))
                    refine own_via (fun k => XS.bipush X0.here hx rfl (hb hby d2_26) k) ?_
                    show own_Go p e below s _ _ (s₁.setTop (mkF m 28 #[rv a0, iv p1, iv 5, iv ((((10 : Int32) * ((((10 : Int32) * ((((10 : Int32) * (((0 : Int32) + (g p1)) - (48 : Int32))) + (g (p1 + (1 : Int32)))) - (48 : Int32))) + (g ((p1 + (1 : Int32)) + (1 : Int32)))) - (48 : Int32))) + (g (((p1 + (1 : Int32)) + (1 : Int32)) + (1 : Int32)))) - (48 : Int32)), iv ((((p1 + (1 : Int32)) + (1 : Int32)) + (1 : Int32)) + (1 : Int32))] [(.int 57), (.int (g ((((p1 + (1 : Int32)) + (1 : Int32)) + (1 : Int32)) + (1 : Int32))))]))
                    by_cases hc24 : (57 : Int32) < (g ((((p1 + (1 : Int32)) + (1 : Int32)) + (1 : Int32)) + (1 : Int32)))
                    · refine own_via (fun k => XS.icmpNo X0.here hx rfl (hb hby d2_28) rfl (tlt hc24).2.2.2 k) ?_
                      show own_Go p e below s _ _ (s₁.setTop (mkF m 31 #[rv a0, iv p1, iv 5, iv ((((10 : Int32) * ((((10 : Int32) * ((((10 : Int32) * (((0 : Int32) + (g p1)) - (48 : Int32))) + (g (p1 + (1 : Int32)))) - (48 : Int32))) + (g ((p1 + (1 : Int32)) + (1 : Int32)))) - (48 : Int32))) + (g (((p1 + (1 : Int32)) + (1 : Int32)) + (1 : Int32)))) - (48 : Int32)), iv ((((p1 + (1 : Int32)) + (1 : Int32)) + (1 : Int32)) + (1 : Int32))] []))
                      refine own_via (fun k => XS.iconst X0.here hx rfl (hb hby d2_31) k) ?_
                      show own_Go p e below s _ _ (s₁.setTop (mkF m 32 #[rv a0, iv p1, iv 5, iv ((((10 : Int32) * ((((10 : Int32) * ((((10 : Int32) * (((0 : Int32) + (g p1)) - (48 : Int32))) + (g (p1 + (1 : Int32)))) - (48 : Int32))) + (g ((p1 + (1 : Int32)) + (1 : Int32)))) - (48 : Int32))) + (g (((p1 + (1 : Int32)) + (1 : Int32)) + (1 : Int32)))) - (48 : Int32)), iv ((((p1 + (1 : Int32)) + (1 : Int32)) + (1 : Int32)) + (1 : Int32))] [(.int (-1))]))
                      exact own_retI X0 hx hlk Bd.returns (hb hby d2_32) (Q := (Q2_5 Z a0 p1 k vs g h0 n0)) ⟨(congrArg (fun z => some (Value.int z)) (show (-1 : Int32) = (own_f2_5 p1 g) from (by unfold own_f2_5; exact ((if_neg hc2).trans ((if_neg hc4).trans ((if_neg hc7).trans ((if_neg hc9).trans ((if_neg hc12).trans ((if_neg hc14).trans ((if_neg hc17).trans ((if_neg hc19).trans ((if_neg hc22).trans ((if_pos hc24).trans rfl)))))))))).symm))), N0, e0⟩ (by decide) (by decide)
                    · refine own_via (fun k => XS.icmpYes X0.here hx rfl (pc0 := 28) (pc' := 33) rfl (hb hby d2_28) rfl (flt hc24).2.2.2 (by decide) (by decide) k) ?_
                      show own_Go p e below s _ _ (s₁.setTop (mkF m 33 #[rv a0, iv p1, iv 5, iv ((((10 : Int32) * ((((10 : Int32) * ((((10 : Int32) * (((0 : Int32) + (g p1)) - (48 : Int32))) + (g (p1 + (1 : Int32)))) - (48 : Int32))) + (g ((p1 + (1 : Int32)) + (1 : Int32)))) - (48 : Int32))) + (g (((p1 + (1 : Int32)) + (1 : Int32)) + (1 : Int32)))) - (48 : Int32)), iv ((((p1 + (1 : Int32)) + (1 : Int32)) + (1 : Int32)) + (1 : Int32))] []))
                      refine own_via (fun k => XS.bipush X0.here hx rfl (hb hby d2_33) (XS.iloadN X0.here hx rfl (hb hby d2_35) rfl  (XS.imul X0.here hx rfl (hb hby d2_36) rfl (XS.aloadN X0.here hx rfl (hb hby d2_37) rfl rfl  k)))) ?_
                      show own_Go p e below s _ _ (s₁.setTop (mkF m 38 #[rv a0, iv p1, iv 5, iv ((((10 : Int32) * ((((10 : Int32) * ((((10 : Int32) * (((0 : Int32) + (g p1)) - (48 : Int32))) + (g (p1 + (1 : Int32)))) - (48 : Int32))) + (g ((p1 + (1 : Int32)) + (1 : Int32)))) - (48 : Int32))) + (g (((p1 + (1 : Int32)) + (1 : Int32)) + (1 : Int32)))) - (48 : Int32)), iv ((((p1 + (1 : Int32)) + (1 : Int32)) + (1 : Int32)) + (1 : Int32))] [(.ref a0), (.int ((10 : Int32) * ((((10 : Int32) * ((((10 : Int32) * ((((10 : Int32) * (((0 : Int32) + (g p1)) - (48 : Int32))) + (g (p1 + (1 : Int32)))) - (48 : Int32))) + (g ((p1 + (1 : Int32)) + (1 : Int32)))) - (48 : Int32))) + (g (((p1 + (1 : Int32)) + (1 : Int32)) + (1 : Int32)))) - (48 : Int32))))]))
                      refine own_via (fun k => XS.iload X0.here hx rfl (hb hby d2_38) rfl  k) ?_
                      show own_Go p e below s _ _ (s₁.setTop (mkF m 40 #[rv a0, iv p1, iv 5, iv ((((10 : Int32) * ((((10 : Int32) * ((((10 : Int32) * (((0 : Int32) + (g p1)) - (48 : Int32))) + (g (p1 + (1 : Int32)))) - (48 : Int32))) + (g ((p1 + (1 : Int32)) + (1 : Int32)))) - (48 : Int32))) + (g (((p1 + (1 : Int32)) + (1 : Int32)) + (1 : Int32)))) - (48 : Int32)), iv ((((p1 + (1 : Int32)) + (1 : Int32)) + (1 : Int32)) + (1 : Int32))] [(.int ((((p1 + (1 : Int32)) + (1 : Int32)) + (1 : Int32)) + (1 : Int32))), (.ref a0), (.int ((10 : Int32) * ((((10 : Int32) * ((((10 : Int32) * ((((10 : Int32) * (((0 : Int32) + (g p1)) - (48 : Int32))) + (g (p1 + (1 : Int32)))) - (48 : Int32))) + (g ((p1 + (1 : Int32)) + (1 : Int32)))) - (48 : Int32))) + (g (((p1 + (1 : Int32)) + (1 : Int32)) + (1 : Int32)))) - (48 : Int32))))]))
                      obtain ⟨cl25, Ar25, q25, S25, NN25, H25, G25⟩ := id P0
                      have hin25 : ¬ (((((p1 + (1 : Int32)) + (1 : Int32)) + (1 : Int32)) + (1 : Int32)) < 0 ∨ cl25.slots.size ≤ (((((p1 + (1 : Int32)) + (1 : Int32)) + (1 : Int32)) + (1 : Int32))).toNatClampNeg) := inb_of S25 (own_in5_4 p1 hlo hhi)
                      have hat25 : cl25.slots[(((((p1 + (1 : Int32)) + (1 : Int32)) + (1 : Int32)) + (1 : Int32))).toNatClampNeg]? = some (.int (g ((((p1 + (1 : Int32)) + (1 : Int32)) + (1 : Int32)) + (1 : Int32)))) := H25.at hin25 (hg _ (own_in5_4 p1 hlo hhi))
                      refine own_via (fun k => X0.baloadBytes hx (j := ((((p1 + (1 : Int32)) + (1 : Int32)) + (1 : Int32)) + (1 : Int32))) (v := (.int (g ((((p1 + (1 : Int32)) + (1 : Int32)) + (1 : Int32)) + (1 : Int32))))) (by rw [e0]; exact Ar25.1) (State.isArrayOf_alike hZ.alike Ar25.2.1) Ar25.2.2 hin25 hat25 (g := (mkF m 40 #[rv a0, iv p1, iv 5, iv ((((10 : Int32) * ((((10 : Int32) * ((((10 : Int32) * (((0 : Int32) + (g p1)) - (48 : Int32))) + (g (p1 + (1 : Int32)))) - (48 : Int32))) + (g ((p1 + (1 : Int32)) + (1 : Int32)))) - (48 : Int32))) + (g (((p1 + (1 : Int32)) + (1 : Int32)) + (1 : Int32)))) - (48 : Int32)), iv ((((p1 + (1 : Int32)) + (1 : Int32)) + (1 : Int32)) + (1 : Int32))] [(.int ((((p1 + (1 : Int32)) + (1 : Int32)) + (1 : Int32)) + (1 : Int32))), (.ref a0), (.int ((10 : Int32) * ((((10 : Int32) * ((((10 : Int32) * ((((10 : Int32) * (((0 : Int32) + (g p1)) - (48 : Int32))) + (g (p1 + (1 : Int32)))) - (48 : Int32))) + (g ((p1 + (1 : Int32)) + (1 : Int32)))) - (48 : Int32))) + (g (((p1 + (1 : Int32)) + (1 : Int32)) + (1 : Int32)))) - (48 : Int32))))])) rfl rfl (hb hby d2_40) _ k) ?_
                      show own_Go p e below s _ _ (s₁.setTop (mkF m 41 #[rv a0, iv p1, iv 5, iv ((((10 : Int32) * ((((10 : Int32) * ((((10 : Int32) * (((0 : Int32) + (g p1)) - (48 : Int32))) + (g (p1 + (1 : Int32)))) - (48 : Int32))) + (g ((p1 + (1 : Int32)) + (1 : Int32)))) - (48 : Int32))) + (g (((p1 + (1 : Int32)) + (1 : Int32)) + (1 : Int32)))) - (48 : Int32)), iv ((((p1 + (1 : Int32)) + (1 : Int32)) + (1 : Int32)) + (1 : Int32))] [(.int (g ((((p1 + (1 : Int32)) + (1 : Int32)) + (1 : Int32)) + (1 : Int32)))), (.int ((10 : Int32) * ((((10 : Int32) * ((((10 : Int32) * ((((10 : Int32) * (((0 : Int32) + (g p1)) - (48 : Int32))) + (g (p1 + (1 : Int32)))) - (48 : Int32))) + (g ((p1 + (1 : Int32)) + (1 : Int32)))) - (48 : Int32))) + (g (((p1 + (1 : Int32)) + (1 : Int32)) + (1 : Int32)))) - (48 : Int32))))]))
                      refine own_via (fun k => XS.iadd X0.here hx rfl (hb hby d2_41) rfl (XS.bipush X0.here hx rfl (hb hby d2_42) (XS.isub X0.here hx rfl (hb hby d2_44) rfl (XS.istoreN X0.here hx rfl (hb hby d2_45) rfl (l' := #[rv a0, iv p1, iv 5, iv ((((10 : Int32) * ((((10 : Int32) * ((((10 : Int32) * ((((10 : Int32) * (((0 : Int32) + (g p1)) - (48 : Int32))) + (g (p1 + (1 : Int32)))) - (48 : Int32))) + (g ((p1 + (1 : Int32)) + (1 : Int32)))) - (48 : Int32))) + (g (((p1 + (1 : Int32)) + (1 : Int32)) + (1 : Int32)))) - (48 : Int32))) + (g ((((p1 + (1 : Int32)) + (1 : Int32)) + (1 : Int32)) + (1 : Int32)))) - (48 : Int32)), iv ((((p1 + (1 : Int32)) + (1 : Int32)) + (1 : Int32)) + (1 : Int32))]) rfl k)))) ?_
                      show own_Go p e below s _ _ (s₁.setTop (mkF m 46 #[rv a0, iv p1, iv 5, iv ((((10 : Int32) * ((((10 : Int32) * ((((10 : Int32) * ((((10 : Int32) * (((0 : Int32) + (g p1)) - (48 : Int32))) + (g (p1 + (1 : Int32)))) - (48 : Int32))) + (g ((p1 + (1 : Int32)) + (1 : Int32)))) - (48 : Int32))) + (g (((p1 + (1 : Int32)) + (1 : Int32)) + (1 : Int32)))) - (48 : Int32))) + (g ((((p1 + (1 : Int32)) + (1 : Int32)) + (1 : Int32)) + (1 : Int32)))) - (48 : Int32)), iv ((((p1 + (1 : Int32)) + (1 : Int32)) + (1 : Int32)) + (1 : Int32))] []))
                      refine own_via (fun k => XS.iinc X0.here hx rfl (hb hby d2_46) rfl (l' := #[rv a0, iv p1, iv 5, iv ((((10 : Int32) * ((((10 : Int32) * ((((10 : Int32) * ((((10 : Int32) * (((0 : Int32) + (g p1)) - (48 : Int32))) + (g (p1 + (1 : Int32)))) - (48 : Int32))) + (g ((p1 + (1 : Int32)) + (1 : Int32)))) - (48 : Int32))) + (g (((p1 + (1 : Int32)) + (1 : Int32)) + (1 : Int32)))) - (48 : Int32))) + (g ((((p1 + (1 : Int32)) + (1 : Int32)) + (1 : Int32)) + (1 : Int32)))) - (48 : Int32)), iv (((((p1 + (1 : Int32)) + (1 : Int32)) + (1 : Int32)) + (1 : Int32)) + (1 : Int32))]) rfl (XS.goto X0.here hx rfl (pc0 := 49) (pc' := 5) rfl (hb hby d2_49) (by decide) (by decide) (XS.iload X0.here hx rfl (hb hby d2_5) rfl  (XS.iloadN X0.here hx rfl (hb hby d2_7) rfl  k)))) ?_
                      show own_Go p e below s _ _ (s₁.setTop (mkF m 8 #[rv a0, iv p1, iv 5, iv ((((10 : Int32) * ((((10 : Int32) * ((((10 : Int32) * ((((10 : Int32) * (((0 : Int32) + (g p1)) - (48 : Int32))) + (g (p1 + (1 : Int32)))) - (48 : Int32))) + (g ((p1 + (1 : Int32)) + (1 : Int32)))) - (48 : Int32))) + (g (((p1 + (1 : Int32)) + (1 : Int32)) + (1 : Int32)))) - (48 : Int32))) + (g ((((p1 + (1 : Int32)) + (1 : Int32)) + (1 : Int32)) + (1 : Int32)))) - (48 : Int32)), iv (((((p1 + (1 : Int32)) + (1 : Int32)) + (1 : Int32)) + (1 : Int32)) + (1 : Int32))] [(.int p1), (.int (((((p1 + (1 : Int32)) + (1 : Int32)) + (1 : Int32)) + (1 : Int32)) + (1 : Int32)))]))
                      refine own_via (fun k => XS.iloadN X0.here hx rfl (hb hby d2_8) rfl  (XS.iadd X0.here hx rfl (hb hby d2_9) rfl k)) ?_
                      show own_Go p e below s _ _ (s₁.setTop (mkF m 10 #[rv a0, iv p1, iv 5, iv ((((10 : Int32) * ((((10 : Int32) * ((((10 : Int32) * ((((10 : Int32) * (((0 : Int32) + (g p1)) - (48 : Int32))) + (g (p1 + (1 : Int32)))) - (48 : Int32))) + (g ((p1 + (1 : Int32)) + (1 : Int32)))) - (48 : Int32))) + (g (((p1 + (1 : Int32)) + (1 : Int32)) + (1 : Int32)))) - (48 : Int32))) + (g ((((p1 + (1 : Int32)) + (1 : Int32)) + (1 : Int32)) + (1 : Int32)))) - (48 : Int32)), iv (((((p1 + (1 : Int32)) + (1 : Int32)) + (1 : Int32)) + (1 : Int32)) + (1 : Int32))] [(.int (p1 + (5 : Int32))), (.int (((((p1 + (1 : Int32)) + (1 : Int32)) + (1 : Int32)) + (1 : Int32)) + (1 : Int32)))]))
                      refine own_via (fun k => XS.icmpYes X0.here hx rfl (pc0 := 10) (pc' := 52) rfl (hb hby d2_10) rfl (flt (own_l325_5 p1 hlo hhi)).2.1 (by decide) (by decide) k) ?_
                      show own_Go p e below s _ _ (s₁.setTop (mkF m 52 #[rv a0, iv p1, iv 5, iv ((((10 : Int32) * ((((10 : Int32) * ((((10 : Int32) * ((((10 : Int32) * (((0 : Int32) + (g p1)) - (48 : Int32))) + (g (p1 + (1 : Int32)))) - (48 : Int32))) + (g ((p1 + (1 : Int32)) + (1 : Int32)))) - (48 : Int32))) + (g (((p1 + (1 : Int32)) + (1 : Int32)) + (1 : Int32)))) - (48 : Int32))) + (g ((((p1 + (1 : Int32)) + (1 : Int32)) + (1 : Int32)) + (1 : Int32)))) - (48 : Int32)), iv (((((p1 + (1 : Int32)) + (1 : Int32)) + (1 : Int32)) + (1 : Int32)) + (1 : Int32))] []))
                      refine own_via (fun k => XS.iloadN X0.here hx rfl (hb hby d2_52) rfl  k) ?_
                      show own_Go p e below s _ _ (s₁.setTop (mkF m 53 #[rv a0, iv p1, iv 5, iv ((((10 : Int32) * ((((10 : Int32) * ((((10 : Int32) * ((((10 : Int32) * (((0 : Int32) + (g p1)) - (48 : Int32))) + (g (p1 + (1 : Int32)))) - (48 : Int32))) + (g ((p1 + (1 : Int32)) + (1 : Int32)))) - (48 : Int32))) + (g (((p1 + (1 : Int32)) + (1 : Int32)) + (1 : Int32)))) - (48 : Int32))) + (g ((((p1 + (1 : Int32)) + (1 : Int32)) + (1 : Int32)) + (1 : Int32)))) - (48 : Int32)), iv (((((p1 + (1 : Int32)) + (1 : Int32)) + (1 : Int32)) + (1 : Int32)) + (1 : Int32))] [(.int ((((10 : Int32) * ((((10 : Int32) * ((((10 : Int32) * ((((10 : Int32) * (((0 : Int32) + (g p1)) - (48 : Int32))) + (g (p1 + (1 : Int32)))) - (48 : Int32))) + (g ((p1 + (1 : Int32)) + (1 : Int32)))) - (48 : Int32))) + (g (((p1 + (1 : Int32)) + (1 : Int32)) + (1 : Int32)))) - (48 : Int32))) + (g ((((p1 + (1 : Int32)) + (1 : Int32)) + (1 : Int32)) + (1 : Int32)))) - (48 : Int32)))]))
                      exact own_retI X0 hx hlk Bd.returns (hb hby d2_53) (Q := (Q2_5 Z a0 p1 k vs g h0 n0)) ⟨(congrArg (fun z => some (Value.int z)) (show ((((10 : Int32) * ((((10 : Int32) * ((((10 : Int32) * ((((10 : Int32) * (((0 : Int32) + (g p1)) - (48 : Int32))) + (g (p1 + (1 : Int32)))) - (48 : Int32))) + (g ((p1 + (1 : Int32)) + (1 : Int32)))) - (48 : Int32))) + (g (((p1 + (1 : Int32)) + (1 : Int32)) + (1 : Int32)))) - (48 : Int32))) + (g ((((p1 + (1 : Int32)) + (1 : Int32)) + (1 : Int32)) + (1 : Int32)))) - (48 : Int32)) = (own_f2_5 p1 g) from (by unfold own_f2_5; exact ((if_neg hc2).trans ((if_neg hc4).trans ((if_neg hc7).trans ((if_neg hc9).trans ((if_neg hc12).trans ((if_neg hc14).trans ((if_neg hc17).trans ((if_neg hc19).trans ((if_neg hc22).trans ((if_neg hc24).trans rfl)))))))))).symm))), N0, e0⟩ (by decide) (by decide)
theorem d3_0 : decode method_4_code 0 = .ok (.iload_n 0, 1) := by decide +kernel
theorem d3_1 : decode method_4_code 1 = .ok (.ifCond .ne 5, 3) := by decide +kernel
theorem d3_4 : decode method_4_code 4 = .ok (.iconst 1, 1) := by decide +kernel
theorem d3_5 : decode method_4_code 5 = .ok (.ireturn, 1) := by decide +kernel
theorem d3_6 : decode method_4_code 6 = .ok (.iload_n 0, 1) := by decide +kernel
theorem d3_7 : decode method_4_code 7 = .ok (.iconst 1, 1) := by decide +kernel
theorem d3_8 : decode method_4_code 8 = .ok (.if_icmp .ne 6, 3) := by decide +kernel
theorem d3_11 : decode method_4_code 11 = .ok (.bipush 10, 2) := by decide +kernel
theorem d3_13 : decode method_4_code 13 = .ok (.ireturn, 1) := by decide +kernel
theorem d3_14 : decode method_4_code 14 = .ok (.iload_n 0, 1) := by decide +kernel
theorem d3_15 : decode method_4_code 15 = .ok (.iconst 2, 1) := by decide +kernel
theorem d3_16 : decode method_4_code 16 = .ok (.if_icmp .ne 6, 3) := by decide +kernel
theorem d3_19 : decode method_4_code 19 = .ok (.bipush 100, 2) := by decide +kernel
theorem d3_21 : decode method_4_code 21 = .ok (.ireturn, 1) := by decide +kernel
theorem d3_22 : decode method_4_code 22 = .ok (.iload_n 0, 1) := by decide +kernel
theorem d3_23 : decode method_4_code 23 = .ok (.iconst 3, 1) := by decide +kernel
theorem d3_24 : decode method_4_code 24 = .ok (.if_icmp .ne 7, 3) := by decide +kernel
theorem d3_27 : decode method_4_code 27 = .ok (.sipush 1000, 3) := by decide +kernel
theorem d3_30 : decode method_4_code 30 = .ok (.ireturn, 1) := by decide +kernel
theorem d3_31 : decode method_4_code 31 = .ok (.iload_n 0, 1) := by decide +kernel
theorem d3_32 : decode method_4_code 32 = .ok (.iconst 4, 1) := by decide +kernel
theorem d3_33 : decode method_4_code 33 = .ok (.if_icmp .ne 7, 3) := by decide +kernel
theorem d3_36 : decode method_4_code 36 = .ok (.sipush 10000, 3) := by decide +kernel
theorem d3_39 : decode method_4_code 39 = .ok (.ireturn, 1) := by decide +kernel
theorem d3_40 : decode method_4_code 40 = .ok (.ldc 24, 2) := by decide +kernel
theorem d3_42 : decode method_4_code 42 = .ok (.ireturn, 1) := by decide +kernel
theorem pn_3 : plainName "organico/records/Iso2709DigitsPinLaw" = true := by first | (simp [plainName, overriddenIn]; done) | decide +kernel
theorem ef_3 (m : MethodId) (x0 : Int32) : entryFrame m #[(.int x0)] 1 = mkF m 0 #[iv x0] [] := by first | (simp [entryFrame, mkF, argsToLocals, Value.category]; done) | rfl
def own_f3 (p0 : Int32) : Int32 := (if p0 = (0 : Int32) then (1 : Int32) else (if p0 = (1 : Int32) then (10 : Int32) else (if p0 = (2 : Int32) then (100 : Int32) else (if p0 = (3 : Int32) then (1000 : Int32) else (if p0 = (4 : Int32) then (10000 : Int32) else (100000 : Int32))))))
def Q3 (Z : State) (p0 : Int32) (h0 : Heap) (n0 : Nat) (v : Option Value) (h : Heap) (L : List Loc) : Prop := v = some (.int (own_f3 p0)) ∧ Fr n0 L ∧ h = h0
set_option maxRecDepth 65536 in
set_option maxHeartbeats 40000000 in
theorem rm3 (l : Launch) (Z : State) (aw : Array Value) (hw : ∀ d ∈ tables_1, d.before aw Z = true) (ws : List Jvm.Cond) (p0 : Int32) (h0 : Heap) (n0 : Nat) (Z0 : n0 ≤ h0.size)  :
    MetFree l (⟨"organico/records/Iso2709DigitsPinLaw", "pow10", "(I)I"⟩ : MethodName) (head1 (Jvm.Cond.code (⟨"organico/records/Iso2709DigitsPinLaw", "pow10", "(I)I"⟩ : MethodName) method_4_code 1 (some .int) :: ws) ({ frames := 0, cells := 0, slots := 0, locals := 0 } : Room)) (fun a U => a = #[(.int p0)] ∧ Z.Warmed39 U.vm ∧ U.heap = h0) (fun _ _ _ _ _ => True) (fun _ U o U' => ∃ v L, o = .returned v ∧ Q3 Z p0 h0 n0 v U'.heap L ∧ FrameEnd U o U' L ({ frames := 0, cells := 0, slots := 0, locals := 0 } : Room).cells ({ frames := 0, cells := 0, slots := 0, locals := 0 } : Room).slots) := by
  refine MetFree.of_bodySF (plainFor_of_name pn_3) hisR ?_
  intro p e s m args below meth c s₁ Bd hml0 hP hK
  obtain ⟨rfl, hZ, hh⟩ := hP
  have hx := Bd.exec
  have hby := Bd.bytes
  have hml : c.maxLocals = 1 := hml0
  have hown : s.vm.findClass "organico/records/Iso2709DigitsPinLaw" = some m.cls := findClass_of_methodNamed Bd.named
  have hnm := (name_of_methodNamed Bd.named Bd.method).1
  have hlk : meth.locks = false := by first | exact BodyLoose.notSynchronized (by assumption) | exact Body.notSynchronized (by assumption)
  have X0 : Stand p l e ({ frames := 0, cells := 0, slots := 0, locals := 0 } : Room) s m #[(.int p0)] below meth c s₁ [] 0 0 := Stand.of_body Bd
  have e0 : s₁.heap = h0 := by rw [← hh, Bd.state]; rfl
  have N0 := Fr.nil n0
  have K0 : Keep h0 h0 [] := Keep.refl _ _
  refine own_start (CS := (0, 0)) (Q := (Q3 Z p0 h0 n0)) (ef_3 m p0) ?_
  show own_Go p e below s _ _ (s₁.setTop (mkF m 0 #[iv p0] []))
  refine own_via (fun k => XS.iloadN X0.here hx rfl (hb hby d3_0) rfl  k) ?_
  show own_Go p e below s _ _ (s₁.setTop (mkF m 1 #[iv p0] [(.int p0)]))
  by_cases hc1 : p0 = (0 : Int32)
  · refine own_via (fun k => XS.ifNo X0.here hx rfl (hb hby d3_1) rfl ((if0 _ _).trans (teq hc1).2) k) ?_
    show own_Go p e below s _ _ (s₁.setTop (mkF m 4 #[iv p0] []))
    refine own_via (fun k => XS.iconst X0.here hx rfl (hb hby d3_4) k) ?_
    show own_Go p e below s _ _ (s₁.setTop (mkF m 5 #[iv p0] [(.int 1)]))
    exact own_retI X0 hx hlk Bd.returns (hb hby d3_5) (Q := (Q3 Z p0 h0 n0)) ⟨(congrArg (fun z => some (Value.int z)) (show (1 : Int32) = (own_f3 p0) from (by unfold own_f3; exact ((if_pos hc1).trans rfl).symm))), N0, e0⟩ (by decide) (by decide)
  · refine own_via (fun k => XS.ifYes X0.here hx rfl (pc0 := 1) (pc' := 6) rfl (hb hby d3_1) rfl ((if0 _ _).trans (feq hc1).2) (by decide) (by decide) k) ?_
    show own_Go p e below s _ _ (s₁.setTop (mkF m 6 #[iv p0] []))
    refine own_via (fun k => XS.iloadN X0.here hx rfl (hb hby d3_6) rfl  (XS.iconst X0.here hx rfl (hb hby d3_7) k)) ?_
    show own_Go p e below s _ _ (s₁.setTop (mkF m 8 #[iv p0] [(.int 1), (.int p0)]))
    by_cases hc2 : p0 = (1 : Int32)
    · refine own_via (fun k => XS.icmpNo X0.here hx rfl (hb hby d3_8) rfl (teq hc2).2 k) ?_
      show own_Go p e below s _ _ (s₁.setTop (mkF m 11 #[iv p0] []))
      refine own_via (fun k => XS.bipush X0.here hx rfl (hb hby d3_11) k) ?_
      show own_Go p e below s _ _ (s₁.setTop (mkF m 13 #[iv p0] [(.int 10)]))
      exact own_retI X0 hx hlk Bd.returns (hb hby d3_13) (Q := (Q3 Z p0 h0 n0)) ⟨(congrArg (fun z => some (Value.int z)) (show (10 : Int32) = (own_f3 p0) from (by unfold own_f3; exact ((if_neg hc1).trans ((if_pos hc2).trans rfl)).symm))), N0, e0⟩ (by decide) (by decide)
    · refine own_via (fun k => XS.icmpYes X0.here hx rfl (pc0 := 8) (pc' := 14) rfl (hb hby d3_8) rfl (feq hc2).2 (by decide) (by decide) k) ?_
      show own_Go p e below s _ _ (s₁.setTop (mkF m 14 #[iv p0] []))
      refine own_via (fun k => XS.iloadN X0.here hx rfl (hb hby d3_14) rfl  (XS.iconst X0.here hx rfl (hb hby d3_15) k)) ?_
      show own_Go p e below s _ _ (s₁.setTop (mkF m 16 #[iv p0] [(.int 2), (.int p0)]))
      by_cases hc3 : p0 = (2 : Int32)
      · refine own_via (fun k => XS.icmpNo X0.here hx rfl (hb hby d3_16) rfl (teq hc3).2 k) ?_
        show own_Go p e below s _ _ (s₁.setTop (mkF m 19 #[iv p0] []))
        refine own_via (fun k => XS.bipush X0.here hx rfl (hb hby d3_19) k) ?_
        show own_Go p e below s _ _ (s₁.setTop (mkF m 21 #[iv p0] [(.int 100)]))
        exact own_retI X0 hx hlk Bd.returns (hb hby d3_21) (Q := (Q3 Z p0 h0 n0)) ⟨(congrArg (fun z => some (Value.int z)) (show (100 : Int32) = (own_f3 p0) from (by unfold own_f3; exact ((if_neg hc1).trans ((if_neg hc2).trans ((if_pos hc3).trans rfl))).symm))), N0, e0⟩ (by decide) (by decide)
      · refine own_via (fun k => XS.icmpYes X0.here hx rfl (pc0 := 16) (pc' := 22) rfl (hb hby d3_16) rfl (feq hc3).2 (by decide) (by decide) k) ?_
        show own_Go p e below s _ _ (s₁.setTop (mkF m 22 #[iv p0] []))
        refine own_via (fun k => XS.iloadN X0.here hx rfl (hb hby d3_22) rfl  (XS.iconst X0.here hx rfl (hb hby d3_23) k)) ?_
        show own_Go p e below s _ _ (s₁.setTop (mkF m 24 #[iv p0] [(.int 3), (.int p0)]))
        by_cases hc4 : p0 = (3 : Int32)
        · refine own_via (fun k => XS.icmpNo X0.here hx rfl (hb hby d3_24) rfl (teq hc4).2 k) ?_
          show own_Go p e below s _ _ (s₁.setTop (mkF m 27 #[iv p0] []))
          refine own_via (fun k => XS.sipush X0.here hx rfl (hb hby d3_27) k) ?_
          show own_Go p e below s _ _ (s₁.setTop (mkF m 30 #[iv p0] [(.int 1000)]))
          exact own_retI X0 hx hlk Bd.returns (hb hby d3_30) (Q := (Q3 Z p0 h0 n0)) ⟨(congrArg (fun z => some (Value.int z)) (show (1000 : Int32) = (own_f3 p0) from (by unfold own_f3; exact ((if_neg hc1).trans ((if_neg hc2).trans ((if_neg hc3).trans ((if_pos hc4).trans rfl)))).symm))), N0, e0⟩ (by decide) (by decide)
        · refine own_via (fun k => XS.icmpYes X0.here hx rfl (pc0 := 24) (pc' := 31) rfl (hb hby d3_24) rfl (feq hc4).2 (by decide) (by decide) k) ?_
          show own_Go p e below s _ _ (s₁.setTop (mkF m 31 #[iv p0] []))
          refine own_via (fun k => XS.iloadN X0.here hx rfl (hb hby d3_31) rfl  (XS.iconst X0.here hx rfl (hb hby d3_32) k)) ?_
          show own_Go p e below s _ _ (s₁.setTop (mkF m 33 #[iv p0] [(.int 4), (.int p0)]))
          by_cases hc5 : p0 = (4 : Int32)
          · refine own_via (fun k => XS.icmpNo X0.here hx rfl (hb hby d3_33) rfl (teq hc5).2 k) ?_
            show own_Go p e below s _ _ (s₁.setTop (mkF m 36 #[iv p0] []))
            refine own_via (fun k => XS.sipush X0.here hx rfl (hb hby d3_36) k) ?_
            show own_Go p e below s _ _ (s₁.setTop (mkF m 39 #[iv p0] [(.int 10000)]))
            exact own_retI X0 hx hlk Bd.returns (hb hby d3_39) (Q := (Q3 Z p0 h0 n0)) ⟨(congrArg (fun z => some (Value.int z)) (show (10000 : Int32) = (own_f3 p0) from (by unfold own_f3; exact ((if_neg hc1).trans ((if_neg hc2).trans ((if_neg hc3).trans ((if_neg hc4).trans ((if_pos hc5).trans rfl))))).symm))), N0, e0⟩ (by decide) (by decide)
          · refine own_via (fun k => XS.icmpYes X0.here hx rfl (pc0 := 33) (pc' := 40) rfl (hb hby d3_33) rfl (feq hc5).2 (by decide) (by decide) k) ?_
            show own_Go p e below s _ _ (s₁.setTop (mkF m 40 #[iv p0] []))
            refine own_via (fun k => X0.ldcInt hx hown (mvT hZ (hw _ (List.mem_of_getElem? (i := 13) rfl))) (g := (mkF m 40 #[iv p0] [])) rfl (hb hby d3_40) _ k) ?_
            show own_Go p e below s _ _ (s₁.setTop (mkF m 42 #[iv p0] [(.int 100000)]))
            exact own_retI X0 hx hlk Bd.returns (hb hby d3_42) (Q := (Q3 Z p0 h0 n0)) ⟨(congrArg (fun z => some (Value.int z)) (show (100000 : Int32) = (own_f3 p0) from (by unfold own_f3; exact ((if_neg hc1).trans ((if_neg hc2).trans ((if_neg hc3).trans ((if_neg hc4).trans ((if_neg hc5).trans rfl))))).symm))), N0, e0⟩ (by decide) (by decide)
theorem pn_0 : plainName "organico/records/Iso2709DigitsPinLaw" = true := by first | (simp [plainName, overriddenIn]; done) | decide +kernel
theorem pd_0 : parseMethodDescriptor "([BIII)I" = some ⟨[(.array .byte), .int, .int, .int], some .int⟩ := by decide +kernel
theorem pd_2 : parseMethodDescriptor "(I)I" = some ⟨[.int], some .int⟩ := by decide +kernel
theorem pd_1 : parseMethodDescriptor "([BII)I" = some ⟨[(.array .byte), .int, .int], some .int⟩ := by decide +kernel
theorem ef_0 (m : MethodId) (x0 : Int64) (x1 : Int32) : entryFrame m #[(.long x0), (.int x1)] maxLocals = mkF m 0 #[jv x0, .second, iv x1, .unset, .unset, .unset, .unset, .unset, .unset, .unset, .unset, .unset] [] := by first | (simp [entryFrame, mkF, argsToLocals, Value.category, maxLocals]; done) | rfl
theorem own_len (p1 : Int32) : ((p1 &&& (7 : Int32)) % (6 : Int32)) = (0 : Int32) ∨ ((p1 &&& (7 : Int32)) % (6 : Int32)) = (1 : Int32) ∨ ((p1 &&& (7 : Int32)) % (6 : Int32)) = (2 : Int32) ∨ ((p1 &&& (7 : Int32)) % (6 : Int32)) = (3 : Int32) ∨ ((p1 &&& (7 : Int32)) % (6 : Int32)) = (4 : Int32) ∨ ((p1 &&& (7 : Int32)) % (6 : Int32)) = (5 : Int32) := by
  have e32_0 : (0 : Int32).toInt = 0 := by decide
  have e32_1 : (1 : Int32).toInt = 1 := by decide
  have e32_2 : (2 : Int32).toInt = 2 := by decide
  have e32_3 : (3 : Int32).toInt = 3 := by decide
  have e32_4 : (4 : Int32).toInt = 4 := by decide
  have e32_5 : (5 : Int32).toInt = 5 := by decide
  have e32_6 : (6 : Int32).toInt = 6 := by decide
  have e32_7 : (7 : Int32).toInt = 7 := by decide
  have m := c_mask p1 7 3 (by decide) (by decide)
  have r := (c_irem (p1 &&& (7 : Int32)) 6 6 (by decide)).1 (by omega)
  simp only [own_e32]; omega
theorem own_hhin_0_105 (p1 : Int32) (z46 : Int32) (hz46 : z46 = ((((p1.toUInt32 >>> ((3 : Int32) &&& 31).toUInt32).toInt32) &&& (2147483647 : Int32)) % (9 : Int32))) (hl45 : ((p1 &&& (7 : Int32)) % (6 : Int32)) = (0 : Int32)) : (0 : Int32) < (0 : Int32) → (¬ (z46 + (0 : Int32)) < (0 : Int32) ∧ (z46 + (0 : Int32)) < (8 : Int32)) := by
  have hlo := own_zlo 9 (by decide) (by decide) hz46
  have hhi := own_zhi 9 (by decide) (by decide) hz46
  clear hz46
  have h9 := own_h9 hhi (by decide)
  rcases own_c9 hlo h9 with rfl | rfl | rfl | rfl | rfl | rfl | rfl | rfl | rfl <;> revert hlo hhi <;> decide
theorem own_hhin_0_116 (p1 : Int32) (z46 : Int32) (hz46 : z46 = ((((p1.toUInt32 >>> ((3 : Int32) &&& 31).toUInt32).toInt32) &&& (2147483647 : Int32)) % (9 : Int32))) (hl45 : ((p1 &&& (7 : Int32)) % (6 : Int32)) = (0 : Int32)) : (1 : Int32) < (0 : Int32) → (¬ (z46 + (1 : Int32)) < (0 : Int32) ∧ (z46 + (1 : Int32)) < (8 : Int32)) := by
  have hlo := own_zlo 9 (by decide) (by decide) hz46
  have hhi := own_zhi 9 (by decide) (by decide) hz46
  clear hz46
  have h9 := own_h9 hhi (by decide)
  rcases own_c9 hlo h9 with rfl | rfl | rfl | rfl | rfl | rfl | rfl | rfl | rfl <;> revert hlo hhi <;> decide
theorem own_hhin_0_127 (p1 : Int32) (z46 : Int32) (hz46 : z46 = ((((p1.toUInt32 >>> ((3 : Int32) &&& 31).toUInt32).toInt32) &&& (2147483647 : Int32)) % (9 : Int32))) (hl45 : ((p1 &&& (7 : Int32)) % (6 : Int32)) = (0 : Int32)) : (2 : Int32) < (0 : Int32) → (¬ (z46 + (2 : Int32)) < (0 : Int32) ∧ (z46 + (2 : Int32)) < (8 : Int32)) := by
  have hlo := own_zlo 9 (by decide) (by decide) hz46
  have hhi := own_zhi 9 (by decide) (by decide) hz46
  clear hz46
  have h9 := own_h9 hhi (by decide)
  rcases own_c9 hlo h9 with rfl | rfl | rfl | rfl | rfl | rfl | rfl | rfl | rfl <;> revert hlo hhi <;> decide
theorem own_hhin_0_138 (p1 : Int32) (z46 : Int32) (hz46 : z46 = ((((p1.toUInt32 >>> ((3 : Int32) &&& 31).toUInt32).toInt32) &&& (2147483647 : Int32)) % (9 : Int32))) (hl45 : ((p1 &&& (7 : Int32)) % (6 : Int32)) = (0 : Int32)) : (3 : Int32) < (0 : Int32) → (¬ (z46 + (3 : Int32)) < (0 : Int32) ∧ (z46 + (3 : Int32)) < (8 : Int32)) := by
  have hlo := own_zlo 9 (by decide) (by decide) hz46
  have hhi := own_zhi 9 (by decide) (by decide) hz46
  clear hz46
  have h9 := own_h9 hhi (by decide)
  rcases own_c9 hlo h9 with rfl | rfl | rfl | rfl | rfl | rfl | rfl | rfl | rfl <;> revert hlo hhi <;> decide
theorem own_hhin_0_149 (p1 : Int32) (z46 : Int32) (hz46 : z46 = ((((p1.toUInt32 >>> ((3 : Int32) &&& 31).toUInt32).toInt32) &&& (2147483647 : Int32)) % (9 : Int32))) (hl45 : ((p1 &&& (7 : Int32)) % (6 : Int32)) = (0 : Int32)) : (4 : Int32) < (0 : Int32) → (¬ (z46 + (4 : Int32)) < (0 : Int32) ∧ (z46 + (4 : Int32)) < (8 : Int32)) := by
  have hlo := own_zlo 9 (by decide) (by decide) hz46
  have hhi := own_zhi 9 (by decide) (by decide) hz46
  clear hz46
  have h9 := own_h9 hhi (by decide)
  rcases own_c9 hlo h9 with rfl | rfl | rfl | rfl | rfl | rfl | rfl | rfl | rfl <;> revert hlo hhi <;> decide
theorem own_nz0 (p1 : Int32) (hl45 : ((p1 &&& (7 : Int32)) % (6 : Int32)) = (0 : Int32)) : ¬ ((own_f3 (5 : Int32)) = (0 : Int32)) := by decide
theorem own_hhlo_0_228 (p1 : Int32) (z46 : Int32) (hz46 : z46 = ((((p1.toUInt32 >>> ((3 : Int32) &&& 31).toUInt32).toInt32) &&& (2147483647 : Int32)) % (9 : Int32))) (hl45 : ((p1 &&& (7 : Int32)) % (6 : Int32)) = (0 : Int32)) : ¬ z46 < (0 : Int32) := own_zlo 9 (by decide) (by decide) hz46
theorem own_hhhi_0_228 (p1 : Int32) (z46 : Int32) (hz46 : z46 = ((((p1.toUInt32 >>> ((3 : Int32) &&& 31).toUInt32).toInt32) &&& (2147483647 : Int32)) % (9 : Int32))) (hl45 : ((p1 &&& (7 : Int32)) % (6 : Int32)) = (0 : Int32)) : z46 < (9 : Int32) := own_zhi 9 (by decide) (by decide) hz46
theorem own_law0 (p1 : Int32) (g : Int32 → Int32) (z46 : Int32) (hz46 : z46 = ((((p1.toUInt32 >>> ((3 : Int32) &&& 31).toUInt32).toInt32) &&& (2147483647 : Int32)) % (9 : Int32))) (z49 : Int32) (hz49 : z49 = (own_f1 z46 (0 : Int32) (0 : Int32) g)) (z52 : Int32) (hz52 : z52 = (own_f1 z46 (1 : Int32) (0 : Int32) g)) (z55 : Int32) (hz55 : z55 = (own_f1 z46 (2 : Int32) (0 : Int32) g)) (z58 : Int32) (hz58 : z58 = (own_f1 z46 (3 : Int32) (0 : Int32) g)) (z61 : Int32) (hz61 : z61 = (own_f1 z46 (4 : Int32) (0 : Int32) g)) (z64 : Int32) (hz64 : z64 = (if z49 < (0 : Int32) then (-1 : Int32) else (if z52 < (0 : Int32) then (-1 : Int32) else (if z55 < (0 : Int32) then (-1 : Int32) else (if z58 < (0 : Int32) then (-1 : Int32) else (if z61 < (0 : Int32) then (-1 : Int32) else ((((((z49 * (10000 : Int32)) + (z52 * (1000 : Int32))) + (z55 * (100 : Int32))) + (z58 * (10 : Int32))) + z61) / (own_f3 (5 : Int32))))))))) (hl45 : ((p1 &&& (7 : Int32)) % (6 : Int32)) = (0 : Int32)) : own_f2_0 = z64 := by
  subst hz64 hz61 hz58 hz55 hz52 hz49
  have e0 : own_f1 z46 (0 : Int32) (0 : Int32) g = (0 : Int32) := by rw [own_f1, if_neg (by decide)]
  have e1 : own_f1 z46 (1 : Int32) (0 : Int32) g = (0 : Int32) := by rw [own_f1, if_neg (by decide)]
  have e2 : own_f1 z46 (2 : Int32) (0 : Int32) g = (0 : Int32) := by rw [own_f1, if_neg (by decide)]
  have e3 : own_f1 z46 (3 : Int32) (0 : Int32) g = (0 : Int32) := by rw [own_f1, if_neg (by decide)]
  have e4 : own_f1 z46 (4 : Int32) (0 : Int32) g = (0 : Int32) := by rw [own_f1, if_neg (by decide)]
  rw [e0, e1, e2, e3, e4, own_f2_0]
  clear e0 e1 e2 e3 e4
  rw [if_neg (by decide : ¬ (0 : Int32) < (0 : Int32)), if_neg (by decide : ¬ (0 : Int32) < (0 : Int32)), if_neg (by decide : ¬ (0 : Int32) < (0 : Int32)), if_neg (by decide : ¬ (0 : Int32) < (0 : Int32)), if_neg (by decide : ¬ (0 : Int32) < (0 : Int32))]
  have e0 : (0 : Int32).toInt = 0 := by decide
  have S := own_sum (d0 := (0 : Int32)) (d1 := (0 : Int32)) (d2 := (0 : Int32)) (d3 := (0 : Int32)) (d4 := (0 : Int32)) (by omega) (by omega) (by omega) (by omega) (by omega)
  have D := (c_idiv ((((((0 : Int32) * (10000 : Int32)) + ((0 : Int32) * (1000 : Int32))) + ((0 : Int32) * (100 : Int32))) + ((0 : Int32) * (10 : Int32))) + (0 : Int32)) (own_f3 (5 : Int32)) 100000 (by decide) (by decide)).1 (by omega)
  rw [own_e32, D]; omega
theorem own_hhin_1_105 (p1 : Int32) (z75 : Int32) (hz75 : z75 = ((((p1.toUInt32 >>> ((3 : Int32) &&& 31).toUInt32).toInt32) &&& (2147483647 : Int32)) % (8 : Int32))) (hl45 : ((p1 &&& (7 : Int32)) % (6 : Int32)) = (1 : Int32)) : (0 : Int32) < (1 : Int32) → (¬ (z75 + (0 : Int32)) < (0 : Int32) ∧ (z75 + (0 : Int32)) < (8 : Int32)) := by
  have hlo := own_zlo 8 (by decide) (by decide) hz75
  have hhi := own_zhi 8 (by decide) (by decide) hz75
  clear hz75
  have h9 := own_h9 hhi (by decide)
  rcases own_c9 hlo h9 with rfl | rfl | rfl | rfl | rfl | rfl | rfl | rfl | rfl <;> revert hlo hhi <;> decide
theorem own_hhin_1_116 (p1 : Int32) (z75 : Int32) (hz75 : z75 = ((((p1.toUInt32 >>> ((3 : Int32) &&& 31).toUInt32).toInt32) &&& (2147483647 : Int32)) % (8 : Int32))) (hl45 : ((p1 &&& (7 : Int32)) % (6 : Int32)) = (1 : Int32)) : (1 : Int32) < (1 : Int32) → (¬ (z75 + (1 : Int32)) < (0 : Int32) ∧ (z75 + (1 : Int32)) < (8 : Int32)) := by
  have hlo := own_zlo 8 (by decide) (by decide) hz75
  have hhi := own_zhi 8 (by decide) (by decide) hz75
  clear hz75
  have h9 := own_h9 hhi (by decide)
  rcases own_c9 hlo h9 with rfl | rfl | rfl | rfl | rfl | rfl | rfl | rfl | rfl <;> revert hlo hhi <;> decide
theorem own_hhin_1_127 (p1 : Int32) (z75 : Int32) (hz75 : z75 = ((((p1.toUInt32 >>> ((3 : Int32) &&& 31).toUInt32).toInt32) &&& (2147483647 : Int32)) % (8 : Int32))) (hl45 : ((p1 &&& (7 : Int32)) % (6 : Int32)) = (1 : Int32)) : (2 : Int32) < (1 : Int32) → (¬ (z75 + (2 : Int32)) < (0 : Int32) ∧ (z75 + (2 : Int32)) < (8 : Int32)) := by
  have hlo := own_zlo 8 (by decide) (by decide) hz75
  have hhi := own_zhi 8 (by decide) (by decide) hz75
  clear hz75
  have h9 := own_h9 hhi (by decide)
  rcases own_c9 hlo h9 with rfl | rfl | rfl | rfl | rfl | rfl | rfl | rfl | rfl <;> revert hlo hhi <;> decide
theorem own_hhin_1_138 (p1 : Int32) (z75 : Int32) (hz75 : z75 = ((((p1.toUInt32 >>> ((3 : Int32) &&& 31).toUInt32).toInt32) &&& (2147483647 : Int32)) % (8 : Int32))) (hl45 : ((p1 &&& (7 : Int32)) % (6 : Int32)) = (1 : Int32)) : (3 : Int32) < (1 : Int32) → (¬ (z75 + (3 : Int32)) < (0 : Int32) ∧ (z75 + (3 : Int32)) < (8 : Int32)) := by
  have hlo := own_zlo 8 (by decide) (by decide) hz75
  have hhi := own_zhi 8 (by decide) (by decide) hz75
  clear hz75
  have h9 := own_h9 hhi (by decide)
  rcases own_c9 hlo h9 with rfl | rfl | rfl | rfl | rfl | rfl | rfl | rfl | rfl <;> revert hlo hhi <;> decide
theorem own_hhin_1_149 (p1 : Int32) (z75 : Int32) (hz75 : z75 = ((((p1.toUInt32 >>> ((3 : Int32) &&& 31).toUInt32).toInt32) &&& (2147483647 : Int32)) % (8 : Int32))) (hl45 : ((p1 &&& (7 : Int32)) % (6 : Int32)) = (1 : Int32)) : (4 : Int32) < (1 : Int32) → (¬ (z75 + (4 : Int32)) < (0 : Int32) ∧ (z75 + (4 : Int32)) < (8 : Int32)) := by
  have hlo := own_zlo 8 (by decide) (by decide) hz75
  have hhi := own_zhi 8 (by decide) (by decide) hz75
  clear hz75
  have h9 := own_h9 hhi (by decide)
  rcases own_c9 hlo h9 with rfl | rfl | rfl | rfl | rfl | rfl | rfl | rfl | rfl <;> revert hlo hhi <;> decide
theorem own_nz1 (p1 : Int32) (hl45 : ((p1 &&& (7 : Int32)) % (6 : Int32)) = (1 : Int32)) : ¬ ((own_f3 (4 : Int32)) = (0 : Int32)) := by decide
theorem own_hhlo_1_228 (p1 : Int32) (z75 : Int32) (hz75 : z75 = ((((p1.toUInt32 >>> ((3 : Int32) &&& 31).toUInt32).toInt32) &&& (2147483647 : Int32)) % (8 : Int32))) (hl45 : ((p1 &&& (7 : Int32)) % (6 : Int32)) = (1 : Int32)) : ¬ z75 < (0 : Int32) := own_zlo 8 (by decide) (by decide) hz75
theorem own_hhhi_1_228 (p1 : Int32) (z75 : Int32) (hz75 : z75 = ((((p1.toUInt32 >>> ((3 : Int32) &&& 31).toUInt32).toInt32) &&& (2147483647 : Int32)) % (8 : Int32))) (hl45 : ((p1 &&& (7 : Int32)) % (6 : Int32)) = (1 : Int32)) : z75 < (8 : Int32) := own_zhi 8 (by decide) (by decide) hz75
theorem own_law1 (p1 : Int32) (g : Int32 → Int32) (z75 : Int32) (hz75 : z75 = ((((p1.toUInt32 >>> ((3 : Int32) &&& 31).toUInt32).toInt32) &&& (2147483647 : Int32)) % (8 : Int32))) (z78 : Int32) (hz78 : z78 = (own_f1 z75 (0 : Int32) (1 : Int32) g)) (z81 : Int32) (hz81 : z81 = (own_f1 z75 (1 : Int32) (1 : Int32) g)) (z84 : Int32) (hz84 : z84 = (own_f1 z75 (2 : Int32) (1 : Int32) g)) (z87 : Int32) (hz87 : z87 = (own_f1 z75 (3 : Int32) (1 : Int32) g)) (z90 : Int32) (hz90 : z90 = (own_f1 z75 (4 : Int32) (1 : Int32) g)) (z93 : Int32) (hz93 : z93 = (if z78 < (0 : Int32) then (-1 : Int32) else (if z81 < (0 : Int32) then (-1 : Int32) else (if z84 < (0 : Int32) then (-1 : Int32) else (if z87 < (0 : Int32) then (-1 : Int32) else (if z90 < (0 : Int32) then (-1 : Int32) else ((((((z78 * (10000 : Int32)) + (z81 * (1000 : Int32))) + (z84 * (100 : Int32))) + (z87 * (10 : Int32))) + z90) / (own_f3 (4 : Int32))))))))) (hl45 : ((p1 &&& (7 : Int32)) % (6 : Int32)) = (1 : Int32)) : (own_f2_1 z75 g) = z93 := by
  subst hz93 hz90 hz87 hz84 hz81 hz78
  have e0 : own_f1 z75 (0 : Int32) (1 : Int32) g = own_dg (g z75) := by rw [own_f1, if_pos (by decide), Int32.add_zero]; rfl
  have e1 : own_f1 z75 (1 : Int32) (1 : Int32) g = (0 : Int32) := by rw [own_f1, if_neg (by decide)]
  have e2 : own_f1 z75 (2 : Int32) (1 : Int32) g = (0 : Int32) := by rw [own_f1, if_neg (by decide)]
  have e3 : own_f1 z75 (3 : Int32) (1 : Int32) g = (0 : Int32) := by rw [own_f1, if_neg (by decide)]
  have e4 : own_f1 z75 (4 : Int32) (1 : Int32) g = (0 : Int32) := by rw [own_f1, if_neg (by decide)]
  rw [e0, e1, e2, e3, e4, own_f2_1]
  clear e0 e1 e2 e3 e4
  generalize g z75 = b0
  by_cases h0 : b0 < (48 : Int32)
  · rw [if_pos h0, if_pos (own_di1 h0)]
  · by_cases k0 : (57 : Int32) < b0
    · rw [if_neg h0, if_pos k0, if_pos (own_di2 h0 k0)]
    · rw [if_neg h0, if_neg k0, if_neg (own_dv h0 k0).1]
      obtain ⟨-, v0, l0, m0⟩ := own_dv h0 k0
      rw [if_neg (by decide : ¬ (0 : Int32) < (0 : Int32)), if_neg (by decide : ¬ (0 : Int32) < (0 : Int32)), if_neg (by decide : ¬ (0 : Int32) < (0 : Int32)), if_neg (by decide : ¬ (0 : Int32) < (0 : Int32))]
      have e0 : (0 : Int32).toInt = 0 := by decide
      have S := own_sum (d0 := (own_dg b0)) (d1 := (0 : Int32)) (d2 := (0 : Int32)) (d3 := (0 : Int32)) (d4 := (0 : Int32)) (by omega) (by omega) (by omega) (by omega) (by omega)
      have D := (c_idiv ((((((own_dg b0) * (10000 : Int32)) + ((0 : Int32) * (1000 : Int32))) + ((0 : Int32) * (100 : Int32))) + ((0 : Int32) * (10 : Int32))) + (0 : Int32)) (own_f3 (4 : Int32)) 10000 (by decide) (by decide)).1 (by omega)
      have H0 := own_h0 l0 m0
      rw [own_e32, D]; omega
theorem own_hhin_2_105 (p1 : Int32) (z104 : Int32) (hz104 : z104 = ((((p1.toUInt32 >>> ((3 : Int32) &&& 31).toUInt32).toInt32) &&& (2147483647 : Int32)) % (7 : Int32))) (hl45 : ((p1 &&& (7 : Int32)) % (6 : Int32)) = (2 : Int32)) : (0 : Int32) < (2 : Int32) → (¬ (z104 + (0 : Int32)) < (0 : Int32) ∧ (z104 + (0 : Int32)) < (8 : Int32)) := by
  have hlo := own_zlo 7 (by decide) (by decide) hz104
  have hhi := own_zhi 7 (by decide) (by decide) hz104
  clear hz104
  have h9 := own_h9 hhi (by decide)
  rcases own_c9 hlo h9 with rfl | rfl | rfl | rfl | rfl | rfl | rfl | rfl | rfl <;> revert hlo hhi <;> decide
theorem own_hhin_2_116 (p1 : Int32) (z104 : Int32) (hz104 : z104 = ((((p1.toUInt32 >>> ((3 : Int32) &&& 31).toUInt32).toInt32) &&& (2147483647 : Int32)) % (7 : Int32))) (hl45 : ((p1 &&& (7 : Int32)) % (6 : Int32)) = (2 : Int32)) : (1 : Int32) < (2 : Int32) → (¬ (z104 + (1 : Int32)) < (0 : Int32) ∧ (z104 + (1 : Int32)) < (8 : Int32)) := by
  have hlo := own_zlo 7 (by decide) (by decide) hz104
  have hhi := own_zhi 7 (by decide) (by decide) hz104
  clear hz104
  have h9 := own_h9 hhi (by decide)
  rcases own_c9 hlo h9 with rfl | rfl | rfl | rfl | rfl | rfl | rfl | rfl | rfl <;> revert hlo hhi <;> decide
theorem own_hhin_2_127 (p1 : Int32) (z104 : Int32) (hz104 : z104 = ((((p1.toUInt32 >>> ((3 : Int32) &&& 31).toUInt32).toInt32) &&& (2147483647 : Int32)) % (7 : Int32))) (hl45 : ((p1 &&& (7 : Int32)) % (6 : Int32)) = (2 : Int32)) : (2 : Int32) < (2 : Int32) → (¬ (z104 + (2 : Int32)) < (0 : Int32) ∧ (z104 + (2 : Int32)) < (8 : Int32)) := by
  have hlo := own_zlo 7 (by decide) (by decide) hz104
  have hhi := own_zhi 7 (by decide) (by decide) hz104
  clear hz104
  have h9 := own_h9 hhi (by decide)
  rcases own_c9 hlo h9 with rfl | rfl | rfl | rfl | rfl | rfl | rfl | rfl | rfl <;> revert hlo hhi <;> decide
theorem own_hhin_2_138 (p1 : Int32) (z104 : Int32) (hz104 : z104 = ((((p1.toUInt32 >>> ((3 : Int32) &&& 31).toUInt32).toInt32) &&& (2147483647 : Int32)) % (7 : Int32))) (hl45 : ((p1 &&& (7 : Int32)) % (6 : Int32)) = (2 : Int32)) : (3 : Int32) < (2 : Int32) → (¬ (z104 + (3 : Int32)) < (0 : Int32) ∧ (z104 + (3 : Int32)) < (8 : Int32)) := by
  have hlo := own_zlo 7 (by decide) (by decide) hz104
  have hhi := own_zhi 7 (by decide) (by decide) hz104
  clear hz104
  have h9 := own_h9 hhi (by decide)
  rcases own_c9 hlo h9 with rfl | rfl | rfl | rfl | rfl | rfl | rfl | rfl | rfl <;> revert hlo hhi <;> decide
theorem own_hhin_2_149 (p1 : Int32) (z104 : Int32) (hz104 : z104 = ((((p1.toUInt32 >>> ((3 : Int32) &&& 31).toUInt32).toInt32) &&& (2147483647 : Int32)) % (7 : Int32))) (hl45 : ((p1 &&& (7 : Int32)) % (6 : Int32)) = (2 : Int32)) : (4 : Int32) < (2 : Int32) → (¬ (z104 + (4 : Int32)) < (0 : Int32) ∧ (z104 + (4 : Int32)) < (8 : Int32)) := by
  have hlo := own_zlo 7 (by decide) (by decide) hz104
  have hhi := own_zhi 7 (by decide) (by decide) hz104
  clear hz104
  have h9 := own_h9 hhi (by decide)
  rcases own_c9 hlo h9 with rfl | rfl | rfl | rfl | rfl | rfl | rfl | rfl | rfl <;> revert hlo hhi <;> decide
theorem own_nz2 (p1 : Int32) (hl45 : ((p1 &&& (7 : Int32)) % (6 : Int32)) = (2 : Int32)) : ¬ ((own_f3 (3 : Int32)) = (0 : Int32)) := by decide
theorem own_hhlo_2_228 (p1 : Int32) (z104 : Int32) (hz104 : z104 = ((((p1.toUInt32 >>> ((3 : Int32) &&& 31).toUInt32).toInt32) &&& (2147483647 : Int32)) % (7 : Int32))) (hl45 : ((p1 &&& (7 : Int32)) % (6 : Int32)) = (2 : Int32)) : ¬ z104 < (0 : Int32) := own_zlo 7 (by decide) (by decide) hz104
theorem own_hhhi_2_228 (p1 : Int32) (z104 : Int32) (hz104 : z104 = ((((p1.toUInt32 >>> ((3 : Int32) &&& 31).toUInt32).toInt32) &&& (2147483647 : Int32)) % (7 : Int32))) (hl45 : ((p1 &&& (7 : Int32)) % (6 : Int32)) = (2 : Int32)) : z104 < (7 : Int32) := own_zhi 7 (by decide) (by decide) hz104
theorem own_law2 (p1 : Int32) (g : Int32 → Int32) (z104 : Int32) (hz104 : z104 = ((((p1.toUInt32 >>> ((3 : Int32) &&& 31).toUInt32).toInt32) &&& (2147483647 : Int32)) % (7 : Int32))) (z107 : Int32) (hz107 : z107 = (own_f1 z104 (0 : Int32) (2 : Int32) g)) (z110 : Int32) (hz110 : z110 = (own_f1 z104 (1 : Int32) (2 : Int32) g)) (z113 : Int32) (hz113 : z113 = (own_f1 z104 (2 : Int32) (2 : Int32) g)) (z116 : Int32) (hz116 : z116 = (own_f1 z104 (3 : Int32) (2 : Int32) g)) (z119 : Int32) (hz119 : z119 = (own_f1 z104 (4 : Int32) (2 : Int32) g)) (z122 : Int32) (hz122 : z122 = (if z107 < (0 : Int32) then (-1 : Int32) else (if z110 < (0 : Int32) then (-1 : Int32) else (if z113 < (0 : Int32) then (-1 : Int32) else (if z116 < (0 : Int32) then (-1 : Int32) else (if z119 < (0 : Int32) then (-1 : Int32) else ((((((z107 * (10000 : Int32)) + (z110 * (1000 : Int32))) + (z113 * (100 : Int32))) + (z116 * (10 : Int32))) + z119) / (own_f3 (3 : Int32))))))))) (hl45 : ((p1 &&& (7 : Int32)) % (6 : Int32)) = (2 : Int32)) : (own_f2_2 z104 g) = z122 := by
  subst hz122 hz119 hz116 hz113 hz110 hz107
  have e0 : own_f1 z104 (0 : Int32) (2 : Int32) g = own_dg (g z104) := by rw [own_f1, if_pos (by decide), Int32.add_zero]; rfl
  have e1 : own_f1 z104 (1 : Int32) (2 : Int32) g = own_dg (g (z104 + (1 : Int32))) := by rw [own_f1, if_pos (by decide)]; rfl
  have e2 : own_f1 z104 (2 : Int32) (2 : Int32) g = (0 : Int32) := by rw [own_f1, if_neg (by decide)]
  have e3 : own_f1 z104 (3 : Int32) (2 : Int32) g = (0 : Int32) := by rw [own_f1, if_neg (by decide)]
  have e4 : own_f1 z104 (4 : Int32) (2 : Int32) g = (0 : Int32) := by rw [own_f1, if_neg (by decide)]
  rw [e0, e1, e2, e3, e4, own_f2_2]
  clear e0 e1 e2 e3 e4
  generalize g z104 = b0
  generalize g (z104 + (1 : Int32)) = b1
  by_cases h0 : b0 < (48 : Int32)
  · rw [if_pos h0, if_pos (own_di1 h0)]
  · by_cases k0 : (57 : Int32) < b0
    · rw [if_neg h0, if_pos k0, if_pos (own_di2 h0 k0)]
    · rw [if_neg h0, if_neg k0, if_neg (own_dv h0 k0).1]
      obtain ⟨-, v0, l0, m0⟩ := own_dv h0 k0
      by_cases h1 : b1 < (48 : Int32)
      · rw [if_pos h1, if_pos (own_di1 h1)]
      · by_cases k1 : (57 : Int32) < b1
        · rw [if_neg h1, if_pos k1, if_pos (own_di2 h1 k1)]
        · rw [if_neg h1, if_neg k1, if_neg (own_dv h1 k1).1]
          obtain ⟨-, v1, l1, m1⟩ := own_dv h1 k1
          rw [if_neg (by decide : ¬ (0 : Int32) < (0 : Int32)), if_neg (by decide : ¬ (0 : Int32) < (0 : Int32)), if_neg (by decide : ¬ (0 : Int32) < (0 : Int32))]
          have e0 : (0 : Int32).toInt = 0 := by decide
          have S := own_sum (d0 := (own_dg b0)) (d1 := (own_dg b1)) (d2 := (0 : Int32)) (d3 := (0 : Int32)) (d4 := (0 : Int32)) (by omega) (by omega) (by omega) (by omega) (by omega)
          have D := (c_idiv ((((((own_dg b0) * (10000 : Int32)) + ((own_dg b1) * (1000 : Int32))) + ((0 : Int32) * (100 : Int32))) + ((0 : Int32) * (10 : Int32))) + (0 : Int32)) (own_f3 (3 : Int32)) 1000 (by decide) (by decide)).1 (by omega)
          have H0 := own_h0 l0 m0
          have H1 := own_hor (u := (((0 : Int32) + b0) - (48 : Int32))) (b := b1) (by omega) (by omega) l1 m1
          rw [own_e32, D]; omega
theorem own_hhin_3_105 (p1 : Int32) (z133 : Int32) (hz133 : z133 = ((((p1.toUInt32 >>> ((3 : Int32) &&& 31).toUInt32).toInt32) &&& (2147483647 : Int32)) % (6 : Int32))) (hl45 : ((p1 &&& (7 : Int32)) % (6 : Int32)) = (3 : Int32)) : (0 : Int32) < (3 : Int32) → (¬ (z133 + (0 : Int32)) < (0 : Int32) ∧ (z133 + (0 : Int32)) < (8 : Int32)) := by
  have hlo := own_zlo 6 (by decide) (by decide) hz133
  have hhi := own_zhi 6 (by decide) (by decide) hz133
  clear hz133
  have h9 := own_h9 hhi (by decide)
  rcases own_c9 hlo h9 with rfl | rfl | rfl | rfl | rfl | rfl | rfl | rfl | rfl <;> revert hlo hhi <;> decide
theorem own_hhin_3_116 (p1 : Int32) (z133 : Int32) (hz133 : z133 = ((((p1.toUInt32 >>> ((3 : Int32) &&& 31).toUInt32).toInt32) &&& (2147483647 : Int32)) % (6 : Int32))) (hl45 : ((p1 &&& (7 : Int32)) % (6 : Int32)) = (3 : Int32)) : (1 : Int32) < (3 : Int32) → (¬ (z133 + (1 : Int32)) < (0 : Int32) ∧ (z133 + (1 : Int32)) < (8 : Int32)) := by
  have hlo := own_zlo 6 (by decide) (by decide) hz133
  have hhi := own_zhi 6 (by decide) (by decide) hz133
  clear hz133
  have h9 := own_h9 hhi (by decide)
  rcases own_c9 hlo h9 with rfl | rfl | rfl | rfl | rfl | rfl | rfl | rfl | rfl <;> revert hlo hhi <;> decide
theorem own_hhin_3_127 (p1 : Int32) (z133 : Int32) (hz133 : z133 = ((((p1.toUInt32 >>> ((3 : Int32) &&& 31).toUInt32).toInt32) &&& (2147483647 : Int32)) % (6 : Int32))) (hl45 : ((p1 &&& (7 : Int32)) % (6 : Int32)) = (3 : Int32)) : (2 : Int32) < (3 : Int32) → (¬ (z133 + (2 : Int32)) < (0 : Int32) ∧ (z133 + (2 : Int32)) < (8 : Int32)) := by
  have hlo := own_zlo 6 (by decide) (by decide) hz133
  have hhi := own_zhi 6 (by decide) (by decide) hz133
  clear hz133
  have h9 := own_h9 hhi (by decide)
  rcases own_c9 hlo h9 with rfl | rfl | rfl | rfl | rfl | rfl | rfl | rfl | rfl <;> revert hlo hhi <;> decide
theorem own_hhin_3_138 (p1 : Int32) (z133 : Int32) (hz133 : z133 = ((((p1.toUInt32 >>> ((3 : Int32) &&& 31).toUInt32).toInt32) &&& (2147483647 : Int32)) % (6 : Int32))) (hl45 : ((p1 &&& (7 : Int32)) % (6 : Int32)) = (3 : Int32)) : (3 : Int32) < (3 : Int32) → (¬ (z133 + (3 : Int32)) < (0 : Int32) ∧ (z133 + (3 : Int32)) < (8 : Int32)) := by
  have hlo := own_zlo 6 (by decide) (by decide) hz133
  have hhi := own_zhi 6 (by decide) (by decide) hz133
  clear hz133
  have h9 := own_h9 hhi (by decide)
  rcases own_c9 hlo h9 with rfl | rfl | rfl | rfl | rfl | rfl | rfl | rfl | rfl <;> revert hlo hhi <;> decide
theorem own_hhin_3_149 (p1 : Int32) (z133 : Int32) (hz133 : z133 = ((((p1.toUInt32 >>> ((3 : Int32) &&& 31).toUInt32).toInt32) &&& (2147483647 : Int32)) % (6 : Int32))) (hl45 : ((p1 &&& (7 : Int32)) % (6 : Int32)) = (3 : Int32)) : (4 : Int32) < (3 : Int32) → (¬ (z133 + (4 : Int32)) < (0 : Int32) ∧ (z133 + (4 : Int32)) < (8 : Int32)) := by
  have hlo := own_zlo 6 (by decide) (by decide) hz133
  have hhi := own_zhi 6 (by decide) (by decide) hz133
  clear hz133
  have h9 := own_h9 hhi (by decide)
  rcases own_c9 hlo h9 with rfl | rfl | rfl | rfl | rfl | rfl | rfl | rfl | rfl <;> revert hlo hhi <;> decide
theorem own_nz3 (p1 : Int32) (hl45 : ((p1 &&& (7 : Int32)) % (6 : Int32)) = (3 : Int32)) : ¬ ((own_f3 (2 : Int32)) = (0 : Int32)) := by decide
theorem own_hhlo_3_228 (p1 : Int32) (z133 : Int32) (hz133 : z133 = ((((p1.toUInt32 >>> ((3 : Int32) &&& 31).toUInt32).toInt32) &&& (2147483647 : Int32)) % (6 : Int32))) (hl45 : ((p1 &&& (7 : Int32)) % (6 : Int32)) = (3 : Int32)) : ¬ z133 < (0 : Int32) := own_zlo 6 (by decide) (by decide) hz133
theorem own_hhhi_3_228 (p1 : Int32) (z133 : Int32) (hz133 : z133 = ((((p1.toUInt32 >>> ((3 : Int32) &&& 31).toUInt32).toInt32) &&& (2147483647 : Int32)) % (6 : Int32))) (hl45 : ((p1 &&& (7 : Int32)) % (6 : Int32)) = (3 : Int32)) : z133 < (6 : Int32) := own_zhi 6 (by decide) (by decide) hz133
theorem own_law3 (p1 : Int32) (g : Int32 → Int32) (z133 : Int32) (hz133 : z133 = ((((p1.toUInt32 >>> ((3 : Int32) &&& 31).toUInt32).toInt32) &&& (2147483647 : Int32)) % (6 : Int32))) (z136 : Int32) (hz136 : z136 = (own_f1 z133 (0 : Int32) (3 : Int32) g)) (z139 : Int32) (hz139 : z139 = (own_f1 z133 (1 : Int32) (3 : Int32) g)) (z142 : Int32) (hz142 : z142 = (own_f1 z133 (2 : Int32) (3 : Int32) g)) (z145 : Int32) (hz145 : z145 = (own_f1 z133 (3 : Int32) (3 : Int32) g)) (z148 : Int32) (hz148 : z148 = (own_f1 z133 (4 : Int32) (3 : Int32) g)) (z151 : Int32) (hz151 : z151 = (if z136 < (0 : Int32) then (-1 : Int32) else (if z139 < (0 : Int32) then (-1 : Int32) else (if z142 < (0 : Int32) then (-1 : Int32) else (if z145 < (0 : Int32) then (-1 : Int32) else (if z148 < (0 : Int32) then (-1 : Int32) else ((((((z136 * (10000 : Int32)) + (z139 * (1000 : Int32))) + (z142 * (100 : Int32))) + (z145 * (10 : Int32))) + z148) / (own_f3 (2 : Int32))))))))) (hl45 : ((p1 &&& (7 : Int32)) % (6 : Int32)) = (3 : Int32)) : (own_f2_3 z133 g) = z151 := by
  subst hz151 hz148 hz145 hz142 hz139 hz136
  have e0 : own_f1 z133 (0 : Int32) (3 : Int32) g = own_dg (g z133) := by rw [own_f1, if_pos (by decide), Int32.add_zero]; rfl
  have e1 : own_f1 z133 (1 : Int32) (3 : Int32) g = own_dg (g (z133 + (1 : Int32))) := by rw [own_f1, if_pos (by decide)]; rfl
  have e2 : own_f1 z133 (2 : Int32) (3 : Int32) g = own_dg (g ((z133 + (1 : Int32)) + (1 : Int32))) := by rw [own_f1, if_pos (by decide), show z133 + (2 : Int32) = ((z133 + (1 : Int32)) + (1 : Int32)) from by rw [Int32.add_assoc]; rfl]; rfl
  have e3 : own_f1 z133 (3 : Int32) (3 : Int32) g = (0 : Int32) := by rw [own_f1, if_neg (by decide)]
  have e4 : own_f1 z133 (4 : Int32) (3 : Int32) g = (0 : Int32) := by rw [own_f1, if_neg (by decide)]
  rw [e0, e1, e2, e3, e4, own_f2_3]
  clear e0 e1 e2 e3 e4
  generalize g z133 = b0
  generalize g (z133 + (1 : Int32)) = b1
  generalize g ((z133 + (1 : Int32)) + (1 : Int32)) = b2
  by_cases h0 : b0 < (48 : Int32)
  · rw [if_pos h0, if_pos (own_di1 h0)]
  · by_cases k0 : (57 : Int32) < b0
    · rw [if_neg h0, if_pos k0, if_pos (own_di2 h0 k0)]
    · rw [if_neg h0, if_neg k0, if_neg (own_dv h0 k0).1]
      obtain ⟨-, v0, l0, m0⟩ := own_dv h0 k0
      by_cases h1 : b1 < (48 : Int32)
      · rw [if_pos h1, if_pos (own_di1 h1)]
      · by_cases k1 : (57 : Int32) < b1
        · rw [if_neg h1, if_pos k1, if_pos (own_di2 h1 k1)]
        · rw [if_neg h1, if_neg k1, if_neg (own_dv h1 k1).1]
          obtain ⟨-, v1, l1, m1⟩ := own_dv h1 k1
          by_cases h2 : b2 < (48 : Int32)
          · rw [if_pos h2, if_pos (own_di1 h2)]
          · by_cases k2 : (57 : Int32) < b2
            · rw [if_neg h2, if_pos k2, if_pos (own_di2 h2 k2)]
            · rw [if_neg h2, if_neg k2, if_neg (own_dv h2 k2).1]
              obtain ⟨-, v2, l2, m2⟩ := own_dv h2 k2
              rw [if_neg (by decide : ¬ (0 : Int32) < (0 : Int32)), if_neg (by decide : ¬ (0 : Int32) < (0 : Int32))]
              have e0 : (0 : Int32).toInt = 0 := by decide
              have S := own_sum (d0 := (own_dg b0)) (d1 := (own_dg b1)) (d2 := (own_dg b2)) (d3 := (0 : Int32)) (d4 := (0 : Int32)) (by omega) (by omega) (by omega) (by omega) (by omega)
              have D := (c_idiv ((((((own_dg b0) * (10000 : Int32)) + ((own_dg b1) * (1000 : Int32))) + ((own_dg b2) * (100 : Int32))) + ((0 : Int32) * (10 : Int32))) + (0 : Int32)) (own_f3 (2 : Int32)) 100 (by decide) (by decide)).1 (by omega)
              have H0 := own_h0 l0 m0
              have H1 := own_hor (u := (((0 : Int32) + b0) - (48 : Int32))) (b := b1) (by omega) (by omega) l1 m1
              have H2 := own_hor (u := ((((10 : Int32) * (((0 : Int32) + b0) - (48 : Int32))) + b1) - (48 : Int32))) (b := b2) (by omega) (by omega) l2 m2
              rw [own_e32, D]; omega
theorem own_hhin_4_105 (p1 : Int32) (z162 : Int32) (hz162 : z162 = ((((p1.toUInt32 >>> ((3 : Int32) &&& 31).toUInt32).toInt32) &&& (2147483647 : Int32)) % (5 : Int32))) (hl45 : ((p1 &&& (7 : Int32)) % (6 : Int32)) = (4 : Int32)) : (0 : Int32) < (4 : Int32) → (¬ (z162 + (0 : Int32)) < (0 : Int32) ∧ (z162 + (0 : Int32)) < (8 : Int32)) := by
  have hlo := own_zlo 5 (by decide) (by decide) hz162
  have hhi := own_zhi 5 (by decide) (by decide) hz162
  clear hz162
  have h9 := own_h9 hhi (by decide)
  rcases own_c9 hlo h9 with rfl | rfl | rfl | rfl | rfl | rfl | rfl | rfl | rfl <;> revert hlo hhi <;> decide
theorem own_hhin_4_116 (p1 : Int32) (z162 : Int32) (hz162 : z162 = ((((p1.toUInt32 >>> ((3 : Int32) &&& 31).toUInt32).toInt32) &&& (2147483647 : Int32)) % (5 : Int32))) (hl45 : ((p1 &&& (7 : Int32)) % (6 : Int32)) = (4 : Int32)) : (1 : Int32) < (4 : Int32) → (¬ (z162 + (1 : Int32)) < (0 : Int32) ∧ (z162 + (1 : Int32)) < (8 : Int32)) := by
  have hlo := own_zlo 5 (by decide) (by decide) hz162
  have hhi := own_zhi 5 (by decide) (by decide) hz162
  clear hz162
  have h9 := own_h9 hhi (by decide)
  rcases own_c9 hlo h9 with rfl | rfl | rfl | rfl | rfl | rfl | rfl | rfl | rfl <;> revert hlo hhi <;> decide
theorem own_hhin_4_127 (p1 : Int32) (z162 : Int32) (hz162 : z162 = ((((p1.toUInt32 >>> ((3 : Int32) &&& 31).toUInt32).toInt32) &&& (2147483647 : Int32)) % (5 : Int32))) (hl45 : ((p1 &&& (7 : Int32)) % (6 : Int32)) = (4 : Int32)) : (2 : Int32) < (4 : Int32) → (¬ (z162 + (2 : Int32)) < (0 : Int32) ∧ (z162 + (2 : Int32)) < (8 : Int32)) := by
  have hlo := own_zlo 5 (by decide) (by decide) hz162
  have hhi := own_zhi 5 (by decide) (by decide) hz162
  clear hz162
  have h9 := own_h9 hhi (by decide)
  rcases own_c9 hlo h9 with rfl | rfl | rfl | rfl | rfl | rfl | rfl | rfl | rfl <;> revert hlo hhi <;> decide
theorem own_hhin_4_138 (p1 : Int32) (z162 : Int32) (hz162 : z162 = ((((p1.toUInt32 >>> ((3 : Int32) &&& 31).toUInt32).toInt32) &&& (2147483647 : Int32)) % (5 : Int32))) (hl45 : ((p1 &&& (7 : Int32)) % (6 : Int32)) = (4 : Int32)) : (3 : Int32) < (4 : Int32) → (¬ (z162 + (3 : Int32)) < (0 : Int32) ∧ (z162 + (3 : Int32)) < (8 : Int32)) := by
  have hlo := own_zlo 5 (by decide) (by decide) hz162
  have hhi := own_zhi 5 (by decide) (by decide) hz162
  clear hz162
  have h9 := own_h9 hhi (by decide)
  rcases own_c9 hlo h9 with rfl | rfl | rfl | rfl | rfl | rfl | rfl | rfl | rfl <;> revert hlo hhi <;> decide
theorem own_hhin_4_149 (p1 : Int32) (z162 : Int32) (hz162 : z162 = ((((p1.toUInt32 >>> ((3 : Int32) &&& 31).toUInt32).toInt32) &&& (2147483647 : Int32)) % (5 : Int32))) (hl45 : ((p1 &&& (7 : Int32)) % (6 : Int32)) = (4 : Int32)) : (4 : Int32) < (4 : Int32) → (¬ (z162 + (4 : Int32)) < (0 : Int32) ∧ (z162 + (4 : Int32)) < (8 : Int32)) := by
  have hlo := own_zlo 5 (by decide) (by decide) hz162
  have hhi := own_zhi 5 (by decide) (by decide) hz162
  clear hz162
  have h9 := own_h9 hhi (by decide)
  rcases own_c9 hlo h9 with rfl | rfl | rfl | rfl | rfl | rfl | rfl | rfl | rfl <;> revert hlo hhi <;> decide
theorem own_nz4 (p1 : Int32) (hl45 : ((p1 &&& (7 : Int32)) % (6 : Int32)) = (4 : Int32)) : ¬ ((own_f3 (1 : Int32)) = (0 : Int32)) := by decide
theorem own_hhlo_4_228 (p1 : Int32) (z162 : Int32) (hz162 : z162 = ((((p1.toUInt32 >>> ((3 : Int32) &&& 31).toUInt32).toInt32) &&& (2147483647 : Int32)) % (5 : Int32))) (hl45 : ((p1 &&& (7 : Int32)) % (6 : Int32)) = (4 : Int32)) : ¬ z162 < (0 : Int32) := own_zlo 5 (by decide) (by decide) hz162
theorem own_hhhi_4_228 (p1 : Int32) (z162 : Int32) (hz162 : z162 = ((((p1.toUInt32 >>> ((3 : Int32) &&& 31).toUInt32).toInt32) &&& (2147483647 : Int32)) % (5 : Int32))) (hl45 : ((p1 &&& (7 : Int32)) % (6 : Int32)) = (4 : Int32)) : z162 < (5 : Int32) := own_zhi 5 (by decide) (by decide) hz162
theorem own_law4 (p1 : Int32) (g : Int32 → Int32) (z162 : Int32) (hz162 : z162 = ((((p1.toUInt32 >>> ((3 : Int32) &&& 31).toUInt32).toInt32) &&& (2147483647 : Int32)) % (5 : Int32))) (z165 : Int32) (hz165 : z165 = (own_f1 z162 (0 : Int32) (4 : Int32) g)) (z168 : Int32) (hz168 : z168 = (own_f1 z162 (1 : Int32) (4 : Int32) g)) (z171 : Int32) (hz171 : z171 = (own_f1 z162 (2 : Int32) (4 : Int32) g)) (z174 : Int32) (hz174 : z174 = (own_f1 z162 (3 : Int32) (4 : Int32) g)) (z177 : Int32) (hz177 : z177 = (own_f1 z162 (4 : Int32) (4 : Int32) g)) (z180 : Int32) (hz180 : z180 = (if z165 < (0 : Int32) then (-1 : Int32) else (if z168 < (0 : Int32) then (-1 : Int32) else (if z171 < (0 : Int32) then (-1 : Int32) else (if z174 < (0 : Int32) then (-1 : Int32) else (if z177 < (0 : Int32) then (-1 : Int32) else ((((((z165 * (10000 : Int32)) + (z168 * (1000 : Int32))) + (z171 * (100 : Int32))) + (z174 * (10 : Int32))) + z177) / (own_f3 (1 : Int32))))))))) (hl45 : ((p1 &&& (7 : Int32)) % (6 : Int32)) = (4 : Int32)) : (own_f2_4 z162 g) = z180 := by
  subst hz180 hz177 hz174 hz171 hz168 hz165
  have e0 : own_f1 z162 (0 : Int32) (4 : Int32) g = own_dg (g z162) := by rw [own_f1, if_pos (by decide), Int32.add_zero]; rfl
  have e1 : own_f1 z162 (1 : Int32) (4 : Int32) g = own_dg (g (z162 + (1 : Int32))) := by rw [own_f1, if_pos (by decide)]; rfl
  have e2 : own_f1 z162 (2 : Int32) (4 : Int32) g = own_dg (g ((z162 + (1 : Int32)) + (1 : Int32))) := by rw [own_f1, if_pos (by decide), show z162 + (2 : Int32) = ((z162 + (1 : Int32)) + (1 : Int32)) from by rw [Int32.add_assoc]; rfl]; rfl
  have e3 : own_f1 z162 (3 : Int32) (4 : Int32) g = own_dg (g (((z162 + (1 : Int32)) + (1 : Int32)) + (1 : Int32))) := by rw [own_f1, if_pos (by decide), show z162 + (3 : Int32) = (((z162 + (1 : Int32)) + (1 : Int32)) + (1 : Int32)) from by rw [Int32.add_assoc]; rw [Int32.add_assoc]; rfl]; rfl
  have e4 : own_f1 z162 (4 : Int32) (4 : Int32) g = (0 : Int32) := by rw [own_f1, if_neg (by decide)]
  rw [e0, e1, e2, e3, e4, own_f2_4]
  clear e0 e1 e2 e3 e4
  generalize g z162 = b0
  generalize g (z162 + (1 : Int32)) = b1
  generalize g ((z162 + (1 : Int32)) + (1 : Int32)) = b2
  generalize g (((z162 + (1 : Int32)) + (1 : Int32)) + (1 : Int32)) = b3
  by_cases h0 : b0 < (48 : Int32)
  · rw [if_pos h0, if_pos (own_di1 h0)]
  · by_cases k0 : (57 : Int32) < b0
    · rw [if_neg h0, if_pos k0, if_pos (own_di2 h0 k0)]
    · rw [if_neg h0, if_neg k0, if_neg (own_dv h0 k0).1]
      obtain ⟨-, v0, l0, m0⟩ := own_dv h0 k0
      by_cases h1 : b1 < (48 : Int32)
      · rw [if_pos h1, if_pos (own_di1 h1)]
      · by_cases k1 : (57 : Int32) < b1
        · rw [if_neg h1, if_pos k1, if_pos (own_di2 h1 k1)]
        · rw [if_neg h1, if_neg k1, if_neg (own_dv h1 k1).1]
          obtain ⟨-, v1, l1, m1⟩ := own_dv h1 k1
          by_cases h2 : b2 < (48 : Int32)
          · rw [if_pos h2, if_pos (own_di1 h2)]
          · by_cases k2 : (57 : Int32) < b2
            · rw [if_neg h2, if_pos k2, if_pos (own_di2 h2 k2)]
            · rw [if_neg h2, if_neg k2, if_neg (own_dv h2 k2).1]
              obtain ⟨-, v2, l2, m2⟩ := own_dv h2 k2
              by_cases h3 : b3 < (48 : Int32)
              · rw [if_pos h3, if_pos (own_di1 h3)]
              · by_cases k3 : (57 : Int32) < b3
                · rw [if_neg h3, if_pos k3, if_pos (own_di2 h3 k3)]
                · rw [if_neg h3, if_neg k3, if_neg (own_dv h3 k3).1]
                  obtain ⟨-, v3, l3, m3⟩ := own_dv h3 k3
                  rw [if_neg (by decide : ¬ (0 : Int32) < (0 : Int32))]
                  have e0 : (0 : Int32).toInt = 0 := by decide
                  have S := own_sum (d0 := (own_dg b0)) (d1 := (own_dg b1)) (d2 := (own_dg b2)) (d3 := (own_dg b3)) (d4 := (0 : Int32)) (by omega) (by omega) (by omega) (by omega) (by omega)
                  have D := (c_idiv ((((((own_dg b0) * (10000 : Int32)) + ((own_dg b1) * (1000 : Int32))) + ((own_dg b2) * (100 : Int32))) + ((own_dg b3) * (10 : Int32))) + (0 : Int32)) (own_f3 (1 : Int32)) 10 (by decide) (by decide)).1 (by omega)
                  have H0 := own_h0 l0 m0
                  have H1 := own_hor (u := (((0 : Int32) + b0) - (48 : Int32))) (b := b1) (by omega) (by omega) l1 m1
                  have H2 := own_hor (u := ((((10 : Int32) * (((0 : Int32) + b0) - (48 : Int32))) + b1) - (48 : Int32))) (b := b2) (by omega) (by omega) l2 m2
                  have H3 := own_hor (u := ((((10 : Int32) * ((((10 : Int32) * (((0 : Int32) + b0) - (48 : Int32))) + b1) - (48 : Int32))) + b2) - (48 : Int32))) (b := b3) (by omega) (by omega) l3 m3
                  rw [own_e32, D]; omega
theorem own_hhin_5_105 (p1 : Int32) (z191 : Int32) (hz191 : z191 = ((((p1.toUInt32 >>> ((3 : Int32) &&& 31).toUInt32).toInt32) &&& (2147483647 : Int32)) % (4 : Int32))) (hl45 : ((p1 &&& (7 : Int32)) % (6 : Int32)) = (5 : Int32)) : (0 : Int32) < (5 : Int32) → (¬ (z191 + (0 : Int32)) < (0 : Int32) ∧ (z191 + (0 : Int32)) < (8 : Int32)) := by
  have hlo := own_zlo 4 (by decide) (by decide) hz191
  have hhi := own_zhi 4 (by decide) (by decide) hz191
  clear hz191
  have h9 := own_h9 hhi (by decide)
  rcases own_c9 hlo h9 with rfl | rfl | rfl | rfl | rfl | rfl | rfl | rfl | rfl <;> revert hlo hhi <;> decide
theorem own_hhin_5_116 (p1 : Int32) (z191 : Int32) (hz191 : z191 = ((((p1.toUInt32 >>> ((3 : Int32) &&& 31).toUInt32).toInt32) &&& (2147483647 : Int32)) % (4 : Int32))) (hl45 : ((p1 &&& (7 : Int32)) % (6 : Int32)) = (5 : Int32)) : (1 : Int32) < (5 : Int32) → (¬ (z191 + (1 : Int32)) < (0 : Int32) ∧ (z191 + (1 : Int32)) < (8 : Int32)) := by
  have hlo := own_zlo 4 (by decide) (by decide) hz191
  have hhi := own_zhi 4 (by decide) (by decide) hz191
  clear hz191
  have h9 := own_h9 hhi (by decide)
  rcases own_c9 hlo h9 with rfl | rfl | rfl | rfl | rfl | rfl | rfl | rfl | rfl <;> revert hlo hhi <;> decide
theorem own_hhin_5_127 (p1 : Int32) (z191 : Int32) (hz191 : z191 = ((((p1.toUInt32 >>> ((3 : Int32) &&& 31).toUInt32).toInt32) &&& (2147483647 : Int32)) % (4 : Int32))) (hl45 : ((p1 &&& (7 : Int32)) % (6 : Int32)) = (5 : Int32)) : (2 : Int32) < (5 : Int32) → (¬ (z191 + (2 : Int32)) < (0 : Int32) ∧ (z191 + (2 : Int32)) < (8 : Int32)) := by
  have hlo := own_zlo 4 (by decide) (by decide) hz191
  have hhi := own_zhi 4 (by decide) (by decide) hz191
  clear hz191
  have h9 := own_h9 hhi (by decide)
  rcases own_c9 hlo h9 with rfl | rfl | rfl | rfl | rfl | rfl | rfl | rfl | rfl <;> revert hlo hhi <;> decide
theorem own_hhin_5_138 (p1 : Int32) (z191 : Int32) (hz191 : z191 = ((((p1.toUInt32 >>> ((3 : Int32) &&& 31).toUInt32).toInt32) &&& (2147483647 : Int32)) % (4 : Int32))) (hl45 : ((p1 &&& (7 : Int32)) % (6 : Int32)) = (5 : Int32)) : (3 : Int32) < (5 : Int32) → (¬ (z191 + (3 : Int32)) < (0 : Int32) ∧ (z191 + (3 : Int32)) < (8 : Int32)) := by
  have hlo := own_zlo 4 (by decide) (by decide) hz191
  have hhi := own_zhi 4 (by decide) (by decide) hz191
  clear hz191
  have h9 := own_h9 hhi (by decide)
  rcases own_c9 hlo h9 with rfl | rfl | rfl | rfl | rfl | rfl | rfl | rfl | rfl <;> revert hlo hhi <;> decide
theorem own_hhin_5_149 (p1 : Int32) (z191 : Int32) (hz191 : z191 = ((((p1.toUInt32 >>> ((3 : Int32) &&& 31).toUInt32).toInt32) &&& (2147483647 : Int32)) % (4 : Int32))) (hl45 : ((p1 &&& (7 : Int32)) % (6 : Int32)) = (5 : Int32)) : (4 : Int32) < (5 : Int32) → (¬ (z191 + (4 : Int32)) < (0 : Int32) ∧ (z191 + (4 : Int32)) < (8 : Int32)) := by
  have hlo := own_zlo 4 (by decide) (by decide) hz191
  have hhi := own_zhi 4 (by decide) (by decide) hz191
  clear hz191
  have h9 := own_h9 hhi (by decide)
  rcases own_c9 hlo h9 with rfl | rfl | rfl | rfl | rfl | rfl | rfl | rfl | rfl <;> revert hlo hhi <;> decide
theorem own_nz5 (p1 : Int32) (hl45 : ((p1 &&& (7 : Int32)) % (6 : Int32)) = (5 : Int32)) : ¬ ((own_f3 (0 : Int32)) = (0 : Int32)) := by decide
theorem own_hhlo_5_228 (p1 : Int32) (z191 : Int32) (hz191 : z191 = ((((p1.toUInt32 >>> ((3 : Int32) &&& 31).toUInt32).toInt32) &&& (2147483647 : Int32)) % (4 : Int32))) (hl45 : ((p1 &&& (7 : Int32)) % (6 : Int32)) = (5 : Int32)) : ¬ z191 < (0 : Int32) := own_zlo 4 (by decide) (by decide) hz191
theorem own_hhhi_5_228 (p1 : Int32) (z191 : Int32) (hz191 : z191 = ((((p1.toUInt32 >>> ((3 : Int32) &&& 31).toUInt32).toInt32) &&& (2147483647 : Int32)) % (4 : Int32))) (hl45 : ((p1 &&& (7 : Int32)) % (6 : Int32)) = (5 : Int32)) : z191 < (4 : Int32) := own_zhi 4 (by decide) (by decide) hz191
theorem own_law5 (p1 : Int32) (g : Int32 → Int32) (z191 : Int32) (hz191 : z191 = ((((p1.toUInt32 >>> ((3 : Int32) &&& 31).toUInt32).toInt32) &&& (2147483647 : Int32)) % (4 : Int32))) (z194 : Int32) (hz194 : z194 = (own_f1 z191 (0 : Int32) (5 : Int32) g)) (z197 : Int32) (hz197 : z197 = (own_f1 z191 (1 : Int32) (5 : Int32) g)) (z200 : Int32) (hz200 : z200 = (own_f1 z191 (2 : Int32) (5 : Int32) g)) (z203 : Int32) (hz203 : z203 = (own_f1 z191 (3 : Int32) (5 : Int32) g)) (z206 : Int32) (hz206 : z206 = (own_f1 z191 (4 : Int32) (5 : Int32) g)) (z209 : Int32) (hz209 : z209 = (if z194 < (0 : Int32) then (-1 : Int32) else (if z197 < (0 : Int32) then (-1 : Int32) else (if z200 < (0 : Int32) then (-1 : Int32) else (if z203 < (0 : Int32) then (-1 : Int32) else (if z206 < (0 : Int32) then (-1 : Int32) else ((((((z194 * (10000 : Int32)) + (z197 * (1000 : Int32))) + (z200 * (100 : Int32))) + (z203 * (10 : Int32))) + z206) / (own_f3 (0 : Int32))))))))) (hl45 : ((p1 &&& (7 : Int32)) % (6 : Int32)) = (5 : Int32)) : (own_f2_5 z191 g) = z209 := by
  subst hz209 hz206 hz203 hz200 hz197 hz194
  have e0 : own_f1 z191 (0 : Int32) (5 : Int32) g = own_dg (g z191) := by rw [own_f1, if_pos (by decide), Int32.add_zero]; rfl
  have e1 : own_f1 z191 (1 : Int32) (5 : Int32) g = own_dg (g (z191 + (1 : Int32))) := by rw [own_f1, if_pos (by decide)]; rfl
  have e2 : own_f1 z191 (2 : Int32) (5 : Int32) g = own_dg (g ((z191 + (1 : Int32)) + (1 : Int32))) := by rw [own_f1, if_pos (by decide), show z191 + (2 : Int32) = ((z191 + (1 : Int32)) + (1 : Int32)) from by rw [Int32.add_assoc]; rfl]; rfl
  have e3 : own_f1 z191 (3 : Int32) (5 : Int32) g = own_dg (g (((z191 + (1 : Int32)) + (1 : Int32)) + (1 : Int32))) := by rw [own_f1, if_pos (by decide), show z191 + (3 : Int32) = (((z191 + (1 : Int32)) + (1 : Int32)) + (1 : Int32)) from by rw [Int32.add_assoc]; rw [Int32.add_assoc]; rfl]; rfl
  have e4 : own_f1 z191 (4 : Int32) (5 : Int32) g = own_dg (g ((((z191 + (1 : Int32)) + (1 : Int32)) + (1 : Int32)) + (1 : Int32))) := by rw [own_f1, if_pos (by decide), show z191 + (4 : Int32) = ((((z191 + (1 : Int32)) + (1 : Int32)) + (1 : Int32)) + (1 : Int32)) from by rw [Int32.add_assoc]; rw [Int32.add_assoc]; rw [Int32.add_assoc]; rfl]; rfl
  rw [e0, e1, e2, e3, e4, own_f2_5]
  clear e0 e1 e2 e3 e4
  generalize g z191 = b0
  generalize g (z191 + (1 : Int32)) = b1
  generalize g ((z191 + (1 : Int32)) + (1 : Int32)) = b2
  generalize g (((z191 + (1 : Int32)) + (1 : Int32)) + (1 : Int32)) = b3
  generalize g ((((z191 + (1 : Int32)) + (1 : Int32)) + (1 : Int32)) + (1 : Int32)) = b4
  by_cases h0 : b0 < (48 : Int32)
  · rw [if_pos h0, if_pos (own_di1 h0)]
  · by_cases k0 : (57 : Int32) < b0
    · rw [if_neg h0, if_pos k0, if_pos (own_di2 h0 k0)]
    · rw [if_neg h0, if_neg k0, if_neg (own_dv h0 k0).1]
      obtain ⟨-, v0, l0, m0⟩ := own_dv h0 k0
      by_cases h1 : b1 < (48 : Int32)
      · rw [if_pos h1, if_pos (own_di1 h1)]
      · by_cases k1 : (57 : Int32) < b1
        · rw [if_neg h1, if_pos k1, if_pos (own_di2 h1 k1)]
        · rw [if_neg h1, if_neg k1, if_neg (own_dv h1 k1).1]
          obtain ⟨-, v1, l1, m1⟩ := own_dv h1 k1
          by_cases h2 : b2 < (48 : Int32)
          · rw [if_pos h2, if_pos (own_di1 h2)]
          · by_cases k2 : (57 : Int32) < b2
            · rw [if_neg h2, if_pos k2, if_pos (own_di2 h2 k2)]
            · rw [if_neg h2, if_neg k2, if_neg (own_dv h2 k2).1]
              obtain ⟨-, v2, l2, m2⟩ := own_dv h2 k2
              by_cases h3 : b3 < (48 : Int32)
              · rw [if_pos h3, if_pos (own_di1 h3)]
              · by_cases k3 : (57 : Int32) < b3
                · rw [if_neg h3, if_pos k3, if_pos (own_di2 h3 k3)]
                · rw [if_neg h3, if_neg k3, if_neg (own_dv h3 k3).1]
                  obtain ⟨-, v3, l3, m3⟩ := own_dv h3 k3
                  by_cases h4 : b4 < (48 : Int32)
                  · rw [if_pos h4, if_pos (own_di1 h4)]
                  · by_cases k4 : (57 : Int32) < b4
                    · rw [if_neg h4, if_pos k4, if_pos (own_di2 h4 k4)]
                    · rw [if_neg h4, if_neg k4, if_neg (own_dv h4 k4).1]
                      obtain ⟨-, v4, l4, m4⟩ := own_dv h4 k4
                      have e0 : (0 : Int32).toInt = 0 := by decide
                      have S := own_sum (d0 := (own_dg b0)) (d1 := (own_dg b1)) (d2 := (own_dg b2)) (d3 := (own_dg b3)) (d4 := (own_dg b4)) (by omega) (by omega) (by omega) (by omega) (by omega)
                      have D := (c_idiv ((((((own_dg b0) * (10000 : Int32)) + ((own_dg b1) * (1000 : Int32))) + ((own_dg b2) * (100 : Int32))) + ((own_dg b3) * (10 : Int32))) + (own_dg b4)) (own_f3 (0 : Int32)) 1 (by decide) (by decide)).1 (by omega)
                      have H0 := own_h0 l0 m0
                      have H1 := own_hor (u := (((0 : Int32) + b0) - (48 : Int32))) (b := b1) (by omega) (by omega) l1 m1
                      have H2 := own_hor (u := ((((10 : Int32) * (((0 : Int32) + b0) - (48 : Int32))) + b1) - (48 : Int32))) (b := b2) (by omega) (by omega) l2 m2
                      have H3 := own_hor (u := ((((10 : Int32) * ((((10 : Int32) * (((0 : Int32) + b0) - (48 : Int32))) + b1) - (48 : Int32))) + b2) - (48 : Int32))) (b := b3) (by omega) (by omega) l3 m3
                      have H4 := own_hor (u := ((((10 : Int32) * ((((10 : Int32) * ((((10 : Int32) * (((0 : Int32) + b0) - (48 : Int32))) + b1) - (48 : Int32))) + b2) - (48 : Int32))) + b3) - (48 : Int32))) (b := b4) (by omega) (by omega) l4 m4
                      rw [own_e32, D]; omega
def Q0 (Z : State) (q0 : Int64) (p1 : Int32) (h0 : Heap) (n0 : Nat) (v : Option Value) (h : Heap) (L : List Loc) : Prop := v = some (.int 1) ∧ Fr n0 L
set_option maxRecDepth 65536 in
set_option maxHeartbeats 40000000 in
theorem rm0 (l : Launch) (Z : State) (aw : Array Value) (hw : ∀ d ∈ tables_1, d.before aw Z = true) (ws : List Jvm.Cond) (q0 : Int64) (p1 : Int32) (h0 : Heap) (n0 : Nat) (Z0 : n0 ≤ h0.size)  :
    MetFree l x (head1 (Jvm.Cond.code x code maxLocals ret :: ws) room_1) (fun a U => a = #[(.long q0), (.int p1)] ∧ Z.Warmed39 U.vm ∧ U.heap = h0) (fun _ _ _ _ _ => True) (fun _ U o U' => ∃ v L, o = .returned v ∧ Q0 Z q0 p1 h0 n0 v U'.heap L ∧ FrameEnd U o U' L room_1.cells room_1.slots) := by
  refine MetFree.of_bodySF (plainFor_of_name pn_0) hisR ?_
  intro p e s m args below meth c s₁ Bd hml0 hP hK
  obtain ⟨rfl, hZ, hh⟩ := hP
  have hx := Bd.exec
  have hby := Bd.bytes
  have hml : c.maxLocals = 12 := hml0
  have hown : s.vm.findClass "organico/records/Iso2709DigitsPinLaw" = some m.cls := findClass_of_methodNamed Bd.named
  have hnm := (name_of_methodNamed Bd.named Bd.method).1
  have hlk : meth.locks = false := by first | exact BodyLoose.notSynchronized (by assumption) | exact Body.notSynchronized (by assumption)
  have X0 : Stand p l e room_1 s m #[(.long q0), (.int p1)] below meth c s₁ [] 0 0 := Stand.of_body Bd
  have e0 : s₁.heap = h0 := by rw [← hh, Bd.state]; rfl
  have N0 := Fr.nil n0
  refine own_start (CS := (room_1.cells, room_1.slots)) (Q := (Q0 Z q0 p1 h0 n0)) (ef_0 m q0 p1) ?_
  show own_Go p e below s _ _ (s₁.setTop (mkF m 0 #[jv q0, .second, iv p1, .unset, .unset, .unset, .unset, .unset, .unset, .unset, .unset, .unset] []))
  refine own_via (fun k => XS.bipush X0.here hx rfl (hb hby at_0) k) ?_
  show own_Go p e below s _ _ (s₁.setTop (mkF m 2 #[jv q0, .second, iv p1, .unset, .unset, .unset, .unset, .unset, .unset, .unset, .unset, .unset] [(.int 8)]))
  obtain ⟨T1, h1, k1, X1, e1, E1, A1, st1⟩ := newP X0 hx hZ (hw _ (List.mem_of_getElem? (i := 0) rfl)) e0 (g := (mkF m 2 #[jv q0, .second, iv p1, .unset, .unset, .unset, .unset, .unset, .unset, .unset, .unset, .unset] [(.int 8)])) rfl (hb hby at_2) rfl (by decide) (cap := 8) (by decide) (by decide) (by decide) (by decide)
  obtain ⟨b1, g1⟩ : ∃ z, z = h0.size := ⟨_, rfl⟩
  rw [← g1] at A1 st1
  refine own_via (fun k => st1 _ k) ?_
  show own_Go p e below s _ _ (T1.setTop (mkF m 4 #[jv q0, .second, iv p1, .unset, .unset, .unset, .unset, .unset, .unset, .unset, .unset, .unset] [(.ref b1)]))
  have g2 : n0 ≤ b1 := Nat.le_trans Z0 (Nat.le_of_eq g1.symm)
  have Z3 : n0 ≤ h1.size := Nat.le_trans Z0 E1.1
  have B4 : Arv Z h1 b1 k1 .byte (8 : Int32) [(.int 0), (.int 0), (.int 0), (.int 0), (.int 0), (.int 0), (.int 0), (.int 0)] (.int 0) := (Arv.new A1 (by decide)).pad (pad_rep [] (.int 0) 8)
  refine own_via (fun k => XS.astoreN X1.here hx rfl (hb hby at_4) rfl rfl (l' := #[jv q0, .second, iv p1, rv b1, .unset, .unset, .unset, .unset, .unset, .unset, .unset, .unset]) rfl (XS.aloadN X1.here hx rfl (hb hby at_5) rfl rfl  (XS.iconst X1.here hx rfl (hb hby at_6) (XS.lloadN X1.here hx rfl (hb hby at_7) rfl  k)))) ?_
  show own_Go p e below s _ _ (T1.setTop (mkF m 8 #[jv q0, .second, iv p1, rv b1, .unset, .unset, .unset, .unset, .unset, .unset, .unset, .unset] [(.long q0), (.int 0), (.ref b1)]))
  refine own_via (fun k => XS.l2i X1.here hx rfl (hb hby at_8) rfl (XS.i2b X1.here hx rfl (hb hby at_9) rfl k)) ?_
  show own_Go p e below s _ _ (T1.setTop (mkF m 10 #[jv q0, .second, iv p1, rv b1, .unset, .unset, .unset, .unset, .unset, .unset, .unset, .unset] [(.int ((q0.toInt32).toInt8.toInt32)), (.int 0), (.ref b1)]))
  obtain ⟨z5, hz5⟩ : ∃ z : Int32, z = ((q0.toInt32).toInt8.toInt32) := ⟨_, rfl⟩
  rw [← hz5]
  show own_Go p e below s _ _ (T1.setTop (mkF m 10 #[jv q0, .second, iv p1, rv b1, .unset, .unset, .unset, .unset, .unset, .unset, .unset, .unset] [(.int z5), (.int 0), (.ref b1)]))
  obtain ⟨cl6, Ar6, q6, S6, NN6, H6, G6⟩ := id B4
  have hin6 : ¬ ((0 : Int32) < 0 ∨ cl6.slots.size ≤ ((0 : Int32)).toNatClampNeg) := inb_of S6 ⟨by decide, by decide⟩
  obtain ⟨T6, h6, X6, e6, W6, st6⟩ := stB X1 hx hZ e1 Ar6 (j := (0 : Int32)) hin6 (g := (mkF m 10 #[jv q0, .second, iv p1, rv b1, .unset, .unset, .unset, .unset, .unset, .unset, .unset, .unset] [(.int z5), (.int 0), (.ref b1)])) rfl rfl (hb hby at_10)
  refine own_via (fun k => st6 _ k) ?_
  show own_Go p e below s _ _ (T6.setTop (mkF m 11 #[jv q0, .second, iv p1, rv b1, .unset, .unset, .unset, .unset, .unset, .unset, .unset, .unset] []))
  have B7 : Arv Z h6 b1 k1 .byte (8 : Int32) [(.int (nar .byte z5)), (.int 0), (.int 0), (.int 0), (.int 0), (.int 0), (.int 0), (.int 0)] (.int 0) := Arv.set Ar6 q6 S6 NN6 H6 G6 (fits_nar_byte _) W6 0 rfl (Nat.le_of_ble_eq_true rfl)
  have N8 := Fr.snoc X6 N0 g2
  have Z9 : n0 ≤ h6.size := Nat.le_trans Z3 (Keep.of_wr W6).1
  refine own_via (fun k => XS.aloadN X6.here hx rfl (hb hby at_11) rfl rfl  (XS.iconst X6.here hx rfl (hb hby at_12) (XS.lloadN X6.here hx rfl (hb hby at_13) rfl  (XS.bipush X6.here hx rfl (hb hby at_14) k)))) ?_
  show own_Go p e below s _ _ (T6.setTop (mkF m 16 #[jv q0, .second, iv p1, rv b1, .unset, .unset, .unset, .unset, .unset, .unset, .unset, .unset] [(.int 8), (.long q0), (.int 1), (.ref b1)]))
  refine own_via (fun k => XS.lushr X6.here hx rfl (hb hby at_16) rfl (XS.l2i X6.here hx rfl (hb hby at_17) rfl (XS.i2b X6.here hx rfl (hb hby at_18) rfl k))) ?_
  show own_Go p e below s _ _ (T6.setTop (mkF m 19 #[jv q0, .second, iv p1, rv b1, .unset, .unset, .unset, .unset, .unset, .unset, .unset, .unset] [(.int ((((q0.toUInt64 >>> ((8 : Int32) &&& 0x3f).toInt64.toUInt64).toInt64).toInt32).toInt8.toInt32)), (.int 1), (.ref b1)]))
  obtain ⟨z10, hz10⟩ : ∃ z : Int32, z = ((((q0.toUInt64 >>> ((8 : Int32) &&& 0x3f).toInt64.toUInt64).toInt64).toInt32).toInt8.toInt32) := ⟨_, rfl⟩
  rw [← hz10]
  show own_Go p e below s _ _ (T6.setTop (mkF m 19 #[jv q0, .second, iv p1, rv b1, .unset, .unset, .unset, .unset, .unset, .unset, .unset, .unset] [(.int z10), (.int 1), (.ref b1)]))
  obtain ⟨cl11, Ar11, q11, S11, NN11, H11, G11⟩ := id B7
  have hin11 : ¬ ((1 : Int32) < 0 ∨ cl11.slots.size ≤ ((1 : Int32)).toNatClampNeg) := inb_of S11 ⟨by decide, by decide⟩
  obtain ⟨T11, h11, X11, e11, W11, st11⟩ := stB X6 hx hZ e6 Ar11 (j := (1 : Int32)) hin11 (g := (mkF m 19 #[jv q0, .second, iv p1, rv b1, .unset, .unset, .unset, .unset, .unset, .unset, .unset, .unset] [(.int z10), (.int 1), (.ref b1)])) rfl rfl (hb hby at_19)
  refine own_via (fun k => st11 _ k) ?_
  show own_Go p e below s _ _ (T11.setTop (mkF m 20 #[jv q0, .second, iv p1, rv b1, .unset, .unset, .unset, .unset, .unset, .unset, .unset, .unset] []))
  have B12 : Arv Z h11 b1 k1 .byte (8 : Int32) [(.int (nar .byte z5)), (.int (nar .byte z10)), (.int 0), (.int 0), (.int 0), (.int 0), (.int 0), (.int 0)] (.int 0) := Arv.set Ar11 q11 S11 NN11 H11 G11 (fits_nar_byte _) W11 1 rfl (Nat.le_of_ble_eq_true rfl)
  have N13 := Fr.snoc X11 N8 g2
  have Z14 : n0 ≤ h11.size := Nat.le_trans Z9 (Keep.of_wr W11).1
  refine own_via (fun k => XS.aloadN X11.here hx rfl (hb hby at_20) rfl rfl  (XS.iconst X11.here hx rfl (hb hby at_21) (XS.lloadN X11.here hx rfl (hb hby at_22) rfl  (XS.bipush X11.here hx rfl (hb hby at_23) k)))) ?_
  show own_Go p e below s _ _ (T11.setTop (mkF m 25 #[jv q0, .second, iv p1, rv b1, .unset, .unset, .unset, .unset, .unset, .unset, .unset, .unset] [(.int 16), (.long q0), (.int 2), (.ref b1)]))
  refine own_via (fun k => XS.lushr X11.here hx rfl (hb hby at_25) rfl (XS.l2i X11.here hx rfl (hb hby at_26) rfl (XS.i2b X11.here hx rfl (hb hby at_27) rfl k))) ?_
  show own_Go p e below s _ _ (T11.setTop (mkF m 28 #[jv q0, .second, iv p1, rv b1, .unset, .unset, .unset, .unset, .unset, .unset, .unset, .unset] [(.int ((((q0.toUInt64 >>> ((16 : Int32) &&& 0x3f).toInt64.toUInt64).toInt64).toInt32).toInt8.toInt32)), (.int 2), (.ref b1)]))
  obtain ⟨z15, hz15⟩ : ∃ z : Int32, z = ((((q0.toUInt64 >>> ((16 : Int32) &&& 0x3f).toInt64.toUInt64).toInt64).toInt32).toInt8.toInt32) := ⟨_, rfl⟩
  rw [← hz15]
  show own_Go p e below s _ _ (T11.setTop (mkF m 28 #[jv q0, .second, iv p1, rv b1, .unset, .unset, .unset, .unset, .unset, .unset, .unset, .unset] [(.int z15), (.int 2), (.ref b1)]))
  obtain ⟨cl16, Ar16, q16, S16, NN16, H16, G16⟩ := id B12
  have hin16 : ¬ ((2 : Int32) < 0 ∨ cl16.slots.size ≤ ((2 : Int32)).toNatClampNeg) := inb_of S16 ⟨by decide, by decide⟩
  obtain ⟨T16, h16, X16, e16, W16, st16⟩ := stB X11 hx hZ e11 Ar16 (j := (2 : Int32)) hin16 (g := (mkF m 28 #[jv q0, .second, iv p1, rv b1, .unset, .unset, .unset, .unset, .unset, .unset, .unset, .unset] [(.int z15), (.int 2), (.ref b1)])) rfl rfl (hb hby at_28)
  refine own_via (fun k => st16 _ k) ?_
  show own_Go p e below s _ _ (T16.setTop (mkF m 29 #[jv q0, .second, iv p1, rv b1, .unset, .unset, .unset, .unset, .unset, .unset, .unset, .unset] []))
  have B17 : Arv Z h16 b1 k1 .byte (8 : Int32) [(.int (nar .byte z5)), (.int (nar .byte z10)), (.int (nar .byte z15)), (.int 0), (.int 0), (.int 0), (.int 0), (.int 0)] (.int 0) := Arv.set Ar16 q16 S16 NN16 H16 G16 (fits_nar_byte _) W16 2 rfl (Nat.le_of_ble_eq_true rfl)
  have N18 := Fr.snoc X16 N13 g2
  have Z19 : n0 ≤ h16.size := Nat.le_trans Z14 (Keep.of_wr W16).1
  refine own_via (fun k => XS.aloadN X16.here hx rfl (hb hby at_29) rfl rfl  (XS.iconst X16.here hx rfl (hb hby at_30) (XS.lloadN X16.here hx rfl (hb hby at_31) rfl  (XS.bipush X16.here hx rfl (hb hby at_32) k)))) ?_
  show own_Go p e below s _ _ (T16.setTop (mkF m 34 #[jv q0, .second, iv p1, rv b1, .unset, .unset, .unset, .unset, .unset, .unset, .unset, .unset] [(.int 24), (.long q0), (.int 3), (.ref b1)]))
  refine own_via (fun k => XS.lushr X16.here hx rfl (hb hby at_34) rfl (XS.l2i X16.here hx rfl (hb hby at_35) rfl (XS.i2b X16.here hx rfl (hb hby at_36) rfl k))) ?_
  show own_Go p e below s _ _ (T16.setTop (mkF m 37 #[jv q0, .second, iv p1, rv b1, .unset, .unset, .unset, .unset, .unset, .unset, .unset, .unset] [(.int ((((q0.toUInt64 >>> ((24 : Int32) &&& 0x3f).toInt64.toUInt64).toInt64).toInt32).toInt8.toInt32)), (.int 3), (.ref b1)]))
  obtain ⟨z20, hz20⟩ : ∃ z : Int32, z = ((((q0.toUInt64 >>> ((24 : Int32) &&& 0x3f).toInt64.toUInt64).toInt64).toInt32).toInt8.toInt32) := ⟨_, rfl⟩
  rw [← hz20]
  show own_Go p e below s _ _ (T16.setTop (mkF m 37 #[jv q0, .second, iv p1, rv b1, .unset, .unset, .unset, .unset, .unset, .unset, .unset, .unset] [(.int z20), (.int 3), (.ref b1)]))
  obtain ⟨cl21, Ar21, q21, S21, NN21, H21, G21⟩ := id B17
  have hin21 : ¬ ((3 : Int32) < 0 ∨ cl21.slots.size ≤ ((3 : Int32)).toNatClampNeg) := inb_of S21 ⟨by decide, by decide⟩
  obtain ⟨T21, h21, X21, e21, W21, st21⟩ := stB X16 hx hZ e16 Ar21 (j := (3 : Int32)) hin21 (g := (mkF m 37 #[jv q0, .second, iv p1, rv b1, .unset, .unset, .unset, .unset, .unset, .unset, .unset, .unset] [(.int z20), (.int 3), (.ref b1)])) rfl rfl (hb hby at_37)
  refine own_via (fun k => st21 _ k) ?_
  show own_Go p e below s _ _ (T21.setTop (mkF m 38 #[jv q0, .second, iv p1, rv b1, .unset, .unset, .unset, .unset, .unset, .unset, .unset, .unset] []))
  have B22 : Arv Z h21 b1 k1 .byte (8 : Int32) [(.int (nar .byte z5)), (.int (nar .byte z10)), (.int (nar .byte z15)), (.int (nar .byte z20)), (.int 0), (.int 0), (.int 0), (.int 0)] (.int 0) := Arv.set Ar21 q21 S21 NN21 H21 G21 (fits_nar_byte _) W21 3 rfl (Nat.le_of_ble_eq_true rfl)
  have N23 := Fr.snoc X21 N18 g2
  have Z24 : n0 ≤ h21.size := Nat.le_trans Z19 (Keep.of_wr W21).1
  refine own_via (fun k => XS.aloadN X21.here hx rfl (hb hby at_38) rfl rfl  (XS.iconst X21.here hx rfl (hb hby at_39) (XS.lloadN X21.here hx rfl (hb hby at_40) rfl  (XS.bipush X21.here hx rfl (hb hby at_41) k)))) ?_
  show own_Go p e below s _ _ (T21.setTop (mkF m 43 #[jv q0, .second, iv p1, rv b1, .unset, .unset, .unset, .unset, .unset, .unset, .unset, .unset] [(.int 32), (.long q0), (.int 4), (.ref b1)]))
  refine own_via (fun k => XS.lushr X21.here hx rfl (hb hby at_43) rfl (XS.l2i X21.here hx rfl (hb hby at_44) rfl (XS.i2b X21.here hx rfl (hb hby at_45) rfl k))) ?_
  show own_Go p e below s _ _ (T21.setTop (mkF m 46 #[jv q0, .second, iv p1, rv b1, .unset, .unset, .unset, .unset, .unset, .unset, .unset, .unset] [(.int ((((q0.toUInt64 >>> ((32 : Int32) &&& 0x3f).toInt64.toUInt64).toInt64).toInt32).toInt8.toInt32)), (.int 4), (.ref b1)]))
  obtain ⟨z25, hz25⟩ : ∃ z : Int32, z = ((((q0.toUInt64 >>> ((32 : Int32) &&& 0x3f).toInt64.toUInt64).toInt64).toInt32).toInt8.toInt32) := ⟨_, rfl⟩
  rw [← hz25]
  show own_Go p e below s _ _ (T21.setTop (mkF m 46 #[jv q0, .second, iv p1, rv b1, .unset, .unset, .unset, .unset, .unset, .unset, .unset, .unset] [(.int z25), (.int 4), (.ref b1)]))
  obtain ⟨cl26, Ar26, q26, S26, NN26, H26, G26⟩ := id B22
  have hin26 : ¬ ((4 : Int32) < 0 ∨ cl26.slots.size ≤ ((4 : Int32)).toNatClampNeg) := inb_of S26 ⟨by decide, by decide⟩
  obtain ⟨T26, h26, X26, e26, W26, st26⟩ := stB X21 hx hZ e21 Ar26 (j := (4 : Int32)) hin26 (g := (mkF m 46 #[jv q0, .second, iv p1, rv b1, .unset, .unset, .unset, .unset, .unset, .unset, .unset, .unset] [(.int z25), (.int 4), (.ref b1)])) rfl rfl (hb hby at_46)
  refine own_via (fun k => st26 _ k) ?_
  show own_Go p e below s _ _ (T26.setTop (mkF m 47 #[jv q0, .second, iv p1, rv b1, .unset, .unset, .unset, .unset, .unset, .unset, .unset, .unset] []))
  have B27 : Arv Z h26 b1 k1 .byte (8 : Int32) [(.int (nar .byte z5)), (.int (nar .byte z10)), (.int (nar .byte z15)), (.int (nar .byte z20)), (.int (nar .byte z25)), (.int 0), (.int 0), (.int 0)] (.int 0) := Arv.set Ar26 q26 S26 NN26 H26 G26 (fits_nar_byte _) W26 4 rfl (Nat.le_of_ble_eq_true rfl)
  have N28 := Fr.snoc X26 N23 g2
  have Z29 : n0 ≤ h26.size := Nat.le_trans Z24 (Keep.of_wr W26).1
  refine own_via (fun k => XS.aloadN X26.here hx rfl (hb hby at_47) rfl rfl  (XS.iconst X26.here hx rfl (hb hby at_48) (XS.lloadN X26.here hx rfl (hb hby at_49) rfl  (XS.bipush X26.here hx rfl (hb hby at_50) k)))) ?_
  show own_Go p e below s _ _ (T26.setTop (mkF m 52 #[jv q0, .second, iv p1, rv b1, .unset, .unset, .unset, .unset, .unset, .unset, .unset, .unset] [(.int 40), (.long q0), (.int 5), (.ref b1)]))
  refine own_via (fun k => XS.lushr X26.here hx rfl (hb hby at_52) rfl (XS.l2i X26.here hx rfl (hb hby at_53) rfl (XS.i2b X26.here hx rfl (hb hby at_54) rfl k))) ?_
  show own_Go p e below s _ _ (T26.setTop (mkF m 55 #[jv q0, .second, iv p1, rv b1, .unset, .unset, .unset, .unset, .unset, .unset, .unset, .unset] [(.int ((((q0.toUInt64 >>> ((40 : Int32) &&& 0x3f).toInt64.toUInt64).toInt64).toInt32).toInt8.toInt32)), (.int 5), (.ref b1)]))
  obtain ⟨z30, hz30⟩ : ∃ z : Int32, z = ((((q0.toUInt64 >>> ((40 : Int32) &&& 0x3f).toInt64.toUInt64).toInt64).toInt32).toInt8.toInt32) := ⟨_, rfl⟩
  rw [← hz30]
  show own_Go p e below s _ _ (T26.setTop (mkF m 55 #[jv q0, .second, iv p1, rv b1, .unset, .unset, .unset, .unset, .unset, .unset, .unset, .unset] [(.int z30), (.int 5), (.ref b1)]))
  obtain ⟨cl31, Ar31, q31, S31, NN31, H31, G31⟩ := id B27
  have hin31 : ¬ ((5 : Int32) < 0 ∨ cl31.slots.size ≤ ((5 : Int32)).toNatClampNeg) := inb_of S31 ⟨by decide, by decide⟩
  obtain ⟨T31, h31, X31, e31, W31, st31⟩ := stB X26 hx hZ e26 Ar31 (j := (5 : Int32)) hin31 (g := (mkF m 55 #[jv q0, .second, iv p1, rv b1, .unset, .unset, .unset, .unset, .unset, .unset, .unset, .unset] [(.int z30), (.int 5), (.ref b1)])) rfl rfl (hb hby at_55)
  refine own_via (fun k => st31 _ k) ?_
  show own_Go p e below s _ _ (T31.setTop (mkF m 56 #[jv q0, .second, iv p1, rv b1, .unset, .unset, .unset, .unset, .unset, .unset, .unset, .unset] []))
  have B32 : Arv Z h31 b1 k1 .byte (8 : Int32) [(.int (nar .byte z5)), (.int (nar .byte z10)), (.int (nar .byte z15)), (.int (nar .byte z20)), (.int (nar .byte z25)), (.int (nar .byte z30)), (.int 0), (.int 0)] (.int 0) := Arv.set Ar31 q31 S31 NN31 H31 G31 (fits_nar_byte _) W31 5 rfl (Nat.le_of_ble_eq_true rfl)
  have N33 := Fr.snoc X31 N28 g2
  have Z34 : n0 ≤ h31.size := Nat.le_trans Z29 (Keep.of_wr W31).1
  refine own_via (fun k => XS.aloadN X31.here hx rfl (hb hby at_56) rfl rfl  (XS.bipush X31.here hx rfl (hb hby at_57) (XS.lloadN X31.here hx rfl (hb hby at_59) rfl  (XS.bipush X31.here hx rfl (hb hby at_60) k)))) ?_
  show own_Go p e below s _ _ (T31.setTop (mkF m 62 #[jv q0, .second, iv p1, rv b1, .unset, .unset, .unset, .unset, .unset, .unset, .unset, .unset] [(.int 48), (.long q0), (.int 6), (.ref b1)]))
  refine own_via (fun k => XS.lushr X31.here hx rfl (hb hby at_62) rfl (XS.l2i X31.here hx rfl (hb hby at_63) rfl (XS.i2b X31.here hx rfl (hb hby at_64) rfl k))) ?_
  show own_Go p e below s _ _ (T31.setTop (mkF m 65 #[jv q0, .second, iv p1, rv b1, .unset, .unset, .unset, .unset, .unset, .unset, .unset, .unset] [(.int ((((q0.toUInt64 >>> ((48 : Int32) &&& 0x3f).toInt64.toUInt64).toInt64).toInt32).toInt8.toInt32)), (.int 6), (.ref b1)]))
  obtain ⟨z35, hz35⟩ : ∃ z : Int32, z = ((((q0.toUInt64 >>> ((48 : Int32) &&& 0x3f).toInt64.toUInt64).toInt64).toInt32).toInt8.toInt32) := ⟨_, rfl⟩
  rw [← hz35]
  show own_Go p e below s _ _ (T31.setTop (mkF m 65 #[jv q0, .second, iv p1, rv b1, .unset, .unset, .unset, .unset, .unset, .unset, .unset, .unset] [(.int z35), (.int 6), (.ref b1)]))
  obtain ⟨cl36, Ar36, q36, S36, NN36, H36, G36⟩ := id B32
  have hin36 : ¬ ((6 : Int32) < 0 ∨ cl36.slots.size ≤ ((6 : Int32)).toNatClampNeg) := inb_of S36 ⟨by decide, by decide⟩
  obtain ⟨T36, h36, X36, e36, W36, st36⟩ := stB X31 hx hZ e31 Ar36 (j := (6 : Int32)) hin36 (g := (mkF m 65 #[jv q0, .second, iv p1, rv b1, .unset, .unset, .unset, .unset, .unset, .unset, .unset, .unset] [(.int z35), (.int 6), (.ref b1)])) rfl rfl (hb hby at_65)
  refine own_via (fun k => st36 _ k) ?_
  show own_Go p e below s _ _ (T36.setTop (mkF m 66 #[jv q0, .second, iv p1, rv b1, .unset, .unset, .unset, .unset, .unset, .unset, .unset, .unset] []))
  have B37 : Arv Z h36 b1 k1 .byte (8 : Int32) [(.int (nar .byte z5)), (.int (nar .byte z10)), (.int (nar .byte z15)), (.int (nar .byte z20)), (.int (nar .byte z25)), (.int (nar .byte z30)), (.int (nar .byte z35)), (.int 0)] (.int 0) := Arv.set Ar36 q36 S36 NN36 H36 G36 (fits_nar_byte _) W36 6 rfl (Nat.le_of_ble_eq_true rfl)
  have N38 := Fr.snoc X36 N33 g2
  have Z39 : n0 ≤ h36.size := Nat.le_trans Z34 (Keep.of_wr W36).1
  refine own_via (fun k => XS.aloadN X36.here hx rfl (hb hby at_66) rfl rfl  (XS.bipush X36.here hx rfl (hb hby at_67) (XS.lloadN X36.here hx rfl (hb hby at_69) rfl  (XS.bipush X36.here hx rfl (hb hby at_70) k)))) ?_
  show own_Go p e below s _ _ (T36.setTop (mkF m 72 #[jv q0, .second, iv p1, rv b1, .unset, .unset, .unset, .unset, .unset, .unset, .unset, .unset] [(.int 56), (.long q0), (.int 7), (.ref b1)]))
  refine own_via (fun k => XS.lushr X36.here hx rfl (hb hby at_72) rfl (XS.l2i X36.here hx rfl (hb hby at_73) rfl (XS.i2b X36.here hx rfl (hb hby at_74) rfl k))) ?_
  show own_Go p e below s _ _ (T36.setTop (mkF m 75 #[jv q0, .second, iv p1, rv b1, .unset, .unset, .unset, .unset, .unset, .unset, .unset, .unset] [(.int ((((q0.toUInt64 >>> ((56 : Int32) &&& 0x3f).toInt64.toUInt64).toInt64).toInt32).toInt8.toInt32)), (.int 7), (.ref b1)]))
  obtain ⟨z40, hz40⟩ : ∃ z : Int32, z = ((((q0.toUInt64 >>> ((56 : Int32) &&& 0x3f).toInt64.toUInt64).toInt64).toInt32).toInt8.toInt32) := ⟨_, rfl⟩
  rw [← hz40]
  show own_Go p e below s _ _ (T36.setTop (mkF m 75 #[jv q0, .second, iv p1, rv b1, .unset, .unset, .unset, .unset, .unset, .unset, .unset, .unset] [(.int z40), (.int 7), (.ref b1)]))
  obtain ⟨cl41, Ar41, q41, S41, NN41, H41, G41⟩ := id B37
  have hin41 : ¬ ((7 : Int32) < 0 ∨ cl41.slots.size ≤ ((7 : Int32)).toNatClampNeg) := inb_of S41 ⟨by decide, by decide⟩
  obtain ⟨T41, h41, X41, e41, W41, st41⟩ := stB X36 hx hZ e36 Ar41 (j := (7 : Int32)) hin41 (g := (mkF m 75 #[jv q0, .second, iv p1, rv b1, .unset, .unset, .unset, .unset, .unset, .unset, .unset, .unset] [(.int z40), (.int 7), (.ref b1)])) rfl rfl (hb hby at_75)
  refine own_via (fun k => st41 _ k) ?_
  show own_Go p e below s _ _ (T41.setTop (mkF m 76 #[jv q0, .second, iv p1, rv b1, .unset, .unset, .unset, .unset, .unset, .unset, .unset, .unset] []))
  have B42 : Arv Z h41 b1 k1 .byte (8 : Int32) [(.int (nar .byte z5)), (.int (nar .byte z10)), (.int (nar .byte z15)), (.int (nar .byte z20)), (.int (nar .byte z25)), (.int (nar .byte z30)), (.int (nar .byte z35)), (.int (nar .byte z40))] (.int 0) := Arv.set Ar41 q41 S41 NN41 H41 G41 (fits_nar_byte _) W41 7 rfl (Nat.le_of_ble_eq_true rfl)
  have N43 := Fr.snoc X41 N38 g2
  have Z44 : n0 ≤ h41.size := Nat.le_trans Z39 (Keep.of_wr W41).1
  obtain ⟨g, hg⟩ : ∃ g : Int32 → Int32, ∀ j : Int32, ¬ j < (0 : Int32) ∧ j < (8 : Int32) → ([(.int (nar .byte z5)), (.int (nar .byte z10)), (.int (nar .byte z15)), (.int (nar .byte z20)), (.int (nar .byte z25)), (.int (nar .byte z30)), (.int (nar .byte z35)), (.int (nar .byte z40))] : List Value).getD j.toNatClampNeg (.int (0 : Int32)) = .int (g j) := ⟨fun j => own_b (nar .byte z5) (nar .byte z10) (nar .byte z15) (nar .byte z20) (nar .byte z25) (nar .byte z30) (nar .byte z35) (nar .byte z40) j, fun j => own_get (nar .byte z5) (nar .byte z10) (nar .byte z15) (nar .byte z20) (nar .byte z25) (nar .byte z30) (nar .byte z35) (nar .byte z40) j⟩
  refine own_via (fun k => XS.iloadN X41.here hx rfl (hb hby at_76) rfl  (XS.bipush X41.here hx rfl (hb hby at_77) (XS.iand X41.here hx rfl (hb hby at_79) rfl (XS.bipush X41.here hx rfl (hb hby at_80) k)))) ?_
  show own_Go p e below s _ _ (T41.setTop (mkF m 82 #[jv q0, .second, iv p1, rv b1, .unset, .unset, .unset, .unset, .unset, .unset, .unset, .unset] [(.int 6), (.int (p1 &&& (7 : Int32)))]))
  refine own_via (fun k => Jvm.RoadKit.iremM X41 hx rfl (hb hby at_82) rfl (by decide) (XS.istore X41.here hx rfl (hb hby at_83) rfl (l' := #[jv q0, .second, iv p1, rv b1, iv ((p1 &&& (7 : Int32)) % (6 : Int32)), .unset, .unset, .unset, .unset, .unset, .unset, .unset]) rfl k)) ?_
  show own_Go p e below s _ _ (T41.setTop (mkF m 85 #[jv q0, .second, iv p1, rv b1, iv ((p1 &&& (7 : Int32)) % (6 : Int32)), .unset, .unset, .unset, .unset, .unset, .unset, .unset] []))
  rcases ((own_len p1) : ((p1 &&& (7 : Int32)) % (6 : Int32)) = (0 : Int32) ∨ ((p1 &&& (7 : Int32)) % (6 : Int32)) = (1 : Int32) ∨ ((p1 &&& (7 : Int32)) % (6 : Int32)) = (2 : Int32) ∨ ((p1 &&& (7 : Int32)) % (6 : Int32)) = (3 : Int32) ∨ ((p1 &&& (7 : Int32)) % (6 : Int32)) = (4 : Int32) ∨ ((p1 &&& (7 : Int32)) % (6 : Int32)) = (5 : Int32)) with hl45 | hl45 | hl45 | hl45 | hl45 | hl45
  · rw [hl45]
    show own_Go p e below s _ _ (T41.setTop (mkF m 85 #[jv q0, .second, iv p1, rv b1, iv 0, .unset, .unset, .unset, .unset, .unset, .unset, .unset] []))
    refine own_via (fun k => XS.iloadN X41.here hx rfl (hb hby at_85) rfl  (XS.iconst X41.here hx rfl (hb hby at_86) (XS.iushr X41.here hx rfl (hb hby at_87) rfl (X41.ldcInt hx hown (mvT hZ (hw _ (List.mem_of_getElem? (i := 1) rfl))) (g := (mkF m 88 #[jv q0, .second, iv p1, rv b1, iv 0, .unset, .unset, .unset, .unset, .unset, .unset, .unset] [(.int ((p1.toUInt32 >>> ((3 : Int32) &&& 31).toUInt32).toInt32))])) rfl (hb hby at_88) _ k)))) ?_
    show own_Go p e below s _ _ (T41.setTop (mkF m 90 #[jv q0, .second, iv p1, rv b1, iv 0, .unset, .unset, .unset, .unset, .unset, .unset, .unset] [(.int 2147483647), (.int ((p1.toUInt32 >>> ((3 : Int32) &&& 31).toUInt32).toInt32))]))
    refine own_via (fun k => XS.iand X41.here hx rfl (hb hby at_90) rfl (XS.bipush X41.here hx rfl (hb hby at_91) (XS.iload X41.here hx rfl (hb hby at_93) rfl  (XS.isub X41.here hx rfl (hb hby at_95) rfl k)))) ?_
    show own_Go p e below s _ _ (T41.setTop (mkF m 96 #[jv q0, .second, iv p1, rv b1, iv 0, .unset, .unset, .unset, .unset, .unset, .unset, .unset] [(.int 9), (.int (((p1.toUInt32 >>> ((3 : Int32) &&& 31).toUInt32).toInt32) &&& (2147483647 : Int32)))]))
    refine own_via (fun k => Jvm.RoadKit.iremM X41 hx rfl (hb hby at_96) rfl (by decide) k) ?_
    show own_Go p e below s _ _ (T41.setTop (mkF m 97 #[jv q0, .second, iv p1, rv b1, iv 0, .unset, .unset, .unset, .unset, .unset, .unset, .unset] [(.int ((((p1.toUInt32 >>> ((3 : Int32) &&& 31).toUInt32).toInt32) &&& (2147483647 : Int32)) % (9 : Int32)))]))
    obtain ⟨z46, hz46⟩ : ∃ z : Int32, z = ((((p1.toUInt32 >>> ((3 : Int32) &&& 31).toUInt32).toInt32) &&& (2147483647 : Int32)) % (9 : Int32)) := ⟨_, rfl⟩
    rw [← hz46]
    show own_Go p e below s _ _ (T41.setTop (mkF m 97 #[jv q0, .second, iv p1, rv b1, iv 0, .unset, .unset, .unset, .unset, .unset, .unset, .unset] [(.int z46)]))
    refine own_via (fun k => XS.istore X41.here hx rfl (hb hby at_97) rfl (l' := #[jv q0, .second, iv p1, rv b1, iv 0, iv z46, .unset, .unset, .unset, .unset, .unset, .unset]) rfl (XS.aloadN X41.here hx rfl (hb hby at_99) rfl rfl  (XS.iload X41.here hx rfl (hb hby at_100) rfl  (XS.iconst X41.here hx rfl (hb hby at_102) k)))) ?_
    show own_Go p e below s _ _ (T41.setTop (mkF m 103 #[jv q0, .second, iv p1, rv b1, iv 0, iv z46, .unset, .unset, .unset, .unset, .unset, .unset] [(.int 0), (.int z46), (.ref b1)]))
    refine own_via (fun k => XS.iload X41.here hx rfl (hb hby at_103) rfl  k) ?_
    show own_Go p e below s _ _ (T41.setTop (mkF m 105 #[jv q0, .second, iv p1, rv b1, iv 0, iv z46, .unset, .unset, .unset, .unset, .unset, .unset] [(.int 0), (.int 0), (.int z46), (.ref b1)]))
    obtain ⟨_, _, ⟨T47, L47, k47, n47⟩, -, X47, ⟨Lc47, hQ47, l47, y47, z47⟩, st47⟩ := Jvm.LawKit.callS X41 hx (y := (⟨"organico/records/Iso2709DigitsPinLaw", "digitAt", "([BIII)I"⟩ : MethodName)) hown (mvT hZ (hw _ (List.mem_of_getElem? (i := 2) rfl))) (mvT hZ (hw _ (List.mem_of_getElem? (i := 3) rfl))) (mvT hZ (hw _ (List.mem_of_getElem? (i := 4) rfl))) (mvT hZ (hw _ (List.mem_of_getElem? (i := 5) rfl))) (by decide) (backOf (W := 0) (rm1 l Z aw hw [] b1 z46 (0 : Int32) (0 : Int32) k1 [(.int (nar .byte z5)), (.int (nar .byte z10)), (.int (nar .byte z15)), (.int (nar .byte z20)), (.int (nar .byte z25)), (.int (nar .byte z30)), (.int (nar .byte z35)), (.int (nar .byte z40))] g h41 n0 Z44 B42 hg (own_hhin_0_105 p1 z46 hz46 hl45)) hZ (hw _ (List.mem_of_getElem? (i := 5) rfl)) (hw _ (List.mem_of_getElem? (i := 4) rfl)) (by decide) (by decide)) (g := (mkF m 105 #[jv q0, .second, iv p1, rv b1, iv 0, iv z46, .unset, .unset, .unset, .unset, .unset, .unset] [(.int 0), (.int 0), (.int z46), (.ref b1)])) rfl (by rw [hml]; rfl) (argsL := [(.ref b1), (.int z46), (.int 0), (.int 0)]) (rest := []) (lenOf pd_0 rfl) rfl (by show 2 * 0 + _ ≤ _; exact Nat.le_of_eq rfl) (hb hby at_105) (fun _ _ => ⟨rfl, e41, (by decide : 1 + 0 ≤ _), (by decide : 8 + 0 ≤ _)⟩)
    dsimp only [Pt.U, Pt.locs, Pt.cells, Pt.slots] at X47 l47 y47 z47 st47 hQ47
    subst l47 y47 z47
    obtain ⟨rfl, N47q, eh47⟩ := hQ47
    have N48 := Fr.app N43 N47q
    refine own_via (fun k => st47 _ k) ?_
    show own_Go p e below s _ _ (T47.setTop (mkF m 108 #[jv q0, .second, iv p1, rv b1, iv 0, iv z46, .unset, .unset, .unset, .unset, .unset, .unset] [(.int (own_f1 z46 (0 : Int32) (0 : Int32) g))]))
    obtain ⟨z49, hz49⟩ : ∃ z : Int32, z = (own_f1 z46 (0 : Int32) (0 : Int32) g) := ⟨_, rfl⟩
    rw [← hz49]
    show own_Go p e below s _ _ (T47.setTop (mkF m 108 #[jv q0, .second, iv p1, rv b1, iv 0, iv z46, .unset, .unset, .unset, .unset, .unset, .unset] [(.int z49)]))
    refine own_via (fun k => XS.istore X47.here hx rfl (hb hby at_108) rfl (l' := #[jv q0, .second, iv p1, rv b1, iv 0, iv z46, iv z49, .unset, .unset, .unset, .unset, .unset]) rfl (XS.aloadN X47.here hx rfl (hb hby at_110) rfl rfl  (XS.iload X47.here hx rfl (hb hby at_111) rfl  (XS.iconst X47.here hx rfl (hb hby at_113) k)))) ?_
    show own_Go p e below s _ _ (T47.setTop (mkF m 114 #[jv q0, .second, iv p1, rv b1, iv 0, iv z46, iv z49, .unset, .unset, .unset, .unset, .unset] [(.int 1), (.int z46), (.ref b1)]))
    refine own_via (fun k => XS.iload X47.here hx rfl (hb hby at_114) rfl  k) ?_
    show own_Go p e below s _ _ (T47.setTop (mkF m 116 #[jv q0, .second, iv p1, rv b1, iv 0, iv z46, iv z49, .unset, .unset, .unset, .unset, .unset] [(.int 0), (.int 1), (.int z46), (.ref b1)]))
    obtain ⟨_, _, ⟨T50, L50, k50, n50⟩, -, X50, ⟨Lc50, hQ50, l50, y50, z50⟩, st50⟩ := Jvm.LawKit.callS X47 hx (y := (⟨"organico/records/Iso2709DigitsPinLaw", "digitAt", "([BIII)I"⟩ : MethodName)) hown (mvT hZ (hw _ (List.mem_of_getElem? (i := 2) rfl))) (mvT hZ (hw _ (List.mem_of_getElem? (i := 3) rfl))) (mvT hZ (hw _ (List.mem_of_getElem? (i := 4) rfl))) (mvT hZ (hw _ (List.mem_of_getElem? (i := 5) rfl))) (by decide) (backOf (W := 0) (rm1 l Z aw hw [] b1 z46 (1 : Int32) (0 : Int32) k1 [(.int (nar .byte z5)), (.int (nar .byte z10)), (.int (nar .byte z15)), (.int (nar .byte z20)), (.int (nar .byte z25)), (.int (nar .byte z30)), (.int (nar .byte z35)), (.int (nar .byte z40))] g h41 n0 Z44 B42 hg (own_hhin_0_116 p1 z46 hz46 hl45)) hZ (hw _ (List.mem_of_getElem? (i := 5) rfl)) (hw _ (List.mem_of_getElem? (i := 4) rfl)) (by decide) (by decide)) (g := (mkF m 116 #[jv q0, .second, iv p1, rv b1, iv 0, iv z46, iv z49, .unset, .unset, .unset, .unset, .unset] [(.int 0), (.int 1), (.int z46), (.ref b1)])) rfl (by rw [hml]; rfl) (argsL := [(.ref b1), (.int z46), (.int 1), (.int 0)]) (rest := []) (lenOf pd_0 rfl) rfl (by show 2 * 0 + _ ≤ _; exact Nat.le_of_eq rfl) (hb hby at_116) (fun _ _ => ⟨rfl, eh47, (by decide : 1 + 0 ≤ _), (by decide : 8 + 0 ≤ _)⟩)
    dsimp only [Pt.U, Pt.locs, Pt.cells, Pt.slots] at X50 l50 y50 z50 st50 hQ50
    subst l50 y50 z50
    obtain ⟨rfl, N50q, eh50⟩ := hQ50
    have N51 := Fr.app N48 N50q
    refine own_via (fun k => st50 _ k) ?_
    show own_Go p e below s _ _ (T50.setTop (mkF m 119 #[jv q0, .second, iv p1, rv b1, iv 0, iv z46, iv z49, .unset, .unset, .unset, .unset, .unset] [(.int (own_f1 z46 (1 : Int32) (0 : Int32) g))]))
    obtain ⟨z52, hz52⟩ : ∃ z : Int32, z = (own_f1 z46 (1 : Int32) (0 : Int32) g) := ⟨_, rfl⟩
    rw [← hz52]
    show own_Go p e below s _ _ (T50.setTop (mkF m 119 #[jv q0, .second, iv p1, rv b1, iv 0, iv z46, iv z49, .unset, .unset, .unset, .unset, .unset] [(.int z52)]))
    refine own_via (fun k => XS.istore X50.here hx rfl (hb hby at_119) rfl (l' := #[jv q0, .second, iv p1, rv b1, iv 0, iv z46, iv z49, iv z52, .unset, .unset, .unset, .unset]) rfl (XS.aloadN X50.here hx rfl (hb hby at_121) rfl rfl  (XS.iload X50.here hx rfl (hb hby at_122) rfl  (XS.iconst X50.here hx rfl (hb hby at_124) k)))) ?_
    show own_Go p e below s _ _ (T50.setTop (mkF m 125 #[jv q0, .second, iv p1, rv b1, iv 0, iv z46, iv z49, iv z52, .unset, .unset, .unset, .unset] [(.int 2), (.int z46), (.ref b1)]))
    refine own_via (fun k => XS.iload X50.here hx rfl (hb hby at_125) rfl  k) ?_
    show own_Go p e below s _ _ (T50.setTop (mkF m 127 #[jv q0, .second, iv p1, rv b1, iv 0, iv z46, iv z49, iv z52, .unset, .unset, .unset, .unset] [(.int 0), (.int 2), (.int z46), (.ref b1)]))
    obtain ⟨_, _, ⟨T53, L53, k53, n53⟩, -, X53, ⟨Lc53, hQ53, l53, y53, z53⟩, st53⟩ := Jvm.LawKit.callS X50 hx (y := (⟨"organico/records/Iso2709DigitsPinLaw", "digitAt", "([BIII)I"⟩ : MethodName)) hown (mvT hZ (hw _ (List.mem_of_getElem? (i := 2) rfl))) (mvT hZ (hw _ (List.mem_of_getElem? (i := 3) rfl))) (mvT hZ (hw _ (List.mem_of_getElem? (i := 4) rfl))) (mvT hZ (hw _ (List.mem_of_getElem? (i := 5) rfl))) (by decide) (backOf (W := 0) (rm1 l Z aw hw [] b1 z46 (2 : Int32) (0 : Int32) k1 [(.int (nar .byte z5)), (.int (nar .byte z10)), (.int (nar .byte z15)), (.int (nar .byte z20)), (.int (nar .byte z25)), (.int (nar .byte z30)), (.int (nar .byte z35)), (.int (nar .byte z40))] g h41 n0 Z44 B42 hg (own_hhin_0_127 p1 z46 hz46 hl45)) hZ (hw _ (List.mem_of_getElem? (i := 5) rfl)) (hw _ (List.mem_of_getElem? (i := 4) rfl)) (by decide) (by decide)) (g := (mkF m 127 #[jv q0, .second, iv p1, rv b1, iv 0, iv z46, iv z49, iv z52, .unset, .unset, .unset, .unset] [(.int 0), (.int 2), (.int z46), (.ref b1)])) rfl (by rw [hml]; rfl) (argsL := [(.ref b1), (.int z46), (.int 2), (.int 0)]) (rest := []) (lenOf pd_0 rfl) rfl (by show 2 * 0 + _ ≤ _; exact Nat.le_of_eq rfl) (hb hby at_127) (fun _ _ => ⟨rfl, eh50, (by decide : 1 + 0 ≤ _), (by decide : 8 + 0 ≤ _)⟩)
    dsimp only [Pt.U, Pt.locs, Pt.cells, Pt.slots] at X53 l53 y53 z53 st53 hQ53
    subst l53 y53 z53
    obtain ⟨rfl, N53q, eh53⟩ := hQ53
    have N54 := Fr.app N51 N53q
    refine own_via (fun k => st53 _ k) ?_
    show own_Go p e below s _ _ (T53.setTop (mkF m 130 #[jv q0, .second, iv p1, rv b1, iv 0, iv z46, iv z49, iv z52, .unset, .unset, .unset, .unset] [(.int (own_f1 z46 (2 : Int32) (0 : Int32) g))]))
    obtain ⟨z55, hz55⟩ : ∃ z : Int32, z = (own_f1 z46 (2 : Int32) (0 : Int32) g) := ⟨_, rfl⟩
    rw [← hz55]
    show own_Go p e below s _ _ (T53.setTop (mkF m 130 #[jv q0, .second, iv p1, rv b1, iv 0, iv z46, iv z49, iv z52, .unset, .unset, .unset, .unset] [(.int z55)]))
    refine own_via (fun k => XS.istore X53.here hx rfl (hb hby at_130) rfl (l' := #[jv q0, .second, iv p1, rv b1, iv 0, iv z46, iv z49, iv z52, iv z55, .unset, .unset, .unset]) rfl (XS.aloadN X53.here hx rfl (hb hby at_132) rfl rfl  (XS.iload X53.here hx rfl (hb hby at_133) rfl  (XS.iconst X53.here hx rfl (hb hby at_135) k)))) ?_
    show own_Go p e below s _ _ (T53.setTop (mkF m 136 #[jv q0, .second, iv p1, rv b1, iv 0, iv z46, iv z49, iv z52, iv z55, .unset, .unset, .unset] [(.int 3), (.int z46), (.ref b1)]))
    refine own_via (fun k => XS.iload X53.here hx rfl (hb hby at_136) rfl  k) ?_
    show own_Go p e below s _ _ (T53.setTop (mkF m 138 #[jv q0, .second, iv p1, rv b1, iv 0, iv z46, iv z49, iv z52, iv z55, .unset, .unset, .unset] [(.int 0), (.int 3), (.int z46), (.ref b1)]))
    obtain ⟨_, _, ⟨T56, L56, k56, n56⟩, -, X56, ⟨Lc56, hQ56, l56, y56, z56⟩, st56⟩ := Jvm.LawKit.callS X53 hx (y := (⟨"organico/records/Iso2709DigitsPinLaw", "digitAt", "([BIII)I"⟩ : MethodName)) hown (mvT hZ (hw _ (List.mem_of_getElem? (i := 2) rfl))) (mvT hZ (hw _ (List.mem_of_getElem? (i := 3) rfl))) (mvT hZ (hw _ (List.mem_of_getElem? (i := 4) rfl))) (mvT hZ (hw _ (List.mem_of_getElem? (i := 5) rfl))) (by decide) (backOf (W := 0) (rm1 l Z aw hw [] b1 z46 (3 : Int32) (0 : Int32) k1 [(.int (nar .byte z5)), (.int (nar .byte z10)), (.int (nar .byte z15)), (.int (nar .byte z20)), (.int (nar .byte z25)), (.int (nar .byte z30)), (.int (nar .byte z35)), (.int (nar .byte z40))] g h41 n0 Z44 B42 hg (own_hhin_0_138 p1 z46 hz46 hl45)) hZ (hw _ (List.mem_of_getElem? (i := 5) rfl)) (hw _ (List.mem_of_getElem? (i := 4) rfl)) (by decide) (by decide)) (g := (mkF m 138 #[jv q0, .second, iv p1, rv b1, iv 0, iv z46, iv z49, iv z52, iv z55, .unset, .unset, .unset] [(.int 0), (.int 3), (.int z46), (.ref b1)])) rfl (by rw [hml]; rfl) (argsL := [(.ref b1), (.int z46), (.int 3), (.int 0)]) (rest := []) (lenOf pd_0 rfl) rfl (by show 2 * 0 + _ ≤ _; exact Nat.le_of_eq rfl) (hb hby at_138) (fun _ _ => ⟨rfl, eh53, (by decide : 1 + 0 ≤ _), (by decide : 8 + 0 ≤ _)⟩)
    dsimp only [Pt.U, Pt.locs, Pt.cells, Pt.slots] at X56 l56 y56 z56 st56 hQ56
    subst l56 y56 z56
    obtain ⟨rfl, N56q, eh56⟩ := hQ56
    have N57 := Fr.app N54 N56q
    refine own_via (fun k => st56 _ k) ?_
    show own_Go p e below s _ _ (T56.setTop (mkF m 141 #[jv q0, .second, iv p1, rv b1, iv 0, iv z46, iv z49, iv z52, iv z55, .unset, .unset, .unset] [(.int (own_f1 z46 (3 : Int32) (0 : Int32) g))]))
    obtain ⟨z58, hz58⟩ : ∃ z : Int32, z = (own_f1 z46 (3 : Int32) (0 : Int32) g) := ⟨_, rfl⟩
    rw [← hz58]
    show own_Go p e below s _ _ (T56.setTop (mkF m 141 #[jv q0, .second, iv p1, rv b1, iv 0, iv z46, iv z49, iv z52, iv z55, .unset, .unset, .unset] [(.int z58)]))
    refine own_via (fun k => XS.istore X56.here hx rfl (hb hby at_141) rfl (l' := #[jv q0, .second, iv p1, rv b1, iv 0, iv z46, iv z49, iv z52, iv z55, iv z58, .unset, .unset]) rfl (XS.aloadN X56.here hx rfl (hb hby at_143) rfl rfl  (XS.iload X56.here hx rfl (hb hby at_144) rfl  (XS.iconst X56.here hx rfl (hb hby at_146) k)))) ?_
    show own_Go p e below s _ _ (T56.setTop (mkF m 147 #[jv q0, .second, iv p1, rv b1, iv 0, iv z46, iv z49, iv z52, iv z55, iv z58, .unset, .unset] [(.int 4), (.int z46), (.ref b1)]))
    refine own_via (fun k => XS.iload X56.here hx rfl (hb hby at_147) rfl  k) ?_
    show own_Go p e below s _ _ (T56.setTop (mkF m 149 #[jv q0, .second, iv p1, rv b1, iv 0, iv z46, iv z49, iv z52, iv z55, iv z58, .unset, .unset] [(.int 0), (.int 4), (.int z46), (.ref b1)]))
    obtain ⟨_, _, ⟨T59, L59, k59, n59⟩, -, X59, ⟨Lc59, hQ59, l59, y59, z59⟩, st59⟩ := Jvm.LawKit.callS X56 hx (y := (⟨"organico/records/Iso2709DigitsPinLaw", "digitAt", "([BIII)I"⟩ : MethodName)) hown (mvT hZ (hw _ (List.mem_of_getElem? (i := 2) rfl))) (mvT hZ (hw _ (List.mem_of_getElem? (i := 3) rfl))) (mvT hZ (hw _ (List.mem_of_getElem? (i := 4) rfl))) (mvT hZ (hw _ (List.mem_of_getElem? (i := 5) rfl))) (by decide) (backOf (W := 0) (rm1 l Z aw hw [] b1 z46 (4 : Int32) (0 : Int32) k1 [(.int (nar .byte z5)), (.int (nar .byte z10)), (.int (nar .byte z15)), (.int (nar .byte z20)), (.int (nar .byte z25)), (.int (nar .byte z30)), (.int (nar .byte z35)), (.int (nar .byte z40))] g h41 n0 Z44 B42 hg (own_hhin_0_149 p1 z46 hz46 hl45)) hZ (hw _ (List.mem_of_getElem? (i := 5) rfl)) (hw _ (List.mem_of_getElem? (i := 4) rfl)) (by decide) (by decide)) (g := (mkF m 149 #[jv q0, .second, iv p1, rv b1, iv 0, iv z46, iv z49, iv z52, iv z55, iv z58, .unset, .unset] [(.int 0), (.int 4), (.int z46), (.ref b1)])) rfl (by rw [hml]; rfl) (argsL := [(.ref b1), (.int z46), (.int 4), (.int 0)]) (rest := []) (lenOf pd_0 rfl) rfl (by show 2 * 0 + _ ≤ _; exact Nat.le_of_eq rfl) (hb hby at_149) (fun _ _ => ⟨rfl, eh56, (by decide : 1 + 0 ≤ _), (by decide : 8 + 0 ≤ _)⟩)
    dsimp only [Pt.U, Pt.locs, Pt.cells, Pt.slots] at X59 l59 y59 z59 st59 hQ59
    subst l59 y59 z59
    obtain ⟨rfl, N59q, eh59⟩ := hQ59
    have N60 := Fr.app N57 N59q
    refine own_via (fun k => st59 _ k) ?_
    show own_Go p e below s _ _ (T59.setTop (mkF m 152 #[jv q0, .second, iv p1, rv b1, iv 0, iv z46, iv z49, iv z52, iv z55, iv z58, .unset, .unset] [(.int (own_f1 z46 (4 : Int32) (0 : Int32) g))]))
    obtain ⟨z61, hz61⟩ : ∃ z : Int32, z = (own_f1 z46 (4 : Int32) (0 : Int32) g) := ⟨_, rfl⟩
    rw [← hz61]
    show own_Go p e below s _ _ (T59.setTop (mkF m 152 #[jv q0, .second, iv p1, rv b1, iv 0, iv z46, iv z49, iv z52, iv z55, iv z58, .unset, .unset] [(.int z61)]))
    refine own_via (fun k => XS.istore X59.here hx rfl (hb hby at_152) rfl (l' := #[jv q0, .second, iv p1, rv b1, iv 0, iv z46, iv z49, iv z52, iv z55, iv z58, iv z61, .unset]) rfl (XS.iload X59.here hx rfl (hb hby at_154) rfl  k)) ?_
    show own_Go p e below s _ _ (T59.setTop (mkF m 156 #[jv q0, .second, iv p1, rv b1, iv 0, iv z46, iv z49, iv z52, iv z55, iv z58, iv z61, .unset] [(.int z49)]))
    have J65 : ∀ (T65 : State) (lo65 : List Loc), Stand p l e room_1 s m #[(.long q0), (.int p1)] below meth c T65 lo65 1 8 → Fr n0 lo65 → T65.heap = h41 → ∀ (z64 : Int32), z64 = (if z49 < (0 : Int32) then (-1 : Int32) else (if z52 < (0 : Int32) then (-1 : Int32) else (if z55 < (0 : Int32) then (-1 : Int32) else (if z58 < (0 : Int32) then (-1 : Int32) else (if z61 < (0 : Int32) then (-1 : Int32) else ((((((z49 * (10000 : Int32)) + (z52 * (1000 : Int32))) + (z55 * (100 : Int32))) + (z58 * (10 : Int32))) + z61) / (own_f3 (5 : Int32)))))))) → own_Go p e below s (Q0 Z q0 p1 h0 n0) (room_1.cells, room_1.slots) (T65.setTop (mkF m 223 #[jv q0, .second, iv p1, rv b1, iv 0, iv z46, iv z49, iv z52, iv z55, iv z58, iv z61, iv z64] [])) := by
      intro T65 lo65 X65 N65 e65 z64 hz64
      refine own_via (fun k => XS.aloadN X65.here hx rfl (hb hby at_223) rfl rfl  (XS.iload X65.here hx rfl (hb hby at_224) rfl  (XS.iload X65.here hx rfl (hb hby at_226) rfl  k))) ?_
      show own_Go p e below s _ _ (T65.setTop (mkF m 228 #[jv q0, .second, iv p1, rv b1, iv 0, iv z46, iv z49, iv z52, iv z55, iv z58, iv z61, iv z64] [(.int 0), (.int z46), (.ref b1)]))
      obtain ⟨_, _, ⟨T66, L66, k66, n66⟩, -, X66, ⟨Lc66, hQ66, l66, y66, z66⟩, st66⟩ := Jvm.LawKit.callS X65 hx (y := (⟨"organico/records/Iso2709", "digits", "([BII)I"⟩ : MethodName)) hown (mvT hZ (hw _ (List.mem_of_getElem? (i := 6) rfl))) (mvT hZ (hw _ (List.mem_of_getElem? (i := 7) rfl))) (mvT hZ (hw _ (List.mem_of_getElem? (i := 8) rfl))) (mvT hZ (hw _ (List.mem_of_getElem? (i := 9) rfl))) (by decide) (backOf (W := 0) (rm2_0 l Z aw hw [] b1 z46 k1 [(.int (nar .byte z5)), (.int (nar .byte z10)), (.int (nar .byte z15)), (.int (nar .byte z20)), (.int (nar .byte z25)), (.int (nar .byte z30)), (.int (nar .byte z35)), (.int (nar .byte z40))] g h41 n0 Z44 B42 hg (own_hhlo_0_228 p1 z46 hz46 hl45) (own_hhhi_0_228 p1 z46 hz46 hl45)) hZ (hw _ (List.mem_of_getElem? (i := 9) rfl)) (hw _ (List.mem_of_getElem? (i := 8) rfl)) (by decide) (by decide)) (g := (mkF m 228 #[jv q0, .second, iv p1, rv b1, iv 0, iv z46, iv z49, iv z52, iv z55, iv z58, iv z61, iv z64] [(.int 0), (.int z46), (.ref b1)])) rfl (by rw [hml]; rfl) (argsL := [(.ref b1), (.int z46), (.int 0)]) (rest := []) (lenOf pd_1 rfl) rfl (by show 2 * 0 + _ ≤ _; exact Nat.le_of_eq rfl) (hb hby at_228) (fun _ _ => ⟨rfl, e65, (by decide : 1 + 0 ≤ _), (by decide : 8 + 0 ≤ _)⟩)
      dsimp only [Pt.U, Pt.locs, Pt.cells, Pt.slots] at X66 l66 y66 z66 st66 hQ66
      subst l66 y66 z66
      obtain ⟨rfl, N66q, eh66⟩ := hQ66
      have N67 := Fr.app N65 N66q
      refine own_via (fun k => st66 _ k) ?_
      show own_Go p e below s _ _ (T66.setTop (mkF m 231 #[jv q0, .second, iv p1, rv b1, iv 0, iv z46, iv z49, iv z52, iv z55, iv z58, iv z61, iv z64] [(.int own_f2_0)]))
      refine own_via (fun k => XS.iload X66.here hx rfl (hb hby at_231) rfl  k) ?_
      show own_Go p e below s _ _ (T66.setTop (mkF m 233 #[jv q0, .second, iv p1, rv b1, iv 0, iv z46, iv z49, iv z52, iv z55, iv z58, iv z61, iv z64] [(.int z64), (.int own_f2_0)]))
      refine own_via (fun k => XS.icmpNo X66.here hx rfl (hb hby at_233) rfl (teq (own_law0 p1 g z46 hz46 z49 hz49 z52 hz52 z55 hz55 z58 hz58 z61 hz61 z64 hz64 hl45)).2 k) ?_
      show own_Go p e below s _ _ (T66.setTop (mkF m 236 #[jv q0, .second, iv p1, rv b1, iv 0, iv z46, iv z49, iv z52, iv z55, iv z58, iv z61, iv z64] []))
      refine own_via (fun k => XS.iconst X66.here hx rfl (hb hby at_236) (XS.goto X66.here hx rfl (pc0 := 237) (pc' := 241) rfl (hb hby at_237) (by decide) (by decide) k)) ?_
      show own_Go p e below s _ _ (T66.setTop (mkF m 241 #[jv q0, .second, iv p1, rv b1, iv 0, iv z46, iv z49, iv z52, iv z55, iv z58, iv z61, iv z64] [(.int 1)]))
      exact own_retN X66 hx hlk (t := .boolean) Bd.returns (by simp) (hb hby at_241) (Q := (Q0 Z q0 p1 h0 n0)) ⟨rfl, N67⟩ (by decide) (by decide)
    by_cases hc68 : z49 < (0 : Int32)
    · refine own_via (fun k => XS.ifYes X59.here hx rfl (pc0 := 156) (pc' := 179) rfl (hb hby at_156) rfl ((if0 _ _).trans (tlt hc68).1) (by decide) (by decide) k) ?_
      show own_Go p e below s _ _ (T59.setTop (mkF m 179 #[jv q0, .second, iv p1, rv b1, iv 0, iv z46, iv z49, iv z52, iv z55, iv z58, iv z61, .unset] []))
      refine own_via (fun k => XS.iconst X59.here hx rfl (hb hby at_179) (XS.istore X59.here hx rfl (hb hby at_180) rfl (l' := #[jv q0, .second, iv p1, rv b1, iv 0, iv z46, iv z49, iv z52, iv z55, iv z58, iv z61, iv (-1)]) rfl (XS.goto X59.here hx rfl (pc0 := 182) (pc' := 223) rfl (hb hby at_182) (by decide) (by decide) k))) ?_
      show own_Go p e below s _ _ (T59.setTop (mkF m 223 #[jv q0, .second, iv p1, rv b1, iv 0, iv z46, iv z49, iv z52, iv z55, iv z58, iv z61, iv (-1)] []))
      exact J65 _ _ X59 N60 eh59 (-1 : Int32) (((if_pos hc68).trans rfl)).symm
    · refine own_via (fun k => XS.ifNo X59.here hx rfl (hb hby at_156) rfl ((if0 _ _).trans (flt hc68).1) k) ?_
      show own_Go p e below s _ _ (T59.setTop (mkF m 159 #[jv q0, .second, iv p1, rv b1, iv 0, iv z46, iv z49, iv z52, iv z55, iv z58, iv z61, .unset] []))
      refine own_via (fun k => XS.iload X59.here hx rfl (hb hby at_159) rfl  k) ?_
      show own_Go p e below s _ _ (T59.setTop (mkF m 161 #[jv q0, .second, iv p1, rv b1, iv 0, iv z46, iv z49, iv z52, iv z55, iv z58, iv z61, .unset] [(.int z52)]))
      by_cases hc69 : z52 < (0 : Int32)
      · refine own_via (fun k => XS.ifYes X59.here hx rfl (pc0 := 161) (pc' := 179) rfl (hb hby at_161) rfl ((if0 _ _).trans (tlt hc69).1) (by decide) (by decide) k) ?_
        show own_Go p e below s _ _ (T59.setTop (mkF m 179 #[jv q0, .second, iv p1, rv b1, iv 0, iv z46, iv z49, iv z52, iv z55, iv z58, iv z61, .unset] []))
        refine own_via (fun k => XS.iconst X59.here hx rfl (hb hby at_179) (XS.istore X59.here hx rfl (hb hby at_180) rfl (l' := #[jv q0, .second, iv p1, rv b1, iv 0, iv z46, iv z49, iv z52, iv z55, iv z58, iv z61, iv (-1)]) rfl (XS.goto X59.here hx rfl (pc0 := 182) (pc' := 223) rfl (hb hby at_182) (by decide) (by decide) k))) ?_
        show own_Go p e below s _ _ (T59.setTop (mkF m 223 #[jv q0, .second, iv p1, rv b1, iv 0, iv z46, iv z49, iv z52, iv z55, iv z58, iv z61, iv (-1)] []))
        exact J65 _ _ X59 N60 eh59 (-1 : Int32) (((if_neg hc68).trans ((if_pos hc69).trans rfl))).symm
      · refine own_via (fun k => XS.ifNo X59.here hx rfl (hb hby at_161) rfl ((if0 _ _).trans (flt hc69).1) k) ?_
        show own_Go p e below s _ _ (T59.setTop (mkF m 164 #[jv q0, .second, iv p1, rv b1, iv 0, iv z46, iv z49, iv z52, iv z55, iv z58, iv z61, .unset] []))
        refine own_via (fun k => XS.iload X59.here hx rfl (hb hby at_164) rfl  k) ?_
        show own_Go p e below s _ _ (T59.setTop (mkF m 166 #[jv q0, .second, iv p1, rv b1, iv 0, iv z46, iv z49, iv z52, iv z55, iv z58, iv z61, .unset] [(.int z55)]))
        by_cases hc70 : z55 < (0 : Int32)
        · refine own_via (fun k => XS.ifYes X59.here hx rfl (pc0 := 166) (pc' := 179) rfl (hb hby at_166) rfl ((if0 _ _).trans (tlt hc70).1) (by decide) (by decide) k) ?_
          show own_Go p e below s _ _ (T59.setTop (mkF m 179 #[jv q0, .second, iv p1, rv b1, iv 0, iv z46, iv z49, iv z52, iv z55, iv z58, iv z61, .unset] []))
          refine own_via (fun k => XS.iconst X59.here hx rfl (hb hby at_179) (XS.istore X59.here hx rfl (hb hby at_180) rfl (l' := #[jv q0, .second, iv p1, rv b1, iv 0, iv z46, iv z49, iv z52, iv z55, iv z58, iv z61, iv (-1)]) rfl (XS.goto X59.here hx rfl (pc0 := 182) (pc' := 223) rfl (hb hby at_182) (by decide) (by decide) k))) ?_
          show own_Go p e below s _ _ (T59.setTop (mkF m 223 #[jv q0, .second, iv p1, rv b1, iv 0, iv z46, iv z49, iv z52, iv z55, iv z58, iv z61, iv (-1)] []))
          exact J65 _ _ X59 N60 eh59 (-1 : Int32) (((if_neg hc68).trans ((if_neg hc69).trans ((if_pos hc70).trans rfl)))).symm
        · refine own_via (fun k => XS.ifNo X59.here hx rfl (hb hby at_166) rfl ((if0 _ _).trans (flt hc70).1) k) ?_
          show own_Go p e below s _ _ (T59.setTop (mkF m 169 #[jv q0, .second, iv p1, rv b1, iv 0, iv z46, iv z49, iv z52, iv z55, iv z58, iv z61, .unset] []))
          refine own_via (fun k => XS.iload X59.here hx rfl (hb hby at_169) rfl  k) ?_
          show own_Go p e below s _ _ (T59.setTop (mkF m 171 #[jv q0, .second, iv p1, rv b1, iv 0, iv z46, iv z49, iv z52, iv z55, iv z58, iv z61, .unset] [(.int z58)]))
          by_cases hc71 : z58 < (0 : Int32)
          · refine own_via (fun k => XS.ifYes X59.here hx rfl (pc0 := 171) (pc' := 179) rfl (hb hby at_171) rfl ((if0 _ _).trans (tlt hc71).1) (by decide) (by decide) k) ?_
            show own_Go p e below s _ _ (T59.setTop (mkF m 179 #[jv q0, .second, iv p1, rv b1, iv 0, iv z46, iv z49, iv z52, iv z55, iv z58, iv z61, .unset] []))
            refine own_via (fun k => XS.iconst X59.here hx rfl (hb hby at_179) (XS.istore X59.here hx rfl (hb hby at_180) rfl (l' := #[jv q0, .second, iv p1, rv b1, iv 0, iv z46, iv z49, iv z52, iv z55, iv z58, iv z61, iv (-1)]) rfl (XS.goto X59.here hx rfl (pc0 := 182) (pc' := 223) rfl (hb hby at_182) (by decide) (by decide) k))) ?_
            show own_Go p e below s _ _ (T59.setTop (mkF m 223 #[jv q0, .second, iv p1, rv b1, iv 0, iv z46, iv z49, iv z52, iv z55, iv z58, iv z61, iv (-1)] []))
            exact J65 _ _ X59 N60 eh59 (-1 : Int32) (((if_neg hc68).trans ((if_neg hc69).trans ((if_neg hc70).trans ((if_pos hc71).trans rfl))))).symm
          · refine own_via (fun k => XS.ifNo X59.here hx rfl (hb hby at_171) rfl ((if0 _ _).trans (flt hc71).1) k) ?_
            show own_Go p e below s _ _ (T59.setTop (mkF m 174 #[jv q0, .second, iv p1, rv b1, iv 0, iv z46, iv z49, iv z52, iv z55, iv z58, iv z61, .unset] []))
            refine own_via (fun k => XS.iload X59.here hx rfl (hb hby at_174) rfl  k) ?_
            show own_Go p e below s _ _ (T59.setTop (mkF m 176 #[jv q0, .second, iv p1, rv b1, iv 0, iv z46, iv z49, iv z52, iv z55, iv z58, iv z61, .unset] [(.int z61)]))
            by_cases hc72 : z61 < (0 : Int32)
            · refine own_via (fun k => XS.ifNo X59.here hx rfl (hb hby at_176) rfl ((if0 _ _).trans (tlt hc72).2.1) k) ?_
              show own_Go p e below s _ _ (T59.setTop (mkF m 179 #[jv q0, .second, iv p1, rv b1, iv 0, iv z46, iv z49, iv z52, iv z55, iv z58, iv z61, .unset] []))
              refine own_via (fun k => XS.iconst X59.here hx rfl (hb hby at_179) (XS.istore X59.here hx rfl (hb hby at_180) rfl (l' := #[jv q0, .second, iv p1, rv b1, iv 0, iv z46, iv z49, iv z52, iv z55, iv z58, iv z61, iv (-1)]) rfl (XS.goto X59.here hx rfl (pc0 := 182) (pc' := 223) rfl (hb hby at_182) (by decide) (by decide) k))) ?_
              show own_Go p e below s _ _ (T59.setTop (mkF m 223 #[jv q0, .second, iv p1, rv b1, iv 0, iv z46, iv z49, iv z52, iv z55, iv z58, iv z61, iv (-1)] []))
              exact J65 _ _ X59 N60 eh59 (-1 : Int32) (((if_neg hc68).trans ((if_neg hc69).trans ((if_neg hc70).trans ((if_neg hc71).trans ((if_pos hc72).trans rfl)))))).symm
            · refine own_via (fun k => XS.ifYes X59.here hx rfl (pc0 := 176) (pc' := 185) rfl (hb hby at_176) rfl ((if0 _ _).trans (flt hc72).2.1) (by decide) (by decide) k) ?_
              show own_Go p e below s _ _ (T59.setTop (mkF m 185 #[jv q0, .second, iv p1, rv b1, iv 0, iv z46, iv z49, iv z52, iv z55, iv z58, iv z61, .unset] []))
              refine own_via (fun k => XS.iload X59.here hx rfl (hb hby at_185) rfl  (XS.sipush X59.here hx rfl (hb hby at_187) (XS.imul X59.here hx rfl (hb hby at_190) rfl (XS.iload X59.here hx rfl (hb hby at_191) rfl  k)))) ?_
              show own_Go p e below s _ _ (T59.setTop (mkF m 193 #[jv q0, .second, iv p1, rv b1, iv 0, iv z46, iv z49, iv z52, iv z55, iv z58, iv z61, .unset] [(.int z52), (.int (z49 * (10000 : Int32)))]))
              refine own_via (fun k => XS.sipush X59.here hx rfl (hb hby at_193) (XS.imul X59.here hx rfl (hb hby at_196) rfl (XS.iadd X59.here hx rfl (hb hby at_197) rfl (XS.iload X59.here hx rfl (hb hby at_198) rfl  k)))) ?_
              show own_Go p e below s _ _ (T59.setTop (mkF m 200 #[jv q0, .second, iv p1, rv b1, iv 0, iv z46, iv z49, iv z52, iv z55, iv z58, iv z61, .unset] [(.int z55), (.int ((z49 * (10000 : Int32)) + (z52 * (1000 : Int32))))]))
              refine own_via (fun k => XS.bipush X59.here hx rfl (hb hby at_200) (XS.imul X59.here hx rfl (hb hby at_202) rfl (XS.iadd X59.here hx rfl (hb hby at_203) rfl (XS.iload X59.here hx rfl (hb hby at_204) rfl  k)))) ?_
              show own_Go p e below s _ _ (T59.setTop (mkF m 206 #[jv q0, .second, iv p1, rv b1, iv 0, iv z46, iv z49, iv z52, iv z55, iv z58, iv z61, .unset] [(.int z58), (.int (((z49 * (10000 : Int32)) + (z52 * (1000 : Int32))) + (z55 * (100 : Int32))))]))
              refine own_via (fun k => XS.bipush X59.here hx rfl (hb hby at_206) (XS.imul X59.here hx rfl (hb hby at_208) rfl (XS.iadd X59.here hx rfl (hb hby at_209) rfl (XS.iload X59.here hx rfl (hb hby at_210) rfl  k)))) ?_
              show own_Go p e below s _ _ (T59.setTop (mkF m 212 #[jv q0, .second, iv p1, rv b1, iv 0, iv z46, iv z49, iv z52, iv z55, iv z58, iv z61, .unset] [(.int z61), (.int ((((z49 * (10000 : Int32)) + (z52 * (1000 : Int32))) + (z55 * (100 : Int32))) + (z58 * (10 : Int32))))]))
              refine own_via (fun k => XS.iadd X59.here hx rfl (hb hby at_212) rfl (XS.iconst X59.here hx rfl (hb hby at_213) (XS.iload X59.here hx rfl (hb hby at_214) rfl  (XS.isub X59.here hx rfl (hb hby at_216) rfl k)))) ?_
              show own_Go p e below s _ _ (T59.setTop (mkF m 217 #[jv q0, .second, iv p1, rv b1, iv 0, iv z46, iv z49, iv z52, iv z55, iv z58, iv z61, .unset] [(.int 5), (.int (((((z49 * (10000 : Int32)) + (z52 * (1000 : Int32))) + (z55 * (100 : Int32))) + (z58 * (10 : Int32))) + z61))]))
              obtain ⟨_, _, ⟨T73, L73, k73, n73⟩, -, X73, ⟨Lc73, hQ73, l73, y73, z73⟩, st73⟩ := Jvm.LawKit.callS X59 hx (y := (⟨"organico/records/Iso2709DigitsPinLaw", "pow10", "(I)I"⟩ : MethodName)) hown (mvT hZ (hw _ (List.mem_of_getElem? (i := 10) rfl))) (mvT hZ (hw _ (List.mem_of_getElem? (i := 11) rfl))) (mvT hZ (hw _ (List.mem_of_getElem? (i := 4) rfl))) (mvT hZ (hw _ (List.mem_of_getElem? (i := 12) rfl))) (by decide) (backOf (W := 1) (rm3 l Z aw hw [] (5 : Int32) h41 n0 Z44) hZ (hw _ (List.mem_of_getElem? (i := 12) rfl)) (hw _ (List.mem_of_getElem? (i := 4) rfl)) (by decide) (by decide)) (g := (mkF m 217 #[jv q0, .second, iv p1, rv b1, iv 0, iv z46, iv z49, iv z52, iv z55, iv z58, iv z61, .unset] [(.int 5), (.int (((((z49 * (10000 : Int32)) + (z52 * (1000 : Int32))) + (z55 * (100 : Int32))) + (z58 * (10 : Int32))) + z61))])) rfl (by rw [hml]; rfl) (argsL := [(.int 5)]) (rest := [(.int (((((z49 * (10000 : Int32)) + (z52 * (1000 : Int32))) + (z55 * (100 : Int32))) + (z58 * (10 : Int32))) + z61))]) (lenOf pd_2 rfl) rfl (by show 2 * 0 + _ ≤ _; exact Nat.le_of_eq rfl) (hb hby at_217) (fun _ _ => ⟨rfl, eh59, (by decide : 1 + 0 ≤ _), (by decide : 8 + 0 ≤ _)⟩)
              dsimp only [Pt.U, Pt.locs, Pt.cells, Pt.slots] at X73 l73 y73 z73 st73 hQ73
              subst l73 y73 z73
              obtain ⟨rfl, N73q, eh73⟩ := hQ73
              have N74 := Fr.app N60 N73q
              refine own_via (fun k => st73 _ k) ?_
              show own_Go p e below s _ _ (T73.setTop (mkF m 220 #[jv q0, .second, iv p1, rv b1, iv 0, iv z46, iv z49, iv z52, iv z55, iv z58, iv z61, .unset] [(.int (own_f3 (5 : Int32))), (.int (((((z49 * (10000 : Int32)) + (z52 * (1000 : Int32))) + (z55 * (100 : Int32))) + (z58 * (10 : Int32))) + z61))]))
              refine own_via (fun k => XS.idiv X73.here hx rfl (hb hby at_220) rfl (own_nz0 p1 hl45) (XS.istore X73.here hx rfl (hb hby at_221) rfl (l' := #[jv q0, .second, iv p1, rv b1, iv 0, iv z46, iv z49, iv z52, iv z55, iv z58, iv z61, iv ((((((z49 * (10000 : Int32)) + (z52 * (1000 : Int32))) + (z55 * (100 : Int32))) + (z58 * (10 : Int32))) + z61) / (own_f3 (5 : Int32)))]) rfl k)) ?_
              show own_Go p e below s _ _ (T73.setTop (mkF m 223 #[jv q0, .second, iv p1, rv b1, iv 0, iv z46, iv z49, iv z52, iv z55, iv z58, iv z61, iv ((((((z49 * (10000 : Int32)) + (z52 * (1000 : Int32))) + (z55 * (100 : Int32))) + (z58 * (10 : Int32))) + z61) / (own_f3 (5 : Int32)))] []))
              exact J65 _ _ X73 N74 eh73 ((((((z49 * (10000 : Int32)) + (z52 * (1000 : Int32))) + (z55 * (100 : Int32))) + (z58 * (10 : Int32))) + z61) / (own_f3 (5 : Int32))) (((if_neg hc68).trans ((if_neg hc69).trans ((if_neg hc70).trans ((if_neg hc71).trans ((if_neg hc72).trans rfl)))))).symm
  · rw [hl45]
    show own_Go p e below s _ _ (T41.setTop (mkF m 85 #[jv q0, .second, iv p1, rv b1, iv 1, .unset, .unset, .unset, .unset, .unset, .unset, .unset] []))
    refine own_via (fun k => XS.iloadN X41.here hx rfl (hb hby at_85) rfl  (XS.iconst X41.here hx rfl (hb hby at_86) (XS.iushr X41.here hx rfl (hb hby at_87) rfl (X41.ldcInt hx hown (mvT hZ (hw _ (List.mem_of_getElem? (i := 1) rfl))) (g := (mkF m 88 #[jv q0, .second, iv p1, rv b1, iv 1, .unset, .unset, .unset, .unset, .unset, .unset, .unset] [(.int ((p1.toUInt32 >>> ((3 : Int32) &&& 31).toUInt32).toInt32))])) rfl (hb hby at_88) _ k)))) ?_
    show own_Go p e below s _ _ (T41.setTop (mkF m 90 #[jv q0, .second, iv p1, rv b1, iv 1, .unset, .unset, .unset, .unset, .unset, .unset, .unset] [(.int 2147483647), (.int ((p1.toUInt32 >>> ((3 : Int32) &&& 31).toUInt32).toInt32))]))
    refine own_via (fun k => XS.iand X41.here hx rfl (hb hby at_90) rfl (XS.bipush X41.here hx rfl (hb hby at_91) (XS.iload X41.here hx rfl (hb hby at_93) rfl  (XS.isub X41.here hx rfl (hb hby at_95) rfl k)))) ?_
    show own_Go p e below s _ _ (T41.setTop (mkF m 96 #[jv q0, .second, iv p1, rv b1, iv 1, .unset, .unset, .unset, .unset, .unset, .unset, .unset] [(.int 8), (.int (((p1.toUInt32 >>> ((3 : Int32) &&& 31).toUInt32).toInt32) &&& (2147483647 : Int32)))]))
    refine own_via (fun k => Jvm.RoadKit.iremM X41 hx rfl (hb hby at_96) rfl (by decide) k) ?_
    show own_Go p e below s _ _ (T41.setTop (mkF m 97 #[jv q0, .second, iv p1, rv b1, iv 1, .unset, .unset, .unset, .unset, .unset, .unset, .unset] [(.int ((((p1.toUInt32 >>> ((3 : Int32) &&& 31).toUInt32).toInt32) &&& (2147483647 : Int32)) % (8 : Int32)))]))
    obtain ⟨z75, hz75⟩ : ∃ z : Int32, z = ((((p1.toUInt32 >>> ((3 : Int32) &&& 31).toUInt32).toInt32) &&& (2147483647 : Int32)) % (8 : Int32)) := ⟨_, rfl⟩
    rw [← hz75]
    show own_Go p e below s _ _ (T41.setTop (mkF m 97 #[jv q0, .second, iv p1, rv b1, iv 1, .unset, .unset, .unset, .unset, .unset, .unset, .unset] [(.int z75)]))
    refine own_via (fun k => XS.istore X41.here hx rfl (hb hby at_97) rfl (l' := #[jv q0, .second, iv p1, rv b1, iv 1, iv z75, .unset, .unset, .unset, .unset, .unset, .unset]) rfl (XS.aloadN X41.here hx rfl (hb hby at_99) rfl rfl  (XS.iload X41.here hx rfl (hb hby at_100) rfl  (XS.iconst X41.here hx rfl (hb hby at_102) k)))) ?_
    show own_Go p e below s _ _ (T41.setTop (mkF m 103 #[jv q0, .second, iv p1, rv b1, iv 1, iv z75, .unset, .unset, .unset, .unset, .unset, .unset] [(.int 0), (.int z75), (.ref b1)]))
    refine own_via (fun k => XS.iload X41.here hx rfl (hb hby at_103) rfl  k) ?_
    show own_Go p e below s _ _ (T41.setTop (mkF m 105 #[jv q0, .second, iv p1, rv b1, iv 1, iv z75, .unset, .unset, .unset, .unset, .unset, .unset] [(.int 1), (.int 0), (.int z75), (.ref b1)]))
    obtain ⟨_, _, ⟨T76, L76, k76, n76⟩, -, X76, ⟨Lc76, hQ76, l76, y76, z76⟩, st76⟩ := Jvm.LawKit.callS X41 hx (y := (⟨"organico/records/Iso2709DigitsPinLaw", "digitAt", "([BIII)I"⟩ : MethodName)) hown (mvT hZ (hw _ (List.mem_of_getElem? (i := 2) rfl))) (mvT hZ (hw _ (List.mem_of_getElem? (i := 3) rfl))) (mvT hZ (hw _ (List.mem_of_getElem? (i := 4) rfl))) (mvT hZ (hw _ (List.mem_of_getElem? (i := 5) rfl))) (by decide) (backOf (W := 0) (rm1 l Z aw hw [] b1 z75 (0 : Int32) (1 : Int32) k1 [(.int (nar .byte z5)), (.int (nar .byte z10)), (.int (nar .byte z15)), (.int (nar .byte z20)), (.int (nar .byte z25)), (.int (nar .byte z30)), (.int (nar .byte z35)), (.int (nar .byte z40))] g h41 n0 Z44 B42 hg (own_hhin_1_105 p1 z75 hz75 hl45)) hZ (hw _ (List.mem_of_getElem? (i := 5) rfl)) (hw _ (List.mem_of_getElem? (i := 4) rfl)) (by decide) (by decide)) (g := (mkF m 105 #[jv q0, .second, iv p1, rv b1, iv 1, iv z75, .unset, .unset, .unset, .unset, .unset, .unset] [(.int 1), (.int 0), (.int z75), (.ref b1)])) rfl (by rw [hml]; rfl) (argsL := [(.ref b1), (.int z75), (.int 0), (.int 1)]) (rest := []) (lenOf pd_0 rfl) rfl (by show 2 * 0 + _ ≤ _; exact Nat.le_of_eq rfl) (hb hby at_105) (fun _ _ => ⟨rfl, e41, (by decide : 1 + 0 ≤ _), (by decide : 8 + 0 ≤ _)⟩)
    dsimp only [Pt.U, Pt.locs, Pt.cells, Pt.slots] at X76 l76 y76 z76 st76 hQ76
    subst l76 y76 z76
    obtain ⟨rfl, N76q, eh76⟩ := hQ76
    have N77 := Fr.app N43 N76q
    refine own_via (fun k => st76 _ k) ?_
    show own_Go p e below s _ _ (T76.setTop (mkF m 108 #[jv q0, .second, iv p1, rv b1, iv 1, iv z75, .unset, .unset, .unset, .unset, .unset, .unset] [(.int (own_f1 z75 (0 : Int32) (1 : Int32) g))]))
    obtain ⟨z78, hz78⟩ : ∃ z : Int32, z = (own_f1 z75 (0 : Int32) (1 : Int32) g) := ⟨_, rfl⟩
    rw [← hz78]
    show own_Go p e below s _ _ (T76.setTop (mkF m 108 #[jv q0, .second, iv p1, rv b1, iv 1, iv z75, .unset, .unset, .unset, .unset, .unset, .unset] [(.int z78)]))
    refine own_via (fun k => XS.istore X76.here hx rfl (hb hby at_108) rfl (l' := #[jv q0, .second, iv p1, rv b1, iv 1, iv z75, iv z78, .unset, .unset, .unset, .unset, .unset]) rfl (XS.aloadN X76.here hx rfl (hb hby at_110) rfl rfl  (XS.iload X76.here hx rfl (hb hby at_111) rfl  (XS.iconst X76.here hx rfl (hb hby at_113) k)))) ?_
    show own_Go p e below s _ _ (T76.setTop (mkF m 114 #[jv q0, .second, iv p1, rv b1, iv 1, iv z75, iv z78, .unset, .unset, .unset, .unset, .unset] [(.int 1), (.int z75), (.ref b1)]))
    refine own_via (fun k => XS.iload X76.here hx rfl (hb hby at_114) rfl  k) ?_
    show own_Go p e below s _ _ (T76.setTop (mkF m 116 #[jv q0, .second, iv p1, rv b1, iv 1, iv z75, iv z78, .unset, .unset, .unset, .unset, .unset] [(.int 1), (.int 1), (.int z75), (.ref b1)]))
    obtain ⟨_, _, ⟨T79, L79, k79, n79⟩, -, X79, ⟨Lc79, hQ79, l79, y79, z79⟩, st79⟩ := Jvm.LawKit.callS X76 hx (y := (⟨"organico/records/Iso2709DigitsPinLaw", "digitAt", "([BIII)I"⟩ : MethodName)) hown (mvT hZ (hw _ (List.mem_of_getElem? (i := 2) rfl))) (mvT hZ (hw _ (List.mem_of_getElem? (i := 3) rfl))) (mvT hZ (hw _ (List.mem_of_getElem? (i := 4) rfl))) (mvT hZ (hw _ (List.mem_of_getElem? (i := 5) rfl))) (by decide) (backOf (W := 0) (rm1 l Z aw hw [] b1 z75 (1 : Int32) (1 : Int32) k1 [(.int (nar .byte z5)), (.int (nar .byte z10)), (.int (nar .byte z15)), (.int (nar .byte z20)), (.int (nar .byte z25)), (.int (nar .byte z30)), (.int (nar .byte z35)), (.int (nar .byte z40))] g h41 n0 Z44 B42 hg (own_hhin_1_116 p1 z75 hz75 hl45)) hZ (hw _ (List.mem_of_getElem? (i := 5) rfl)) (hw _ (List.mem_of_getElem? (i := 4) rfl)) (by decide) (by decide)) (g := (mkF m 116 #[jv q0, .second, iv p1, rv b1, iv 1, iv z75, iv z78, .unset, .unset, .unset, .unset, .unset] [(.int 1), (.int 1), (.int z75), (.ref b1)])) rfl (by rw [hml]; rfl) (argsL := [(.ref b1), (.int z75), (.int 1), (.int 1)]) (rest := []) (lenOf pd_0 rfl) rfl (by show 2 * 0 + _ ≤ _; exact Nat.le_of_eq rfl) (hb hby at_116) (fun _ _ => ⟨rfl, eh76, (by decide : 1 + 0 ≤ _), (by decide : 8 + 0 ≤ _)⟩)
    dsimp only [Pt.U, Pt.locs, Pt.cells, Pt.slots] at X79 l79 y79 z79 st79 hQ79
    subst l79 y79 z79
    obtain ⟨rfl, N79q, eh79⟩ := hQ79
    have N80 := Fr.app N77 N79q
    refine own_via (fun k => st79 _ k) ?_
    show own_Go p e below s _ _ (T79.setTop (mkF m 119 #[jv q0, .second, iv p1, rv b1, iv 1, iv z75, iv z78, .unset, .unset, .unset, .unset, .unset] [(.int (own_f1 z75 (1 : Int32) (1 : Int32) g))]))
    obtain ⟨z81, hz81⟩ : ∃ z : Int32, z = (own_f1 z75 (1 : Int32) (1 : Int32) g) := ⟨_, rfl⟩
    rw [← hz81]
    show own_Go p e below s _ _ (T79.setTop (mkF m 119 #[jv q0, .second, iv p1, rv b1, iv 1, iv z75, iv z78, .unset, .unset, .unset, .unset, .unset] [(.int z81)]))
    refine own_via (fun k => XS.istore X79.here hx rfl (hb hby at_119) rfl (l' := #[jv q0, .second, iv p1, rv b1, iv 1, iv z75, iv z78, iv z81, .unset, .unset, .unset, .unset]) rfl (XS.aloadN X79.here hx rfl (hb hby at_121) rfl rfl  (XS.iload X79.here hx rfl (hb hby at_122) rfl  (XS.iconst X79.here hx rfl (hb hby at_124) k)))) ?_
    show own_Go p e below s _ _ (T79.setTop (mkF m 125 #[jv q0, .second, iv p1, rv b1, iv 1, iv z75, iv z78, iv z81, .unset, .unset, .unset, .unset] [(.int 2), (.int z75), (.ref b1)]))
    refine own_via (fun k => XS.iload X79.here hx rfl (hb hby at_125) rfl  k) ?_
    show own_Go p e below s _ _ (T79.setTop (mkF m 127 #[jv q0, .second, iv p1, rv b1, iv 1, iv z75, iv z78, iv z81, .unset, .unset, .unset, .unset] [(.int 1), (.int 2), (.int z75), (.ref b1)]))
    obtain ⟨_, _, ⟨T82, L82, k82, n82⟩, -, X82, ⟨Lc82, hQ82, l82, y82, z82⟩, st82⟩ := Jvm.LawKit.callS X79 hx (y := (⟨"organico/records/Iso2709DigitsPinLaw", "digitAt", "([BIII)I"⟩ : MethodName)) hown (mvT hZ (hw _ (List.mem_of_getElem? (i := 2) rfl))) (mvT hZ (hw _ (List.mem_of_getElem? (i := 3) rfl))) (mvT hZ (hw _ (List.mem_of_getElem? (i := 4) rfl))) (mvT hZ (hw _ (List.mem_of_getElem? (i := 5) rfl))) (by decide) (backOf (W := 0) (rm1 l Z aw hw [] b1 z75 (2 : Int32) (1 : Int32) k1 [(.int (nar .byte z5)), (.int (nar .byte z10)), (.int (nar .byte z15)), (.int (nar .byte z20)), (.int (nar .byte z25)), (.int (nar .byte z30)), (.int (nar .byte z35)), (.int (nar .byte z40))] g h41 n0 Z44 B42 hg (own_hhin_1_127 p1 z75 hz75 hl45)) hZ (hw _ (List.mem_of_getElem? (i := 5) rfl)) (hw _ (List.mem_of_getElem? (i := 4) rfl)) (by decide) (by decide)) (g := (mkF m 127 #[jv q0, .second, iv p1, rv b1, iv 1, iv z75, iv z78, iv z81, .unset, .unset, .unset, .unset] [(.int 1), (.int 2), (.int z75), (.ref b1)])) rfl (by rw [hml]; rfl) (argsL := [(.ref b1), (.int z75), (.int 2), (.int 1)]) (rest := []) (lenOf pd_0 rfl) rfl (by show 2 * 0 + _ ≤ _; exact Nat.le_of_eq rfl) (hb hby at_127) (fun _ _ => ⟨rfl, eh79, (by decide : 1 + 0 ≤ _), (by decide : 8 + 0 ≤ _)⟩)
    dsimp only [Pt.U, Pt.locs, Pt.cells, Pt.slots] at X82 l82 y82 z82 st82 hQ82
    subst l82 y82 z82
    obtain ⟨rfl, N82q, eh82⟩ := hQ82
    have N83 := Fr.app N80 N82q
    refine own_via (fun k => st82 _ k) ?_
    show own_Go p e below s _ _ (T82.setTop (mkF m 130 #[jv q0, .second, iv p1, rv b1, iv 1, iv z75, iv z78, iv z81, .unset, .unset, .unset, .unset] [(.int (own_f1 z75 (2 : Int32) (1 : Int32) g))]))
    obtain ⟨z84, hz84⟩ : ∃ z : Int32, z = (own_f1 z75 (2 : Int32) (1 : Int32) g) := ⟨_, rfl⟩
    rw [← hz84]
    show own_Go p e below s _ _ (T82.setTop (mkF m 130 #[jv q0, .second, iv p1, rv b1, iv 1, iv z75, iv z78, iv z81, .unset, .unset, .unset, .unset] [(.int z84)]))
    refine own_via (fun k => XS.istore X82.here hx rfl (hb hby at_130) rfl (l' := #[jv q0, .second, iv p1, rv b1, iv 1, iv z75, iv z78, iv z81, iv z84, .unset, .unset, .unset]) rfl (XS.aloadN X82.here hx rfl (hb hby at_132) rfl rfl  (XS.iload X82.here hx rfl (hb hby at_133) rfl  (XS.iconst X82.here hx rfl (hb hby at_135) k)))) ?_
    show own_Go p e below s _ _ (T82.setTop (mkF m 136 #[jv q0, .second, iv p1, rv b1, iv 1, iv z75, iv z78, iv z81, iv z84, .unset, .unset, .unset] [(.int 3), (.int z75), (.ref b1)]))
    refine own_via (fun k => XS.iload X82.here hx rfl (hb hby at_136) rfl  k) ?_
    show own_Go p e below s _ _ (T82.setTop (mkF m 138 #[jv q0, .second, iv p1, rv b1, iv 1, iv z75, iv z78, iv z81, iv z84, .unset, .unset, .unset] [(.int 1), (.int 3), (.int z75), (.ref b1)]))
    obtain ⟨_, _, ⟨T85, L85, k85, n85⟩, -, X85, ⟨Lc85, hQ85, l85, y85, z85⟩, st85⟩ := Jvm.LawKit.callS X82 hx (y := (⟨"organico/records/Iso2709DigitsPinLaw", "digitAt", "([BIII)I"⟩ : MethodName)) hown (mvT hZ (hw _ (List.mem_of_getElem? (i := 2) rfl))) (mvT hZ (hw _ (List.mem_of_getElem? (i := 3) rfl))) (mvT hZ (hw _ (List.mem_of_getElem? (i := 4) rfl))) (mvT hZ (hw _ (List.mem_of_getElem? (i := 5) rfl))) (by decide) (backOf (W := 0) (rm1 l Z aw hw [] b1 z75 (3 : Int32) (1 : Int32) k1 [(.int (nar .byte z5)), (.int (nar .byte z10)), (.int (nar .byte z15)), (.int (nar .byte z20)), (.int (nar .byte z25)), (.int (nar .byte z30)), (.int (nar .byte z35)), (.int (nar .byte z40))] g h41 n0 Z44 B42 hg (own_hhin_1_138 p1 z75 hz75 hl45)) hZ (hw _ (List.mem_of_getElem? (i := 5) rfl)) (hw _ (List.mem_of_getElem? (i := 4) rfl)) (by decide) (by decide)) (g := (mkF m 138 #[jv q0, .second, iv p1, rv b1, iv 1, iv z75, iv z78, iv z81, iv z84, .unset, .unset, .unset] [(.int 1), (.int 3), (.int z75), (.ref b1)])) rfl (by rw [hml]; rfl) (argsL := [(.ref b1), (.int z75), (.int 3), (.int 1)]) (rest := []) (lenOf pd_0 rfl) rfl (by show 2 * 0 + _ ≤ _; exact Nat.le_of_eq rfl) (hb hby at_138) (fun _ _ => ⟨rfl, eh82, (by decide : 1 + 0 ≤ _), (by decide : 8 + 0 ≤ _)⟩)
    dsimp only [Pt.U, Pt.locs, Pt.cells, Pt.slots] at X85 l85 y85 z85 st85 hQ85
    subst l85 y85 z85
    obtain ⟨rfl, N85q, eh85⟩ := hQ85
    have N86 := Fr.app N83 N85q
    refine own_via (fun k => st85 _ k) ?_
    show own_Go p e below s _ _ (T85.setTop (mkF m 141 #[jv q0, .second, iv p1, rv b1, iv 1, iv z75, iv z78, iv z81, iv z84, .unset, .unset, .unset] [(.int (own_f1 z75 (3 : Int32) (1 : Int32) g))]))
    obtain ⟨z87, hz87⟩ : ∃ z : Int32, z = (own_f1 z75 (3 : Int32) (1 : Int32) g) := ⟨_, rfl⟩
    rw [← hz87]
    show own_Go p e below s _ _ (T85.setTop (mkF m 141 #[jv q0, .second, iv p1, rv b1, iv 1, iv z75, iv z78, iv z81, iv z84, .unset, .unset, .unset] [(.int z87)]))
    refine own_via (fun k => XS.istore X85.here hx rfl (hb hby at_141) rfl (l' := #[jv q0, .second, iv p1, rv b1, iv 1, iv z75, iv z78, iv z81, iv z84, iv z87, .unset, .unset]) rfl (XS.aloadN X85.here hx rfl (hb hby at_143) rfl rfl  (XS.iload X85.here hx rfl (hb hby at_144) rfl  (XS.iconst X85.here hx rfl (hb hby at_146) k)))) ?_
    show own_Go p e below s _ _ (T85.setTop (mkF m 147 #[jv q0, .second, iv p1, rv b1, iv 1, iv z75, iv z78, iv z81, iv z84, iv z87, .unset, .unset] [(.int 4), (.int z75), (.ref b1)]))
    refine own_via (fun k => XS.iload X85.here hx rfl (hb hby at_147) rfl  k) ?_
    show own_Go p e below s _ _ (T85.setTop (mkF m 149 #[jv q0, .second, iv p1, rv b1, iv 1, iv z75, iv z78, iv z81, iv z84, iv z87, .unset, .unset] [(.int 1), (.int 4), (.int z75), (.ref b1)]))
    obtain ⟨_, _, ⟨T88, L88, k88, n88⟩, -, X88, ⟨Lc88, hQ88, l88, y88, z88⟩, st88⟩ := Jvm.LawKit.callS X85 hx (y := (⟨"organico/records/Iso2709DigitsPinLaw", "digitAt", "([BIII)I"⟩ : MethodName)) hown (mvT hZ (hw _ (List.mem_of_getElem? (i := 2) rfl))) (mvT hZ (hw _ (List.mem_of_getElem? (i := 3) rfl))) (mvT hZ (hw _ (List.mem_of_getElem? (i := 4) rfl))) (mvT hZ (hw _ (List.mem_of_getElem? (i := 5) rfl))) (by decide) (backOf (W := 0) (rm1 l Z aw hw [] b1 z75 (4 : Int32) (1 : Int32) k1 [(.int (nar .byte z5)), (.int (nar .byte z10)), (.int (nar .byte z15)), (.int (nar .byte z20)), (.int (nar .byte z25)), (.int (nar .byte z30)), (.int (nar .byte z35)), (.int (nar .byte z40))] g h41 n0 Z44 B42 hg (own_hhin_1_149 p1 z75 hz75 hl45)) hZ (hw _ (List.mem_of_getElem? (i := 5) rfl)) (hw _ (List.mem_of_getElem? (i := 4) rfl)) (by decide) (by decide)) (g := (mkF m 149 #[jv q0, .second, iv p1, rv b1, iv 1, iv z75, iv z78, iv z81, iv z84, iv z87, .unset, .unset] [(.int 1), (.int 4), (.int z75), (.ref b1)])) rfl (by rw [hml]; rfl) (argsL := [(.ref b1), (.int z75), (.int 4), (.int 1)]) (rest := []) (lenOf pd_0 rfl) rfl (by show 2 * 0 + _ ≤ _; exact Nat.le_of_eq rfl) (hb hby at_149) (fun _ _ => ⟨rfl, eh85, (by decide : 1 + 0 ≤ _), (by decide : 8 + 0 ≤ _)⟩)
    dsimp only [Pt.U, Pt.locs, Pt.cells, Pt.slots] at X88 l88 y88 z88 st88 hQ88
    subst l88 y88 z88
    obtain ⟨rfl, N88q, eh88⟩ := hQ88
    have N89 := Fr.app N86 N88q
    refine own_via (fun k => st88 _ k) ?_
    show own_Go p e below s _ _ (T88.setTop (mkF m 152 #[jv q0, .second, iv p1, rv b1, iv 1, iv z75, iv z78, iv z81, iv z84, iv z87, .unset, .unset] [(.int (own_f1 z75 (4 : Int32) (1 : Int32) g))]))
    obtain ⟨z90, hz90⟩ : ∃ z : Int32, z = (own_f1 z75 (4 : Int32) (1 : Int32) g) := ⟨_, rfl⟩
    rw [← hz90]
    show own_Go p e below s _ _ (T88.setTop (mkF m 152 #[jv q0, .second, iv p1, rv b1, iv 1, iv z75, iv z78, iv z81, iv z84, iv z87, .unset, .unset] [(.int z90)]))
    refine own_via (fun k => XS.istore X88.here hx rfl (hb hby at_152) rfl (l' := #[jv q0, .second, iv p1, rv b1, iv 1, iv z75, iv z78, iv z81, iv z84, iv z87, iv z90, .unset]) rfl (XS.iload X88.here hx rfl (hb hby at_154) rfl  k)) ?_
    show own_Go p e below s _ _ (T88.setTop (mkF m 156 #[jv q0, .second, iv p1, rv b1, iv 1, iv z75, iv z78, iv z81, iv z84, iv z87, iv z90, .unset] [(.int z78)]))
    have J94 : ∀ (T94 : State) (lo94 : List Loc), Stand p l e room_1 s m #[(.long q0), (.int p1)] below meth c T94 lo94 1 8 → Fr n0 lo94 → T94.heap = h41 → ∀ (z93 : Int32), z93 = (if z78 < (0 : Int32) then (-1 : Int32) else (if z81 < (0 : Int32) then (-1 : Int32) else (if z84 < (0 : Int32) then (-1 : Int32) else (if z87 < (0 : Int32) then (-1 : Int32) else (if z90 < (0 : Int32) then (-1 : Int32) else ((((((z78 * (10000 : Int32)) + (z81 * (1000 : Int32))) + (z84 * (100 : Int32))) + (z87 * (10 : Int32))) + z90) / (own_f3 (4 : Int32)))))))) → own_Go p e below s (Q0 Z q0 p1 h0 n0) (room_1.cells, room_1.slots) (T94.setTop (mkF m 223 #[jv q0, .second, iv p1, rv b1, iv 1, iv z75, iv z78, iv z81, iv z84, iv z87, iv z90, iv z93] [])) := by
      intro T94 lo94 X94 N94 e94 z93 hz93
      refine own_via (fun k => XS.aloadN X94.here hx rfl (hb hby at_223) rfl rfl  (XS.iload X94.here hx rfl (hb hby at_224) rfl  (XS.iload X94.here hx rfl (hb hby at_226) rfl  k))) ?_
      show own_Go p e below s _ _ (T94.setTop (mkF m 228 #[jv q0, .second, iv p1, rv b1, iv 1, iv z75, iv z78, iv z81, iv z84, iv z87, iv z90, iv z93] [(.int 1), (.int z75), (.ref b1)]))
      obtain ⟨_, _, ⟨T95, L95, k95, n95⟩, -, X95, ⟨Lc95, hQ95, l95, y95, z95⟩, st95⟩ := Jvm.LawKit.callS X94 hx (y := (⟨"organico/records/Iso2709", "digits", "([BII)I"⟩ : MethodName)) hown (mvT hZ (hw _ (List.mem_of_getElem? (i := 6) rfl))) (mvT hZ (hw _ (List.mem_of_getElem? (i := 7) rfl))) (mvT hZ (hw _ (List.mem_of_getElem? (i := 8) rfl))) (mvT hZ (hw _ (List.mem_of_getElem? (i := 9) rfl))) (by decide) (backOf (W := 0) (rm2_1 l Z aw hw [] b1 z75 k1 [(.int (nar .byte z5)), (.int (nar .byte z10)), (.int (nar .byte z15)), (.int (nar .byte z20)), (.int (nar .byte z25)), (.int (nar .byte z30)), (.int (nar .byte z35)), (.int (nar .byte z40))] g h41 n0 Z44 B42 hg (own_hhlo_1_228 p1 z75 hz75 hl45) (own_hhhi_1_228 p1 z75 hz75 hl45)) hZ (hw _ (List.mem_of_getElem? (i := 9) rfl)) (hw _ (List.mem_of_getElem? (i := 8) rfl)) (by decide) (by decide)) (g := (mkF m 228 #[jv q0, .second, iv p1, rv b1, iv 1, iv z75, iv z78, iv z81, iv z84, iv z87, iv z90, iv z93] [(.int 1), (.int z75), (.ref b1)])) rfl (by rw [hml]; rfl) (argsL := [(.ref b1), (.int z75), (.int 1)]) (rest := []) (lenOf pd_1 rfl) rfl (by show 2 * 0 + _ ≤ _; exact Nat.le_of_eq rfl) (hb hby at_228) (fun _ _ => ⟨rfl, e94, (by decide : 1 + 0 ≤ _), (by decide : 8 + 0 ≤ _)⟩)
      dsimp only [Pt.U, Pt.locs, Pt.cells, Pt.slots] at X95 l95 y95 z95 st95 hQ95
      subst l95 y95 z95
      obtain ⟨rfl, N95q, eh95⟩ := hQ95
      have N96 := Fr.app N94 N95q
      refine own_via (fun k => st95 _ k) ?_
      show own_Go p e below s _ _ (T95.setTop (mkF m 231 #[jv q0, .second, iv p1, rv b1, iv 1, iv z75, iv z78, iv z81, iv z84, iv z87, iv z90, iv z93] [(.int (own_f2_1 z75 g))]))
      refine own_via (fun k => XS.iload X95.here hx rfl (hb hby at_231) rfl  k) ?_
      show own_Go p e below s _ _ (T95.setTop (mkF m 233 #[jv q0, .second, iv p1, rv b1, iv 1, iv z75, iv z78, iv z81, iv z84, iv z87, iv z90, iv z93] [(.int z93), (.int (own_f2_1 z75 g))]))
      refine own_via (fun k => XS.icmpNo X95.here hx rfl (hb hby at_233) rfl (teq (own_law1 p1 g z75 hz75 z78 hz78 z81 hz81 z84 hz84 z87 hz87 z90 hz90 z93 hz93 hl45)).2 k) ?_
      show own_Go p e below s _ _ (T95.setTop (mkF m 236 #[jv q0, .second, iv p1, rv b1, iv 1, iv z75, iv z78, iv z81, iv z84, iv z87, iv z90, iv z93] []))
      refine own_via (fun k => XS.iconst X95.here hx rfl (hb hby at_236) (XS.goto X95.here hx rfl (pc0 := 237) (pc' := 241) rfl (hb hby at_237) (by decide) (by decide) k)) ?_
      show own_Go p e below s _ _ (T95.setTop (mkF m 241 #[jv q0, .second, iv p1, rv b1, iv 1, iv z75, iv z78, iv z81, iv z84, iv z87, iv z90, iv z93] [(.int 1)]))
      exact own_retN X95 hx hlk (t := .boolean) Bd.returns (by simp) (hb hby at_241) (Q := (Q0 Z q0 p1 h0 n0)) ⟨rfl, N96⟩ (by decide) (by decide)
    by_cases hc97 : z78 < (0 : Int32)
    · refine own_via (fun k => XS.ifYes X88.here hx rfl (pc0 := 156) (pc' := 179) rfl (hb hby at_156) rfl ((if0 _ _).trans (tlt hc97).1) (by decide) (by decide) k) ?_
      show own_Go p e below s _ _ (T88.setTop (mkF m 179 #[jv q0, .second, iv p1, rv b1, iv 1, iv z75, iv z78, iv z81, iv z84, iv z87, iv z90, .unset] []))
      refine own_via (fun k => XS.iconst X88.here hx rfl (hb hby at_179) (XS.istore X88.here hx rfl (hb hby at_180) rfl (l' := #[jv q0, .second, iv p1, rv b1, iv 1, iv z75, iv z78, iv z81, iv z84, iv z87, iv z90, iv (-1)]) rfl (XS.goto X88.here hx rfl (pc0 := 182) (pc' := 223) rfl (hb hby at_182) (by decide) (by decide) k))) ?_
      show own_Go p e below s _ _ (T88.setTop (mkF m 223 #[jv q0, .second, iv p1, rv b1, iv 1, iv z75, iv z78, iv z81, iv z84, iv z87, iv z90, iv (-1)] []))
      exact J94 _ _ X88 N89 eh88 (-1 : Int32) (((if_pos hc97).trans rfl)).symm
    · refine own_via (fun k => XS.ifNo X88.here hx rfl (hb hby at_156) rfl ((if0 _ _).trans (flt hc97).1) k) ?_
      show own_Go p e below s _ _ (T88.setTop (mkF m 159 #[jv q0, .second, iv p1, rv b1, iv 1, iv z75, iv z78, iv z81, iv z84, iv z87, iv z90, .unset] []))
      refine own_via (fun k => XS.iload X88.here hx rfl (hb hby at_159) rfl  k) ?_
      show own_Go p e below s _ _ (T88.setTop (mkF m 161 #[jv q0, .second, iv p1, rv b1, iv 1, iv z75, iv z78, iv z81, iv z84, iv z87, iv z90, .unset] [(.int z81)]))
      by_cases hc98 : z81 < (0 : Int32)
      · refine own_via (fun k => XS.ifYes X88.here hx rfl (pc0 := 161) (pc' := 179) rfl (hb hby at_161) rfl ((if0 _ _).trans (tlt hc98).1) (by decide) (by decide) k) ?_
        show own_Go p e below s _ _ (T88.setTop (mkF m 179 #[jv q0, .second, iv p1, rv b1, iv 1, iv z75, iv z78, iv z81, iv z84, iv z87, iv z90, .unset] []))
        refine own_via (fun k => XS.iconst X88.here hx rfl (hb hby at_179) (XS.istore X88.here hx rfl (hb hby at_180) rfl (l' := #[jv q0, .second, iv p1, rv b1, iv 1, iv z75, iv z78, iv z81, iv z84, iv z87, iv z90, iv (-1)]) rfl (XS.goto X88.here hx rfl (pc0 := 182) (pc' := 223) rfl (hb hby at_182) (by decide) (by decide) k))) ?_
        show own_Go p e below s _ _ (T88.setTop (mkF m 223 #[jv q0, .second, iv p1, rv b1, iv 1, iv z75, iv z78, iv z81, iv z84, iv z87, iv z90, iv (-1)] []))
        exact J94 _ _ X88 N89 eh88 (-1 : Int32) (((if_neg hc97).trans ((if_pos hc98).trans rfl))).symm
      · refine own_via (fun k => XS.ifNo X88.here hx rfl (hb hby at_161) rfl ((if0 _ _).trans (flt hc98).1) k) ?_
        show own_Go p e below s _ _ (T88.setTop (mkF m 164 #[jv q0, .second, iv p1, rv b1, iv 1, iv z75, iv z78, iv z81, iv z84, iv z87, iv z90, .unset] []))
        refine own_via (fun k => XS.iload X88.here hx rfl (hb hby at_164) rfl  k) ?_
        show own_Go p e below s _ _ (T88.setTop (mkF m 166 #[jv q0, .second, iv p1, rv b1, iv 1, iv z75, iv z78, iv z81, iv z84, iv z87, iv z90, .unset] [(.int z84)]))
        by_cases hc99 : z84 < (0 : Int32)
        · refine own_via (fun k => XS.ifYes X88.here hx rfl (pc0 := 166) (pc' := 179) rfl (hb hby at_166) rfl ((if0 _ _).trans (tlt hc99).1) (by decide) (by decide) k) ?_
          show own_Go p e below s _ _ (T88.setTop (mkF m 179 #[jv q0, .second, iv p1, rv b1, iv 1, iv z75, iv z78, iv z81, iv z84, iv z87, iv z90, .unset] []))
          refine own_via (fun k => XS.iconst X88.here hx rfl (hb hby at_179) (XS.istore X88.here hx rfl (hb hby at_180) rfl (l' := #[jv q0, .second, iv p1, rv b1, iv 1, iv z75, iv z78, iv z81, iv z84, iv z87, iv z90, iv (-1)]) rfl (XS.goto X88.here hx rfl (pc0 := 182) (pc' := 223) rfl (hb hby at_182) (by decide) (by decide) k))) ?_
          show own_Go p e below s _ _ (T88.setTop (mkF m 223 #[jv q0, .second, iv p1, rv b1, iv 1, iv z75, iv z78, iv z81, iv z84, iv z87, iv z90, iv (-1)] []))
          exact J94 _ _ X88 N89 eh88 (-1 : Int32) (((if_neg hc97).trans ((if_neg hc98).trans ((if_pos hc99).trans rfl)))).symm
        · refine own_via (fun k => XS.ifNo X88.here hx rfl (hb hby at_166) rfl ((if0 _ _).trans (flt hc99).1) k) ?_
          show own_Go p e below s _ _ (T88.setTop (mkF m 169 #[jv q0, .second, iv p1, rv b1, iv 1, iv z75, iv z78, iv z81, iv z84, iv z87, iv z90, .unset] []))
          refine own_via (fun k => XS.iload X88.here hx rfl (hb hby at_169) rfl  k) ?_
          show own_Go p e below s _ _ (T88.setTop (mkF m 171 #[jv q0, .second, iv p1, rv b1, iv 1, iv z75, iv z78, iv z81, iv z84, iv z87, iv z90, .unset] [(.int z87)]))
          by_cases hc100 : z87 < (0 : Int32)
          · refine own_via (fun k => XS.ifYes X88.here hx rfl (pc0 := 171) (pc' := 179) rfl (hb hby at_171) rfl ((if0 _ _).trans (tlt hc100).1) (by decide) (by decide) k) ?_
            show own_Go p e below s _ _ (T88.setTop (mkF m 179 #[jv q0, .second, iv p1, rv b1, iv 1, iv z75, iv z78, iv z81, iv z84, iv z87, iv z90, .unset] []))
            refine own_via (fun k => XS.iconst X88.here hx rfl (hb hby at_179) (XS.istore X88.here hx rfl (hb hby at_180) rfl (l' := #[jv q0, .second, iv p1, rv b1, iv 1, iv z75, iv z78, iv z81, iv z84, iv z87, iv z90, iv (-1)]) rfl (XS.goto X88.here hx rfl (pc0 := 182) (pc' := 223) rfl (hb hby at_182) (by decide) (by decide) k))) ?_
            show own_Go p e below s _ _ (T88.setTop (mkF m 223 #[jv q0, .second, iv p1, rv b1, iv 1, iv z75, iv z78, iv z81, iv z84, iv z87, iv z90, iv (-1)] []))
            exact J94 _ _ X88 N89 eh88 (-1 : Int32) (((if_neg hc97).trans ((if_neg hc98).trans ((if_neg hc99).trans ((if_pos hc100).trans rfl))))).symm
          · refine own_via (fun k => XS.ifNo X88.here hx rfl (hb hby at_171) rfl ((if0 _ _).trans (flt hc100).1) k) ?_
            show own_Go p e below s _ _ (T88.setTop (mkF m 174 #[jv q0, .second, iv p1, rv b1, iv 1, iv z75, iv z78, iv z81, iv z84, iv z87, iv z90, .unset] []))
            refine own_via (fun k => XS.iload X88.here hx rfl (hb hby at_174) rfl  k) ?_
            show own_Go p e below s _ _ (T88.setTop (mkF m 176 #[jv q0, .second, iv p1, rv b1, iv 1, iv z75, iv z78, iv z81, iv z84, iv z87, iv z90, .unset] [(.int z90)]))
            by_cases hc101 : z90 < (0 : Int32)
            · refine own_via (fun k => XS.ifNo X88.here hx rfl (hb hby at_176) rfl ((if0 _ _).trans (tlt hc101).2.1) k) ?_
              show own_Go p e below s _ _ (T88.setTop (mkF m 179 #[jv q0, .second, iv p1, rv b1, iv 1, iv z75, iv z78, iv z81, iv z84, iv z87, iv z90, .unset] []))
              refine own_via (fun k => XS.iconst X88.here hx rfl (hb hby at_179) (XS.istore X88.here hx rfl (hb hby at_180) rfl (l' := #[jv q0, .second, iv p1, rv b1, iv 1, iv z75, iv z78, iv z81, iv z84, iv z87, iv z90, iv (-1)]) rfl (XS.goto X88.here hx rfl (pc0 := 182) (pc' := 223) rfl (hb hby at_182) (by decide) (by decide) k))) ?_
              show own_Go p e below s _ _ (T88.setTop (mkF m 223 #[jv q0, .second, iv p1, rv b1, iv 1, iv z75, iv z78, iv z81, iv z84, iv z87, iv z90, iv (-1)] []))
              exact J94 _ _ X88 N89 eh88 (-1 : Int32) (((if_neg hc97).trans ((if_neg hc98).trans ((if_neg hc99).trans ((if_neg hc100).trans ((if_pos hc101).trans rfl)))))).symm
            · refine own_via (fun k => XS.ifYes X88.here hx rfl (pc0 := 176) (pc' := 185) rfl (hb hby at_176) rfl ((if0 _ _).trans (flt hc101).2.1) (by decide) (by decide) k) ?_
              show own_Go p e below s _ _ (T88.setTop (mkF m 185 #[jv q0, .second, iv p1, rv b1, iv 1, iv z75, iv z78, iv z81, iv z84, iv z87, iv z90, .unset] []))
              refine own_via (fun k => XS.iload X88.here hx rfl (hb hby at_185) rfl  (XS.sipush X88.here hx rfl (hb hby at_187) (XS.imul X88.here hx rfl (hb hby at_190) rfl (XS.iload X88.here hx rfl (hb hby at_191) rfl  k)))) ?_
              show own_Go p e below s _ _ (T88.setTop (mkF m 193 #[jv q0, .second, iv p1, rv b1, iv 1, iv z75, iv z78, iv z81, iv z84, iv z87, iv z90, .unset] [(.int z81), (.int (z78 * (10000 : Int32)))]))
              refine own_via (fun k => XS.sipush X88.here hx rfl (hb hby at_193) (XS.imul X88.here hx rfl (hb hby at_196) rfl (XS.iadd X88.here hx rfl (hb hby at_197) rfl (XS.iload X88.here hx rfl (hb hby at_198) rfl  k)))) ?_
              show own_Go p e below s _ _ (T88.setTop (mkF m 200 #[jv q0, .second, iv p1, rv b1, iv 1, iv z75, iv z78, iv z81, iv z84, iv z87, iv z90, .unset] [(.int z84), (.int ((z78 * (10000 : Int32)) + (z81 * (1000 : Int32))))]))
              refine own_via (fun k => XS.bipush X88.here hx rfl (hb hby at_200) (XS.imul X88.here hx rfl (hb hby at_202) rfl (XS.iadd X88.here hx rfl (hb hby at_203) rfl (XS.iload X88.here hx rfl (hb hby at_204) rfl  k)))) ?_
              show own_Go p e below s _ _ (T88.setTop (mkF m 206 #[jv q0, .second, iv p1, rv b1, iv 1, iv z75, iv z78, iv z81, iv z84, iv z87, iv z90, .unset] [(.int z87), (.int (((z78 * (10000 : Int32)) + (z81 * (1000 : Int32))) + (z84 * (100 : Int32))))]))
              refine own_via (fun k => XS.bipush X88.here hx rfl (hb hby at_206) (XS.imul X88.here hx rfl (hb hby at_208) rfl (XS.iadd X88.here hx rfl (hb hby at_209) rfl (XS.iload X88.here hx rfl (hb hby at_210) rfl  k)))) ?_
              show own_Go p e below s _ _ (T88.setTop (mkF m 212 #[jv q0, .second, iv p1, rv b1, iv 1, iv z75, iv z78, iv z81, iv z84, iv z87, iv z90, .unset] [(.int z90), (.int ((((z78 * (10000 : Int32)) + (z81 * (1000 : Int32))) + (z84 * (100 : Int32))) + (z87 * (10 : Int32))))]))
              refine own_via (fun k => XS.iadd X88.here hx rfl (hb hby at_212) rfl (XS.iconst X88.here hx rfl (hb hby at_213) (XS.iload X88.here hx rfl (hb hby at_214) rfl  (XS.isub X88.here hx rfl (hb hby at_216) rfl k)))) ?_
              show own_Go p e below s _ _ (T88.setTop (mkF m 217 #[jv q0, .second, iv p1, rv b1, iv 1, iv z75, iv z78, iv z81, iv z84, iv z87, iv z90, .unset] [(.int 4), (.int (((((z78 * (10000 : Int32)) + (z81 * (1000 : Int32))) + (z84 * (100 : Int32))) + (z87 * (10 : Int32))) + z90))]))
              obtain ⟨_, _, ⟨T102, L102, k102, n102⟩, -, X102, ⟨Lc102, hQ102, l102, y102, z102⟩, st102⟩ := Jvm.LawKit.callS X88 hx (y := (⟨"organico/records/Iso2709DigitsPinLaw", "pow10", "(I)I"⟩ : MethodName)) hown (mvT hZ (hw _ (List.mem_of_getElem? (i := 10) rfl))) (mvT hZ (hw _ (List.mem_of_getElem? (i := 11) rfl))) (mvT hZ (hw _ (List.mem_of_getElem? (i := 4) rfl))) (mvT hZ (hw _ (List.mem_of_getElem? (i := 12) rfl))) (by decide) (backOf (W := 1) (rm3 l Z aw hw [] (4 : Int32) h41 n0 Z44) hZ (hw _ (List.mem_of_getElem? (i := 12) rfl)) (hw _ (List.mem_of_getElem? (i := 4) rfl)) (by decide) (by decide)) (g := (mkF m 217 #[jv q0, .second, iv p1, rv b1, iv 1, iv z75, iv z78, iv z81, iv z84, iv z87, iv z90, .unset] [(.int 4), (.int (((((z78 * (10000 : Int32)) + (z81 * (1000 : Int32))) + (z84 * (100 : Int32))) + (z87 * (10 : Int32))) + z90))])) rfl (by rw [hml]; rfl) (argsL := [(.int 4)]) (rest := [(.int (((((z78 * (10000 : Int32)) + (z81 * (1000 : Int32))) + (z84 * (100 : Int32))) + (z87 * (10 : Int32))) + z90))]) (lenOf pd_2 rfl) rfl (by show 2 * 0 + _ ≤ _; exact Nat.le_of_eq rfl) (hb hby at_217) (fun _ _ => ⟨rfl, eh88, (by decide : 1 + 0 ≤ _), (by decide : 8 + 0 ≤ _)⟩)
              dsimp only [Pt.U, Pt.locs, Pt.cells, Pt.slots] at X102 l102 y102 z102 st102 hQ102
              subst l102 y102 z102
              obtain ⟨rfl, N102q, eh102⟩ := hQ102
              have N103 := Fr.app N89 N102q
              refine own_via (fun k => st102 _ k) ?_
              show own_Go p e below s _ _ (T102.setTop (mkF m 220 #[jv q0, .second, iv p1, rv b1, iv 1, iv z75, iv z78, iv z81, iv z84, iv z87, iv z90, .unset] [(.int (own_f3 (4 : Int32))), (.int (((((z78 * (10000 : Int32)) + (z81 * (1000 : Int32))) + (z84 * (100 : Int32))) + (z87 * (10 : Int32))) + z90))]))
              refine own_via (fun k => XS.idiv X102.here hx rfl (hb hby at_220) rfl (own_nz1 p1 hl45) (XS.istore X102.here hx rfl (hb hby at_221) rfl (l' := #[jv q0, .second, iv p1, rv b1, iv 1, iv z75, iv z78, iv z81, iv z84, iv z87, iv z90, iv ((((((z78 * (10000 : Int32)) + (z81 * (1000 : Int32))) + (z84 * (100 : Int32))) + (z87 * (10 : Int32))) + z90) / (own_f3 (4 : Int32)))]) rfl k)) ?_
              show own_Go p e below s _ _ (T102.setTop (mkF m 223 #[jv q0, .second, iv p1, rv b1, iv 1, iv z75, iv z78, iv z81, iv z84, iv z87, iv z90, iv ((((((z78 * (10000 : Int32)) + (z81 * (1000 : Int32))) + (z84 * (100 : Int32))) + (z87 * (10 : Int32))) + z90) / (own_f3 (4 : Int32)))] []))
              exact J94 _ _ X102 N103 eh102 ((((((z78 * (10000 : Int32)) + (z81 * (1000 : Int32))) + (z84 * (100 : Int32))) + (z87 * (10 : Int32))) + z90) / (own_f3 (4 : Int32))) (((if_neg hc97).trans ((if_neg hc98).trans ((if_neg hc99).trans ((if_neg hc100).trans ((if_neg hc101).trans rfl)))))).symm
  · rw [hl45]
    show own_Go p e below s _ _ (T41.setTop (mkF m 85 #[jv q0, .second, iv p1, rv b1, iv 2, .unset, .unset, .unset, .unset, .unset, .unset, .unset] []))
    refine own_via (fun k => XS.iloadN X41.here hx rfl (hb hby at_85) rfl  (XS.iconst X41.here hx rfl (hb hby at_86) (XS.iushr X41.here hx rfl (hb hby at_87) rfl (X41.ldcInt hx hown (mvT hZ (hw _ (List.mem_of_getElem? (i := 1) rfl))) (g := (mkF m 88 #[jv q0, .second, iv p1, rv b1, iv 2, .unset, .unset, .unset, .unset, .unset, .unset, .unset] [(.int ((p1.toUInt32 >>> ((3 : Int32) &&& 31).toUInt32).toInt32))])) rfl (hb hby at_88) _ k)))) ?_
    show own_Go p e below s _ _ (T41.setTop (mkF m 90 #[jv q0, .second, iv p1, rv b1, iv 2, .unset, .unset, .unset, .unset, .unset, .unset, .unset] [(.int 2147483647), (.int ((p1.toUInt32 >>> ((3 : Int32) &&& 31).toUInt32).toInt32))]))
    refine own_via (fun k => XS.iand X41.here hx rfl (hb hby at_90) rfl (XS.bipush X41.here hx rfl (hb hby at_91) (XS.iload X41.here hx rfl (hb hby at_93) rfl  (XS.isub X41.here hx rfl (hb hby at_95) rfl k)))) ?_
    show own_Go p e below s _ _ (T41.setTop (mkF m 96 #[jv q0, .second, iv p1, rv b1, iv 2, .unset, .unset, .unset, .unset, .unset, .unset, .unset] [(.int 7), (.int (((p1.toUInt32 >>> ((3 : Int32) &&& 31).toUInt32).toInt32) &&& (2147483647 : Int32)))]))
    refine own_via (fun k => Jvm.RoadKit.iremM X41 hx rfl (hb hby at_96) rfl (by decide) k) ?_
    show own_Go p e below s _ _ (T41.setTop (mkF m 97 #[jv q0, .second, iv p1, rv b1, iv 2, .unset, .unset, .unset, .unset, .unset, .unset, .unset] [(.int ((((p1.toUInt32 >>> ((3 : Int32) &&& 31).toUInt32).toInt32) &&& (2147483647 : Int32)) % (7 : Int32)))]))
    obtain ⟨z104, hz104⟩ : ∃ z : Int32, z = ((((p1.toUInt32 >>> ((3 : Int32) &&& 31).toUInt32).toInt32) &&& (2147483647 : Int32)) % (7 : Int32)) := ⟨_, rfl⟩
    rw [← hz104]
    show own_Go p e below s _ _ (T41.setTop (mkF m 97 #[jv q0, .second, iv p1, rv b1, iv 2, .unset, .unset, .unset, .unset, .unset, .unset, .unset] [(.int z104)]))
    refine own_via (fun k => XS.istore X41.here hx rfl (hb hby at_97) rfl (l' := #[jv q0, .second, iv p1, rv b1, iv 2, iv z104, .unset, .unset, .unset, .unset, .unset, .unset]) rfl (XS.aloadN X41.here hx rfl (hb hby at_99) rfl rfl  (XS.iload X41.here hx rfl (hb hby at_100) rfl  (XS.iconst X41.here hx rfl (hb hby at_102) k)))) ?_
    show own_Go p e below s _ _ (T41.setTop (mkF m 103 #[jv q0, .second, iv p1, rv b1, iv 2, iv z104, .unset, .unset, .unset, .unset, .unset, .unset] [(.int 0), (.int z104), (.ref b1)]))
    refine own_via (fun k => XS.iload X41.here hx rfl (hb hby at_103) rfl  k) ?_
    show own_Go p e below s _ _ (T41.setTop (mkF m 105 #[jv q0, .second, iv p1, rv b1, iv 2, iv z104, .unset, .unset, .unset, .unset, .unset, .unset] [(.int 2), (.int 0), (.int z104), (.ref b1)]))
    obtain ⟨_, _, ⟨T105, L105, k105, n105⟩, -, X105, ⟨Lc105, hQ105, l105, y105, z105⟩, st105⟩ := Jvm.LawKit.callS X41 hx (y := (⟨"organico/records/Iso2709DigitsPinLaw", "digitAt", "([BIII)I"⟩ : MethodName)) hown (mvT hZ (hw _ (List.mem_of_getElem? (i := 2) rfl))) (mvT hZ (hw _ (List.mem_of_getElem? (i := 3) rfl))) (mvT hZ (hw _ (List.mem_of_getElem? (i := 4) rfl))) (mvT hZ (hw _ (List.mem_of_getElem? (i := 5) rfl))) (by decide) (backOf (W := 0) (rm1 l Z aw hw [] b1 z104 (0 : Int32) (2 : Int32) k1 [(.int (nar .byte z5)), (.int (nar .byte z10)), (.int (nar .byte z15)), (.int (nar .byte z20)), (.int (nar .byte z25)), (.int (nar .byte z30)), (.int (nar .byte z35)), (.int (nar .byte z40))] g h41 n0 Z44 B42 hg (own_hhin_2_105 p1 z104 hz104 hl45)) hZ (hw _ (List.mem_of_getElem? (i := 5) rfl)) (hw _ (List.mem_of_getElem? (i := 4) rfl)) (by decide) (by decide)) (g := (mkF m 105 #[jv q0, .second, iv p1, rv b1, iv 2, iv z104, .unset, .unset, .unset, .unset, .unset, .unset] [(.int 2), (.int 0), (.int z104), (.ref b1)])) rfl (by rw [hml]; rfl) (argsL := [(.ref b1), (.int z104), (.int 0), (.int 2)]) (rest := []) (lenOf pd_0 rfl) rfl (by show 2 * 0 + _ ≤ _; exact Nat.le_of_eq rfl) (hb hby at_105) (fun _ _ => ⟨rfl, e41, (by decide : 1 + 0 ≤ _), (by decide : 8 + 0 ≤ _)⟩)
    dsimp only [Pt.U, Pt.locs, Pt.cells, Pt.slots] at X105 l105 y105 z105 st105 hQ105
    subst l105 y105 z105
    obtain ⟨rfl, N105q, eh105⟩ := hQ105
    have N106 := Fr.app N43 N105q
    refine own_via (fun k => st105 _ k) ?_
    show own_Go p e below s _ _ (T105.setTop (mkF m 108 #[jv q0, .second, iv p1, rv b1, iv 2, iv z104, .unset, .unset, .unset, .unset, .unset, .unset] [(.int (own_f1 z104 (0 : Int32) (2 : Int32) g))]))
    obtain ⟨z107, hz107⟩ : ∃ z : Int32, z = (own_f1 z104 (0 : Int32) (2 : Int32) g) := ⟨_, rfl⟩
    rw [← hz107]
    show own_Go p e below s _ _ (T105.setTop (mkF m 108 #[jv q0, .second, iv p1, rv b1, iv 2, iv z104, .unset, .unset, .unset, .unset, .unset, .unset] [(.int z107)]))
    refine own_via (fun k => XS.istore X105.here hx rfl (hb hby at_108) rfl (l' := #[jv q0, .second, iv p1, rv b1, iv 2, iv z104, iv z107, .unset, .unset, .unset, .unset, .unset]) rfl (XS.aloadN X105.here hx rfl (hb hby at_110) rfl rfl  (XS.iload X105.here hx rfl (hb hby at_111) rfl  (XS.iconst X105.here hx rfl (hb hby at_113) k)))) ?_
    show own_Go p e below s _ _ (T105.setTop (mkF m 114 #[jv q0, .second, iv p1, rv b1, iv 2, iv z104, iv z107, .unset, .unset, .unset, .unset, .unset] [(.int 1), (.int z104), (.ref b1)]))
    refine own_via (fun k => XS.iload X105.here hx rfl (hb hby at_114) rfl  k) ?_
    show own_Go p e below s _ _ (T105.setTop (mkF m 116 #[jv q0, .second, iv p1, rv b1, iv 2, iv z104, iv z107, .unset, .unset, .unset, .unset, .unset] [(.int 2), (.int 1), (.int z104), (.ref b1)]))
    obtain ⟨_, _, ⟨T108, L108, k108, n108⟩, -, X108, ⟨Lc108, hQ108, l108, y108, z108⟩, st108⟩ := Jvm.LawKit.callS X105 hx (y := (⟨"organico/records/Iso2709DigitsPinLaw", "digitAt", "([BIII)I"⟩ : MethodName)) hown (mvT hZ (hw _ (List.mem_of_getElem? (i := 2) rfl))) (mvT hZ (hw _ (List.mem_of_getElem? (i := 3) rfl))) (mvT hZ (hw _ (List.mem_of_getElem? (i := 4) rfl))) (mvT hZ (hw _ (List.mem_of_getElem? (i := 5) rfl))) (by decide) (backOf (W := 0) (rm1 l Z aw hw [] b1 z104 (1 : Int32) (2 : Int32) k1 [(.int (nar .byte z5)), (.int (nar .byte z10)), (.int (nar .byte z15)), (.int (nar .byte z20)), (.int (nar .byte z25)), (.int (nar .byte z30)), (.int (nar .byte z35)), (.int (nar .byte z40))] g h41 n0 Z44 B42 hg (own_hhin_2_116 p1 z104 hz104 hl45)) hZ (hw _ (List.mem_of_getElem? (i := 5) rfl)) (hw _ (List.mem_of_getElem? (i := 4) rfl)) (by decide) (by decide)) (g := (mkF m 116 #[jv q0, .second, iv p1, rv b1, iv 2, iv z104, iv z107, .unset, .unset, .unset, .unset, .unset] [(.int 2), (.int 1), (.int z104), (.ref b1)])) rfl (by rw [hml]; rfl) (argsL := [(.ref b1), (.int z104), (.int 1), (.int 2)]) (rest := []) (lenOf pd_0 rfl) rfl (by show 2 * 0 + _ ≤ _; exact Nat.le_of_eq rfl) (hb hby at_116) (fun _ _ => ⟨rfl, eh105, (by decide : 1 + 0 ≤ _), (by decide : 8 + 0 ≤ _)⟩)
    dsimp only [Pt.U, Pt.locs, Pt.cells, Pt.slots] at X108 l108 y108 z108 st108 hQ108
    subst l108 y108 z108
    obtain ⟨rfl, N108q, eh108⟩ := hQ108
    have N109 := Fr.app N106 N108q
    refine own_via (fun k => st108 _ k) ?_
    show own_Go p e below s _ _ (T108.setTop (mkF m 119 #[jv q0, .second, iv p1, rv b1, iv 2, iv z104, iv z107, .unset, .unset, .unset, .unset, .unset] [(.int (own_f1 z104 (1 : Int32) (2 : Int32) g))]))
    obtain ⟨z110, hz110⟩ : ∃ z : Int32, z = (own_f1 z104 (1 : Int32) (2 : Int32) g) := ⟨_, rfl⟩
    rw [← hz110]
    show own_Go p e below s _ _ (T108.setTop (mkF m 119 #[jv q0, .second, iv p1, rv b1, iv 2, iv z104, iv z107, .unset, .unset, .unset, .unset, .unset] [(.int z110)]))
    refine own_via (fun k => XS.istore X108.here hx rfl (hb hby at_119) rfl (l' := #[jv q0, .second, iv p1, rv b1, iv 2, iv z104, iv z107, iv z110, .unset, .unset, .unset, .unset]) rfl (XS.aloadN X108.here hx rfl (hb hby at_121) rfl rfl  (XS.iload X108.here hx rfl (hb hby at_122) rfl  (XS.iconst X108.here hx rfl (hb hby at_124) k)))) ?_
    show own_Go p e below s _ _ (T108.setTop (mkF m 125 #[jv q0, .second, iv p1, rv b1, iv 2, iv z104, iv z107, iv z110, .unset, .unset, .unset, .unset] [(.int 2), (.int z104), (.ref b1)]))
    refine own_via (fun k => XS.iload X108.here hx rfl (hb hby at_125) rfl  k) ?_
    show own_Go p e below s _ _ (T108.setTop (mkF m 127 #[jv q0, .second, iv p1, rv b1, iv 2, iv z104, iv z107, iv z110, .unset, .unset, .unset, .unset] [(.int 2), (.int 2), (.int z104), (.ref b1)]))
    obtain ⟨_, _, ⟨T111, L111, k111, n111⟩, -, X111, ⟨Lc111, hQ111, l111, y111, z111⟩, st111⟩ := Jvm.LawKit.callS X108 hx (y := (⟨"organico/records/Iso2709DigitsPinLaw", "digitAt", "([BIII)I"⟩ : MethodName)) hown (mvT hZ (hw _ (List.mem_of_getElem? (i := 2) rfl))) (mvT hZ (hw _ (List.mem_of_getElem? (i := 3) rfl))) (mvT hZ (hw _ (List.mem_of_getElem? (i := 4) rfl))) (mvT hZ (hw _ (List.mem_of_getElem? (i := 5) rfl))) (by decide) (backOf (W := 0) (rm1 l Z aw hw [] b1 z104 (2 : Int32) (2 : Int32) k1 [(.int (nar .byte z5)), (.int (nar .byte z10)), (.int (nar .byte z15)), (.int (nar .byte z20)), (.int (nar .byte z25)), (.int (nar .byte z30)), (.int (nar .byte z35)), (.int (nar .byte z40))] g h41 n0 Z44 B42 hg (own_hhin_2_127 p1 z104 hz104 hl45)) hZ (hw _ (List.mem_of_getElem? (i := 5) rfl)) (hw _ (List.mem_of_getElem? (i := 4) rfl)) (by decide) (by decide)) (g := (mkF m 127 #[jv q0, .second, iv p1, rv b1, iv 2, iv z104, iv z107, iv z110, .unset, .unset, .unset, .unset] [(.int 2), (.int 2), (.int z104), (.ref b1)])) rfl (by rw [hml]; rfl) (argsL := [(.ref b1), (.int z104), (.int 2), (.int 2)]) (rest := []) (lenOf pd_0 rfl) rfl (by show 2 * 0 + _ ≤ _; exact Nat.le_of_eq rfl) (hb hby at_127) (fun _ _ => ⟨rfl, eh108, (by decide : 1 + 0 ≤ _), (by decide : 8 + 0 ≤ _)⟩)
    dsimp only [Pt.U, Pt.locs, Pt.cells, Pt.slots] at X111 l111 y111 z111 st111 hQ111
    subst l111 y111 z111
    obtain ⟨rfl, N111q, eh111⟩ := hQ111
    have N112 := Fr.app N109 N111q
    refine own_via (fun k => st111 _ k) ?_
    show own_Go p e below s _ _ (T111.setTop (mkF m 130 #[jv q0, .second, iv p1, rv b1, iv 2, iv z104, iv z107, iv z110, .unset, .unset, .unset, .unset] [(.int (own_f1 z104 (2 : Int32) (2 : Int32) g))]))
    obtain ⟨z113, hz113⟩ : ∃ z : Int32, z = (own_f1 z104 (2 : Int32) (2 : Int32) g) := ⟨_, rfl⟩
    rw [← hz113]
    show own_Go p e below s _ _ (T111.setTop (mkF m 130 #[jv q0, .second, iv p1, rv b1, iv 2, iv z104, iv z107, iv z110, .unset, .unset, .unset, .unset] [(.int z113)]))
    refine own_via (fun k => XS.istore X111.here hx rfl (hb hby at_130) rfl (l' := #[jv q0, .second, iv p1, rv b1, iv 2, iv z104, iv z107, iv z110, iv z113, .unset, .unset, .unset]) rfl (XS.aloadN X111.here hx rfl (hb hby at_132) rfl rfl  (XS.iload X111.here hx rfl (hb hby at_133) rfl  (XS.iconst X111.here hx rfl (hb hby at_135) k)))) ?_
    show own_Go p e below s _ _ (T111.setTop (mkF m 136 #[jv q0, .second, iv p1, rv b1, iv 2, iv z104, iv z107, iv z110, iv z113, .unset, .unset, .unset] [(.int 3), (.int z104), (.ref b1)]))
    refine own_via (fun k => XS.iload X111.here hx rfl (hb hby at_136) rfl  k) ?_
    show own_Go p e below s _ _ (T111.setTop (mkF m 138 #[jv q0, .second, iv p1, rv b1, iv 2, iv z104, iv z107, iv z110, iv z113, .unset, .unset, .unset] [(.int 2), (.int 3), (.int z104), (.ref b1)]))
    obtain ⟨_, _, ⟨T114, L114, k114, n114⟩, -, X114, ⟨Lc114, hQ114, l114, y114, z114⟩, st114⟩ := Jvm.LawKit.callS X111 hx (y := (⟨"organico/records/Iso2709DigitsPinLaw", "digitAt", "([BIII)I"⟩ : MethodName)) hown (mvT hZ (hw _ (List.mem_of_getElem? (i := 2) rfl))) (mvT hZ (hw _ (List.mem_of_getElem? (i := 3) rfl))) (mvT hZ (hw _ (List.mem_of_getElem? (i := 4) rfl))) (mvT hZ (hw _ (List.mem_of_getElem? (i := 5) rfl))) (by decide) (backOf (W := 0) (rm1 l Z aw hw [] b1 z104 (3 : Int32) (2 : Int32) k1 [(.int (nar .byte z5)), (.int (nar .byte z10)), (.int (nar .byte z15)), (.int (nar .byte z20)), (.int (nar .byte z25)), (.int (nar .byte z30)), (.int (nar .byte z35)), (.int (nar .byte z40))] g h41 n0 Z44 B42 hg (own_hhin_2_138 p1 z104 hz104 hl45)) hZ (hw _ (List.mem_of_getElem? (i := 5) rfl)) (hw _ (List.mem_of_getElem? (i := 4) rfl)) (by decide) (by decide)) (g := (mkF m 138 #[jv q0, .second, iv p1, rv b1, iv 2, iv z104, iv z107, iv z110, iv z113, .unset, .unset, .unset] [(.int 2), (.int 3), (.int z104), (.ref b1)])) rfl (by rw [hml]; rfl) (argsL := [(.ref b1), (.int z104), (.int 3), (.int 2)]) (rest := []) (lenOf pd_0 rfl) rfl (by show 2 * 0 + _ ≤ _; exact Nat.le_of_eq rfl) (hb hby at_138) (fun _ _ => ⟨rfl, eh111, (by decide : 1 + 0 ≤ _), (by decide : 8 + 0 ≤ _)⟩)
    dsimp only [Pt.U, Pt.locs, Pt.cells, Pt.slots] at X114 l114 y114 z114 st114 hQ114
    subst l114 y114 z114
    obtain ⟨rfl, N114q, eh114⟩ := hQ114
    have N115 := Fr.app N112 N114q
    refine own_via (fun k => st114 _ k) ?_
    show own_Go p e below s _ _ (T114.setTop (mkF m 141 #[jv q0, .second, iv p1, rv b1, iv 2, iv z104, iv z107, iv z110, iv z113, .unset, .unset, .unset] [(.int (own_f1 z104 (3 : Int32) (2 : Int32) g))]))
    obtain ⟨z116, hz116⟩ : ∃ z : Int32, z = (own_f1 z104 (3 : Int32) (2 : Int32) g) := ⟨_, rfl⟩
    rw [← hz116]
    show own_Go p e below s _ _ (T114.setTop (mkF m 141 #[jv q0, .second, iv p1, rv b1, iv 2, iv z104, iv z107, iv z110, iv z113, .unset, .unset, .unset] [(.int z116)]))
    refine own_via (fun k => XS.istore X114.here hx rfl (hb hby at_141) rfl (l' := #[jv q0, .second, iv p1, rv b1, iv 2, iv z104, iv z107, iv z110, iv z113, iv z116, .unset, .unset]) rfl (XS.aloadN X114.here hx rfl (hb hby at_143) rfl rfl  (XS.iload X114.here hx rfl (hb hby at_144) rfl  (XS.iconst X114.here hx rfl (hb hby at_146) k)))) ?_
    show own_Go p e below s _ _ (T114.setTop (mkF m 147 #[jv q0, .second, iv p1, rv b1, iv 2, iv z104, iv z107, iv z110, iv z113, iv z116, .unset, .unset] [(.int 4), (.int z104), (.ref b1)]))
    refine own_via (fun k => XS.iload X114.here hx rfl (hb hby at_147) rfl  k) ?_
    show own_Go p e below s _ _ (T114.setTop (mkF m 149 #[jv q0, .second, iv p1, rv b1, iv 2, iv z104, iv z107, iv z110, iv z113, iv z116, .unset, .unset] [(.int 2), (.int 4), (.int z104), (.ref b1)]))
    obtain ⟨_, _, ⟨T117, L117, k117, n117⟩, -, X117, ⟨Lc117, hQ117, l117, y117, z117⟩, st117⟩ := Jvm.LawKit.callS X114 hx (y := (⟨"organico/records/Iso2709DigitsPinLaw", "digitAt", "([BIII)I"⟩ : MethodName)) hown (mvT hZ (hw _ (List.mem_of_getElem? (i := 2) rfl))) (mvT hZ (hw _ (List.mem_of_getElem? (i := 3) rfl))) (mvT hZ (hw _ (List.mem_of_getElem? (i := 4) rfl))) (mvT hZ (hw _ (List.mem_of_getElem? (i := 5) rfl))) (by decide) (backOf (W := 0) (rm1 l Z aw hw [] b1 z104 (4 : Int32) (2 : Int32) k1 [(.int (nar .byte z5)), (.int (nar .byte z10)), (.int (nar .byte z15)), (.int (nar .byte z20)), (.int (nar .byte z25)), (.int (nar .byte z30)), (.int (nar .byte z35)), (.int (nar .byte z40))] g h41 n0 Z44 B42 hg (own_hhin_2_149 p1 z104 hz104 hl45)) hZ (hw _ (List.mem_of_getElem? (i := 5) rfl)) (hw _ (List.mem_of_getElem? (i := 4) rfl)) (by decide) (by decide)) (g := (mkF m 149 #[jv q0, .second, iv p1, rv b1, iv 2, iv z104, iv z107, iv z110, iv z113, iv z116, .unset, .unset] [(.int 2), (.int 4), (.int z104), (.ref b1)])) rfl (by rw [hml]; rfl) (argsL := [(.ref b1), (.int z104), (.int 4), (.int 2)]) (rest := []) (lenOf pd_0 rfl) rfl (by show 2 * 0 + _ ≤ _; exact Nat.le_of_eq rfl) (hb hby at_149) (fun _ _ => ⟨rfl, eh114, (by decide : 1 + 0 ≤ _), (by decide : 8 + 0 ≤ _)⟩)
    dsimp only [Pt.U, Pt.locs, Pt.cells, Pt.slots] at X117 l117 y117 z117 st117 hQ117
    subst l117 y117 z117
    obtain ⟨rfl, N117q, eh117⟩ := hQ117
    have N118 := Fr.app N115 N117q
    refine own_via (fun k => st117 _ k) ?_
    show own_Go p e below s _ _ (T117.setTop (mkF m 152 #[jv q0, .second, iv p1, rv b1, iv 2, iv z104, iv z107, iv z110, iv z113, iv z116, .unset, .unset] [(.int (own_f1 z104 (4 : Int32) (2 : Int32) g))]))
    obtain ⟨z119, hz119⟩ : ∃ z : Int32, z = (own_f1 z104 (4 : Int32) (2 : Int32) g) := ⟨_, rfl⟩
    rw [← hz119]
    show own_Go p e below s _ _ (T117.setTop (mkF m 152 #[jv q0, .second, iv p1, rv b1, iv 2, iv z104, iv z107, iv z110, iv z113, iv z116, .unset, .unset] [(.int z119)]))
    refine own_via (fun k => XS.istore X117.here hx rfl (hb hby at_152) rfl (l' := #[jv q0, .second, iv p1, rv b1, iv 2, iv z104, iv z107, iv z110, iv z113, iv z116, iv z119, .unset]) rfl (XS.iload X117.here hx rfl (hb hby at_154) rfl  k)) ?_
    show own_Go p e below s _ _ (T117.setTop (mkF m 156 #[jv q0, .second, iv p1, rv b1, iv 2, iv z104, iv z107, iv z110, iv z113, iv z116, iv z119, .unset] [(.int z107)]))
    have J123 : ∀ (T123 : State) (lo123 : List Loc), Stand p l e room_1 s m #[(.long q0), (.int p1)] below meth c T123 lo123 1 8 → Fr n0 lo123 → T123.heap = h41 → ∀ (z122 : Int32), z122 = (if z107 < (0 : Int32) then (-1 : Int32) else (if z110 < (0 : Int32) then (-1 : Int32) else (if z113 < (0 : Int32) then (-1 : Int32) else (if z116 < (0 : Int32) then (-1 : Int32) else (if z119 < (0 : Int32) then (-1 : Int32) else ((((((z107 * (10000 : Int32)) + (z110 * (1000 : Int32))) + (z113 * (100 : Int32))) + (z116 * (10 : Int32))) + z119) / (own_f3 (3 : Int32)))))))) → own_Go p e below s (Q0 Z q0 p1 h0 n0) (room_1.cells, room_1.slots) (T123.setTop (mkF m 223 #[jv q0, .second, iv p1, rv b1, iv 2, iv z104, iv z107, iv z110, iv z113, iv z116, iv z119, iv z122] [])) := by
      intro T123 lo123 X123 N123 e123 z122 hz122
      refine own_via (fun k => XS.aloadN X123.here hx rfl (hb hby at_223) rfl rfl  (XS.iload X123.here hx rfl (hb hby at_224) rfl  (XS.iload X123.here hx rfl (hb hby at_226) rfl  k))) ?_
      show own_Go p e below s _ _ (T123.setTop (mkF m 228 #[jv q0, .second, iv p1, rv b1, iv 2, iv z104, iv z107, iv z110, iv z113, iv z116, iv z119, iv z122] [(.int 2), (.int z104), (.ref b1)]))
      obtain ⟨_, _, ⟨T124, L124, k124, n124⟩, -, X124, ⟨Lc124, hQ124, l124, y124, z124⟩, st124⟩ := Jvm.LawKit.callS X123 hx (y := (⟨"organico/records/Iso2709", "digits", "([BII)I"⟩ : MethodName)) hown (mvT hZ (hw _ (List.mem_of_getElem? (i := 6) rfl))) (mvT hZ (hw _ (List.mem_of_getElem? (i := 7) rfl))) (mvT hZ (hw _ (List.mem_of_getElem? (i := 8) rfl))) (mvT hZ (hw _ (List.mem_of_getElem? (i := 9) rfl))) (by decide) (backOf (W := 0) (rm2_2 l Z aw hw [] b1 z104 k1 [(.int (nar .byte z5)), (.int (nar .byte z10)), (.int (nar .byte z15)), (.int (nar .byte z20)), (.int (nar .byte z25)), (.int (nar .byte z30)), (.int (nar .byte z35)), (.int (nar .byte z40))] g h41 n0 Z44 B42 hg (own_hhlo_2_228 p1 z104 hz104 hl45) (own_hhhi_2_228 p1 z104 hz104 hl45)) hZ (hw _ (List.mem_of_getElem? (i := 9) rfl)) (hw _ (List.mem_of_getElem? (i := 8) rfl)) (by decide) (by decide)) (g := (mkF m 228 #[jv q0, .second, iv p1, rv b1, iv 2, iv z104, iv z107, iv z110, iv z113, iv z116, iv z119, iv z122] [(.int 2), (.int z104), (.ref b1)])) rfl (by rw [hml]; rfl) (argsL := [(.ref b1), (.int z104), (.int 2)]) (rest := []) (lenOf pd_1 rfl) rfl (by show 2 * 0 + _ ≤ _; exact Nat.le_of_eq rfl) (hb hby at_228) (fun _ _ => ⟨rfl, e123, (by decide : 1 + 0 ≤ _), (by decide : 8 + 0 ≤ _)⟩)
      dsimp only [Pt.U, Pt.locs, Pt.cells, Pt.slots] at X124 l124 y124 z124 st124 hQ124
      subst l124 y124 z124
      obtain ⟨rfl, N124q, eh124⟩ := hQ124
      have N125 := Fr.app N123 N124q
      refine own_via (fun k => st124 _ k) ?_
      show own_Go p e below s _ _ (T124.setTop (mkF m 231 #[jv q0, .second, iv p1, rv b1, iv 2, iv z104, iv z107, iv z110, iv z113, iv z116, iv z119, iv z122] [(.int (own_f2_2 z104 g))]))
      refine own_via (fun k => XS.iload X124.here hx rfl (hb hby at_231) rfl  k) ?_
      show own_Go p e below s _ _ (T124.setTop (mkF m 233 #[jv q0, .second, iv p1, rv b1, iv 2, iv z104, iv z107, iv z110, iv z113, iv z116, iv z119, iv z122] [(.int z122), (.int (own_f2_2 z104 g))]))
      refine own_via (fun k => XS.icmpNo X124.here hx rfl (hb hby at_233) rfl (teq (own_law2 p1 g z104 hz104 z107 hz107 z110 hz110 z113 hz113 z116 hz116 z119 hz119 z122 hz122 hl45)).2 k) ?_
      show own_Go p e below s _ _ (T124.setTop (mkF m 236 #[jv q0, .second, iv p1, rv b1, iv 2, iv z104, iv z107, iv z110, iv z113, iv z116, iv z119, iv z122] []))
      refine own_via (fun k => XS.iconst X124.here hx rfl (hb hby at_236) (XS.goto X124.here hx rfl (pc0 := 237) (pc' := 241) rfl (hb hby at_237) (by decide) (by decide) k)) ?_
      show own_Go p e below s _ _ (T124.setTop (mkF m 241 #[jv q0, .second, iv p1, rv b1, iv 2, iv z104, iv z107, iv z110, iv z113, iv z116, iv z119, iv z122] [(.int 1)]))
      exact own_retN X124 hx hlk (t := .boolean) Bd.returns (by simp) (hb hby at_241) (Q := (Q0 Z q0 p1 h0 n0)) ⟨rfl, N125⟩ (by decide) (by decide)
    by_cases hc126 : z107 < (0 : Int32)
    · refine own_via (fun k => XS.ifYes X117.here hx rfl (pc0 := 156) (pc' := 179) rfl (hb hby at_156) rfl ((if0 _ _).trans (tlt hc126).1) (by decide) (by decide) k) ?_
      show own_Go p e below s _ _ (T117.setTop (mkF m 179 #[jv q0, .second, iv p1, rv b1, iv 2, iv z104, iv z107, iv z110, iv z113, iv z116, iv z119, .unset] []))
      refine own_via (fun k => XS.iconst X117.here hx rfl (hb hby at_179) (XS.istore X117.here hx rfl (hb hby at_180) rfl (l' := #[jv q0, .second, iv p1, rv b1, iv 2, iv z104, iv z107, iv z110, iv z113, iv z116, iv z119, iv (-1)]) rfl (XS.goto X117.here hx rfl (pc0 := 182) (pc' := 223) rfl (hb hby at_182) (by decide) (by decide) k))) ?_
      show own_Go p e below s _ _ (T117.setTop (mkF m 223 #[jv q0, .second, iv p1, rv b1, iv 2, iv z104, iv z107, iv z110, iv z113, iv z116, iv z119, iv (-1)] []))
      exact J123 _ _ X117 N118 eh117 (-1 : Int32) (((if_pos hc126).trans rfl)).symm
    · refine own_via (fun k => XS.ifNo X117.here hx rfl (hb hby at_156) rfl ((if0 _ _).trans (flt hc126).1) k) ?_
      show own_Go p e below s _ _ (T117.setTop (mkF m 159 #[jv q0, .second, iv p1, rv b1, iv 2, iv z104, iv z107, iv z110, iv z113, iv z116, iv z119, .unset] []))
      refine own_via (fun k => XS.iload X117.here hx rfl (hb hby at_159) rfl  k) ?_
      show own_Go p e below s _ _ (T117.setTop (mkF m 161 #[jv q0, .second, iv p1, rv b1, iv 2, iv z104, iv z107, iv z110, iv z113, iv z116, iv z119, .unset] [(.int z110)]))
      by_cases hc127 : z110 < (0 : Int32)
      · refine own_via (fun k => XS.ifYes X117.here hx rfl (pc0 := 161) (pc' := 179) rfl (hb hby at_161) rfl ((if0 _ _).trans (tlt hc127).1) (by decide) (by decide) k) ?_
        show own_Go p e below s _ _ (T117.setTop (mkF m 179 #[jv q0, .second, iv p1, rv b1, iv 2, iv z104, iv z107, iv z110, iv z113, iv z116, iv z119, .unset] []))
        refine own_via (fun k => XS.iconst X117.here hx rfl (hb hby at_179) (XS.istore X117.here hx rfl (hb hby at_180) rfl (l' := #[jv q0, .second, iv p1, rv b1, iv 2, iv z104, iv z107, iv z110, iv z113, iv z116, iv z119, iv (-1)]) rfl (XS.goto X117.here hx rfl (pc0 := 182) (pc' := 223) rfl (hb hby at_182) (by decide) (by decide) k))) ?_
        show own_Go p e below s _ _ (T117.setTop (mkF m 223 #[jv q0, .second, iv p1, rv b1, iv 2, iv z104, iv z107, iv z110, iv z113, iv z116, iv z119, iv (-1)] []))
        exact J123 _ _ X117 N118 eh117 (-1 : Int32) (((if_neg hc126).trans ((if_pos hc127).trans rfl))).symm
      · refine own_via (fun k => XS.ifNo X117.here hx rfl (hb hby at_161) rfl ((if0 _ _).trans (flt hc127).1) k) ?_
        show own_Go p e below s _ _ (T117.setTop (mkF m 164 #[jv q0, .second, iv p1, rv b1, iv 2, iv z104, iv z107, iv z110, iv z113, iv z116, iv z119, .unset] []))
        refine own_via (fun k => XS.iload X117.here hx rfl (hb hby at_164) rfl  k) ?_
        show own_Go p e below s _ _ (T117.setTop (mkF m 166 #[jv q0, .second, iv p1, rv b1, iv 2, iv z104, iv z107, iv z110, iv z113, iv z116, iv z119, .unset] [(.int z113)]))
        by_cases hc128 : z113 < (0 : Int32)
        · refine own_via (fun k => XS.ifYes X117.here hx rfl (pc0 := 166) (pc' := 179) rfl (hb hby at_166) rfl ((if0 _ _).trans (tlt hc128).1) (by decide) (by decide) k) ?_
          show own_Go p e below s _ _ (T117.setTop (mkF m 179 #[jv q0, .second, iv p1, rv b1, iv 2, iv z104, iv z107, iv z110, iv z113, iv z116, iv z119, .unset] []))
          refine own_via (fun k => XS.iconst X117.here hx rfl (hb hby at_179) (XS.istore X117.here hx rfl (hb hby at_180) rfl (l' := #[jv q0, .second, iv p1, rv b1, iv 2, iv z104, iv z107, iv z110, iv z113, iv z116, iv z119, iv (-1)]) rfl (XS.goto X117.here hx rfl (pc0 := 182) (pc' := 223) rfl (hb hby at_182) (by decide) (by decide) k))) ?_
          show own_Go p e below s _ _ (T117.setTop (mkF m 223 #[jv q0, .second, iv p1, rv b1, iv 2, iv z104, iv z107, iv z110, iv z113, iv z116, iv z119, iv (-1)] []))
          exact J123 _ _ X117 N118 eh117 (-1 : Int32) (((if_neg hc126).trans ((if_neg hc127).trans ((if_pos hc128).trans rfl)))).symm
        · refine own_via (fun k => XS.ifNo X117.here hx rfl (hb hby at_166) rfl ((if0 _ _).trans (flt hc128).1) k) ?_
          show own_Go p e below s _ _ (T117.setTop (mkF m 169 #[jv q0, .second, iv p1, rv b1, iv 2, iv z104, iv z107, iv z110, iv z113, iv z116, iv z119, .unset] []))
          refine own_via (fun k => XS.iload X117.here hx rfl (hb hby at_169) rfl  k) ?_
          show own_Go p e below s _ _ (T117.setTop (mkF m 171 #[jv q0, .second, iv p1, rv b1, iv 2, iv z104, iv z107, iv z110, iv z113, iv z116, iv z119, .unset] [(.int z116)]))
          by_cases hc129 : z116 < (0 : Int32)
          · refine own_via (fun k => XS.ifYes X117.here hx rfl (pc0 := 171) (pc' := 179) rfl (hb hby at_171) rfl ((if0 _ _).trans (tlt hc129).1) (by decide) (by decide) k) ?_
            show own_Go p e below s _ _ (T117.setTop (mkF m 179 #[jv q0, .second, iv p1, rv b1, iv 2, iv z104, iv z107, iv z110, iv z113, iv z116, iv z119, .unset] []))
            refine own_via (fun k => XS.iconst X117.here hx rfl (hb hby at_179) (XS.istore X117.here hx rfl (hb hby at_180) rfl (l' := #[jv q0, .second, iv p1, rv b1, iv 2, iv z104, iv z107, iv z110, iv z113, iv z116, iv z119, iv (-1)]) rfl (XS.goto X117.here hx rfl (pc0 := 182) (pc' := 223) rfl (hb hby at_182) (by decide) (by decide) k))) ?_
            show own_Go p e below s _ _ (T117.setTop (mkF m 223 #[jv q0, .second, iv p1, rv b1, iv 2, iv z104, iv z107, iv z110, iv z113, iv z116, iv z119, iv (-1)] []))
            exact J123 _ _ X117 N118 eh117 (-1 : Int32) (((if_neg hc126).trans ((if_neg hc127).trans ((if_neg hc128).trans ((if_pos hc129).trans rfl))))).symm
          · refine own_via (fun k => XS.ifNo X117.here hx rfl (hb hby at_171) rfl ((if0 _ _).trans (flt hc129).1) k) ?_
            show own_Go p e below s _ _ (T117.setTop (mkF m 174 #[jv q0, .second, iv p1, rv b1, iv 2, iv z104, iv z107, iv z110, iv z113, iv z116, iv z119, .unset] []))
            refine own_via (fun k => XS.iload X117.here hx rfl (hb hby at_174) rfl  k) ?_
            show own_Go p e below s _ _ (T117.setTop (mkF m 176 #[jv q0, .second, iv p1, rv b1, iv 2, iv z104, iv z107, iv z110, iv z113, iv z116, iv z119, .unset] [(.int z119)]))
            by_cases hc130 : z119 < (0 : Int32)
            · refine own_via (fun k => XS.ifNo X117.here hx rfl (hb hby at_176) rfl ((if0 _ _).trans (tlt hc130).2.1) k) ?_
              show own_Go p e below s _ _ (T117.setTop (mkF m 179 #[jv q0, .second, iv p1, rv b1, iv 2, iv z104, iv z107, iv z110, iv z113, iv z116, iv z119, .unset] []))
              refine own_via (fun k => XS.iconst X117.here hx rfl (hb hby at_179) (XS.istore X117.here hx rfl (hb hby at_180) rfl (l' := #[jv q0, .second, iv p1, rv b1, iv 2, iv z104, iv z107, iv z110, iv z113, iv z116, iv z119, iv (-1)]) rfl (XS.goto X117.here hx rfl (pc0 := 182) (pc' := 223) rfl (hb hby at_182) (by decide) (by decide) k))) ?_
              show own_Go p e below s _ _ (T117.setTop (mkF m 223 #[jv q0, .second, iv p1, rv b1, iv 2, iv z104, iv z107, iv z110, iv z113, iv z116, iv z119, iv (-1)] []))
              exact J123 _ _ X117 N118 eh117 (-1 : Int32) (((if_neg hc126).trans ((if_neg hc127).trans ((if_neg hc128).trans ((if_neg hc129).trans ((if_pos hc130).trans rfl)))))).symm
            · refine own_via (fun k => XS.ifYes X117.here hx rfl (pc0 := 176) (pc' := 185) rfl (hb hby at_176) rfl ((if0 _ _).trans (flt hc130).2.1) (by decide) (by decide) k) ?_
              show own_Go p e below s _ _ (T117.setTop (mkF m 185 #[jv q0, .second, iv p1, rv b1, iv 2, iv z104, iv z107, iv z110, iv z113, iv z116, iv z119, .unset] []))
              refine own_via (fun k => XS.iload X117.here hx rfl (hb hby at_185) rfl  (XS.sipush X117.here hx rfl (hb hby at_187) (XS.imul X117.here hx rfl (hb hby at_190) rfl (XS.iload X117.here hx rfl (hb hby at_191) rfl  k)))) ?_
              show own_Go p e below s _ _ (T117.setTop (mkF m 193 #[jv q0, .second, iv p1, rv b1, iv 2, iv z104, iv z107, iv z110, iv z113, iv z116, iv z119, .unset] [(.int z110), (.int (z107 * (10000 : Int32)))]))
              refine own_via (fun k => XS.sipush X117.here hx rfl (hb hby at_193) (XS.imul X117.here hx rfl (hb hby at_196) rfl (XS.iadd X117.here hx rfl (hb hby at_197) rfl (XS.iload X117.here hx rfl (hb hby at_198) rfl  k)))) ?_
              show own_Go p e below s _ _ (T117.setTop (mkF m 200 #[jv q0, .second, iv p1, rv b1, iv 2, iv z104, iv z107, iv z110, iv z113, iv z116, iv z119, .unset] [(.int z113), (.int ((z107 * (10000 : Int32)) + (z110 * (1000 : Int32))))]))
              refine own_via (fun k => XS.bipush X117.here hx rfl (hb hby at_200) (XS.imul X117.here hx rfl (hb hby at_202) rfl (XS.iadd X117.here hx rfl (hb hby at_203) rfl (XS.iload X117.here hx rfl (hb hby at_204) rfl  k)))) ?_
              show own_Go p e below s _ _ (T117.setTop (mkF m 206 #[jv q0, .second, iv p1, rv b1, iv 2, iv z104, iv z107, iv z110, iv z113, iv z116, iv z119, .unset] [(.int z116), (.int (((z107 * (10000 : Int32)) + (z110 * (1000 : Int32))) + (z113 * (100 : Int32))))]))
              refine own_via (fun k => XS.bipush X117.here hx rfl (hb hby at_206) (XS.imul X117.here hx rfl (hb hby at_208) rfl (XS.iadd X117.here hx rfl (hb hby at_209) rfl (XS.iload X117.here hx rfl (hb hby at_210) rfl  k)))) ?_
              show own_Go p e below s _ _ (T117.setTop (mkF m 212 #[jv q0, .second, iv p1, rv b1, iv 2, iv z104, iv z107, iv z110, iv z113, iv z116, iv z119, .unset] [(.int z119), (.int ((((z107 * (10000 : Int32)) + (z110 * (1000 : Int32))) + (z113 * (100 : Int32))) + (z116 * (10 : Int32))))]))
              refine own_via (fun k => XS.iadd X117.here hx rfl (hb hby at_212) rfl (XS.iconst X117.here hx rfl (hb hby at_213) (XS.iload X117.here hx rfl (hb hby at_214) rfl  (XS.isub X117.here hx rfl (hb hby at_216) rfl k)))) ?_
              show own_Go p e below s _ _ (T117.setTop (mkF m 217 #[jv q0, .second, iv p1, rv b1, iv 2, iv z104, iv z107, iv z110, iv z113, iv z116, iv z119, .unset] [(.int 3), (.int (((((z107 * (10000 : Int32)) + (z110 * (1000 : Int32))) + (z113 * (100 : Int32))) + (z116 * (10 : Int32))) + z119))]))
              obtain ⟨_, _, ⟨T131, L131, k131, n131⟩, -, X131, ⟨Lc131, hQ131, l131, y131, z131⟩, st131⟩ := Jvm.LawKit.callS X117 hx (y := (⟨"organico/records/Iso2709DigitsPinLaw", "pow10", "(I)I"⟩ : MethodName)) hown (mvT hZ (hw _ (List.mem_of_getElem? (i := 10) rfl))) (mvT hZ (hw _ (List.mem_of_getElem? (i := 11) rfl))) (mvT hZ (hw _ (List.mem_of_getElem? (i := 4) rfl))) (mvT hZ (hw _ (List.mem_of_getElem? (i := 12) rfl))) (by decide) (backOf (W := 1) (rm3 l Z aw hw [] (3 : Int32) h41 n0 Z44) hZ (hw _ (List.mem_of_getElem? (i := 12) rfl)) (hw _ (List.mem_of_getElem? (i := 4) rfl)) (by decide) (by decide)) (g := (mkF m 217 #[jv q0, .second, iv p1, rv b1, iv 2, iv z104, iv z107, iv z110, iv z113, iv z116, iv z119, .unset] [(.int 3), (.int (((((z107 * (10000 : Int32)) + (z110 * (1000 : Int32))) + (z113 * (100 : Int32))) + (z116 * (10 : Int32))) + z119))])) rfl (by rw [hml]; rfl) (argsL := [(.int 3)]) (rest := [(.int (((((z107 * (10000 : Int32)) + (z110 * (1000 : Int32))) + (z113 * (100 : Int32))) + (z116 * (10 : Int32))) + z119))]) (lenOf pd_2 rfl) rfl (by show 2 * 0 + _ ≤ _; exact Nat.le_of_eq rfl) (hb hby at_217) (fun _ _ => ⟨rfl, eh117, (by decide : 1 + 0 ≤ _), (by decide : 8 + 0 ≤ _)⟩)
              dsimp only [Pt.U, Pt.locs, Pt.cells, Pt.slots] at X131 l131 y131 z131 st131 hQ131
              subst l131 y131 z131
              obtain ⟨rfl, N131q, eh131⟩ := hQ131
              have N132 := Fr.app N118 N131q
              refine own_via (fun k => st131 _ k) ?_
              show own_Go p e below s _ _ (T131.setTop (mkF m 220 #[jv q0, .second, iv p1, rv b1, iv 2, iv z104, iv z107, iv z110, iv z113, iv z116, iv z119, .unset] [(.int (own_f3 (3 : Int32))), (.int (((((z107 * (10000 : Int32)) + (z110 * (1000 : Int32))) + (z113 * (100 : Int32))) + (z116 * (10 : Int32))) + z119))]))
              refine own_via (fun k => XS.idiv X131.here hx rfl (hb hby at_220) rfl (own_nz2 p1 hl45) (XS.istore X131.here hx rfl (hb hby at_221) rfl (l' := #[jv q0, .second, iv p1, rv b1, iv 2, iv z104, iv z107, iv z110, iv z113, iv z116, iv z119, iv ((((((z107 * (10000 : Int32)) + (z110 * (1000 : Int32))) + (z113 * (100 : Int32))) + (z116 * (10 : Int32))) + z119) / (own_f3 (3 : Int32)))]) rfl k)) ?_
              show own_Go p e below s _ _ (T131.setTop (mkF m 223 #[jv q0, .second, iv p1, rv b1, iv 2, iv z104, iv z107, iv z110, iv z113, iv z116, iv z119, iv ((((((z107 * (10000 : Int32)) + (z110 * (1000 : Int32))) + (z113 * (100 : Int32))) + (z116 * (10 : Int32))) + z119) / (own_f3 (3 : Int32)))] []))
              exact J123 _ _ X131 N132 eh131 ((((((z107 * (10000 : Int32)) + (z110 * (1000 : Int32))) + (z113 * (100 : Int32))) + (z116 * (10 : Int32))) + z119) / (own_f3 (3 : Int32))) (((if_neg hc126).trans ((if_neg hc127).trans ((if_neg hc128).trans ((if_neg hc129).trans ((if_neg hc130).trans rfl)))))).symm
  · rw [hl45]
    show own_Go p e below s _ _ (T41.setTop (mkF m 85 #[jv q0, .second, iv p1, rv b1, iv 3, .unset, .unset, .unset, .unset, .unset, .unset, .unset] []))
    refine own_via (fun k => XS.iloadN X41.here hx rfl (hb hby at_85) rfl  (XS.iconst X41.here hx rfl (hb hby at_86) (XS.iushr X41.here hx rfl (hb hby at_87) rfl (X41.ldcInt hx hown (mvT hZ (hw _ (List.mem_of_getElem? (i := 1) rfl))) (g := (mkF m 88 #[jv q0, .second, iv p1, rv b1, iv 3, .unset, .unset, .unset, .unset, .unset, .unset, .unset] [(.int ((p1.toUInt32 >>> ((3 : Int32) &&& 31).toUInt32).toInt32))])) rfl (hb hby at_88) _ k)))) ?_
    show own_Go p e below s _ _ (T41.setTop (mkF m 90 #[jv q0, .second, iv p1, rv b1, iv 3, .unset, .unset, .unset, .unset, .unset, .unset, .unset] [(.int 2147483647), (.int ((p1.toUInt32 >>> ((3 : Int32) &&& 31).toUInt32).toInt32))]))
    refine own_via (fun k => XS.iand X41.here hx rfl (hb hby at_90) rfl (XS.bipush X41.here hx rfl (hb hby at_91) (XS.iload X41.here hx rfl (hb hby at_93) rfl  (XS.isub X41.here hx rfl (hb hby at_95) rfl k)))) ?_
    show own_Go p e below s _ _ (T41.setTop (mkF m 96 #[jv q0, .second, iv p1, rv b1, iv 3, .unset, .unset, .unset, .unset, .unset, .unset, .unset] [(.int 6), (.int (((p1.toUInt32 >>> ((3 : Int32) &&& 31).toUInt32).toInt32) &&& (2147483647 : Int32)))]))
    refine own_via (fun k => Jvm.RoadKit.iremM X41 hx rfl (hb hby at_96) rfl (by decide) k) ?_
    show own_Go p e below s _ _ (T41.setTop (mkF m 97 #[jv q0, .second, iv p1, rv b1, iv 3, .unset, .unset, .unset, .unset, .unset, .unset, .unset] [(.int ((((p1.toUInt32 >>> ((3 : Int32) &&& 31).toUInt32).toInt32) &&& (2147483647 : Int32)) % (6 : Int32)))]))
    obtain ⟨z133, hz133⟩ : ∃ z : Int32, z = ((((p1.toUInt32 >>> ((3 : Int32) &&& 31).toUInt32).toInt32) &&& (2147483647 : Int32)) % (6 : Int32)) := ⟨_, rfl⟩
    rw [← hz133]
    show own_Go p e below s _ _ (T41.setTop (mkF m 97 #[jv q0, .second, iv p1, rv b1, iv 3, .unset, .unset, .unset, .unset, .unset, .unset, .unset] [(.int z133)]))
    refine own_via (fun k => XS.istore X41.here hx rfl (hb hby at_97) rfl (l' := #[jv q0, .second, iv p1, rv b1, iv 3, iv z133, .unset, .unset, .unset, .unset, .unset, .unset]) rfl (XS.aloadN X41.here hx rfl (hb hby at_99) rfl rfl  (XS.iload X41.here hx rfl (hb hby at_100) rfl  (XS.iconst X41.here hx rfl (hb hby at_102) k)))) ?_
    show own_Go p e below s _ _ (T41.setTop (mkF m 103 #[jv q0, .second, iv p1, rv b1, iv 3, iv z133, .unset, .unset, .unset, .unset, .unset, .unset] [(.int 0), (.int z133), (.ref b1)]))
    refine own_via (fun k => XS.iload X41.here hx rfl (hb hby at_103) rfl  k) ?_
    show own_Go p e below s _ _ (T41.setTop (mkF m 105 #[jv q0, .second, iv p1, rv b1, iv 3, iv z133, .unset, .unset, .unset, .unset, .unset, .unset] [(.int 3), (.int 0), (.int z133), (.ref b1)]))
    obtain ⟨_, _, ⟨T134, L134, k134, n134⟩, -, X134, ⟨Lc134, hQ134, l134, y134, z134⟩, st134⟩ := Jvm.LawKit.callS X41 hx (y := (⟨"organico/records/Iso2709DigitsPinLaw", "digitAt", "([BIII)I"⟩ : MethodName)) hown (mvT hZ (hw _ (List.mem_of_getElem? (i := 2) rfl))) (mvT hZ (hw _ (List.mem_of_getElem? (i := 3) rfl))) (mvT hZ (hw _ (List.mem_of_getElem? (i := 4) rfl))) (mvT hZ (hw _ (List.mem_of_getElem? (i := 5) rfl))) (by decide) (backOf (W := 0) (rm1 l Z aw hw [] b1 z133 (0 : Int32) (3 : Int32) k1 [(.int (nar .byte z5)), (.int (nar .byte z10)), (.int (nar .byte z15)), (.int (nar .byte z20)), (.int (nar .byte z25)), (.int (nar .byte z30)), (.int (nar .byte z35)), (.int (nar .byte z40))] g h41 n0 Z44 B42 hg (own_hhin_3_105 p1 z133 hz133 hl45)) hZ (hw _ (List.mem_of_getElem? (i := 5) rfl)) (hw _ (List.mem_of_getElem? (i := 4) rfl)) (by decide) (by decide)) (g := (mkF m 105 #[jv q0, .second, iv p1, rv b1, iv 3, iv z133, .unset, .unset, .unset, .unset, .unset, .unset] [(.int 3), (.int 0), (.int z133), (.ref b1)])) rfl (by rw [hml]; rfl) (argsL := [(.ref b1), (.int z133), (.int 0), (.int 3)]) (rest := []) (lenOf pd_0 rfl) rfl (by show 2 * 0 + _ ≤ _; exact Nat.le_of_eq rfl) (hb hby at_105) (fun _ _ => ⟨rfl, e41, (by decide : 1 + 0 ≤ _), (by decide : 8 + 0 ≤ _)⟩)
    dsimp only [Pt.U, Pt.locs, Pt.cells, Pt.slots] at X134 l134 y134 z134 st134 hQ134
    subst l134 y134 z134
    obtain ⟨rfl, N134q, eh134⟩ := hQ134
    have N135 := Fr.app N43 N134q
    refine own_via (fun k => st134 _ k) ?_
    show own_Go p e below s _ _ (T134.setTop (mkF m 108 #[jv q0, .second, iv p1, rv b1, iv 3, iv z133, .unset, .unset, .unset, .unset, .unset, .unset] [(.int (own_f1 z133 (0 : Int32) (3 : Int32) g))]))
    obtain ⟨z136, hz136⟩ : ∃ z : Int32, z = (own_f1 z133 (0 : Int32) (3 : Int32) g) := ⟨_, rfl⟩
    rw [← hz136]
    show own_Go p e below s _ _ (T134.setTop (mkF m 108 #[jv q0, .second, iv p1, rv b1, iv 3, iv z133, .unset, .unset, .unset, .unset, .unset, .unset] [(.int z136)]))
    refine own_via (fun k => XS.istore X134.here hx rfl (hb hby at_108) rfl (l' := #[jv q0, .second, iv p1, rv b1, iv 3, iv z133, iv z136, .unset, .unset, .unset, .unset, .unset]) rfl (XS.aloadN X134.here hx rfl (hb hby at_110) rfl rfl  (XS.iload X134.here hx rfl (hb hby at_111) rfl  (XS.iconst X134.here hx rfl (hb hby at_113) k)))) ?_
    show own_Go p e below s _ _ (T134.setTop (mkF m 114 #[jv q0, .second, iv p1, rv b1, iv 3, iv z133, iv z136, .unset, .unset, .unset, .unset, .unset] [(.int 1), (.int z133), (.ref b1)]))
    refine own_via (fun k => XS.iload X134.here hx rfl (hb hby at_114) rfl  k) ?_
    show own_Go p e below s _ _ (T134.setTop (mkF m 116 #[jv q0, .second, iv p1, rv b1, iv 3, iv z133, iv z136, .unset, .unset, .unset, .unset, .unset] [(.int 3), (.int 1), (.int z133), (.ref b1)]))
    obtain ⟨_, _, ⟨T137, L137, k137, n137⟩, -, X137, ⟨Lc137, hQ137, l137, y137, z137⟩, st137⟩ := Jvm.LawKit.callS X134 hx (y := (⟨"organico/records/Iso2709DigitsPinLaw", "digitAt", "([BIII)I"⟩ : MethodName)) hown (mvT hZ (hw _ (List.mem_of_getElem? (i := 2) rfl))) (mvT hZ (hw _ (List.mem_of_getElem? (i := 3) rfl))) (mvT hZ (hw _ (List.mem_of_getElem? (i := 4) rfl))) (mvT hZ (hw _ (List.mem_of_getElem? (i := 5) rfl))) (by decide) (backOf (W := 0) (rm1 l Z aw hw [] b1 z133 (1 : Int32) (3 : Int32) k1 [(.int (nar .byte z5)), (.int (nar .byte z10)), (.int (nar .byte z15)), (.int (nar .byte z20)), (.int (nar .byte z25)), (.int (nar .byte z30)), (.int (nar .byte z35)), (.int (nar .byte z40))] g h41 n0 Z44 B42 hg (own_hhin_3_116 p1 z133 hz133 hl45)) hZ (hw _ (List.mem_of_getElem? (i := 5) rfl)) (hw _ (List.mem_of_getElem? (i := 4) rfl)) (by decide) (by decide)) (g := (mkF m 116 #[jv q0, .second, iv p1, rv b1, iv 3, iv z133, iv z136, .unset, .unset, .unset, .unset, .unset] [(.int 3), (.int 1), (.int z133), (.ref b1)])) rfl (by rw [hml]; rfl) (argsL := [(.ref b1), (.int z133), (.int 1), (.int 3)]) (rest := []) (lenOf pd_0 rfl) rfl (by show 2 * 0 + _ ≤ _; exact Nat.le_of_eq rfl) (hb hby at_116) (fun _ _ => ⟨rfl, eh134, (by decide : 1 + 0 ≤ _), (by decide : 8 + 0 ≤ _)⟩)
    dsimp only [Pt.U, Pt.locs, Pt.cells, Pt.slots] at X137 l137 y137 z137 st137 hQ137
    subst l137 y137 z137
    obtain ⟨rfl, N137q, eh137⟩ := hQ137
    have N138 := Fr.app N135 N137q
    refine own_via (fun k => st137 _ k) ?_
    show own_Go p e below s _ _ (T137.setTop (mkF m 119 #[jv q0, .second, iv p1, rv b1, iv 3, iv z133, iv z136, .unset, .unset, .unset, .unset, .unset] [(.int (own_f1 z133 (1 : Int32) (3 : Int32) g))]))
    obtain ⟨z139, hz139⟩ : ∃ z : Int32, z = (own_f1 z133 (1 : Int32) (3 : Int32) g) := ⟨_, rfl⟩
    rw [← hz139]
    show own_Go p e below s _ _ (T137.setTop (mkF m 119 #[jv q0, .second, iv p1, rv b1, iv 3, iv z133, iv z136, .unset, .unset, .unset, .unset, .unset] [(.int z139)]))
    refine own_via (fun k => XS.istore X137.here hx rfl (hb hby at_119) rfl (l' := #[jv q0, .second, iv p1, rv b1, iv 3, iv z133, iv z136, iv z139, .unset, .unset, .unset, .unset]) rfl (XS.aloadN X137.here hx rfl (hb hby at_121) rfl rfl  (XS.iload X137.here hx rfl (hb hby at_122) rfl  (XS.iconst X137.here hx rfl (hb hby at_124) k)))) ?_
    show own_Go p e below s _ _ (T137.setTop (mkF m 125 #[jv q0, .second, iv p1, rv b1, iv 3, iv z133, iv z136, iv z139, .unset, .unset, .unset, .unset] [(.int 2), (.int z133), (.ref b1)]))
    refine own_via (fun k => XS.iload X137.here hx rfl (hb hby at_125) rfl  k) ?_
    show own_Go p e below s _ _ (T137.setTop (mkF m 127 #[jv q0, .second, iv p1, rv b1, iv 3, iv z133, iv z136, iv z139, .unset, .unset, .unset, .unset] [(.int 3), (.int 2), (.int z133), (.ref b1)]))
    obtain ⟨_, _, ⟨T140, L140, k140, n140⟩, -, X140, ⟨Lc140, hQ140, l140, y140, z140⟩, st140⟩ := Jvm.LawKit.callS X137 hx (y := (⟨"organico/records/Iso2709DigitsPinLaw", "digitAt", "([BIII)I"⟩ : MethodName)) hown (mvT hZ (hw _ (List.mem_of_getElem? (i := 2) rfl))) (mvT hZ (hw _ (List.mem_of_getElem? (i := 3) rfl))) (mvT hZ (hw _ (List.mem_of_getElem? (i := 4) rfl))) (mvT hZ (hw _ (List.mem_of_getElem? (i := 5) rfl))) (by decide) (backOf (W := 0) (rm1 l Z aw hw [] b1 z133 (2 : Int32) (3 : Int32) k1 [(.int (nar .byte z5)), (.int (nar .byte z10)), (.int (nar .byte z15)), (.int (nar .byte z20)), (.int (nar .byte z25)), (.int (nar .byte z30)), (.int (nar .byte z35)), (.int (nar .byte z40))] g h41 n0 Z44 B42 hg (own_hhin_3_127 p1 z133 hz133 hl45)) hZ (hw _ (List.mem_of_getElem? (i := 5) rfl)) (hw _ (List.mem_of_getElem? (i := 4) rfl)) (by decide) (by decide)) (g := (mkF m 127 #[jv q0, .second, iv p1, rv b1, iv 3, iv z133, iv z136, iv z139, .unset, .unset, .unset, .unset] [(.int 3), (.int 2), (.int z133), (.ref b1)])) rfl (by rw [hml]; rfl) (argsL := [(.ref b1), (.int z133), (.int 2), (.int 3)]) (rest := []) (lenOf pd_0 rfl) rfl (by show 2 * 0 + _ ≤ _; exact Nat.le_of_eq rfl) (hb hby at_127) (fun _ _ => ⟨rfl, eh137, (by decide : 1 + 0 ≤ _), (by decide : 8 + 0 ≤ _)⟩)
    dsimp only [Pt.U, Pt.locs, Pt.cells, Pt.slots] at X140 l140 y140 z140 st140 hQ140
    subst l140 y140 z140
    obtain ⟨rfl, N140q, eh140⟩ := hQ140
    have N141 := Fr.app N138 N140q
    refine own_via (fun k => st140 _ k) ?_
    show own_Go p e below s _ _ (T140.setTop (mkF m 130 #[jv q0, .second, iv p1, rv b1, iv 3, iv z133, iv z136, iv z139, .unset, .unset, .unset, .unset] [(.int (own_f1 z133 (2 : Int32) (3 : Int32) g))]))
    obtain ⟨z142, hz142⟩ : ∃ z : Int32, z = (own_f1 z133 (2 : Int32) (3 : Int32) g) := ⟨_, rfl⟩
    rw [← hz142]
    show own_Go p e below s _ _ (T140.setTop (mkF m 130 #[jv q0, .second, iv p1, rv b1, iv 3, iv z133, iv z136, iv z139, .unset, .unset, .unset, .unset] [(.int z142)]))
    refine own_via (fun k => XS.istore X140.here hx rfl (hb hby at_130) rfl (l' := #[jv q0, .second, iv p1, rv b1, iv 3, iv z133, iv z136, iv z139, iv z142, .unset, .unset, .unset]) rfl (XS.aloadN X140.here hx rfl (hb hby at_132) rfl rfl  (XS.iload X140.here hx rfl (hb hby at_133) rfl  (XS.iconst X140.here hx rfl (hb hby at_135) k)))) ?_
    show own_Go p e below s _ _ (T140.setTop (mkF m 136 #[jv q0, .second, iv p1, rv b1, iv 3, iv z133, iv z136, iv z139, iv z142, .unset, .unset, .unset] [(.int 3), (.int z133), (.ref b1)]))
    refine own_via (fun k => XS.iload X140.here hx rfl (hb hby at_136) rfl  k) ?_
    show own_Go p e below s _ _ (T140.setTop (mkF m 138 #[jv q0, .second, iv p1, rv b1, iv 3, iv z133, iv z136, iv z139, iv z142, .unset, .unset, .unset] [(.int 3), (.int 3), (.int z133), (.ref b1)]))
    obtain ⟨_, _, ⟨T143, L143, k143, n143⟩, -, X143, ⟨Lc143, hQ143, l143, y143, z143⟩, st143⟩ := Jvm.LawKit.callS X140 hx (y := (⟨"organico/records/Iso2709DigitsPinLaw", "digitAt", "([BIII)I"⟩ : MethodName)) hown (mvT hZ (hw _ (List.mem_of_getElem? (i := 2) rfl))) (mvT hZ (hw _ (List.mem_of_getElem? (i := 3) rfl))) (mvT hZ (hw _ (List.mem_of_getElem? (i := 4) rfl))) (mvT hZ (hw _ (List.mem_of_getElem? (i := 5) rfl))) (by decide) (backOf (W := 0) (rm1 l Z aw hw [] b1 z133 (3 : Int32) (3 : Int32) k1 [(.int (nar .byte z5)), (.int (nar .byte z10)), (.int (nar .byte z15)), (.int (nar .byte z20)), (.int (nar .byte z25)), (.int (nar .byte z30)), (.int (nar .byte z35)), (.int (nar .byte z40))] g h41 n0 Z44 B42 hg (own_hhin_3_138 p1 z133 hz133 hl45)) hZ (hw _ (List.mem_of_getElem? (i := 5) rfl)) (hw _ (List.mem_of_getElem? (i := 4) rfl)) (by decide) (by decide)) (g := (mkF m 138 #[jv q0, .second, iv p1, rv b1, iv 3, iv z133, iv z136, iv z139, iv z142, .unset, .unset, .unset] [(.int 3), (.int 3), (.int z133), (.ref b1)])) rfl (by rw [hml]; rfl) (argsL := [(.ref b1), (.int z133), (.int 3), (.int 3)]) (rest := []) (lenOf pd_0 rfl) rfl (by show 2 * 0 + _ ≤ _; exact Nat.le_of_eq rfl) (hb hby at_138) (fun _ _ => ⟨rfl, eh140, (by decide : 1 + 0 ≤ _), (by decide : 8 + 0 ≤ _)⟩)
    dsimp only [Pt.U, Pt.locs, Pt.cells, Pt.slots] at X143 l143 y143 z143 st143 hQ143
    subst l143 y143 z143
    obtain ⟨rfl, N143q, eh143⟩ := hQ143
    have N144 := Fr.app N141 N143q
    refine own_via (fun k => st143 _ k) ?_
    show own_Go p e below s _ _ (T143.setTop (mkF m 141 #[jv q0, .second, iv p1, rv b1, iv 3, iv z133, iv z136, iv z139, iv z142, .unset, .unset, .unset] [(.int (own_f1 z133 (3 : Int32) (3 : Int32) g))]))
    obtain ⟨z145, hz145⟩ : ∃ z : Int32, z = (own_f1 z133 (3 : Int32) (3 : Int32) g) := ⟨_, rfl⟩
    rw [← hz145]
    show own_Go p e below s _ _ (T143.setTop (mkF m 141 #[jv q0, .second, iv p1, rv b1, iv 3, iv z133, iv z136, iv z139, iv z142, .unset, .unset, .unset] [(.int z145)]))
    refine own_via (fun k => XS.istore X143.here hx rfl (hb hby at_141) rfl (l' := #[jv q0, .second, iv p1, rv b1, iv 3, iv z133, iv z136, iv z139, iv z142, iv z145, .unset, .unset]) rfl (XS.aloadN X143.here hx rfl (hb hby at_143) rfl rfl  (XS.iload X143.here hx rfl (hb hby at_144) rfl  (XS.iconst X143.here hx rfl (hb hby at_146) k)))) ?_
    show own_Go p e below s _ _ (T143.setTop (mkF m 147 #[jv q0, .second, iv p1, rv b1, iv 3, iv z133, iv z136, iv z139, iv z142, iv z145, .unset, .unset] [(.int 4), (.int z133), (.ref b1)]))
    refine own_via (fun k => XS.iload X143.here hx rfl (hb hby at_147) rfl  k) ?_
    show own_Go p e below s _ _ (T143.setTop (mkF m 149 #[jv q0, .second, iv p1, rv b1, iv 3, iv z133, iv z136, iv z139, iv z142, iv z145, .unset, .unset] [(.int 3), (.int 4), (.int z133), (.ref b1)]))
    obtain ⟨_, _, ⟨T146, L146, k146, n146⟩, -, X146, ⟨Lc146, hQ146, l146, y146, z146⟩, st146⟩ := Jvm.LawKit.callS X143 hx (y := (⟨"organico/records/Iso2709DigitsPinLaw", "digitAt", "([BIII)I"⟩ : MethodName)) hown (mvT hZ (hw _ (List.mem_of_getElem? (i := 2) rfl))) (mvT hZ (hw _ (List.mem_of_getElem? (i := 3) rfl))) (mvT hZ (hw _ (List.mem_of_getElem? (i := 4) rfl))) (mvT hZ (hw _ (List.mem_of_getElem? (i := 5) rfl))) (by decide) (backOf (W := 0) (rm1 l Z aw hw [] b1 z133 (4 : Int32) (3 : Int32) k1 [(.int (nar .byte z5)), (.int (nar .byte z10)), (.int (nar .byte z15)), (.int (nar .byte z20)), (.int (nar .byte z25)), (.int (nar .byte z30)), (.int (nar .byte z35)), (.int (nar .byte z40))] g h41 n0 Z44 B42 hg (own_hhin_3_149 p1 z133 hz133 hl45)) hZ (hw _ (List.mem_of_getElem? (i := 5) rfl)) (hw _ (List.mem_of_getElem? (i := 4) rfl)) (by decide) (by decide)) (g := (mkF m 149 #[jv q0, .second, iv p1, rv b1, iv 3, iv z133, iv z136, iv z139, iv z142, iv z145, .unset, .unset] [(.int 3), (.int 4), (.int z133), (.ref b1)])) rfl (by rw [hml]; rfl) (argsL := [(.ref b1), (.int z133), (.int 4), (.int 3)]) (rest := []) (lenOf pd_0 rfl) rfl (by show 2 * 0 + _ ≤ _; exact Nat.le_of_eq rfl) (hb hby at_149) (fun _ _ => ⟨rfl, eh143, (by decide : 1 + 0 ≤ _), (by decide : 8 + 0 ≤ _)⟩)
    dsimp only [Pt.U, Pt.locs, Pt.cells, Pt.slots] at X146 l146 y146 z146 st146 hQ146
    subst l146 y146 z146
    obtain ⟨rfl, N146q, eh146⟩ := hQ146
    have N147 := Fr.app N144 N146q
    refine own_via (fun k => st146 _ k) ?_
    show own_Go p e below s _ _ (T146.setTop (mkF m 152 #[jv q0, .second, iv p1, rv b1, iv 3, iv z133, iv z136, iv z139, iv z142, iv z145, .unset, .unset] [(.int (own_f1 z133 (4 : Int32) (3 : Int32) g))]))
    obtain ⟨z148, hz148⟩ : ∃ z : Int32, z = (own_f1 z133 (4 : Int32) (3 : Int32) g) := ⟨_, rfl⟩
    rw [← hz148]
    show own_Go p e below s _ _ (T146.setTop (mkF m 152 #[jv q0, .second, iv p1, rv b1, iv 3, iv z133, iv z136, iv z139, iv z142, iv z145, .unset, .unset] [(.int z148)]))
    refine own_via (fun k => XS.istore X146.here hx rfl (hb hby at_152) rfl (l' := #[jv q0, .second, iv p1, rv b1, iv 3, iv z133, iv z136, iv z139, iv z142, iv z145, iv z148, .unset]) rfl (XS.iload X146.here hx rfl (hb hby at_154) rfl  k)) ?_
    show own_Go p e below s _ _ (T146.setTop (mkF m 156 #[jv q0, .second, iv p1, rv b1, iv 3, iv z133, iv z136, iv z139, iv z142, iv z145, iv z148, .unset] [(.int z136)]))
    have J152 : ∀ (T152 : State) (lo152 : List Loc), Stand p l e room_1 s m #[(.long q0), (.int p1)] below meth c T152 lo152 1 8 → Fr n0 lo152 → T152.heap = h41 → ∀ (z151 : Int32), z151 = (if z136 < (0 : Int32) then (-1 : Int32) else (if z139 < (0 : Int32) then (-1 : Int32) else (if z142 < (0 : Int32) then (-1 : Int32) else (if z145 < (0 : Int32) then (-1 : Int32) else (if z148 < (0 : Int32) then (-1 : Int32) else ((((((z136 * (10000 : Int32)) + (z139 * (1000 : Int32))) + (z142 * (100 : Int32))) + (z145 * (10 : Int32))) + z148) / (own_f3 (2 : Int32)))))))) → own_Go p e below s (Q0 Z q0 p1 h0 n0) (room_1.cells, room_1.slots) (T152.setTop (mkF m 223 #[jv q0, .second, iv p1, rv b1, iv 3, iv z133, iv z136, iv z139, iv z142, iv z145, iv z148, iv z151] [])) := by
      intro T152 lo152 X152 N152 e152 z151 hz151
      refine own_via (fun k => XS.aloadN X152.here hx rfl (hb hby at_223) rfl rfl  (XS.iload X152.here hx rfl (hb hby at_224) rfl  (XS.iload X152.here hx rfl (hb hby at_226) rfl  k))) ?_
      show own_Go p e below s _ _ (T152.setTop (mkF m 228 #[jv q0, .second, iv p1, rv b1, iv 3, iv z133, iv z136, iv z139, iv z142, iv z145, iv z148, iv z151] [(.int 3), (.int z133), (.ref b1)]))
      obtain ⟨_, _, ⟨T153, L153, k153, n153⟩, -, X153, ⟨Lc153, hQ153, l153, y153, z153⟩, st153⟩ := Jvm.LawKit.callS X152 hx (y := (⟨"organico/records/Iso2709", "digits", "([BII)I"⟩ : MethodName)) hown (mvT hZ (hw _ (List.mem_of_getElem? (i := 6) rfl))) (mvT hZ (hw _ (List.mem_of_getElem? (i := 7) rfl))) (mvT hZ (hw _ (List.mem_of_getElem? (i := 8) rfl))) (mvT hZ (hw _ (List.mem_of_getElem? (i := 9) rfl))) (by decide) (backOf (W := 0) (rm2_3 l Z aw hw [] b1 z133 k1 [(.int (nar .byte z5)), (.int (nar .byte z10)), (.int (nar .byte z15)), (.int (nar .byte z20)), (.int (nar .byte z25)), (.int (nar .byte z30)), (.int (nar .byte z35)), (.int (nar .byte z40))] g h41 n0 Z44 B42 hg (own_hhlo_3_228 p1 z133 hz133 hl45) (own_hhhi_3_228 p1 z133 hz133 hl45)) hZ (hw _ (List.mem_of_getElem? (i := 9) rfl)) (hw _ (List.mem_of_getElem? (i := 8) rfl)) (by decide) (by decide)) (g := (mkF m 228 #[jv q0, .second, iv p1, rv b1, iv 3, iv z133, iv z136, iv z139, iv z142, iv z145, iv z148, iv z151] [(.int 3), (.int z133), (.ref b1)])) rfl (by rw [hml]; rfl) (argsL := [(.ref b1), (.int z133), (.int 3)]) (rest := []) (lenOf pd_1 rfl) rfl (by show 2 * 0 + _ ≤ _; exact Nat.le_of_eq rfl) (hb hby at_228) (fun _ _ => ⟨rfl, e152, (by decide : 1 + 0 ≤ _), (by decide : 8 + 0 ≤ _)⟩)
      dsimp only [Pt.U, Pt.locs, Pt.cells, Pt.slots] at X153 l153 y153 z153 st153 hQ153
      subst l153 y153 z153
      obtain ⟨rfl, N153q, eh153⟩ := hQ153
      have N154 := Fr.app N152 N153q
      refine own_via (fun k => st153 _ k) ?_
      show own_Go p e below s _ _ (T153.setTop (mkF m 231 #[jv q0, .second, iv p1, rv b1, iv 3, iv z133, iv z136, iv z139, iv z142, iv z145, iv z148, iv z151] [(.int (own_f2_3 z133 g))]))
      refine own_via (fun k => XS.iload X153.here hx rfl (hb hby at_231) rfl  k) ?_
      show own_Go p e below s _ _ (T153.setTop (mkF m 233 #[jv q0, .second, iv p1, rv b1, iv 3, iv z133, iv z136, iv z139, iv z142, iv z145, iv z148, iv z151] [(.int z151), (.int (own_f2_3 z133 g))]))
      refine own_via (fun k => XS.icmpNo X153.here hx rfl (hb hby at_233) rfl (teq (own_law3 p1 g z133 hz133 z136 hz136 z139 hz139 z142 hz142 z145 hz145 z148 hz148 z151 hz151 hl45)).2 k) ?_
      show own_Go p e below s _ _ (T153.setTop (mkF m 236 #[jv q0, .second, iv p1, rv b1, iv 3, iv z133, iv z136, iv z139, iv z142, iv z145, iv z148, iv z151] []))
      refine own_via (fun k => XS.iconst X153.here hx rfl (hb hby at_236) (XS.goto X153.here hx rfl (pc0 := 237) (pc' := 241) rfl (hb hby at_237) (by decide) (by decide) k)) ?_
      show own_Go p e below s _ _ (T153.setTop (mkF m 241 #[jv q0, .second, iv p1, rv b1, iv 3, iv z133, iv z136, iv z139, iv z142, iv z145, iv z148, iv z151] [(.int 1)]))
      exact own_retN X153 hx hlk (t := .boolean) Bd.returns (by simp) (hb hby at_241) (Q := (Q0 Z q0 p1 h0 n0)) ⟨rfl, N154⟩ (by decide) (by decide)
    by_cases hc155 : z136 < (0 : Int32)
    · refine own_via (fun k => XS.ifYes X146.here hx rfl (pc0 := 156) (pc' := 179) rfl (hb hby at_156) rfl ((if0 _ _).trans (tlt hc155).1) (by decide) (by decide) k) ?_
      show own_Go p e below s _ _ (T146.setTop (mkF m 179 #[jv q0, .second, iv p1, rv b1, iv 3, iv z133, iv z136, iv z139, iv z142, iv z145, iv z148, .unset] []))
      refine own_via (fun k => XS.iconst X146.here hx rfl (hb hby at_179) (XS.istore X146.here hx rfl (hb hby at_180) rfl (l' := #[jv q0, .second, iv p1, rv b1, iv 3, iv z133, iv z136, iv z139, iv z142, iv z145, iv z148, iv (-1)]) rfl (XS.goto X146.here hx rfl (pc0 := 182) (pc' := 223) rfl (hb hby at_182) (by decide) (by decide) k))) ?_
      show own_Go p e below s _ _ (T146.setTop (mkF m 223 #[jv q0, .second, iv p1, rv b1, iv 3, iv z133, iv z136, iv z139, iv z142, iv z145, iv z148, iv (-1)] []))
      exact J152 _ _ X146 N147 eh146 (-1 : Int32) (((if_pos hc155).trans rfl)).symm
    · refine own_via (fun k => XS.ifNo X146.here hx rfl (hb hby at_156) rfl ((if0 _ _).trans (flt hc155).1) k) ?_
      show own_Go p e below s _ _ (T146.setTop (mkF m 159 #[jv q0, .second, iv p1, rv b1, iv 3, iv z133, iv z136, iv z139, iv z142, iv z145, iv z148, .unset] []))
      refine own_via (fun k => XS.iload X146.here hx rfl (hb hby at_159) rfl  k) ?_
      show own_Go p e below s _ _ (T146.setTop (mkF m 161 #[jv q0, .second, iv p1, rv b1, iv 3, iv z133, iv z136, iv z139, iv z142, iv z145, iv z148, .unset] [(.int z139)]))
      by_cases hc156 : z139 < (0 : Int32)
      · refine own_via (fun k => XS.ifYes X146.here hx rfl (pc0 := 161) (pc' := 179) rfl (hb hby at_161) rfl ((if0 _ _).trans (tlt hc156).1) (by decide) (by decide) k) ?_
        show own_Go p e below s _ _ (T146.setTop (mkF m 179 #[jv q0, .second, iv p1, rv b1, iv 3, iv z133, iv z136, iv z139, iv z142, iv z145, iv z148, .unset] []))
        refine own_via (fun k => XS.iconst X146.here hx rfl (hb hby at_179) (XS.istore X146.here hx rfl (hb hby at_180) rfl (l' := #[jv q0, .second, iv p1, rv b1, iv 3, iv z133, iv z136, iv z139, iv z142, iv z145, iv z148, iv (-1)]) rfl (XS.goto X146.here hx rfl (pc0 := 182) (pc' := 223) rfl (hb hby at_182) (by decide) (by decide) k))) ?_
        show own_Go p e below s _ _ (T146.setTop (mkF m 223 #[jv q0, .second, iv p1, rv b1, iv 3, iv z133, iv z136, iv z139, iv z142, iv z145, iv z148, iv (-1)] []))
        exact J152 _ _ X146 N147 eh146 (-1 : Int32) (((if_neg hc155).trans ((if_pos hc156).trans rfl))).symm
      · refine own_via (fun k => XS.ifNo X146.here hx rfl (hb hby at_161) rfl ((if0 _ _).trans (flt hc156).1) k) ?_
        show own_Go p e below s _ _ (T146.setTop (mkF m 164 #[jv q0, .second, iv p1, rv b1, iv 3, iv z133, iv z136, iv z139, iv z142, iv z145, iv z148, .unset] []))
        refine own_via (fun k => XS.iload X146.here hx rfl (hb hby at_164) rfl  k) ?_
        show own_Go p e below s _ _ (T146.setTop (mkF m 166 #[jv q0, .second, iv p1, rv b1, iv 3, iv z133, iv z136, iv z139, iv z142, iv z145, iv z148, .unset] [(.int z142)]))
        by_cases hc157 : z142 < (0 : Int32)
        · refine own_via (fun k => XS.ifYes X146.here hx rfl (pc0 := 166) (pc' := 179) rfl (hb hby at_166) rfl ((if0 _ _).trans (tlt hc157).1) (by decide) (by decide) k) ?_
          show own_Go p e below s _ _ (T146.setTop (mkF m 179 #[jv q0, .second, iv p1, rv b1, iv 3, iv z133, iv z136, iv z139, iv z142, iv z145, iv z148, .unset] []))
          refine own_via (fun k => XS.iconst X146.here hx rfl (hb hby at_179) (XS.istore X146.here hx rfl (hb hby at_180) rfl (l' := #[jv q0, .second, iv p1, rv b1, iv 3, iv z133, iv z136, iv z139, iv z142, iv z145, iv z148, iv (-1)]) rfl (XS.goto X146.here hx rfl (pc0 := 182) (pc' := 223) rfl (hb hby at_182) (by decide) (by decide) k))) ?_
          show own_Go p e below s _ _ (T146.setTop (mkF m 223 #[jv q0, .second, iv p1, rv b1, iv 3, iv z133, iv z136, iv z139, iv z142, iv z145, iv z148, iv (-1)] []))
          exact J152 _ _ X146 N147 eh146 (-1 : Int32) (((if_neg hc155).trans ((if_neg hc156).trans ((if_pos hc157).trans rfl)))).symm
        · refine own_via (fun k => XS.ifNo X146.here hx rfl (hb hby at_166) rfl ((if0 _ _).trans (flt hc157).1) k) ?_
          show own_Go p e below s _ _ (T146.setTop (mkF m 169 #[jv q0, .second, iv p1, rv b1, iv 3, iv z133, iv z136, iv z139, iv z142, iv z145, iv z148, .unset] []))
          refine own_via (fun k => XS.iload X146.here hx rfl (hb hby at_169) rfl  k) ?_
          show own_Go p e below s _ _ (T146.setTop (mkF m 171 #[jv q0, .second, iv p1, rv b1, iv 3, iv z133, iv z136, iv z139, iv z142, iv z145, iv z148, .unset] [(.int z145)]))
          by_cases hc158 : z145 < (0 : Int32)
          · refine own_via (fun k => XS.ifYes X146.here hx rfl (pc0 := 171) (pc' := 179) rfl (hb hby at_171) rfl ((if0 _ _).trans (tlt hc158).1) (by decide) (by decide) k) ?_
            show own_Go p e below s _ _ (T146.setTop (mkF m 179 #[jv q0, .second, iv p1, rv b1, iv 3, iv z133, iv z136, iv z139, iv z142, iv z145, iv z148, .unset] []))
            refine own_via (fun k => XS.iconst X146.here hx rfl (hb hby at_179) (XS.istore X146.here hx rfl (hb hby at_180) rfl (l' := #[jv q0, .second, iv p1, rv b1, iv 3, iv z133, iv z136, iv z139, iv z142, iv z145, iv z148, iv (-1)]) rfl (XS.goto X146.here hx rfl (pc0 := 182) (pc' := 223) rfl (hb hby at_182) (by decide) (by decide) k))) ?_
            show own_Go p e below s _ _ (T146.setTop (mkF m 223 #[jv q0, .second, iv p1, rv b1, iv 3, iv z133, iv z136, iv z139, iv z142, iv z145, iv z148, iv (-1)] []))
            exact J152 _ _ X146 N147 eh146 (-1 : Int32) (((if_neg hc155).trans ((if_neg hc156).trans ((if_neg hc157).trans ((if_pos hc158).trans rfl))))).symm
          · refine own_via (fun k => XS.ifNo X146.here hx rfl (hb hby at_171) rfl ((if0 _ _).trans (flt hc158).1) k) ?_
            show own_Go p e below s _ _ (T146.setTop (mkF m 174 #[jv q0, .second, iv p1, rv b1, iv 3, iv z133, iv z136, iv z139, iv z142, iv z145, iv z148, .unset] []))
            refine own_via (fun k => XS.iload X146.here hx rfl (hb hby at_174) rfl  k) ?_
            show own_Go p e below s _ _ (T146.setTop (mkF m 176 #[jv q0, .second, iv p1, rv b1, iv 3, iv z133, iv z136, iv z139, iv z142, iv z145, iv z148, .unset] [(.int z148)]))
            by_cases hc159 : z148 < (0 : Int32)
            · refine own_via (fun k => XS.ifNo X146.here hx rfl (hb hby at_176) rfl ((if0 _ _).trans (tlt hc159).2.1) k) ?_
              show own_Go p e below s _ _ (T146.setTop (mkF m 179 #[jv q0, .second, iv p1, rv b1, iv 3, iv z133, iv z136, iv z139, iv z142, iv z145, iv z148, .unset] []))
              refine own_via (fun k => XS.iconst X146.here hx rfl (hb hby at_179) (XS.istore X146.here hx rfl (hb hby at_180) rfl (l' := #[jv q0, .second, iv p1, rv b1, iv 3, iv z133, iv z136, iv z139, iv z142, iv z145, iv z148, iv (-1)]) rfl (XS.goto X146.here hx rfl (pc0 := 182) (pc' := 223) rfl (hb hby at_182) (by decide) (by decide) k))) ?_
              show own_Go p e below s _ _ (T146.setTop (mkF m 223 #[jv q0, .second, iv p1, rv b1, iv 3, iv z133, iv z136, iv z139, iv z142, iv z145, iv z148, iv (-1)] []))
              exact J152 _ _ X146 N147 eh146 (-1 : Int32) (((if_neg hc155).trans ((if_neg hc156).trans ((if_neg hc157).trans ((if_neg hc158).trans ((if_pos hc159).trans rfl)))))).symm
            · refine own_via (fun k => XS.ifYes X146.here hx rfl (pc0 := 176) (pc' := 185) rfl (hb hby at_176) rfl ((if0 _ _).trans (flt hc159).2.1) (by decide) (by decide) k) ?_
              show own_Go p e below s _ _ (T146.setTop (mkF m 185 #[jv q0, .second, iv p1, rv b1, iv 3, iv z133, iv z136, iv z139, iv z142, iv z145, iv z148, .unset] []))
              refine own_via (fun k => XS.iload X146.here hx rfl (hb hby at_185) rfl  (XS.sipush X146.here hx rfl (hb hby at_187) (XS.imul X146.here hx rfl (hb hby at_190) rfl (XS.iload X146.here hx rfl (hb hby at_191) rfl  k)))) ?_
              show own_Go p e below s _ _ (T146.setTop (mkF m 193 #[jv q0, .second, iv p1, rv b1, iv 3, iv z133, iv z136, iv z139, iv z142, iv z145, iv z148, .unset] [(.int z139), (.int (z136 * (10000 : Int32)))]))
              refine own_via (fun k => XS.sipush X146.here hx rfl (hb hby at_193) (XS.imul X146.here hx rfl (hb hby at_196) rfl (XS.iadd X146.here hx rfl (hb hby at_197) rfl (XS.iload X146.here hx rfl (hb hby at_198) rfl  k)))) ?_
              show own_Go p e below s _ _ (T146.setTop (mkF m 200 #[jv q0, .second, iv p1, rv b1, iv 3, iv z133, iv z136, iv z139, iv z142, iv z145, iv z148, .unset] [(.int z142), (.int ((z136 * (10000 : Int32)) + (z139 * (1000 : Int32))))]))
              refine own_via (fun k => XS.bipush X146.here hx rfl (hb hby at_200) (XS.imul X146.here hx rfl (hb hby at_202) rfl (XS.iadd X146.here hx rfl (hb hby at_203) rfl (XS.iload X146.here hx rfl (hb hby at_204) rfl  k)))) ?_
              show own_Go p e below s _ _ (T146.setTop (mkF m 206 #[jv q0, .second, iv p1, rv b1, iv 3, iv z133, iv z136, iv z139, iv z142, iv z145, iv z148, .unset] [(.int z145), (.int (((z136 * (10000 : Int32)) + (z139 * (1000 : Int32))) + (z142 * (100 : Int32))))]))
              refine own_via (fun k => XS.bipush X146.here hx rfl (hb hby at_206) (XS.imul X146.here hx rfl (hb hby at_208) rfl (XS.iadd X146.here hx rfl (hb hby at_209) rfl (XS.iload X146.here hx rfl (hb hby at_210) rfl  k)))) ?_
              show own_Go p e below s _ _ (T146.setTop (mkF m 212 #[jv q0, .second, iv p1, rv b1, iv 3, iv z133, iv z136, iv z139, iv z142, iv z145, iv z148, .unset] [(.int z148), (.int ((((z136 * (10000 : Int32)) + (z139 * (1000 : Int32))) + (z142 * (100 : Int32))) + (z145 * (10 : Int32))))]))
              refine own_via (fun k => XS.iadd X146.here hx rfl (hb hby at_212) rfl (XS.iconst X146.here hx rfl (hb hby at_213) (XS.iload X146.here hx rfl (hb hby at_214) rfl  (XS.isub X146.here hx rfl (hb hby at_216) rfl k)))) ?_
              show own_Go p e below s _ _ (T146.setTop (mkF m 217 #[jv q0, .second, iv p1, rv b1, iv 3, iv z133, iv z136, iv z139, iv z142, iv z145, iv z148, .unset] [(.int 2), (.int (((((z136 * (10000 : Int32)) + (z139 * (1000 : Int32))) + (z142 * (100 : Int32))) + (z145 * (10 : Int32))) + z148))]))
              obtain ⟨_, _, ⟨T160, L160, k160, n160⟩, -, X160, ⟨Lc160, hQ160, l160, y160, z160⟩, st160⟩ := Jvm.LawKit.callS X146 hx (y := (⟨"organico/records/Iso2709DigitsPinLaw", "pow10", "(I)I"⟩ : MethodName)) hown (mvT hZ (hw _ (List.mem_of_getElem? (i := 10) rfl))) (mvT hZ (hw _ (List.mem_of_getElem? (i := 11) rfl))) (mvT hZ (hw _ (List.mem_of_getElem? (i := 4) rfl))) (mvT hZ (hw _ (List.mem_of_getElem? (i := 12) rfl))) (by decide) (backOf (W := 1) (rm3 l Z aw hw [] (2 : Int32) h41 n0 Z44) hZ (hw _ (List.mem_of_getElem? (i := 12) rfl)) (hw _ (List.mem_of_getElem? (i := 4) rfl)) (by decide) (by decide)) (g := (mkF m 217 #[jv q0, .second, iv p1, rv b1, iv 3, iv z133, iv z136, iv z139, iv z142, iv z145, iv z148, .unset] [(.int 2), (.int (((((z136 * (10000 : Int32)) + (z139 * (1000 : Int32))) + (z142 * (100 : Int32))) + (z145 * (10 : Int32))) + z148))])) rfl (by rw [hml]; rfl) (argsL := [(.int 2)]) (rest := [(.int (((((z136 * (10000 : Int32)) + (z139 * (1000 : Int32))) + (z142 * (100 : Int32))) + (z145 * (10 : Int32))) + z148))]) (lenOf pd_2 rfl) rfl (by show 2 * 0 + _ ≤ _; exact Nat.le_of_eq rfl) (hb hby at_217) (fun _ _ => ⟨rfl, eh146, (by decide : 1 + 0 ≤ _), (by decide : 8 + 0 ≤ _)⟩)
              dsimp only [Pt.U, Pt.locs, Pt.cells, Pt.slots] at X160 l160 y160 z160 st160 hQ160
              subst l160 y160 z160
              obtain ⟨rfl, N160q, eh160⟩ := hQ160
              have N161 := Fr.app N147 N160q
              refine own_via (fun k => st160 _ k) ?_
              show own_Go p e below s _ _ (T160.setTop (mkF m 220 #[jv q0, .second, iv p1, rv b1, iv 3, iv z133, iv z136, iv z139, iv z142, iv z145, iv z148, .unset] [(.int (own_f3 (2 : Int32))), (.int (((((z136 * (10000 : Int32)) + (z139 * (1000 : Int32))) + (z142 * (100 : Int32))) + (z145 * (10 : Int32))) + z148))]))
              refine own_via (fun k => XS.idiv X160.here hx rfl (hb hby at_220) rfl (own_nz3 p1 hl45) (XS.istore X160.here hx rfl (hb hby at_221) rfl (l' := #[jv q0, .second, iv p1, rv b1, iv 3, iv z133, iv z136, iv z139, iv z142, iv z145, iv z148, iv ((((((z136 * (10000 : Int32)) + (z139 * (1000 : Int32))) + (z142 * (100 : Int32))) + (z145 * (10 : Int32))) + z148) / (own_f3 (2 : Int32)))]) rfl k)) ?_
              show own_Go p e below s _ _ (T160.setTop (mkF m 223 #[jv q0, .second, iv p1, rv b1, iv 3, iv z133, iv z136, iv z139, iv z142, iv z145, iv z148, iv ((((((z136 * (10000 : Int32)) + (z139 * (1000 : Int32))) + (z142 * (100 : Int32))) + (z145 * (10 : Int32))) + z148) / (own_f3 (2 : Int32)))] []))
              exact J152 _ _ X160 N161 eh160 ((((((z136 * (10000 : Int32)) + (z139 * (1000 : Int32))) + (z142 * (100 : Int32))) + (z145 * (10 : Int32))) + z148) / (own_f3 (2 : Int32))) (((if_neg hc155).trans ((if_neg hc156).trans ((if_neg hc157).trans ((if_neg hc158).trans ((if_neg hc159).trans rfl)))))).symm
  · rw [hl45]
    show own_Go p e below s _ _ (T41.setTop (mkF m 85 #[jv q0, .second, iv p1, rv b1, iv 4, .unset, .unset, .unset, .unset, .unset, .unset, .unset] []))
    refine own_via (fun k => XS.iloadN X41.here hx rfl (hb hby at_85) rfl  (XS.iconst X41.here hx rfl (hb hby at_86) (XS.iushr X41.here hx rfl (hb hby at_87) rfl (X41.ldcInt hx hown (mvT hZ (hw _ (List.mem_of_getElem? (i := 1) rfl))) (g := (mkF m 88 #[jv q0, .second, iv p1, rv b1, iv 4, .unset, .unset, .unset, .unset, .unset, .unset, .unset] [(.int ((p1.toUInt32 >>> ((3 : Int32) &&& 31).toUInt32).toInt32))])) rfl (hb hby at_88) _ k)))) ?_
    show own_Go p e below s _ _ (T41.setTop (mkF m 90 #[jv q0, .second, iv p1, rv b1, iv 4, .unset, .unset, .unset, .unset, .unset, .unset, .unset] [(.int 2147483647), (.int ((p1.toUInt32 >>> ((3 : Int32) &&& 31).toUInt32).toInt32))]))
    refine own_via (fun k => XS.iand X41.here hx rfl (hb hby at_90) rfl (XS.bipush X41.here hx rfl (hb hby at_91) (XS.iload X41.here hx rfl (hb hby at_93) rfl  (XS.isub X41.here hx rfl (hb hby at_95) rfl k)))) ?_
    show own_Go p e below s _ _ (T41.setTop (mkF m 96 #[jv q0, .second, iv p1, rv b1, iv 4, .unset, .unset, .unset, .unset, .unset, .unset, .unset] [(.int 5), (.int (((p1.toUInt32 >>> ((3 : Int32) &&& 31).toUInt32).toInt32) &&& (2147483647 : Int32)))]))
    refine own_via (fun k => Jvm.RoadKit.iremM X41 hx rfl (hb hby at_96) rfl (by decide) k) ?_
    show own_Go p e below s _ _ (T41.setTop (mkF m 97 #[jv q0, .second, iv p1, rv b1, iv 4, .unset, .unset, .unset, .unset, .unset, .unset, .unset] [(.int ((((p1.toUInt32 >>> ((3 : Int32) &&& 31).toUInt32).toInt32) &&& (2147483647 : Int32)) % (5 : Int32)))]))
    obtain ⟨z162, hz162⟩ : ∃ z : Int32, z = ((((p1.toUInt32 >>> ((3 : Int32) &&& 31).toUInt32).toInt32) &&& (2147483647 : Int32)) % (5 : Int32)) := ⟨_, rfl⟩
    rw [← hz162]
    show own_Go p e below s _ _ (T41.setTop (mkF m 97 #[jv q0, .second, iv p1, rv b1, iv 4, .unset, .unset, .unset, .unset, .unset, .unset, .unset] [(.int z162)]))
    refine own_via (fun k => XS.istore X41.here hx rfl (hb hby at_97) rfl (l' := #[jv q0, .second, iv p1, rv b1, iv 4, iv z162, .unset, .unset, .unset, .unset, .unset, .unset]) rfl (XS.aloadN X41.here hx rfl (hb hby at_99) rfl rfl  (XS.iload X41.here hx rfl (hb hby at_100) rfl  (XS.iconst X41.here hx rfl (hb hby at_102) k)))) ?_
    show own_Go p e below s _ _ (T41.setTop (mkF m 103 #[jv q0, .second, iv p1, rv b1, iv 4, iv z162, .unset, .unset, .unset, .unset, .unset, .unset] [(.int 0), (.int z162), (.ref b1)]))
    refine own_via (fun k => XS.iload X41.here hx rfl (hb hby at_103) rfl  k) ?_
    show own_Go p e below s _ _ (T41.setTop (mkF m 105 #[jv q0, .second, iv p1, rv b1, iv 4, iv z162, .unset, .unset, .unset, .unset, .unset, .unset] [(.int 4), (.int 0), (.int z162), (.ref b1)]))
    obtain ⟨_, _, ⟨T163, L163, k163, n163⟩, -, X163, ⟨Lc163, hQ163, l163, y163, z163⟩, st163⟩ := Jvm.LawKit.callS X41 hx (y := (⟨"organico/records/Iso2709DigitsPinLaw", "digitAt", "([BIII)I"⟩ : MethodName)) hown (mvT hZ (hw _ (List.mem_of_getElem? (i := 2) rfl))) (mvT hZ (hw _ (List.mem_of_getElem? (i := 3) rfl))) (mvT hZ (hw _ (List.mem_of_getElem? (i := 4) rfl))) (mvT hZ (hw _ (List.mem_of_getElem? (i := 5) rfl))) (by decide) (backOf (W := 0) (rm1 l Z aw hw [] b1 z162 (0 : Int32) (4 : Int32) k1 [(.int (nar .byte z5)), (.int (nar .byte z10)), (.int (nar .byte z15)), (.int (nar .byte z20)), (.int (nar .byte z25)), (.int (nar .byte z30)), (.int (nar .byte z35)), (.int (nar .byte z40))] g h41 n0 Z44 B42 hg (own_hhin_4_105 p1 z162 hz162 hl45)) hZ (hw _ (List.mem_of_getElem? (i := 5) rfl)) (hw _ (List.mem_of_getElem? (i := 4) rfl)) (by decide) (by decide)) (g := (mkF m 105 #[jv q0, .second, iv p1, rv b1, iv 4, iv z162, .unset, .unset, .unset, .unset, .unset, .unset] [(.int 4), (.int 0), (.int z162), (.ref b1)])) rfl (by rw [hml]; rfl) (argsL := [(.ref b1), (.int z162), (.int 0), (.int 4)]) (rest := []) (lenOf pd_0 rfl) rfl (by show 2 * 0 + _ ≤ _; exact Nat.le_of_eq rfl) (hb hby at_105) (fun _ _ => ⟨rfl, e41, (by decide : 1 + 0 ≤ _), (by decide : 8 + 0 ≤ _)⟩)
    dsimp only [Pt.U, Pt.locs, Pt.cells, Pt.slots] at X163 l163 y163 z163 st163 hQ163
    subst l163 y163 z163
    obtain ⟨rfl, N163q, eh163⟩ := hQ163
    have N164 := Fr.app N43 N163q
    refine own_via (fun k => st163 _ k) ?_
    show own_Go p e below s _ _ (T163.setTop (mkF m 108 #[jv q0, .second, iv p1, rv b1, iv 4, iv z162, .unset, .unset, .unset, .unset, .unset, .unset] [(.int (own_f1 z162 (0 : Int32) (4 : Int32) g))]))
    obtain ⟨z165, hz165⟩ : ∃ z : Int32, z = (own_f1 z162 (0 : Int32) (4 : Int32) g) := ⟨_, rfl⟩
    rw [← hz165]
    show own_Go p e below s _ _ (T163.setTop (mkF m 108 #[jv q0, .second, iv p1, rv b1, iv 4, iv z162, .unset, .unset, .unset, .unset, .unset, .unset] [(.int z165)]))
    refine own_via (fun k => XS.istore X163.here hx rfl (hb hby at_108) rfl (l' := #[jv q0, .second, iv p1, rv b1, iv 4, iv z162, iv z165, .unset, .unset, .unset, .unset, .unset]) rfl (XS.aloadN X163.here hx rfl (hb hby at_110) rfl rfl  (XS.iload X163.here hx rfl (hb hby at_111) rfl  (XS.iconst X163.here hx rfl (hb hby at_113) k)))) ?_
    show own_Go p e below s _ _ (T163.setTop (mkF m 114 #[jv q0, .second, iv p1, rv b1, iv 4, iv z162, iv z165, .unset, .unset, .unset, .unset, .unset] [(.int 1), (.int z162), (.ref b1)]))
    refine own_via (fun k => XS.iload X163.here hx rfl (hb hby at_114) rfl  k) ?_
    show own_Go p e below s _ _ (T163.setTop (mkF m 116 #[jv q0, .second, iv p1, rv b1, iv 4, iv z162, iv z165, .unset, .unset, .unset, .unset, .unset] [(.int 4), (.int 1), (.int z162), (.ref b1)]))
    obtain ⟨_, _, ⟨T166, L166, k166, n166⟩, -, X166, ⟨Lc166, hQ166, l166, y166, z166⟩, st166⟩ := Jvm.LawKit.callS X163 hx (y := (⟨"organico/records/Iso2709DigitsPinLaw", "digitAt", "([BIII)I"⟩ : MethodName)) hown (mvT hZ (hw _ (List.mem_of_getElem? (i := 2) rfl))) (mvT hZ (hw _ (List.mem_of_getElem? (i := 3) rfl))) (mvT hZ (hw _ (List.mem_of_getElem? (i := 4) rfl))) (mvT hZ (hw _ (List.mem_of_getElem? (i := 5) rfl))) (by decide) (backOf (W := 0) (rm1 l Z aw hw [] b1 z162 (1 : Int32) (4 : Int32) k1 [(.int (nar .byte z5)), (.int (nar .byte z10)), (.int (nar .byte z15)), (.int (nar .byte z20)), (.int (nar .byte z25)), (.int (nar .byte z30)), (.int (nar .byte z35)), (.int (nar .byte z40))] g h41 n0 Z44 B42 hg (own_hhin_4_116 p1 z162 hz162 hl45)) hZ (hw _ (List.mem_of_getElem? (i := 5) rfl)) (hw _ (List.mem_of_getElem? (i := 4) rfl)) (by decide) (by decide)) (g := (mkF m 116 #[jv q0, .second, iv p1, rv b1, iv 4, iv z162, iv z165, .unset, .unset, .unset, .unset, .unset] [(.int 4), (.int 1), (.int z162), (.ref b1)])) rfl (by rw [hml]; rfl) (argsL := [(.ref b1), (.int z162), (.int 1), (.int 4)]) (rest := []) (lenOf pd_0 rfl) rfl (by show 2 * 0 + _ ≤ _; exact Nat.le_of_eq rfl) (hb hby at_116) (fun _ _ => ⟨rfl, eh163, (by decide : 1 + 0 ≤ _), (by decide : 8 + 0 ≤ _)⟩)
    dsimp only [Pt.U, Pt.locs, Pt.cells, Pt.slots] at X166 l166 y166 z166 st166 hQ166
    subst l166 y166 z166
    obtain ⟨rfl, N166q, eh166⟩ := hQ166
    have N167 := Fr.app N164 N166q
    refine own_via (fun k => st166 _ k) ?_
    show own_Go p e below s _ _ (T166.setTop (mkF m 119 #[jv q0, .second, iv p1, rv b1, iv 4, iv z162, iv z165, .unset, .unset, .unset, .unset, .unset] [(.int (own_f1 z162 (1 : Int32) (4 : Int32) g))]))
    obtain ⟨z168, hz168⟩ : ∃ z : Int32, z = (own_f1 z162 (1 : Int32) (4 : Int32) g) := ⟨_, rfl⟩
    rw [← hz168]
    show own_Go p e below s _ _ (T166.setTop (mkF m 119 #[jv q0, .second, iv p1, rv b1, iv 4, iv z162, iv z165, .unset, .unset, .unset, .unset, .unset] [(.int z168)]))
    refine own_via (fun k => XS.istore X166.here hx rfl (hb hby at_119) rfl (l' := #[jv q0, .second, iv p1, rv b1, iv 4, iv z162, iv z165, iv z168, .unset, .unset, .unset, .unset]) rfl (XS.aloadN X166.here hx rfl (hb hby at_121) rfl rfl  (XS.iload X166.here hx rfl (hb hby at_122) rfl  (XS.iconst X166.here hx rfl (hb hby at_124) k)))) ?_
    show own_Go p e below s _ _ (T166.setTop (mkF m 125 #[jv q0, .second, iv p1, rv b1, iv 4, iv z162, iv z165, iv z168, .unset, .unset, .unset, .unset] [(.int 2), (.int z162), (.ref b1)]))
    refine own_via (fun k => XS.iload X166.here hx rfl (hb hby at_125) rfl  k) ?_
    show own_Go p e below s _ _ (T166.setTop (mkF m 127 #[jv q0, .second, iv p1, rv b1, iv 4, iv z162, iv z165, iv z168, .unset, .unset, .unset, .unset] [(.int 4), (.int 2), (.int z162), (.ref b1)]))
    obtain ⟨_, _, ⟨T169, L169, k169, n169⟩, -, X169, ⟨Lc169, hQ169, l169, y169, z169⟩, st169⟩ := Jvm.LawKit.callS X166 hx (y := (⟨"organico/records/Iso2709DigitsPinLaw", "digitAt", "([BIII)I"⟩ : MethodName)) hown (mvT hZ (hw _ (List.mem_of_getElem? (i := 2) rfl))) (mvT hZ (hw _ (List.mem_of_getElem? (i := 3) rfl))) (mvT hZ (hw _ (List.mem_of_getElem? (i := 4) rfl))) (mvT hZ (hw _ (List.mem_of_getElem? (i := 5) rfl))) (by decide) (backOf (W := 0) (rm1 l Z aw hw [] b1 z162 (2 : Int32) (4 : Int32) k1 [(.int (nar .byte z5)), (.int (nar .byte z10)), (.int (nar .byte z15)), (.int (nar .byte z20)), (.int (nar .byte z25)), (.int (nar .byte z30)), (.int (nar .byte z35)), (.int (nar .byte z40))] g h41 n0 Z44 B42 hg (own_hhin_4_127 p1 z162 hz162 hl45)) hZ (hw _ (List.mem_of_getElem? (i := 5) rfl)) (hw _ (List.mem_of_getElem? (i := 4) rfl)) (by decide) (by decide)) (g := (mkF m 127 #[jv q0, .second, iv p1, rv b1, iv 4, iv z162, iv z165, iv z168, .unset, .unset, .unset, .unset] [(.int 4), (.int 2), (.int z162), (.ref b1)])) rfl (by rw [hml]; rfl) (argsL := [(.ref b1), (.int z162), (.int 2), (.int 4)]) (rest := []) (lenOf pd_0 rfl) rfl (by show 2 * 0 + _ ≤ _; exact Nat.le_of_eq rfl) (hb hby at_127) (fun _ _ => ⟨rfl, eh166, (by decide : 1 + 0 ≤ _), (by decide : 8 + 0 ≤ _)⟩)
    dsimp only [Pt.U, Pt.locs, Pt.cells, Pt.slots] at X169 l169 y169 z169 st169 hQ169
    subst l169 y169 z169
    obtain ⟨rfl, N169q, eh169⟩ := hQ169
    have N170 := Fr.app N167 N169q
    refine own_via (fun k => st169 _ k) ?_
    show own_Go p e below s _ _ (T169.setTop (mkF m 130 #[jv q0, .second, iv p1, rv b1, iv 4, iv z162, iv z165, iv z168, .unset, .unset, .unset, .unset] [(.int (own_f1 z162 (2 : Int32) (4 : Int32) g))]))
    obtain ⟨z171, hz171⟩ : ∃ z : Int32, z = (own_f1 z162 (2 : Int32) (4 : Int32) g) := ⟨_, rfl⟩
    rw [← hz171]
    show own_Go p e below s _ _ (T169.setTop (mkF m 130 #[jv q0, .second, iv p1, rv b1, iv 4, iv z162, iv z165, iv z168, .unset, .unset, .unset, .unset] [(.int z171)]))
    refine own_via (fun k => XS.istore X169.here hx rfl (hb hby at_130) rfl (l' := #[jv q0, .second, iv p1, rv b1, iv 4, iv z162, iv z165, iv z168, iv z171, .unset, .unset, .unset]) rfl (XS.aloadN X169.here hx rfl (hb hby at_132) rfl rfl  (XS.iload X169.here hx rfl (hb hby at_133) rfl  (XS.iconst X169.here hx rfl (hb hby at_135) k)))) ?_
    show own_Go p e below s _ _ (T169.setTop (mkF m 136 #[jv q0, .second, iv p1, rv b1, iv 4, iv z162, iv z165, iv z168, iv z171, .unset, .unset, .unset] [(.int 3), (.int z162), (.ref b1)]))
    refine own_via (fun k => XS.iload X169.here hx rfl (hb hby at_136) rfl  k) ?_
    show own_Go p e below s _ _ (T169.setTop (mkF m 138 #[jv q0, .second, iv p1, rv b1, iv 4, iv z162, iv z165, iv z168, iv z171, .unset, .unset, .unset] [(.int 4), (.int 3), (.int z162), (.ref b1)]))
    obtain ⟨_, _, ⟨T172, L172, k172, n172⟩, -, X172, ⟨Lc172, hQ172, l172, y172, z172⟩, st172⟩ := Jvm.LawKit.callS X169 hx (y := (⟨"organico/records/Iso2709DigitsPinLaw", "digitAt", "([BIII)I"⟩ : MethodName)) hown (mvT hZ (hw _ (List.mem_of_getElem? (i := 2) rfl))) (mvT hZ (hw _ (List.mem_of_getElem? (i := 3) rfl))) (mvT hZ (hw _ (List.mem_of_getElem? (i := 4) rfl))) (mvT hZ (hw _ (List.mem_of_getElem? (i := 5) rfl))) (by decide) (backOf (W := 0) (rm1 l Z aw hw [] b1 z162 (3 : Int32) (4 : Int32) k1 [(.int (nar .byte z5)), (.int (nar .byte z10)), (.int (nar .byte z15)), (.int (nar .byte z20)), (.int (nar .byte z25)), (.int (nar .byte z30)), (.int (nar .byte z35)), (.int (nar .byte z40))] g h41 n0 Z44 B42 hg (own_hhin_4_138 p1 z162 hz162 hl45)) hZ (hw _ (List.mem_of_getElem? (i := 5) rfl)) (hw _ (List.mem_of_getElem? (i := 4) rfl)) (by decide) (by decide)) (g := (mkF m 138 #[jv q0, .second, iv p1, rv b1, iv 4, iv z162, iv z165, iv z168, iv z171, .unset, .unset, .unset] [(.int 4), (.int 3), (.int z162), (.ref b1)])) rfl (by rw [hml]; rfl) (argsL := [(.ref b1), (.int z162), (.int 3), (.int 4)]) (rest := []) (lenOf pd_0 rfl) rfl (by show 2 * 0 + _ ≤ _; exact Nat.le_of_eq rfl) (hb hby at_138) (fun _ _ => ⟨rfl, eh169, (by decide : 1 + 0 ≤ _), (by decide : 8 + 0 ≤ _)⟩)
    dsimp only [Pt.U, Pt.locs, Pt.cells, Pt.slots] at X172 l172 y172 z172 st172 hQ172
    subst l172 y172 z172
    obtain ⟨rfl, N172q, eh172⟩ := hQ172
    have N173 := Fr.app N170 N172q
    refine own_via (fun k => st172 _ k) ?_
    show own_Go p e below s _ _ (T172.setTop (mkF m 141 #[jv q0, .second, iv p1, rv b1, iv 4, iv z162, iv z165, iv z168, iv z171, .unset, .unset, .unset] [(.int (own_f1 z162 (3 : Int32) (4 : Int32) g))]))
    obtain ⟨z174, hz174⟩ : ∃ z : Int32, z = (own_f1 z162 (3 : Int32) (4 : Int32) g) := ⟨_, rfl⟩
    rw [← hz174]
    show own_Go p e below s _ _ (T172.setTop (mkF m 141 #[jv q0, .second, iv p1, rv b1, iv 4, iv z162, iv z165, iv z168, iv z171, .unset, .unset, .unset] [(.int z174)]))
    refine own_via (fun k => XS.istore X172.here hx rfl (hb hby at_141) rfl (l' := #[jv q0, .second, iv p1, rv b1, iv 4, iv z162, iv z165, iv z168, iv z171, iv z174, .unset, .unset]) rfl (XS.aloadN X172.here hx rfl (hb hby at_143) rfl rfl  (XS.iload X172.here hx rfl (hb hby at_144) rfl  (XS.iconst X172.here hx rfl (hb hby at_146) k)))) ?_
    show own_Go p e below s _ _ (T172.setTop (mkF m 147 #[jv q0, .second, iv p1, rv b1, iv 4, iv z162, iv z165, iv z168, iv z171, iv z174, .unset, .unset] [(.int 4), (.int z162), (.ref b1)]))
    refine own_via (fun k => XS.iload X172.here hx rfl (hb hby at_147) rfl  k) ?_
    show own_Go p e below s _ _ (T172.setTop (mkF m 149 #[jv q0, .second, iv p1, rv b1, iv 4, iv z162, iv z165, iv z168, iv z171, iv z174, .unset, .unset] [(.int 4), (.int 4), (.int z162), (.ref b1)]))
    obtain ⟨_, _, ⟨T175, L175, k175, n175⟩, -, X175, ⟨Lc175, hQ175, l175, y175, z175⟩, st175⟩ := Jvm.LawKit.callS X172 hx (y := (⟨"organico/records/Iso2709DigitsPinLaw", "digitAt", "([BIII)I"⟩ : MethodName)) hown (mvT hZ (hw _ (List.mem_of_getElem? (i := 2) rfl))) (mvT hZ (hw _ (List.mem_of_getElem? (i := 3) rfl))) (mvT hZ (hw _ (List.mem_of_getElem? (i := 4) rfl))) (mvT hZ (hw _ (List.mem_of_getElem? (i := 5) rfl))) (by decide) (backOf (W := 0) (rm1 l Z aw hw [] b1 z162 (4 : Int32) (4 : Int32) k1 [(.int (nar .byte z5)), (.int (nar .byte z10)), (.int (nar .byte z15)), (.int (nar .byte z20)), (.int (nar .byte z25)), (.int (nar .byte z30)), (.int (nar .byte z35)), (.int (nar .byte z40))] g h41 n0 Z44 B42 hg (own_hhin_4_149 p1 z162 hz162 hl45)) hZ (hw _ (List.mem_of_getElem? (i := 5) rfl)) (hw _ (List.mem_of_getElem? (i := 4) rfl)) (by decide) (by decide)) (g := (mkF m 149 #[jv q0, .second, iv p1, rv b1, iv 4, iv z162, iv z165, iv z168, iv z171, iv z174, .unset, .unset] [(.int 4), (.int 4), (.int z162), (.ref b1)])) rfl (by rw [hml]; rfl) (argsL := [(.ref b1), (.int z162), (.int 4), (.int 4)]) (rest := []) (lenOf pd_0 rfl) rfl (by show 2 * 0 + _ ≤ _; exact Nat.le_of_eq rfl) (hb hby at_149) (fun _ _ => ⟨rfl, eh172, (by decide : 1 + 0 ≤ _), (by decide : 8 + 0 ≤ _)⟩)
    dsimp only [Pt.U, Pt.locs, Pt.cells, Pt.slots] at X175 l175 y175 z175 st175 hQ175
    subst l175 y175 z175
    obtain ⟨rfl, N175q, eh175⟩ := hQ175
    have N176 := Fr.app N173 N175q
    refine own_via (fun k => st175 _ k) ?_
    show own_Go p e below s _ _ (T175.setTop (mkF m 152 #[jv q0, .second, iv p1, rv b1, iv 4, iv z162, iv z165, iv z168, iv z171, iv z174, .unset, .unset] [(.int (own_f1 z162 (4 : Int32) (4 : Int32) g))]))
    obtain ⟨z177, hz177⟩ : ∃ z : Int32, z = (own_f1 z162 (4 : Int32) (4 : Int32) g) := ⟨_, rfl⟩
    rw [← hz177]
    show own_Go p e below s _ _ (T175.setTop (mkF m 152 #[jv q0, .second, iv p1, rv b1, iv 4, iv z162, iv z165, iv z168, iv z171, iv z174, .unset, .unset] [(.int z177)]))
    refine own_via (fun k => XS.istore X175.here hx rfl (hb hby at_152) rfl (l' := #[jv q0, .second, iv p1, rv b1, iv 4, iv z162, iv z165, iv z168, iv z171, iv z174, iv z177, .unset]) rfl (XS.iload X175.here hx rfl (hb hby at_154) rfl  k)) ?_
    show own_Go p e below s _ _ (T175.setTop (mkF m 156 #[jv q0, .second, iv p1, rv b1, iv 4, iv z162, iv z165, iv z168, iv z171, iv z174, iv z177, .unset] [(.int z165)]))
    have J181 : ∀ (T181 : State) (lo181 : List Loc), Stand p l e room_1 s m #[(.long q0), (.int p1)] below meth c T181 lo181 1 8 → Fr n0 lo181 → T181.heap = h41 → ∀ (z180 : Int32), z180 = (if z165 < (0 : Int32) then (-1 : Int32) else (if z168 < (0 : Int32) then (-1 : Int32) else (if z171 < (0 : Int32) then (-1 : Int32) else (if z174 < (0 : Int32) then (-1 : Int32) else (if z177 < (0 : Int32) then (-1 : Int32) else ((((((z165 * (10000 : Int32)) + (z168 * (1000 : Int32))) + (z171 * (100 : Int32))) + (z174 * (10 : Int32))) + z177) / (own_f3 (1 : Int32)))))))) → own_Go p e below s (Q0 Z q0 p1 h0 n0) (room_1.cells, room_1.slots) (T181.setTop (mkF m 223 #[jv q0, .second, iv p1, rv b1, iv 4, iv z162, iv z165, iv z168, iv z171, iv z174, iv z177, iv z180] [])) := by
      intro T181 lo181 X181 N181 e181 z180 hz180
      refine own_via (fun k => XS.aloadN X181.here hx rfl (hb hby at_223) rfl rfl  (XS.iload X181.here hx rfl (hb hby at_224) rfl  (XS.iload X181.here hx rfl (hb hby at_226) rfl  k))) ?_
      show own_Go p e below s _ _ (T181.setTop (mkF m 228 #[jv q0, .second, iv p1, rv b1, iv 4, iv z162, iv z165, iv z168, iv z171, iv z174, iv z177, iv z180] [(.int 4), (.int z162), (.ref b1)]))
      obtain ⟨_, _, ⟨T182, L182, k182, n182⟩, -, X182, ⟨Lc182, hQ182, l182, y182, z182⟩, st182⟩ := Jvm.LawKit.callS X181 hx (y := (⟨"organico/records/Iso2709", "digits", "([BII)I"⟩ : MethodName)) hown (mvT hZ (hw _ (List.mem_of_getElem? (i := 6) rfl))) (mvT hZ (hw _ (List.mem_of_getElem? (i := 7) rfl))) (mvT hZ (hw _ (List.mem_of_getElem? (i := 8) rfl))) (mvT hZ (hw _ (List.mem_of_getElem? (i := 9) rfl))) (by decide) (backOf (W := 0) (rm2_4 l Z aw hw [] b1 z162 k1 [(.int (nar .byte z5)), (.int (nar .byte z10)), (.int (nar .byte z15)), (.int (nar .byte z20)), (.int (nar .byte z25)), (.int (nar .byte z30)), (.int (nar .byte z35)), (.int (nar .byte z40))] g h41 n0 Z44 B42 hg (own_hhlo_4_228 p1 z162 hz162 hl45) (own_hhhi_4_228 p1 z162 hz162 hl45)) hZ (hw _ (List.mem_of_getElem? (i := 9) rfl)) (hw _ (List.mem_of_getElem? (i := 8) rfl)) (by decide) (by decide)) (g := (mkF m 228 #[jv q0, .second, iv p1, rv b1, iv 4, iv z162, iv z165, iv z168, iv z171, iv z174, iv z177, iv z180] [(.int 4), (.int z162), (.ref b1)])) rfl (by rw [hml]; rfl) (argsL := [(.ref b1), (.int z162), (.int 4)]) (rest := []) (lenOf pd_1 rfl) rfl (by show 2 * 0 + _ ≤ _; exact Nat.le_of_eq rfl) (hb hby at_228) (fun _ _ => ⟨rfl, e181, (by decide : 1 + 0 ≤ _), (by decide : 8 + 0 ≤ _)⟩)
      dsimp only [Pt.U, Pt.locs, Pt.cells, Pt.slots] at X182 l182 y182 z182 st182 hQ182
      subst l182 y182 z182
      obtain ⟨rfl, N182q, eh182⟩ := hQ182
      have N183 := Fr.app N181 N182q
      refine own_via (fun k => st182 _ k) ?_
      show own_Go p e below s _ _ (T182.setTop (mkF m 231 #[jv q0, .second, iv p1, rv b1, iv 4, iv z162, iv z165, iv z168, iv z171, iv z174, iv z177, iv z180] [(.int (own_f2_4 z162 g))]))
      refine own_via (fun k => XS.iload X182.here hx rfl (hb hby at_231) rfl  k) ?_
      show own_Go p e below s _ _ (T182.setTop (mkF m 233 #[jv q0, .second, iv p1, rv b1, iv 4, iv z162, iv z165, iv z168, iv z171, iv z174, iv z177, iv z180] [(.int z180), (.int (own_f2_4 z162 g))]))
      refine own_via (fun k => XS.icmpNo X182.here hx rfl (hb hby at_233) rfl (teq (own_law4 p1 g z162 hz162 z165 hz165 z168 hz168 z171 hz171 z174 hz174 z177 hz177 z180 hz180 hl45)).2 k) ?_
      show own_Go p e below s _ _ (T182.setTop (mkF m 236 #[jv q0, .second, iv p1, rv b1, iv 4, iv z162, iv z165, iv z168, iv z171, iv z174, iv z177, iv z180] []))
      refine own_via (fun k => XS.iconst X182.here hx rfl (hb hby at_236) (XS.goto X182.here hx rfl (pc0 := 237) (pc' := 241) rfl (hb hby at_237) (by decide) (by decide) k)) ?_
      show own_Go p e below s _ _ (T182.setTop (mkF m 241 #[jv q0, .second, iv p1, rv b1, iv 4, iv z162, iv z165, iv z168, iv z171, iv z174, iv z177, iv z180] [(.int 1)]))
      exact own_retN X182 hx hlk (t := .boolean) Bd.returns (by simp) (hb hby at_241) (Q := (Q0 Z q0 p1 h0 n0)) ⟨rfl, N183⟩ (by decide) (by decide)
    by_cases hc184 : z165 < (0 : Int32)
    · refine own_via (fun k => XS.ifYes X175.here hx rfl (pc0 := 156) (pc' := 179) rfl (hb hby at_156) rfl ((if0 _ _).trans (tlt hc184).1) (by decide) (by decide) k) ?_
      show own_Go p e below s _ _ (T175.setTop (mkF m 179 #[jv q0, .second, iv p1, rv b1, iv 4, iv z162, iv z165, iv z168, iv z171, iv z174, iv z177, .unset] []))
      refine own_via (fun k => XS.iconst X175.here hx rfl (hb hby at_179) (XS.istore X175.here hx rfl (hb hby at_180) rfl (l' := #[jv q0, .second, iv p1, rv b1, iv 4, iv z162, iv z165, iv z168, iv z171, iv z174, iv z177, iv (-1)]) rfl (XS.goto X175.here hx rfl (pc0 := 182) (pc' := 223) rfl (hb hby at_182) (by decide) (by decide) k))) ?_
      show own_Go p e below s _ _ (T175.setTop (mkF m 223 #[jv q0, .second, iv p1, rv b1, iv 4, iv z162, iv z165, iv z168, iv z171, iv z174, iv z177, iv (-1)] []))
      exact J181 _ _ X175 N176 eh175 (-1 : Int32) (((if_pos hc184).trans rfl)).symm
    · refine own_via (fun k => XS.ifNo X175.here hx rfl (hb hby at_156) rfl ((if0 _ _).trans (flt hc184).1) k) ?_
      show own_Go p e below s _ _ (T175.setTop (mkF m 159 #[jv q0, .second, iv p1, rv b1, iv 4, iv z162, iv z165, iv z168, iv z171, iv z174, iv z177, .unset] []))
      refine own_via (fun k => XS.iload X175.here hx rfl (hb hby at_159) rfl  k) ?_
      show own_Go p e below s _ _ (T175.setTop (mkF m 161 #[jv q0, .second, iv p1, rv b1, iv 4, iv z162, iv z165, iv z168, iv z171, iv z174, iv z177, .unset] [(.int z168)]))
      by_cases hc185 : z168 < (0 : Int32)
      · refine own_via (fun k => XS.ifYes X175.here hx rfl (pc0 := 161) (pc' := 179) rfl (hb hby at_161) rfl ((if0 _ _).trans (tlt hc185).1) (by decide) (by decide) k) ?_
        show own_Go p e below s _ _ (T175.setTop (mkF m 179 #[jv q0, .second, iv p1, rv b1, iv 4, iv z162, iv z165, iv z168, iv z171, iv z174, iv z177, .unset] []))
        refine own_via (fun k => XS.iconst X175.here hx rfl (hb hby at_179) (XS.istore X175.here hx rfl (hb hby at_180) rfl (l' := #[jv q0, .second, iv p1, rv b1, iv 4, iv z162, iv z165, iv z168, iv z171, iv z174, iv z177, iv (-1)]) rfl (XS.goto X175.here hx rfl (pc0 := 182) (pc' := 223) rfl (hb hby at_182) (by decide) (by decide) k))) ?_
        show own_Go p e below s _ _ (T175.setTop (mkF m 223 #[jv q0, .second, iv p1, rv b1, iv 4, iv z162, iv z165, iv z168, iv z171, iv z174, iv z177, iv (-1)] []))
        exact J181 _ _ X175 N176 eh175 (-1 : Int32) (((if_neg hc184).trans ((if_pos hc185).trans rfl))).symm
      · refine own_via (fun k => XS.ifNo X175.here hx rfl (hb hby at_161) rfl ((if0 _ _).trans (flt hc185).1) k) ?_
        show own_Go p e below s _ _ (T175.setTop (mkF m 164 #[jv q0, .second, iv p1, rv b1, iv 4, iv z162, iv z165, iv z168, iv z171, iv z174, iv z177, .unset] []))
        refine own_via (fun k => XS.iload X175.here hx rfl (hb hby at_164) rfl  k) ?_
        show own_Go p e below s _ _ (T175.setTop (mkF m 166 #[jv q0, .second, iv p1, rv b1, iv 4, iv z162, iv z165, iv z168, iv z171, iv z174, iv z177, .unset] [(.int z171)]))
        by_cases hc186 : z171 < (0 : Int32)
        · refine own_via (fun k => XS.ifYes X175.here hx rfl (pc0 := 166) (pc' := 179) rfl (hb hby at_166) rfl ((if0 _ _).trans (tlt hc186).1) (by decide) (by decide) k) ?_
          show own_Go p e below s _ _ (T175.setTop (mkF m 179 #[jv q0, .second, iv p1, rv b1, iv 4, iv z162, iv z165, iv z168, iv z171, iv z174, iv z177, .unset] []))
          refine own_via (fun k => XS.iconst X175.here hx rfl (hb hby at_179) (XS.istore X175.here hx rfl (hb hby at_180) rfl (l' := #[jv q0, .second, iv p1, rv b1, iv 4, iv z162, iv z165, iv z168, iv z171, iv z174, iv z177, iv (-1)]) rfl (XS.goto X175.here hx rfl (pc0 := 182) (pc' := 223) rfl (hb hby at_182) (by decide) (by decide) k))) ?_
          show own_Go p e below s _ _ (T175.setTop (mkF m 223 #[jv q0, .second, iv p1, rv b1, iv 4, iv z162, iv z165, iv z168, iv z171, iv z174, iv z177, iv (-1)] []))
          exact J181 _ _ X175 N176 eh175 (-1 : Int32) (((if_neg hc184).trans ((if_neg hc185).trans ((if_pos hc186).trans rfl)))).symm
        · refine own_via (fun k => XS.ifNo X175.here hx rfl (hb hby at_166) rfl ((if0 _ _).trans (flt hc186).1) k) ?_
          show own_Go p e below s _ _ (T175.setTop (mkF m 169 #[jv q0, .second, iv p1, rv b1, iv 4, iv z162, iv z165, iv z168, iv z171, iv z174, iv z177, .unset] []))
          refine own_via (fun k => XS.iload X175.here hx rfl (hb hby at_169) rfl  k) ?_
          show own_Go p e below s _ _ (T175.setTop (mkF m 171 #[jv q0, .second, iv p1, rv b1, iv 4, iv z162, iv z165, iv z168, iv z171, iv z174, iv z177, .unset] [(.int z174)]))
          by_cases hc187 : z174 < (0 : Int32)
          · refine own_via (fun k => XS.ifYes X175.here hx rfl (pc0 := 171) (pc' := 179) rfl (hb hby at_171) rfl ((if0 _ _).trans (tlt hc187).1) (by decide) (by decide) k) ?_
            show own_Go p e below s _ _ (T175.setTop (mkF m 179 #[jv q0, .second, iv p1, rv b1, iv 4, iv z162, iv z165, iv z168, iv z171, iv z174, iv z177, .unset] []))
            refine own_via (fun k => XS.iconst X175.here hx rfl (hb hby at_179) (XS.istore X175.here hx rfl (hb hby at_180) rfl (l' := #[jv q0, .second, iv p1, rv b1, iv 4, iv z162, iv z165, iv z168, iv z171, iv z174, iv z177, iv (-1)]) rfl (XS.goto X175.here hx rfl (pc0 := 182) (pc' := 223) rfl (hb hby at_182) (by decide) (by decide) k))) ?_
            show own_Go p e below s _ _ (T175.setTop (mkF m 223 #[jv q0, .second, iv p1, rv b1, iv 4, iv z162, iv z165, iv z168, iv z171, iv z174, iv z177, iv (-1)] []))
            exact J181 _ _ X175 N176 eh175 (-1 : Int32) (((if_neg hc184).trans ((if_neg hc185).trans ((if_neg hc186).trans ((if_pos hc187).trans rfl))))).symm
          · refine own_via (fun k => XS.ifNo X175.here hx rfl (hb hby at_171) rfl ((if0 _ _).trans (flt hc187).1) k) ?_
            show own_Go p e below s _ _ (T175.setTop (mkF m 174 #[jv q0, .second, iv p1, rv b1, iv 4, iv z162, iv z165, iv z168, iv z171, iv z174, iv z177, .unset] []))
            refine own_via (fun k => XS.iload X175.here hx rfl (hb hby at_174) rfl  k) ?_
            show own_Go p e below s _ _ (T175.setTop (mkF m 176 #[jv q0, .second, iv p1, rv b1, iv 4, iv z162, iv z165, iv z168, iv z171, iv z174, iv z177, .unset] [(.int z177)]))
            by_cases hc188 : z177 < (0 : Int32)
            · refine own_via (fun k => XS.ifNo X175.here hx rfl (hb hby at_176) rfl ((if0 _ _).trans (tlt hc188).2.1) k) ?_
              show own_Go p e below s _ _ (T175.setTop (mkF m 179 #[jv q0, .second, iv p1, rv b1, iv 4, iv z162, iv z165, iv z168, iv z171, iv z174, iv z177, .unset] []))
              refine own_via (fun k => XS.iconst X175.here hx rfl (hb hby at_179) (XS.istore X175.here hx rfl (hb hby at_180) rfl (l' := #[jv q0, .second, iv p1, rv b1, iv 4, iv z162, iv z165, iv z168, iv z171, iv z174, iv z177, iv (-1)]) rfl (XS.goto X175.here hx rfl (pc0 := 182) (pc' := 223) rfl (hb hby at_182) (by decide) (by decide) k))) ?_
              show own_Go p e below s _ _ (T175.setTop (mkF m 223 #[jv q0, .second, iv p1, rv b1, iv 4, iv z162, iv z165, iv z168, iv z171, iv z174, iv z177, iv (-1)] []))
              exact J181 _ _ X175 N176 eh175 (-1 : Int32) (((if_neg hc184).trans ((if_neg hc185).trans ((if_neg hc186).trans ((if_neg hc187).trans ((if_pos hc188).trans rfl)))))).symm
            · refine own_via (fun k => XS.ifYes X175.here hx rfl (pc0 := 176) (pc' := 185) rfl (hb hby at_176) rfl ((if0 _ _).trans (flt hc188).2.1) (by decide) (by decide) k) ?_
              show own_Go p e below s _ _ (T175.setTop (mkF m 185 #[jv q0, .second, iv p1, rv b1, iv 4, iv z162, iv z165, iv z168, iv z171, iv z174, iv z177, .unset] []))
              refine own_via (fun k => XS.iload X175.here hx rfl (hb hby at_185) rfl  (XS.sipush X175.here hx rfl (hb hby at_187) (XS.imul X175.here hx rfl (hb hby at_190) rfl (XS.iload X175.here hx rfl (hb hby at_191) rfl  k)))) ?_
              show own_Go p e below s _ _ (T175.setTop (mkF m 193 #[jv q0, .second, iv p1, rv b1, iv 4, iv z162, iv z165, iv z168, iv z171, iv z174, iv z177, .unset] [(.int z168), (.int (z165 * (10000 : Int32)))]))
              refine own_via (fun k => XS.sipush X175.here hx rfl (hb hby at_193) (XS.imul X175.here hx rfl (hb hby at_196) rfl (XS.iadd X175.here hx rfl (hb hby at_197) rfl (XS.iload X175.here hx rfl (hb hby at_198) rfl  k)))) ?_
              show own_Go p e below s _ _ (T175.setTop (mkF m 200 #[jv q0, .second, iv p1, rv b1, iv 4, iv z162, iv z165, iv z168, iv z171, iv z174, iv z177, .unset] [(.int z171), (.int ((z165 * (10000 : Int32)) + (z168 * (1000 : Int32))))]))
              refine own_via (fun k => XS.bipush X175.here hx rfl (hb hby at_200) (XS.imul X175.here hx rfl (hb hby at_202) rfl (XS.iadd X175.here hx rfl (hb hby at_203) rfl (XS.iload X175.here hx rfl (hb hby at_204) rfl  k)))) ?_
              show own_Go p e below s _ _ (T175.setTop (mkF m 206 #[jv q0, .second, iv p1, rv b1, iv 4, iv z162, iv z165, iv z168, iv z171, iv z174, iv z177, .unset] [(.int z174), (.int (((z165 * (10000 : Int32)) + (z168 * (1000 : Int32))) + (z171 * (100 : Int32))))]))
              refine own_via (fun k => XS.bipush X175.here hx rfl (hb hby at_206) (XS.imul X175.here hx rfl (hb hby at_208) rfl (XS.iadd X175.here hx rfl (hb hby at_209) rfl (XS.iload X175.here hx rfl (hb hby at_210) rfl  k)))) ?_
              show own_Go p e below s _ _ (T175.setTop (mkF m 212 #[jv q0, .second, iv p1, rv b1, iv 4, iv z162, iv z165, iv z168, iv z171, iv z174, iv z177, .unset] [(.int z177), (.int ((((z165 * (10000 : Int32)) + (z168 * (1000 : Int32))) + (z171 * (100 : Int32))) + (z174 * (10 : Int32))))]))
              refine own_via (fun k => XS.iadd X175.here hx rfl (hb hby at_212) rfl (XS.iconst X175.here hx rfl (hb hby at_213) (XS.iload X175.here hx rfl (hb hby at_214) rfl  (XS.isub X175.here hx rfl (hb hby at_216) rfl k)))) ?_
              show own_Go p e below s _ _ (T175.setTop (mkF m 217 #[jv q0, .second, iv p1, rv b1, iv 4, iv z162, iv z165, iv z168, iv z171, iv z174, iv z177, .unset] [(.int 1), (.int (((((z165 * (10000 : Int32)) + (z168 * (1000 : Int32))) + (z171 * (100 : Int32))) + (z174 * (10 : Int32))) + z177))]))
              obtain ⟨_, _, ⟨T189, L189, k189, n189⟩, -, X189, ⟨Lc189, hQ189, l189, y189, z189⟩, st189⟩ := Jvm.LawKit.callS X175 hx (y := (⟨"organico/records/Iso2709DigitsPinLaw", "pow10", "(I)I"⟩ : MethodName)) hown (mvT hZ (hw _ (List.mem_of_getElem? (i := 10) rfl))) (mvT hZ (hw _ (List.mem_of_getElem? (i := 11) rfl))) (mvT hZ (hw _ (List.mem_of_getElem? (i := 4) rfl))) (mvT hZ (hw _ (List.mem_of_getElem? (i := 12) rfl))) (by decide) (backOf (W := 1) (rm3 l Z aw hw [] (1 : Int32) h41 n0 Z44) hZ (hw _ (List.mem_of_getElem? (i := 12) rfl)) (hw _ (List.mem_of_getElem? (i := 4) rfl)) (by decide) (by decide)) (g := (mkF m 217 #[jv q0, .second, iv p1, rv b1, iv 4, iv z162, iv z165, iv z168, iv z171, iv z174, iv z177, .unset] [(.int 1), (.int (((((z165 * (10000 : Int32)) + (z168 * (1000 : Int32))) + (z171 * (100 : Int32))) + (z174 * (10 : Int32))) + z177))])) rfl (by rw [hml]; rfl) (argsL := [(.int 1)]) (rest := [(.int (((((z165 * (10000 : Int32)) + (z168 * (1000 : Int32))) + (z171 * (100 : Int32))) + (z174 * (10 : Int32))) + z177))]) (lenOf pd_2 rfl) rfl (by show 2 * 0 + _ ≤ _; exact Nat.le_of_eq rfl) (hb hby at_217) (fun _ _ => ⟨rfl, eh175, (by decide : 1 + 0 ≤ _), (by decide : 8 + 0 ≤ _)⟩)
              dsimp only [Pt.U, Pt.locs, Pt.cells, Pt.slots] at X189 l189 y189 z189 st189 hQ189
              subst l189 y189 z189
              obtain ⟨rfl, N189q, eh189⟩ := hQ189
              have N190 := Fr.app N176 N189q
              refine own_via (fun k => st189 _ k) ?_
              show own_Go p e below s _ _ (T189.setTop (mkF m 220 #[jv q0, .second, iv p1, rv b1, iv 4, iv z162, iv z165, iv z168, iv z171, iv z174, iv z177, .unset] [(.int (own_f3 (1 : Int32))), (.int (((((z165 * (10000 : Int32)) + (z168 * (1000 : Int32))) + (z171 * (100 : Int32))) + (z174 * (10 : Int32))) + z177))]))
              refine own_via (fun k => XS.idiv X189.here hx rfl (hb hby at_220) rfl (own_nz4 p1 hl45) (XS.istore X189.here hx rfl (hb hby at_221) rfl (l' := #[jv q0, .second, iv p1, rv b1, iv 4, iv z162, iv z165, iv z168, iv z171, iv z174, iv z177, iv ((((((z165 * (10000 : Int32)) + (z168 * (1000 : Int32))) + (z171 * (100 : Int32))) + (z174 * (10 : Int32))) + z177) / (own_f3 (1 : Int32)))]) rfl k)) ?_
              show own_Go p e below s _ _ (T189.setTop (mkF m 223 #[jv q0, .second, iv p1, rv b1, iv 4, iv z162, iv z165, iv z168, iv z171, iv z174, iv z177, iv ((((((z165 * (10000 : Int32)) + (z168 * (1000 : Int32))) + (z171 * (100 : Int32))) + (z174 * (10 : Int32))) + z177) / (own_f3 (1 : Int32)))] []))
              exact J181 _ _ X189 N190 eh189 ((((((z165 * (10000 : Int32)) + (z168 * (1000 : Int32))) + (z171 * (100 : Int32))) + (z174 * (10 : Int32))) + z177) / (own_f3 (1 : Int32))) (((if_neg hc184).trans ((if_neg hc185).trans ((if_neg hc186).trans ((if_neg hc187).trans ((if_neg hc188).trans rfl)))))).symm
  · rw [hl45]
    show own_Go p e below s _ _ (T41.setTop (mkF m 85 #[jv q0, .second, iv p1, rv b1, iv 5, .unset, .unset, .unset, .unset, .unset, .unset, .unset] []))
    refine own_via (fun k => XS.iloadN X41.here hx rfl (hb hby at_85) rfl  (XS.iconst X41.here hx rfl (hb hby at_86) (XS.iushr X41.here hx rfl (hb hby at_87) rfl (X41.ldcInt hx hown (mvT hZ (hw _ (List.mem_of_getElem? (i := 1) rfl))) (g := (mkF m 88 #[jv q0, .second, iv p1, rv b1, iv 5, .unset, .unset, .unset, .unset, .unset, .unset, .unset] [(.int ((p1.toUInt32 >>> ((3 : Int32) &&& 31).toUInt32).toInt32))])) rfl (hb hby at_88) _ k)))) ?_
    show own_Go p e below s _ _ (T41.setTop (mkF m 90 #[jv q0, .second, iv p1, rv b1, iv 5, .unset, .unset, .unset, .unset, .unset, .unset, .unset] [(.int 2147483647), (.int ((p1.toUInt32 >>> ((3 : Int32) &&& 31).toUInt32).toInt32))]))
    refine own_via (fun k => XS.iand X41.here hx rfl (hb hby at_90) rfl (XS.bipush X41.here hx rfl (hb hby at_91) (XS.iload X41.here hx rfl (hb hby at_93) rfl  (XS.isub X41.here hx rfl (hb hby at_95) rfl k)))) ?_
    show own_Go p e below s _ _ (T41.setTop (mkF m 96 #[jv q0, .second, iv p1, rv b1, iv 5, .unset, .unset, .unset, .unset, .unset, .unset, .unset] [(.int 4), (.int (((p1.toUInt32 >>> ((3 : Int32) &&& 31).toUInt32).toInt32) &&& (2147483647 : Int32)))]))
    refine own_via (fun k => Jvm.RoadKit.iremM X41 hx rfl (hb hby at_96) rfl (by decide) k) ?_
    show own_Go p e below s _ _ (T41.setTop (mkF m 97 #[jv q0, .second, iv p1, rv b1, iv 5, .unset, .unset, .unset, .unset, .unset, .unset, .unset] [(.int ((((p1.toUInt32 >>> ((3 : Int32) &&& 31).toUInt32).toInt32) &&& (2147483647 : Int32)) % (4 : Int32)))]))
    obtain ⟨z191, hz191⟩ : ∃ z : Int32, z = ((((p1.toUInt32 >>> ((3 : Int32) &&& 31).toUInt32).toInt32) &&& (2147483647 : Int32)) % (4 : Int32)) := ⟨_, rfl⟩
    rw [← hz191]
    show own_Go p e below s _ _ (T41.setTop (mkF m 97 #[jv q0, .second, iv p1, rv b1, iv 5, .unset, .unset, .unset, .unset, .unset, .unset, .unset] [(.int z191)]))
    refine own_via (fun k => XS.istore X41.here hx rfl (hb hby at_97) rfl (l' := #[jv q0, .second, iv p1, rv b1, iv 5, iv z191, .unset, .unset, .unset, .unset, .unset, .unset]) rfl (XS.aloadN X41.here hx rfl (hb hby at_99) rfl rfl  (XS.iload X41.here hx rfl (hb hby at_100) rfl  (XS.iconst X41.here hx rfl (hb hby at_102) k)))) ?_
    show own_Go p e below s _ _ (T41.setTop (mkF m 103 #[jv q0, .second, iv p1, rv b1, iv 5, iv z191, .unset, .unset, .unset, .unset, .unset, .unset] [(.int 0), (.int z191), (.ref b1)]))
    refine own_via (fun k => XS.iload X41.here hx rfl (hb hby at_103) rfl  k) ?_
    show own_Go p e below s _ _ (T41.setTop (mkF m 105 #[jv q0, .second, iv p1, rv b1, iv 5, iv z191, .unset, .unset, .unset, .unset, .unset, .unset] [(.int 5), (.int 0), (.int z191), (.ref b1)]))
    obtain ⟨_, _, ⟨T192, L192, k192, n192⟩, -, X192, ⟨Lc192, hQ192, l192, y192, z192⟩, st192⟩ := Jvm.LawKit.callS X41 hx (y := (⟨"organico/records/Iso2709DigitsPinLaw", "digitAt", "([BIII)I"⟩ : MethodName)) hown (mvT hZ (hw _ (List.mem_of_getElem? (i := 2) rfl))) (mvT hZ (hw _ (List.mem_of_getElem? (i := 3) rfl))) (mvT hZ (hw _ (List.mem_of_getElem? (i := 4) rfl))) (mvT hZ (hw _ (List.mem_of_getElem? (i := 5) rfl))) (by decide) (backOf (W := 0) (rm1 l Z aw hw [] b1 z191 (0 : Int32) (5 : Int32) k1 [(.int (nar .byte z5)), (.int (nar .byte z10)), (.int (nar .byte z15)), (.int (nar .byte z20)), (.int (nar .byte z25)), (.int (nar .byte z30)), (.int (nar .byte z35)), (.int (nar .byte z40))] g h41 n0 Z44 B42 hg (own_hhin_5_105 p1 z191 hz191 hl45)) hZ (hw _ (List.mem_of_getElem? (i := 5) rfl)) (hw _ (List.mem_of_getElem? (i := 4) rfl)) (by decide) (by decide)) (g := (mkF m 105 #[jv q0, .second, iv p1, rv b1, iv 5, iv z191, .unset, .unset, .unset, .unset, .unset, .unset] [(.int 5), (.int 0), (.int z191), (.ref b1)])) rfl (by rw [hml]; rfl) (argsL := [(.ref b1), (.int z191), (.int 0), (.int 5)]) (rest := []) (lenOf pd_0 rfl) rfl (by show 2 * 0 + _ ≤ _; exact Nat.le_of_eq rfl) (hb hby at_105) (fun _ _ => ⟨rfl, e41, (by decide : 1 + 0 ≤ _), (by decide : 8 + 0 ≤ _)⟩)
    dsimp only [Pt.U, Pt.locs, Pt.cells, Pt.slots] at X192 l192 y192 z192 st192 hQ192
    subst l192 y192 z192
    obtain ⟨rfl, N192q, eh192⟩ := hQ192
    have N193 := Fr.app N43 N192q
    refine own_via (fun k => st192 _ k) ?_
    show own_Go p e below s _ _ (T192.setTop (mkF m 108 #[jv q0, .second, iv p1, rv b1, iv 5, iv z191, .unset, .unset, .unset, .unset, .unset, .unset] [(.int (own_f1 z191 (0 : Int32) (5 : Int32) g))]))
    obtain ⟨z194, hz194⟩ : ∃ z : Int32, z = (own_f1 z191 (0 : Int32) (5 : Int32) g) := ⟨_, rfl⟩
    rw [← hz194]
    show own_Go p e below s _ _ (T192.setTop (mkF m 108 #[jv q0, .second, iv p1, rv b1, iv 5, iv z191, .unset, .unset, .unset, .unset, .unset, .unset] [(.int z194)]))
    refine own_via (fun k => XS.istore X192.here hx rfl (hb hby at_108) rfl (l' := #[jv q0, .second, iv p1, rv b1, iv 5, iv z191, iv z194, .unset, .unset, .unset, .unset, .unset]) rfl (XS.aloadN X192.here hx rfl (hb hby at_110) rfl rfl  (XS.iload X192.here hx rfl (hb hby at_111) rfl  (XS.iconst X192.here hx rfl (hb hby at_113) k)))) ?_
    show own_Go p e below s _ _ (T192.setTop (mkF m 114 #[jv q0, .second, iv p1, rv b1, iv 5, iv z191, iv z194, .unset, .unset, .unset, .unset, .unset] [(.int 1), (.int z191), (.ref b1)]))
    refine own_via (fun k => XS.iload X192.here hx rfl (hb hby at_114) rfl  k) ?_
    show own_Go p e below s _ _ (T192.setTop (mkF m 116 #[jv q0, .second, iv p1, rv b1, iv 5, iv z191, iv z194, .unset, .unset, .unset, .unset, .unset] [(.int 5), (.int 1), (.int z191), (.ref b1)]))
    obtain ⟨_, _, ⟨T195, L195, k195, n195⟩, -, X195, ⟨Lc195, hQ195, l195, y195, z195⟩, st195⟩ := Jvm.LawKit.callS X192 hx (y := (⟨"organico/records/Iso2709DigitsPinLaw", "digitAt", "([BIII)I"⟩ : MethodName)) hown (mvT hZ (hw _ (List.mem_of_getElem? (i := 2) rfl))) (mvT hZ (hw _ (List.mem_of_getElem? (i := 3) rfl))) (mvT hZ (hw _ (List.mem_of_getElem? (i := 4) rfl))) (mvT hZ (hw _ (List.mem_of_getElem? (i := 5) rfl))) (by decide) (backOf (W := 0) (rm1 l Z aw hw [] b1 z191 (1 : Int32) (5 : Int32) k1 [(.int (nar .byte z5)), (.int (nar .byte z10)), (.int (nar .byte z15)), (.int (nar .byte z20)), (.int (nar .byte z25)), (.int (nar .byte z30)), (.int (nar .byte z35)), (.int (nar .byte z40))] g h41 n0 Z44 B42 hg (own_hhin_5_116 p1 z191 hz191 hl45)) hZ (hw _ (List.mem_of_getElem? (i := 5) rfl)) (hw _ (List.mem_of_getElem? (i := 4) rfl)) (by decide) (by decide)) (g := (mkF m 116 #[jv q0, .second, iv p1, rv b1, iv 5, iv z191, iv z194, .unset, .unset, .unset, .unset, .unset] [(.int 5), (.int 1), (.int z191), (.ref b1)])) rfl (by rw [hml]; rfl) (argsL := [(.ref b1), (.int z191), (.int 1), (.int 5)]) (rest := []) (lenOf pd_0 rfl) rfl (by show 2 * 0 + _ ≤ _; exact Nat.le_of_eq rfl) (hb hby at_116) (fun _ _ => ⟨rfl, eh192, (by decide : 1 + 0 ≤ _), (by decide : 8 + 0 ≤ _)⟩)
    dsimp only [Pt.U, Pt.locs, Pt.cells, Pt.slots] at X195 l195 y195 z195 st195 hQ195
    subst l195 y195 z195
    obtain ⟨rfl, N195q, eh195⟩ := hQ195
    have N196 := Fr.app N193 N195q
    refine own_via (fun k => st195 _ k) ?_
    show own_Go p e below s _ _ (T195.setTop (mkF m 119 #[jv q0, .second, iv p1, rv b1, iv 5, iv z191, iv z194, .unset, .unset, .unset, .unset, .unset] [(.int (own_f1 z191 (1 : Int32) (5 : Int32) g))]))
    obtain ⟨z197, hz197⟩ : ∃ z : Int32, z = (own_f1 z191 (1 : Int32) (5 : Int32) g) := ⟨_, rfl⟩
    rw [← hz197]
    show own_Go p e below s _ _ (T195.setTop (mkF m 119 #[jv q0, .second, iv p1, rv b1, iv 5, iv z191, iv z194, .unset, .unset, .unset, .unset, .unset] [(.int z197)]))
    refine own_via (fun k => XS.istore X195.here hx rfl (hb hby at_119) rfl (l' := #[jv q0, .second, iv p1, rv b1, iv 5, iv z191, iv z194, iv z197, .unset, .unset, .unset, .unset]) rfl (XS.aloadN X195.here hx rfl (hb hby at_121) rfl rfl  (XS.iload X195.here hx rfl (hb hby at_122) rfl  (XS.iconst X195.here hx rfl (hb hby at_124) k)))) ?_
    show own_Go p e below s _ _ (T195.setTop (mkF m 125 #[jv q0, .second, iv p1, rv b1, iv 5, iv z191, iv z194, iv z197, .unset, .unset, .unset, .unset] [(.int 2), (.int z191), (.ref b1)]))
    refine own_via (fun k => XS.iload X195.here hx rfl (hb hby at_125) rfl  k) ?_
    show own_Go p e below s _ _ (T195.setTop (mkF m 127 #[jv q0, .second, iv p1, rv b1, iv 5, iv z191, iv z194, iv z197, .unset, .unset, .unset, .unset] [(.int 5), (.int 2), (.int z191), (.ref b1)]))
    obtain ⟨_, _, ⟨T198, L198, k198, n198⟩, -, X198, ⟨Lc198, hQ198, l198, y198, z198⟩, st198⟩ := Jvm.LawKit.callS X195 hx (y := (⟨"organico/records/Iso2709DigitsPinLaw", "digitAt", "([BIII)I"⟩ : MethodName)) hown (mvT hZ (hw _ (List.mem_of_getElem? (i := 2) rfl))) (mvT hZ (hw _ (List.mem_of_getElem? (i := 3) rfl))) (mvT hZ (hw _ (List.mem_of_getElem? (i := 4) rfl))) (mvT hZ (hw _ (List.mem_of_getElem? (i := 5) rfl))) (by decide) (backOf (W := 0) (rm1 l Z aw hw [] b1 z191 (2 : Int32) (5 : Int32) k1 [(.int (nar .byte z5)), (.int (nar .byte z10)), (.int (nar .byte z15)), (.int (nar .byte z20)), (.int (nar .byte z25)), (.int (nar .byte z30)), (.int (nar .byte z35)), (.int (nar .byte z40))] g h41 n0 Z44 B42 hg (own_hhin_5_127 p1 z191 hz191 hl45)) hZ (hw _ (List.mem_of_getElem? (i := 5) rfl)) (hw _ (List.mem_of_getElem? (i := 4) rfl)) (by decide) (by decide)) (g := (mkF m 127 #[jv q0, .second, iv p1, rv b1, iv 5, iv z191, iv z194, iv z197, .unset, .unset, .unset, .unset] [(.int 5), (.int 2), (.int z191), (.ref b1)])) rfl (by rw [hml]; rfl) (argsL := [(.ref b1), (.int z191), (.int 2), (.int 5)]) (rest := []) (lenOf pd_0 rfl) rfl (by show 2 * 0 + _ ≤ _; exact Nat.le_of_eq rfl) (hb hby at_127) (fun _ _ => ⟨rfl, eh195, (by decide : 1 + 0 ≤ _), (by decide : 8 + 0 ≤ _)⟩)
    dsimp only [Pt.U, Pt.locs, Pt.cells, Pt.slots] at X198 l198 y198 z198 st198 hQ198
    subst l198 y198 z198
    obtain ⟨rfl, N198q, eh198⟩ := hQ198
    have N199 := Fr.app N196 N198q
    refine own_via (fun k => st198 _ k) ?_
    show own_Go p e below s _ _ (T198.setTop (mkF m 130 #[jv q0, .second, iv p1, rv b1, iv 5, iv z191, iv z194, iv z197, .unset, .unset, .unset, .unset] [(.int (own_f1 z191 (2 : Int32) (5 : Int32) g))]))
    obtain ⟨z200, hz200⟩ : ∃ z : Int32, z = (own_f1 z191 (2 : Int32) (5 : Int32) g) := ⟨_, rfl⟩
    rw [← hz200]
    show own_Go p e below s _ _ (T198.setTop (mkF m 130 #[jv q0, .second, iv p1, rv b1, iv 5, iv z191, iv z194, iv z197, .unset, .unset, .unset, .unset] [(.int z200)]))
    refine own_via (fun k => XS.istore X198.here hx rfl (hb hby at_130) rfl (l' := #[jv q0, .second, iv p1, rv b1, iv 5, iv z191, iv z194, iv z197, iv z200, .unset, .unset, .unset]) rfl (XS.aloadN X198.here hx rfl (hb hby at_132) rfl rfl  (XS.iload X198.here hx rfl (hb hby at_133) rfl  (XS.iconst X198.here hx rfl (hb hby at_135) k)))) ?_
    show own_Go p e below s _ _ (T198.setTop (mkF m 136 #[jv q0, .second, iv p1, rv b1, iv 5, iv z191, iv z194, iv z197, iv z200, .unset, .unset, .unset] [(.int 3), (.int z191), (.ref b1)]))
    refine own_via (fun k => XS.iload X198.here hx rfl (hb hby at_136) rfl  k) ?_
    show own_Go p e below s _ _ (T198.setTop (mkF m 138 #[jv q0, .second, iv p1, rv b1, iv 5, iv z191, iv z194, iv z197, iv z200, .unset, .unset, .unset] [(.int 5), (.int 3), (.int z191), (.ref b1)]))
    obtain ⟨_, _, ⟨T201, L201, k201, n201⟩, -, X201, ⟨Lc201, hQ201, l201, y201, z201⟩, st201⟩ := Jvm.LawKit.callS X198 hx (y := (⟨"organico/records/Iso2709DigitsPinLaw", "digitAt", "([BIII)I"⟩ : MethodName)) hown (mvT hZ (hw _ (List.mem_of_getElem? (i := 2) rfl))) (mvT hZ (hw _ (List.mem_of_getElem? (i := 3) rfl))) (mvT hZ (hw _ (List.mem_of_getElem? (i := 4) rfl))) (mvT hZ (hw _ (List.mem_of_getElem? (i := 5) rfl))) (by decide) (backOf (W := 0) (rm1 l Z aw hw [] b1 z191 (3 : Int32) (5 : Int32) k1 [(.int (nar .byte z5)), (.int (nar .byte z10)), (.int (nar .byte z15)), (.int (nar .byte z20)), (.int (nar .byte z25)), (.int (nar .byte z30)), (.int (nar .byte z35)), (.int (nar .byte z40))] g h41 n0 Z44 B42 hg (own_hhin_5_138 p1 z191 hz191 hl45)) hZ (hw _ (List.mem_of_getElem? (i := 5) rfl)) (hw _ (List.mem_of_getElem? (i := 4) rfl)) (by decide) (by decide)) (g := (mkF m 138 #[jv q0, .second, iv p1, rv b1, iv 5, iv z191, iv z194, iv z197, iv z200, .unset, .unset, .unset] [(.int 5), (.int 3), (.int z191), (.ref b1)])) rfl (by rw [hml]; rfl) (argsL := [(.ref b1), (.int z191), (.int 3), (.int 5)]) (rest := []) (lenOf pd_0 rfl) rfl (by show 2 * 0 + _ ≤ _; exact Nat.le_of_eq rfl) (hb hby at_138) (fun _ _ => ⟨rfl, eh198, (by decide : 1 + 0 ≤ _), (by decide : 8 + 0 ≤ _)⟩)
    dsimp only [Pt.U, Pt.locs, Pt.cells, Pt.slots] at X201 l201 y201 z201 st201 hQ201
    subst l201 y201 z201
    obtain ⟨rfl, N201q, eh201⟩ := hQ201
    have N202 := Fr.app N199 N201q
    refine own_via (fun k => st201 _ k) ?_
    show own_Go p e below s _ _ (T201.setTop (mkF m 141 #[jv q0, .second, iv p1, rv b1, iv 5, iv z191, iv z194, iv z197, iv z200, .unset, .unset, .unset] [(.int (own_f1 z191 (3 : Int32) (5 : Int32) g))]))
    obtain ⟨z203, hz203⟩ : ∃ z : Int32, z = (own_f1 z191 (3 : Int32) (5 : Int32) g) := ⟨_, rfl⟩
    rw [← hz203]
    show own_Go p e below s _ _ (T201.setTop (mkF m 141 #[jv q0, .second, iv p1, rv b1, iv 5, iv z191, iv z194, iv z197, iv z200, .unset, .unset, .unset] [(.int z203)]))
    refine own_via (fun k => XS.istore X201.here hx rfl (hb hby at_141) rfl (l' := #[jv q0, .second, iv p1, rv b1, iv 5, iv z191, iv z194, iv z197, iv z200, iv z203, .unset, .unset]) rfl (XS.aloadN X201.here hx rfl (hb hby at_143) rfl rfl  (XS.iload X201.here hx rfl (hb hby at_144) rfl  (XS.iconst X201.here hx rfl (hb hby at_146) k)))) ?_
    show own_Go p e below s _ _ (T201.setTop (mkF m 147 #[jv q0, .second, iv p1, rv b1, iv 5, iv z191, iv z194, iv z197, iv z200, iv z203, .unset, .unset] [(.int 4), (.int z191), (.ref b1)]))
    refine own_via (fun k => XS.iload X201.here hx rfl (hb hby at_147) rfl  k) ?_
    show own_Go p e below s _ _ (T201.setTop (mkF m 149 #[jv q0, .second, iv p1, rv b1, iv 5, iv z191, iv z194, iv z197, iv z200, iv z203, .unset, .unset] [(.int 5), (.int 4), (.int z191), (.ref b1)]))
    obtain ⟨_, _, ⟨T204, L204, k204, n204⟩, -, X204, ⟨Lc204, hQ204, l204, y204, z204⟩, st204⟩ := Jvm.LawKit.callS X201 hx (y := (⟨"organico/records/Iso2709DigitsPinLaw", "digitAt", "([BIII)I"⟩ : MethodName)) hown (mvT hZ (hw _ (List.mem_of_getElem? (i := 2) rfl))) (mvT hZ (hw _ (List.mem_of_getElem? (i := 3) rfl))) (mvT hZ (hw _ (List.mem_of_getElem? (i := 4) rfl))) (mvT hZ (hw _ (List.mem_of_getElem? (i := 5) rfl))) (by decide) (backOf (W := 0) (rm1 l Z aw hw [] b1 z191 (4 : Int32) (5 : Int32) k1 [(.int (nar .byte z5)), (.int (nar .byte z10)), (.int (nar .byte z15)), (.int (nar .byte z20)), (.int (nar .byte z25)), (.int (nar .byte z30)), (.int (nar .byte z35)), (.int (nar .byte z40))] g h41 n0 Z44 B42 hg (own_hhin_5_149 p1 z191 hz191 hl45)) hZ (hw _ (List.mem_of_getElem? (i := 5) rfl)) (hw _ (List.mem_of_getElem? (i := 4) rfl)) (by decide) (by decide)) (g := (mkF m 149 #[jv q0, .second, iv p1, rv b1, iv 5, iv z191, iv z194, iv z197, iv z200, iv z203, .unset, .unset] [(.int 5), (.int 4), (.int z191), (.ref b1)])) rfl (by rw [hml]; rfl) (argsL := [(.ref b1), (.int z191), (.int 4), (.int 5)]) (rest := []) (lenOf pd_0 rfl) rfl (by show 2 * 0 + _ ≤ _; exact Nat.le_of_eq rfl) (hb hby at_149) (fun _ _ => ⟨rfl, eh201, (by decide : 1 + 0 ≤ _), (by decide : 8 + 0 ≤ _)⟩)
    dsimp only [Pt.U, Pt.locs, Pt.cells, Pt.slots] at X204 l204 y204 z204 st204 hQ204
    subst l204 y204 z204
    obtain ⟨rfl, N204q, eh204⟩ := hQ204
    have N205 := Fr.app N202 N204q
    refine own_via (fun k => st204 _ k) ?_
    show own_Go p e below s _ _ (T204.setTop (mkF m 152 #[jv q0, .second, iv p1, rv b1, iv 5, iv z191, iv z194, iv z197, iv z200, iv z203, .unset, .unset] [(.int (own_f1 z191 (4 : Int32) (5 : Int32) g))]))
    obtain ⟨z206, hz206⟩ : ∃ z : Int32, z = (own_f1 z191 (4 : Int32) (5 : Int32) g) := ⟨_, rfl⟩
    rw [← hz206]
    show own_Go p e below s _ _ (T204.setTop (mkF m 152 #[jv q0, .second, iv p1, rv b1, iv 5, iv z191, iv z194, iv z197, iv z200, iv z203, .unset, .unset] [(.int z206)]))
    refine own_via (fun k => XS.istore X204.here hx rfl (hb hby at_152) rfl (l' := #[jv q0, .second, iv p1, rv b1, iv 5, iv z191, iv z194, iv z197, iv z200, iv z203, iv z206, .unset]) rfl (XS.iload X204.here hx rfl (hb hby at_154) rfl  k)) ?_
    show own_Go p e below s _ _ (T204.setTop (mkF m 156 #[jv q0, .second, iv p1, rv b1, iv 5, iv z191, iv z194, iv z197, iv z200, iv z203, iv z206, .unset] [(.int z194)]))
    have J210 : ∀ (T210 : State) (lo210 : List Loc), Stand p l e room_1 s m #[(.long q0), (.int p1)] below meth c T210 lo210 1 8 → Fr n0 lo210 → T210.heap = h41 → ∀ (z209 : Int32), z209 = (if z194 < (0 : Int32) then (-1 : Int32) else (if z197 < (0 : Int32) then (-1 : Int32) else (if z200 < (0 : Int32) then (-1 : Int32) else (if z203 < (0 : Int32) then (-1 : Int32) else (if z206 < (0 : Int32) then (-1 : Int32) else ((((((z194 * (10000 : Int32)) + (z197 * (1000 : Int32))) + (z200 * (100 : Int32))) + (z203 * (10 : Int32))) + z206) / (own_f3 (0 : Int32)))))))) → own_Go p e below s (Q0 Z q0 p1 h0 n0) (room_1.cells, room_1.slots) (T210.setTop (mkF m 223 #[jv q0, .second, iv p1, rv b1, iv 5, iv z191, iv z194, iv z197, iv z200, iv z203, iv z206, iv z209] [])) := by
      intro T210 lo210 X210 N210 e210 z209 hz209
      refine own_via (fun k => XS.aloadN X210.here hx rfl (hb hby at_223) rfl rfl  (XS.iload X210.here hx rfl (hb hby at_224) rfl  (XS.iload X210.here hx rfl (hb hby at_226) rfl  k))) ?_
      show own_Go p e below s _ _ (T210.setTop (mkF m 228 #[jv q0, .second, iv p1, rv b1, iv 5, iv z191, iv z194, iv z197, iv z200, iv z203, iv z206, iv z209] [(.int 5), (.int z191), (.ref b1)]))
      obtain ⟨_, _, ⟨T211, L211, k211, n211⟩, -, X211, ⟨Lc211, hQ211, l211, y211, z211⟩, st211⟩ := Jvm.LawKit.callS X210 hx (y := (⟨"organico/records/Iso2709", "digits", "([BII)I"⟩ : MethodName)) hown (mvT hZ (hw _ (List.mem_of_getElem? (i := 6) rfl))) (mvT hZ (hw _ (List.mem_of_getElem? (i := 7) rfl))) (mvT hZ (hw _ (List.mem_of_getElem? (i := 8) rfl))) (mvT hZ (hw _ (List.mem_of_getElem? (i := 9) rfl))) (by decide) (backOf (W := 0) (rm2_5 l Z aw hw [] b1 z191 k1 [(.int (nar .byte z5)), (.int (nar .byte z10)), (.int (nar .byte z15)), (.int (nar .byte z20)), (.int (nar .byte z25)), (.int (nar .byte z30)), (.int (nar .byte z35)), (.int (nar .byte z40))] g h41 n0 Z44 B42 hg (own_hhlo_5_228 p1 z191 hz191 hl45) (own_hhhi_5_228 p1 z191 hz191 hl45)) hZ (hw _ (List.mem_of_getElem? (i := 9) rfl)) (hw _ (List.mem_of_getElem? (i := 8) rfl)) (by decide) (by decide)) (g := (mkF m 228 #[jv q0, .second, iv p1, rv b1, iv 5, iv z191, iv z194, iv z197, iv z200, iv z203, iv z206, iv z209] [(.int 5), (.int z191), (.ref b1)])) rfl (by rw [hml]; rfl) (argsL := [(.ref b1), (.int z191), (.int 5)]) (rest := []) (lenOf pd_1 rfl) rfl (by show 2 * 0 + _ ≤ _; exact Nat.le_of_eq rfl) (hb hby at_228) (fun _ _ => ⟨rfl, e210, (by decide : 1 + 0 ≤ _), (by decide : 8 + 0 ≤ _)⟩)
      dsimp only [Pt.U, Pt.locs, Pt.cells, Pt.slots] at X211 l211 y211 z211 st211 hQ211
      subst l211 y211 z211
      obtain ⟨rfl, N211q, eh211⟩ := hQ211
      have N212 := Fr.app N210 N211q
      refine own_via (fun k => st211 _ k) ?_
      show own_Go p e below s _ _ (T211.setTop (mkF m 231 #[jv q0, .second, iv p1, rv b1, iv 5, iv z191, iv z194, iv z197, iv z200, iv z203, iv z206, iv z209] [(.int (own_f2_5 z191 g))]))
      refine own_via (fun k => XS.iload X211.here hx rfl (hb hby at_231) rfl  k) ?_
      show own_Go p e below s _ _ (T211.setTop (mkF m 233 #[jv q0, .second, iv p1, rv b1, iv 5, iv z191, iv z194, iv z197, iv z200, iv z203, iv z206, iv z209] [(.int z209), (.int (own_f2_5 z191 g))]))
      refine own_via (fun k => XS.icmpNo X211.here hx rfl (hb hby at_233) rfl (teq (own_law5 p1 g z191 hz191 z194 hz194 z197 hz197 z200 hz200 z203 hz203 z206 hz206 z209 hz209 hl45)).2 k) ?_
      show own_Go p e below s _ _ (T211.setTop (mkF m 236 #[jv q0, .second, iv p1, rv b1, iv 5, iv z191, iv z194, iv z197, iv z200, iv z203, iv z206, iv z209] []))
      refine own_via (fun k => XS.iconst X211.here hx rfl (hb hby at_236) (XS.goto X211.here hx rfl (pc0 := 237) (pc' := 241) rfl (hb hby at_237) (by decide) (by decide) k)) ?_
      show own_Go p e below s _ _ (T211.setTop (mkF m 241 #[jv q0, .second, iv p1, rv b1, iv 5, iv z191, iv z194, iv z197, iv z200, iv z203, iv z206, iv z209] [(.int 1)]))
      exact own_retN X211 hx hlk (t := .boolean) Bd.returns (by simp) (hb hby at_241) (Q := (Q0 Z q0 p1 h0 n0)) ⟨rfl, N212⟩ (by decide) (by decide)
    by_cases hc213 : z194 < (0 : Int32)
    · refine own_via (fun k => XS.ifYes X204.here hx rfl (pc0 := 156) (pc' := 179) rfl (hb hby at_156) rfl ((if0 _ _).trans (tlt hc213).1) (by decide) (by decide) k) ?_
      show own_Go p e below s _ _ (T204.setTop (mkF m 179 #[jv q0, .second, iv p1, rv b1, iv 5, iv z191, iv z194, iv z197, iv z200, iv z203, iv z206, .unset] []))
      refine own_via (fun k => XS.iconst X204.here hx rfl (hb hby at_179) (XS.istore X204.here hx rfl (hb hby at_180) rfl (l' := #[jv q0, .second, iv p1, rv b1, iv 5, iv z191, iv z194, iv z197, iv z200, iv z203, iv z206, iv (-1)]) rfl (XS.goto X204.here hx rfl (pc0 := 182) (pc' := 223) rfl (hb hby at_182) (by decide) (by decide) k))) ?_
      show own_Go p e below s _ _ (T204.setTop (mkF m 223 #[jv q0, .second, iv p1, rv b1, iv 5, iv z191, iv z194, iv z197, iv z200, iv z203, iv z206, iv (-1)] []))
      exact J210 _ _ X204 N205 eh204 (-1 : Int32) (((if_pos hc213).trans rfl)).symm
    · refine own_via (fun k => XS.ifNo X204.here hx rfl (hb hby at_156) rfl ((if0 _ _).trans (flt hc213).1) k) ?_
      show own_Go p e below s _ _ (T204.setTop (mkF m 159 #[jv q0, .second, iv p1, rv b1, iv 5, iv z191, iv z194, iv z197, iv z200, iv z203, iv z206, .unset] []))
      refine own_via (fun k => XS.iload X204.here hx rfl (hb hby at_159) rfl  k) ?_
      show own_Go p e below s _ _ (T204.setTop (mkF m 161 #[jv q0, .second, iv p1, rv b1, iv 5, iv z191, iv z194, iv z197, iv z200, iv z203, iv z206, .unset] [(.int z197)]))
      by_cases hc214 : z197 < (0 : Int32)
      · refine own_via (fun k => XS.ifYes X204.here hx rfl (pc0 := 161) (pc' := 179) rfl (hb hby at_161) rfl ((if0 _ _).trans (tlt hc214).1) (by decide) (by decide) k) ?_
        show own_Go p e below s _ _ (T204.setTop (mkF m 179 #[jv q0, .second, iv p1, rv b1, iv 5, iv z191, iv z194, iv z197, iv z200, iv z203, iv z206, .unset] []))
        refine own_via (fun k => XS.iconst X204.here hx rfl (hb hby at_179) (XS.istore X204.here hx rfl (hb hby at_180) rfl (l' := #[jv q0, .second, iv p1, rv b1, iv 5, iv z191, iv z194, iv z197, iv z200, iv z203, iv z206, iv (-1)]) rfl (XS.goto X204.here hx rfl (pc0 := 182) (pc' := 223) rfl (hb hby at_182) (by decide) (by decide) k))) ?_
        show own_Go p e below s _ _ (T204.setTop (mkF m 223 #[jv q0, .second, iv p1, rv b1, iv 5, iv z191, iv z194, iv z197, iv z200, iv z203, iv z206, iv (-1)] []))
        exact J210 _ _ X204 N205 eh204 (-1 : Int32) (((if_neg hc213).trans ((if_pos hc214).trans rfl))).symm
      · refine own_via (fun k => XS.ifNo X204.here hx rfl (hb hby at_161) rfl ((if0 _ _).trans (flt hc214).1) k) ?_
        show own_Go p e below s _ _ (T204.setTop (mkF m 164 #[jv q0, .second, iv p1, rv b1, iv 5, iv z191, iv z194, iv z197, iv z200, iv z203, iv z206, .unset] []))
        refine own_via (fun k => XS.iload X204.here hx rfl (hb hby at_164) rfl  k) ?_
        show own_Go p e below s _ _ (T204.setTop (mkF m 166 #[jv q0, .second, iv p1, rv b1, iv 5, iv z191, iv z194, iv z197, iv z200, iv z203, iv z206, .unset] [(.int z200)]))
        by_cases hc215 : z200 < (0 : Int32)
        · refine own_via (fun k => XS.ifYes X204.here hx rfl (pc0 := 166) (pc' := 179) rfl (hb hby at_166) rfl ((if0 _ _).trans (tlt hc215).1) (by decide) (by decide) k) ?_
          show own_Go p e below s _ _ (T204.setTop (mkF m 179 #[jv q0, .second, iv p1, rv b1, iv 5, iv z191, iv z194, iv z197, iv z200, iv z203, iv z206, .unset] []))
          refine own_via (fun k => XS.iconst X204.here hx rfl (hb hby at_179) (XS.istore X204.here hx rfl (hb hby at_180) rfl (l' := #[jv q0, .second, iv p1, rv b1, iv 5, iv z191, iv z194, iv z197, iv z200, iv z203, iv z206, iv (-1)]) rfl (XS.goto X204.here hx rfl (pc0 := 182) (pc' := 223) rfl (hb hby at_182) (by decide) (by decide) k))) ?_
          show own_Go p e below s _ _ (T204.setTop (mkF m 223 #[jv q0, .second, iv p1, rv b1, iv 5, iv z191, iv z194, iv z197, iv z200, iv z203, iv z206, iv (-1)] []))
          exact J210 _ _ X204 N205 eh204 (-1 : Int32) (((if_neg hc213).trans ((if_neg hc214).trans ((if_pos hc215).trans rfl)))).symm
        · refine own_via (fun k => XS.ifNo X204.here hx rfl (hb hby at_166) rfl ((if0 _ _).trans (flt hc215).1) k) ?_
          show own_Go p e below s _ _ (T204.setTop (mkF m 169 #[jv q0, .second, iv p1, rv b1, iv 5, iv z191, iv z194, iv z197, iv z200, iv z203, iv z206, .unset] []))
          refine own_via (fun k => XS.iload X204.here hx rfl (hb hby at_169) rfl  k) ?_
          show own_Go p e below s _ _ (T204.setTop (mkF m 171 #[jv q0, .second, iv p1, rv b1, iv 5, iv z191, iv z194, iv z197, iv z200, iv z203, iv z206, .unset] [(.int z203)]))
          by_cases hc216 : z203 < (0 : Int32)
          · refine own_via (fun k => XS.ifYes X204.here hx rfl (pc0 := 171) (pc' := 179) rfl (hb hby at_171) rfl ((if0 _ _).trans (tlt hc216).1) (by decide) (by decide) k) ?_
            show own_Go p e below s _ _ (T204.setTop (mkF m 179 #[jv q0, .second, iv p1, rv b1, iv 5, iv z191, iv z194, iv z197, iv z200, iv z203, iv z206, .unset] []))
            refine own_via (fun k => XS.iconst X204.here hx rfl (hb hby at_179) (XS.istore X204.here hx rfl (hb hby at_180) rfl (l' := #[jv q0, .second, iv p1, rv b1, iv 5, iv z191, iv z194, iv z197, iv z200, iv z203, iv z206, iv (-1)]) rfl (XS.goto X204.here hx rfl (pc0 := 182) (pc' := 223) rfl (hb hby at_182) (by decide) (by decide) k))) ?_
            show own_Go p e below s _ _ (T204.setTop (mkF m 223 #[jv q0, .second, iv p1, rv b1, iv 5, iv z191, iv z194, iv z197, iv z200, iv z203, iv z206, iv (-1)] []))
            exact J210 _ _ X204 N205 eh204 (-1 : Int32) (((if_neg hc213).trans ((if_neg hc214).trans ((if_neg hc215).trans ((if_pos hc216).trans rfl))))).symm
          · refine own_via (fun k => XS.ifNo X204.here hx rfl (hb hby at_171) rfl ((if0 _ _).trans (flt hc216).1) k) ?_
            show own_Go p e below s _ _ (T204.setTop (mkF m 174 #[jv q0, .second, iv p1, rv b1, iv 5, iv z191, iv z194, iv z197, iv z200, iv z203, iv z206, .unset] []))
            refine own_via (fun k => XS.iload X204.here hx rfl (hb hby at_174) rfl  k) ?_
            show own_Go p e below s _ _ (T204.setTop (mkF m 176 #[jv q0, .second, iv p1, rv b1, iv 5, iv z191, iv z194, iv z197, iv z200, iv z203, iv z206, .unset] [(.int z206)]))
            by_cases hc217 : z206 < (0 : Int32)
            · refine own_via (fun k => XS.ifNo X204.here hx rfl (hb hby at_176) rfl ((if0 _ _).trans (tlt hc217).2.1) k) ?_
              show own_Go p e below s _ _ (T204.setTop (mkF m 179 #[jv q0, .second, iv p1, rv b1, iv 5, iv z191, iv z194, iv z197, iv z200, iv z203, iv z206, .unset] []))
              refine own_via (fun k => XS.iconst X204.here hx rfl (hb hby at_179) (XS.istore X204.here hx rfl (hb hby at_180) rfl (l' := #[jv q0, .second, iv p1, rv b1, iv 5, iv z191, iv z194, iv z197, iv z200, iv z203, iv z206, iv (-1)]) rfl (XS.goto X204.here hx rfl (pc0 := 182) (pc' := 223) rfl (hb hby at_182) (by decide) (by decide) k))) ?_
              show own_Go p e below s _ _ (T204.setTop (mkF m 223 #[jv q0, .second, iv p1, rv b1, iv 5, iv z191, iv z194, iv z197, iv z200, iv z203, iv z206, iv (-1)] []))
              exact J210 _ _ X204 N205 eh204 (-1 : Int32) (((if_neg hc213).trans ((if_neg hc214).trans ((if_neg hc215).trans ((if_neg hc216).trans ((if_pos hc217).trans rfl)))))).symm
            · refine own_via (fun k => XS.ifYes X204.here hx rfl (pc0 := 176) (pc' := 185) rfl (hb hby at_176) rfl ((if0 _ _).trans (flt hc217).2.1) (by decide) (by decide) k) ?_
              show own_Go p e below s _ _ (T204.setTop (mkF m 185 #[jv q0, .second, iv p1, rv b1, iv 5, iv z191, iv z194, iv z197, iv z200, iv z203, iv z206, .unset] []))
              refine own_via (fun k => XS.iload X204.here hx rfl (hb hby at_185) rfl  (XS.sipush X204.here hx rfl (hb hby at_187) (XS.imul X204.here hx rfl (hb hby at_190) rfl (XS.iload X204.here hx rfl (hb hby at_191) rfl  k)))) ?_
              show own_Go p e below s _ _ (T204.setTop (mkF m 193 #[jv q0, .second, iv p1, rv b1, iv 5, iv z191, iv z194, iv z197, iv z200, iv z203, iv z206, .unset] [(.int z197), (.int (z194 * (10000 : Int32)))]))
              refine own_via (fun k => XS.sipush X204.here hx rfl (hb hby at_193) (XS.imul X204.here hx rfl (hb hby at_196) rfl (XS.iadd X204.here hx rfl (hb hby at_197) rfl (XS.iload X204.here hx rfl (hb hby at_198) rfl  k)))) ?_
              show own_Go p e below s _ _ (T204.setTop (mkF m 200 #[jv q0, .second, iv p1, rv b1, iv 5, iv z191, iv z194, iv z197, iv z200, iv z203, iv z206, .unset] [(.int z200), (.int ((z194 * (10000 : Int32)) + (z197 * (1000 : Int32))))]))
              refine own_via (fun k => XS.bipush X204.here hx rfl (hb hby at_200) (XS.imul X204.here hx rfl (hb hby at_202) rfl (XS.iadd X204.here hx rfl (hb hby at_203) rfl (XS.iload X204.here hx rfl (hb hby at_204) rfl  k)))) ?_
              show own_Go p e below s _ _ (T204.setTop (mkF m 206 #[jv q0, .second, iv p1, rv b1, iv 5, iv z191, iv z194, iv z197, iv z200, iv z203, iv z206, .unset] [(.int z203), (.int (((z194 * (10000 : Int32)) + (z197 * (1000 : Int32))) + (z200 * (100 : Int32))))]))
              refine own_via (fun k => XS.bipush X204.here hx rfl (hb hby at_206) (XS.imul X204.here hx rfl (hb hby at_208) rfl (XS.iadd X204.here hx rfl (hb hby at_209) rfl (XS.iload X204.here hx rfl (hb hby at_210) rfl  k)))) ?_
              show own_Go p e below s _ _ (T204.setTop (mkF m 212 #[jv q0, .second, iv p1, rv b1, iv 5, iv z191, iv z194, iv z197, iv z200, iv z203, iv z206, .unset] [(.int z206), (.int ((((z194 * (10000 : Int32)) + (z197 * (1000 : Int32))) + (z200 * (100 : Int32))) + (z203 * (10 : Int32))))]))
              refine own_via (fun k => XS.iadd X204.here hx rfl (hb hby at_212) rfl (XS.iconst X204.here hx rfl (hb hby at_213) (XS.iload X204.here hx rfl (hb hby at_214) rfl  (XS.isub X204.here hx rfl (hb hby at_216) rfl k)))) ?_
              show own_Go p e below s _ _ (T204.setTop (mkF m 217 #[jv q0, .second, iv p1, rv b1, iv 5, iv z191, iv z194, iv z197, iv z200, iv z203, iv z206, .unset] [(.int 0), (.int (((((z194 * (10000 : Int32)) + (z197 * (1000 : Int32))) + (z200 * (100 : Int32))) + (z203 * (10 : Int32))) + z206))]))
              obtain ⟨_, _, ⟨T218, L218, k218, n218⟩, -, X218, ⟨Lc218, hQ218, l218, y218, z218⟩, st218⟩ := Jvm.LawKit.callS X204 hx (y := (⟨"organico/records/Iso2709DigitsPinLaw", "pow10", "(I)I"⟩ : MethodName)) hown (mvT hZ (hw _ (List.mem_of_getElem? (i := 10) rfl))) (mvT hZ (hw _ (List.mem_of_getElem? (i := 11) rfl))) (mvT hZ (hw _ (List.mem_of_getElem? (i := 4) rfl))) (mvT hZ (hw _ (List.mem_of_getElem? (i := 12) rfl))) (by decide) (backOf (W := 1) (rm3 l Z aw hw [] (0 : Int32) h41 n0 Z44) hZ (hw _ (List.mem_of_getElem? (i := 12) rfl)) (hw _ (List.mem_of_getElem? (i := 4) rfl)) (by decide) (by decide)) (g := (mkF m 217 #[jv q0, .second, iv p1, rv b1, iv 5, iv z191, iv z194, iv z197, iv z200, iv z203, iv z206, .unset] [(.int 0), (.int (((((z194 * (10000 : Int32)) + (z197 * (1000 : Int32))) + (z200 * (100 : Int32))) + (z203 * (10 : Int32))) + z206))])) rfl (by rw [hml]; rfl) (argsL := [(.int 0)]) (rest := [(.int (((((z194 * (10000 : Int32)) + (z197 * (1000 : Int32))) + (z200 * (100 : Int32))) + (z203 * (10 : Int32))) + z206))]) (lenOf pd_2 rfl) rfl (by show 2 * 0 + _ ≤ _; exact Nat.le_of_eq rfl) (hb hby at_217) (fun _ _ => ⟨rfl, eh204, (by decide : 1 + 0 ≤ _), (by decide : 8 + 0 ≤ _)⟩)
              dsimp only [Pt.U, Pt.locs, Pt.cells, Pt.slots] at X218 l218 y218 z218 st218 hQ218
              subst l218 y218 z218
              obtain ⟨rfl, N218q, eh218⟩ := hQ218
              have N219 := Fr.app N205 N218q
              refine own_via (fun k => st218 _ k) ?_
              show own_Go p e below s _ _ (T218.setTop (mkF m 220 #[jv q0, .second, iv p1, rv b1, iv 5, iv z191, iv z194, iv z197, iv z200, iv z203, iv z206, .unset] [(.int (own_f3 (0 : Int32))), (.int (((((z194 * (10000 : Int32)) + (z197 * (1000 : Int32))) + (z200 * (100 : Int32))) + (z203 * (10 : Int32))) + z206))]))
              refine own_via (fun k => XS.idiv X218.here hx rfl (hb hby at_220) rfl (own_nz5 p1 hl45) (XS.istore X218.here hx rfl (hb hby at_221) rfl (l' := #[jv q0, .second, iv p1, rv b1, iv 5, iv z191, iv z194, iv z197, iv z200, iv z203, iv z206, iv ((((((z194 * (10000 : Int32)) + (z197 * (1000 : Int32))) + (z200 * (100 : Int32))) + (z203 * (10 : Int32))) + z206) / (own_f3 (0 : Int32)))]) rfl k)) ?_
              show own_Go p e below s _ _ (T218.setTop (mkF m 223 #[jv q0, .second, iv p1, rv b1, iv 5, iv z191, iv z194, iv z197, iv z200, iv z203, iv z206, iv ((((((z194 * (10000 : Int32)) + (z197 * (1000 : Int32))) + (z200 * (100 : Int32))) + (z203 * (10 : Int32))) + z206) / (own_f3 (0 : Int32)))] []))
              exact J210 _ _ X218 N219 eh218 ((((((z194 * (10000 : Int32)) + (z197 * (1000 : Int32))) + (z200 * (100 : Int32))) + (z203 * (10 : Int32))) + z206) / (own_f3 (0 : Int32))) (((if_neg hc213).trans ((if_neg hc214).trans ((if_neg hc215).trans ((if_neg hc216).trans ((if_neg hc217).trans rfl)))))).symm
set_option maxRecDepth 65536 in
set_option maxHeartbeats 40000000 in
theorem comes_1 {Post : Tables → Env → Array Value → State → Outcome → State → Prop} (hpost : ∀ tb e args s v u, (limb_1_1.after args s (.returned v) u = true ∧ limb_1_2.after args s (.returned v) u = true ∧ True) → FrameEnd s (.returned v) u (Jvm.fieldLocs frame_1_writes args s ++ Jvm.arrayLocs frame_1_arrays args s ++ Jvm.staticLocs frame_1_statics s) 16 128 → Post tb e args s (.returned v) u) :
    ArmFor flags0 classFile x code maxLocals ret World_1 tables_1 room_1 Calls_1 rest_1 Pre_1 Post := by
  intro l hfl _ _ p e ha hc hk s m args below hf hA hF happ hP
  obtain ⟨hcalls, hrest, hpre⟩ := hP
  obtain ⟨-, -, -, hnamed, -, -, -, hat⟩ := (Spec.applies_iff hf).mp happ
  obtain ⟨hg, hn⟩ := and_e (Cond.before_iff.mp (show (Jvm.Cond.and given_1 narrow_1).before args s = true from hpre))
  obtain ⟨g1, g2⟩ := and_e hg
  obtain ⟨g3, g4⟩ := and_e g2
  obtain ⟨w0, w1, rfl⟩ : ∃ w0 w1 : Value, args = #[w0, w1] := by
    have hs : args.size = 2 := by simpa [Cond.value, given_1] using g1
    obtain ⟨L⟩ := args
    match L, hs with
    | [w0, w1], _ => exact ⟨w0, w1, rfl⟩
  have hw := fun d (hd : d ∈ tables_1) => atoms_spec (ws := Jvm.Cond.code x code maxLocals ret :: tables_1) hat d (List.mem_cons_of_mem _ hd)
  obtain ⟨i0, ei0⟩ := isL_v g3
  obtain rfl : w0 = (.long i0) := Option.some.inj ei0
  obtain ⟨i1, ei1⟩ := is_v g4
  obtain rfl : w1 = (.int i1) := Option.some.inj ei1
  obtain ⟨n, o, h1, h2, h3, _, L, rfl, ⟨rfl, N⟩, hq⟩ := rm0 l s _ hw tables_1 i0 i1 s.heap s.heap.size (Nat.le_refl _) p e ha hc hk s m _ below hf ((Spec.applies_iff_loose hf).mp happ).1 ⟨rfl, State.Warmed39.refl s, rfl⟩ trivial
  refine ⟨n, _, h1, h2, h3, hpost _ _ _ _ _ _ ⟨Cond.after_iff.mpr rfl, Cond.after_iff.mpr (eq_i res_at (Term.int_eval (1)) rfl), trivial⟩ ⟨hq.1, hq.2.1, (hq.2.2.sift fun y hy => Or.inr (N y hy)).mono (by decide) (by decide)⟩⟩
theorem main_1_1 : Claimed_1_1 := comes_1 fun _ _ _ _ _ _ h hF => ⟨h.1, hF⟩
theorem main_1_2 : Claimed_1_2 := comes_1 fun _ _ _ _ _ _ h hF => ⟨h.2.1, hF⟩
end Jvm.Pilot.@@N@@
namespace Jvm.Pilot.@@N@@
open Jvm Jvm.ClassFile Sem Op Lib Jvm.Free Jvm.Stand Jvm.Pilot.@@N@@.Jvm.D
/-! MADE BY PROGRAM (witnessworld.py) out of the Statement's table words and the real class files: 9 classes; the members and pool entries that the words name. The judged class is class 1, her method 1. -/
namespace start1
open Jvm.ClassFile
def u (s : String) : CpInfo := .utf8 (stringToUtf16 s)
/-- a pool by its gaps: so many unusable entries, then the entry; so many at the end -/
def gap : Nat → List CpInfo → List CpInfo
  | 0, r => r
  | n + 1, r => .unusable :: gap n r
def poolList (es : List (Nat × CpInfo)) (last : Nat) : List CpInfo := es.foldr (fun e r => gap e.1 (e.2 :: r)) (gap last [])
def pool (es : List (Nat × CpInfo)) (last : Nat) : Array CpInfo := ⟨poolList es last⟩
def fileOf (pool : Array CpInfo) (this : Nat) (attrs : Array Attribute := #[]) (ms : Array MethodInfo := #[]) (fl : Nat := 33) (sup : Nat := 0) (ifs : Array Nat := #[]) (fds : Array FieldInfo := #[]) : ClassFile where
  minorVersion := 0
  majorVersion := 65
  constantPool := pool
  accessFlags := fl
  thisClass := this
  superClass := sup
  interfaces := ifs
  fields := fds
  methods := ms
  attributes := attrs
def plain (name : String) (sup : Option ClassId) : Class where
  name := name
  kind := .ordinary
  loader := none
  accessFlags := 33
  super := sup
  interfaces := #[]
  cf := none
  fields := #[]
  methods := #[]
  instanceTypes := #[]
  staticTypes := #[]
  resolved := #[]
  callSites := []
  init := .initialized
  statics := none
  mirror := none

def pool0 : Array CpInfo := pool [(5, u "<init>"), (0, u "()V"), (1, .class_ 10), (1, u "java/lang/Object")] 113

def k0m0 : Method := { name := "<init>", desc := "()V", sig := { parameters := [], returnType := none }, accessFlags := 1, code := none }
/-- java/lang/Object -/
def k0 : Class := { plain "java/lang/Object" none with
  accessFlags := 33
  interfaces := #[]
  cf := some (fileOf pool0 8 #[] #[{ accessFlags := 1, nameIndex := 5, descriptorIndex := 6, attributes := #[] }] 33 0 #[] #[])
  fields := #[]
  methods := #[k0m0]
  instanceTypes := #[]
  staticTypes := #[]
  resolved := Array.replicate 124 none
  statics := none }

def pool1 : Array CpInfo := pool [(2, .class_ 4), (1, u "java/lang/Object"), (0, u "<init>"), (0, u "()V"), (0, .integer 2147483647), (0, .methodref 9 10), (0, .class_ 11), (0, .nameAndType 12 13), (0, u "organico/records/Iso2709DigitsPinLaw"), (0, u "digitAt"), (0, u "([BIII)I"), (0, .methodref 9 15), (0, .nameAndType 16 17), (0, u "pow10"), (0, u "(I)I"), (0, .methodref 19 20), (0, .class_ 21), (0, .nameAndType 22 23), (0, u "organico/records/Iso2709"), (0, u "digits"), (0, u "([BII)I"), (0, .integer 100000), (2, u "law"), (0, u "(JI)Z")] 5

def k1m0 : Method := { name := "<init>", desc := "()V", sig := { parameters := [], returnType := none }, accessFlags := 2, code := none }
def k1c1 : Code := { maxStack := 5, maxLocals := 12, code := code, exceptionTable := #[], attributes := #[] }
def k1m1 : Method := { name := "law", desc := "(JI)Z", sig := { parameters := [.long, .int], returnType := some .boolean }, accessFlags := 9, code := some k1c1 }
def k1c2 : Code := { maxStack := 3, maxLocals := 5, code := method_3_code, exceptionTable := #[], attributes := #[] }
def k1m2 : Method := { name := "digitAt", desc := "([BIII)I", sig := { parameters := [(.array .byte), .int, .int, .int], returnType := some .int }, accessFlags := 10, code := some k1c2 }
def k1c3 : Code := { maxStack := 2, maxLocals := 1, code := method_4_code, exceptionTable := #[], attributes := #[] }
def k1m3 : Method := { name := "pow10", desc := "(I)I", sig := { parameters := [.int], returnType := some .int }, accessFlags := 10, code := some k1c3 }
/-- organico/records/Iso2709DigitsPinLaw -/
def k1 : Class := { plain "organico/records/Iso2709DigitsPinLaw" (some 0) with
  accessFlags := 49
  interfaces := #[]
  cf := some (fileOf pool1 9 #[] #[{ accessFlags := 2, nameIndex := 5, descriptorIndex := 6, attributes := #[] }, { accessFlags := 9, nameIndex := 27, descriptorIndex := 28, attributes := #[] }, { accessFlags := 10, nameIndex := 12, descriptorIndex := 13, attributes := #[] }, { accessFlags := 10, nameIndex := 16, descriptorIndex := 17, attributes := #[] }] 49 2 #[] #[])
  fields := #[]
  methods := #[k1m0, k1m1, k1m2, k1m3]
  instanceTypes := #[]
  staticTypes := #[]
  resolved := Array.replicate 34 none
  statics := none }

def pool2 : Array CpInfo := pool [(1, .class_ 2), (0, u "organico/records/Iso2709"), (1, .class_ 6), (1, u "java/lang/Object"), (0, u "<init>"), (0, u "()V"), (18, u "digits"), (26, u "INDICATOR_COUNTS"), (0, u "[B"), (2, u "ENTRY_MAP"), (0, u "RECORD_TERMINATOR"), (0, u "B"), (2, u "FIELD_TERMINATOR"), (1, u "SUBFIELD_DELIMITER"), (0, u "C"), (1, u "LENGTH_DIGITS"), (0, u "I"), (1, u "LONGEST_RECORD"), (0, u "LONGEST_FIELD"), (1, u "LEADER_LENGTH"), (1, u "INDICATOR_COUNTS_AT"), (1, u "ENTRY_MAP_AT"), (1, u "TERMINATORS"), (1, u "BASE_ADDRESS_AT"), (1, u "TAG_LENGTH"), (1, u "FIELD_LENGTH_DIGITS"), (1, u "FIELD_START_DIGITS"), (0, u "ENTRY_LENGTH"), (8, u "([BII)I")] 22

def k2m0 : Method := { name := "<init>", desc := "()V", sig := { parameters := [], returnType := none }, accessFlags := 2, code := none }
def k2c1 : Code := { maxStack := 3, maxLocals := 5, code := prog_62_method_5_code, exceptionTable := #[], attributes := #[] }
def k2m1 : Method := { name := "digits", desc := "([BII)I", sig := { parameters := [(.array .byte), .int, .int], returnType := some .int }, accessFlags := 8, code := some k2c1 }
/-- organico/records/Iso2709 -/
def k2 : Class := { plain "organico/records/Iso2709" (some 0) with
  accessFlags := 48
  interfaces := #[]
  cf := some (fileOf pool2 1 #[] #[{ accessFlags := 2, nameIndex := 7, descriptorIndex := 8, attributes := #[] }, { accessFlags := 8, nameIndex := 27, descriptorIndex := 98, attributes := #[] }] 48 4 #[] #[{ accessFlags := 24, nameIndex := 59, descriptorIndex := 60, attributes := #[] }, { accessFlags := 24, nameIndex := 63, descriptorIndex := 60, attributes := #[] }, { accessFlags := 24, nameIndex := 65, descriptorIndex := 66, attributes := #[] }, { accessFlags := 24, nameIndex := 68, descriptorIndex := 69, attributes := #[] }, { accessFlags := 24, nameIndex := 71, descriptorIndex := 69, attributes := #[] }, { accessFlags := 24, nameIndex := 72, descriptorIndex := 69, attributes := #[] }, { accessFlags := 24, nameIndex := 74, descriptorIndex := 69, attributes := #[] }, { accessFlags := 24, nameIndex := 54, descriptorIndex := 55, attributes := #[] }, { accessFlags := 24, nameIndex := 76, descriptorIndex := 69, attributes := #[] }, { accessFlags := 24, nameIndex := 58, descriptorIndex := 55, attributes := #[] }, { accessFlags := 24, nameIndex := 78, descriptorIndex := 69, attributes := #[] }, { accessFlags := 24, nameIndex := 80, descriptorIndex := 69, attributes := #[] }, { accessFlags := 24, nameIndex := 82, descriptorIndex := 69, attributes := #[] }, { accessFlags := 24, nameIndex := 84, descriptorIndex := 69, attributes := #[] }, { accessFlags := 24, nameIndex := 86, descriptorIndex := 69, attributes := #[] }, { accessFlags := 24, nameIndex := 88, descriptorIndex := 69, attributes := #[] }, { accessFlags := 24, nameIndex := 89, descriptorIndex := 69, attributes := #[] }])
  fields := #[{ name := "RECORD_TERMINATOR", type := .byte, accessFlags := 24, slot := 0, constantValue := 0 }, { name := "FIELD_TERMINATOR", type := .byte, accessFlags := 24, slot := 1, constantValue := 0 }, { name := "SUBFIELD_DELIMITER", type := .char, accessFlags := 24, slot := 2, constantValue := 0 }, { name := "LENGTH_DIGITS", type := .int, accessFlags := 24, slot := 3, constantValue := 0 }, { name := "LONGEST_RECORD", type := .int, accessFlags := 24, slot := 4, constantValue := 0 }, { name := "LONGEST_FIELD", type := .int, accessFlags := 24, slot := 5, constantValue := 0 }, { name := "LEADER_LENGTH", type := .int, accessFlags := 24, slot := 6, constantValue := 0 }, { name := "INDICATOR_COUNTS", type := (.array .byte), accessFlags := 24, slot := 7, constantValue := 0 }, { name := "INDICATOR_COUNTS_AT", type := .int, accessFlags := 24, slot := 8, constantValue := 0 }, { name := "ENTRY_MAP", type := (.array .byte), accessFlags := 24, slot := 9, constantValue := 0 }, { name := "ENTRY_MAP_AT", type := .int, accessFlags := 24, slot := 10, constantValue := 0 }, { name := "TERMINATORS", type := .int, accessFlags := 24, slot := 11, constantValue := 0 }, { name := "BASE_ADDRESS_AT", type := .int, accessFlags := 24, slot := 12, constantValue := 0 }, { name := "TAG_LENGTH", type := .int, accessFlags := 24, slot := 13, constantValue := 0 }, { name := "FIELD_LENGTH_DIGITS", type := .int, accessFlags := 24, slot := 14, constantValue := 0 }, { name := "FIELD_START_DIGITS", type := .int, accessFlags := 24, slot := 15, constantValue := 0 }, { name := "ENTRY_LENGTH", type := .int, accessFlags := 24, slot := 16, constantValue := 0 }]
  methods := #[k2m0, k2m1]
  instanceTypes := #[]
  staticTypes := #[.byte, .byte, .char, .int, .int, .int, .int, (.array .byte), .int, (.array .byte), .int, .int, .int, .int, .int, .int, .int]
  resolved := Array.replicate 121 none
  statics := none }

def pool3 : Array CpInfo := pool [(1, u "java/lang/Cloneable"), (0, .class_ 1), (0, u "java/lang/Object"), (0, .class_ 3)] 3

/-- java/lang/Cloneable -/
def k3 : Class := { plain "java/lang/Cloneable" (some 0) with
  accessFlags := 1537
  interfaces := #[]
  cf := some (fileOf pool3 2 #[] #[] 1537 4 #[] #[])
  fields := #[]
  methods := #[]
  instanceTypes := #[]
  staticTypes := #[]
  resolved := Array.replicate 8 none
  statics := none }

def pool4 : Array CpInfo := pool [(1, u "java/io/Serializable"), (0, .class_ 1), (0, u "java/lang/Object"), (0, .class_ 3)] 3

/-- java/io/Serializable -/
def k4 : Class := { plain "java/io/Serializable" (some 0) with
  accessFlags := 1537
  interfaces := #[]
  cf := some (fileOf pool4 2 #[] #[] 1537 4 #[] #[])
  fields := #[]
  methods := #[]
  instanceTypes := #[]
  staticTypes := #[]
  resolved := Array.replicate 8 none
  statics := none }

/-- the primitive byte -/
def k5 : Class := { plain "byte" none with kind := .primitive 'B', accessFlags := 0x411 }
/-- [B -/
def k6 : Class := { plain "[B" (some 0) with kind := .array 5 .byte, interfaces := #[3, 4], accessFlags := 1041 }

/-- the primitive int -/
def k7 : Class := { plain "int" none with kind := .primitive 'I', accessFlags := 0x411 }
/-- [I -/
def k8 : Class := { plain "[I" (some 0) with kind := .array 7 .int, interfaces := #[3, 4], accessFlags := 1041 }

def heap : Heap := #[]
def classes : Array Class := #[k0, k1, k2, k3, k4, k5, k6, k7, k8]
def interned : List (Array UInt16 × Addr) := []
def slotsUsed : Nat := 0
def theMethod : MethodId := ⟨1, 1⟩
def args0 : Array Value := #[.long 5, .int 9]
def aboutOver (below : List Frame) : State where
  vm := { classes := classes, interned := interned.toArray }
  heap := heap
  slotsUsed := slotsUsed
  threads := #[{ frames := .invoking theMethod args0 :: below }]
def below0 : List Frame := [.native { method := ⟨0, 0⟩, args := #[] }]
def about1 : State := aboutOver below0
def p0 : Program := .bare "" "" ""
def e0 : Env := launch0.env 0 0 0
theorem w_frames : about1.frames = Frame.invoking theMethod args0 :: below0 := rfl
set_option maxRecDepth 65536 in
theorem w_args : argsFit about1.vm theMethod args0 = true := by decide +kernel
set_option maxRecDepth 65536 in
theorem w_heap : heapFits about1 = true := by decide +kernel
set_option maxRecDepth 65536 in
theorem w_runnable : about1.curStatus? = some .runnable := by decide +kernel
set_option maxRecDepth 65536 in
theorem w_alone : about1.alone = true := by decide +kernel
set_option maxRecDepth 65536 in
theorem w_named : about1.methodNamed? x = some theMethod := by decide +kernel
set_option maxRecDepth 65536 in
theorem w_hears : about1.hears theMethod below0 = true := by decide +kernel
set_option maxRecDepth 65536 in
theorem w_ripe : about1.ripe theMethod args0 below0 = true := by decide +kernel
theorem w_running : about1.status = .running := rfl
set_option maxRecDepth 65536 in
theorem w_room : about1.hasRoom e0.platform room_1 = true :=
  launch0.hasRoom_least _ room_1 (by decide +kernel) (by decide +kernel) (by decide +kernel) (by decide +kernel) (by decide +kernel) (by decide +kernel)
theorem allAtoms_all (ts : List Jvm.Cond) (a : Array Jvm.Value) (st : Jvm.State) : (allAtoms ts).before a st = ts.all (fun c => c.before a st) := by
  induction ts with
  | nil => rfl
  | cons c t ih =>
    show (Jvm.Cond.and c (allAtoms t)).before a st = _
    rw [Jvm.Cond.before_and, ih, List.all_cons]
def words1 : List Jvm.Cond := Jvm.Cond.code x code maxLocals ret :: tables_1
/-- a 'code' word, met by the world's own term for the bytes: nothing is compared byte by byte -/
theorem code_word {y : MethodName} {bytes : ByteArray} {mx : Nat} {rt : Option FieldType} {a : Array Value} {s : State} {m : MethodId} {meth : Method} {c : Code} (h1 : s.methodNamed? y = some m) (h2 : s.vm.method? m = some meth) (h3 : meth.code = some c) (h4 : c.code = bytes)
    (h5 : (c.maxLocals == mx && c.exceptionTable.isEmpty && decide (c.maxStack ≤ mostOperands) && decide (meth.sig.returnType = rt) && !meth.locks && decide (parseMethodDescriptor y.desc = some meth.sig)) = true) : (Jvm.Cond.code y bytes mx rt).before a s = true := by
  simp only [Bool.and_eq_true, beq_iff_eq, Bool.not_eq_true', decide_eq_true_eq] at h5
  obtain ⟨⟨⟨⟨⟨g1, g2⟩, g3⟩, g4⟩, g5⟩, g6⟩ := h5
  simp [Cond.before, Cond.holds, Cond.value, h1, h2, h3, h4, g1, g2, g3, g4, g5, g6]
def isCode : Jvm.Cond → Bool
  | .code _ _ _ _ => true
  | _ => false
theorem all_split {L : List Jvm.Cond} {P : Jvm.Cond → Bool} (h1 : L.all (fun c => isCode c || P c) = true) (h2 : ∀ c ∈ L.filter isCode, P c = true) : L.all P = true := by
  refine List.all_eq_true.mpr fun c hc => ?_
  have h := List.all_eq_true.mp h1 c hc
  rcases Bool.eq_false_or_eq_true (isCode c) with hi | hi
  · exact h2 c (List.mem_filter.mpr ⟨hc, hi⟩)
  · simpa [hi] using h
set_option maxRecDepth 65536 in
theorem w_c0 : (Jvm.Cond.code x code maxLocals ret).before args0 about1 = true := code_word (m := ⟨1, 1⟩) (meth := k1m1) (c := k1c1) (by decide +kernel) rfl rfl rfl (by decide +kernel)
set_option maxRecDepth 65536 in
theorem w_c1 : (Jvm.Cond.code ({ cls := "organico/records/Iso2709DigitsPinLaw", name := "digitAt", desc := "([BIII)I" } : Jvm.MethodName) method_3_code (5 : Nat) (Option.some Jvm.ClassFile.FieldType.int)).before args0 about1 = true := code_word (m := ⟨1, 2⟩) (meth := k1m2) (c := k1c2) (by decide +kernel) rfl rfl rfl (by decide +kernel)
set_option maxRecDepth 65536 in
theorem w_c2 : (Jvm.Cond.code ({ cls := "organico/records/Iso2709", name := "digits", desc := "([BII)I" } : Jvm.MethodName) prog_62_method_5_code (5 : Nat) (Option.some Jvm.ClassFile.FieldType.int)).before args0 about1 = true := code_word (m := ⟨2, 1⟩) (meth := k2m1) (c := k2c1) (by decide +kernel) rfl rfl rfl (by decide +kernel)
set_option maxRecDepth 65536 in
theorem w_c3 : (Jvm.Cond.code ({ cls := "organico/records/Iso2709DigitsPinLaw", name := "pow10", desc := "(I)I" } : Jvm.MethodName) method_4_code (1 : Nat) (Option.some Jvm.ClassFile.FieldType.int)).before args0 about1 = true := code_word (m := ⟨1, 3⟩) (meth := k1m3) (c := k1c3) (by decide +kernel) rfl rfl rfl (by decide +kernel)
def codes1 : List Jvm.Cond := [Jvm.Cond.code x code maxLocals ret, Jvm.Cond.code ({ cls := "organico/records/Iso2709DigitsPinLaw", name := "digitAt", desc := "([BIII)I" } : Jvm.MethodName) method_3_code (5 : Nat) (Option.some Jvm.ClassFile.FieldType.int), Jvm.Cond.code ({ cls := "organico/records/Iso2709", name := "digits", desc := "([BII)I" } : Jvm.MethodName) prog_62_method_5_code (5 : Nat) (Option.some Jvm.ClassFile.FieldType.int), Jvm.Cond.code ({ cls := "organico/records/Iso2709DigitsPinLaw", name := "pow10", desc := "(I)I" } : Jvm.MethodName) method_4_code (1 : Nat) (Option.some Jvm.ClassFile.FieldType.int)]
set_option maxRecDepth 65536 in
theorem codes_eq : words1.filter isCode = codes1 := rfl
theorem w_codes : ∀ c ∈ words1.filter isCode, c.before args0 about1 = true := by
  rw [codes_eq]
  intro c hc
  simp only [codes1, List.mem_cons, List.not_mem_nil, or_false] at hc
  rcases hc with rfl | rfl | rfl | rfl
  · exact w_c0
  · exact w_c1
  · exact w_c2
  · exact w_c3
set_option maxRecDepth 65536 in
theorem w_t1 : words1.all (fun c => isCode c || c.before args0 about1) = true := by decide +kernel
theorem w_tables : (allAtoms (Jvm.Cond.code x code maxLocals ret :: tables_1)).before args0 about1 = true := by
  rw [allAtoms_all]
  show words1.all (fun c => c.before args0 about1) = true
  refine all_split ?_ w_codes
  rw [w_t1]
set_option maxRecDepth 65536 in
theorem w_case : (Jvm.Cond.and given_1 narrow_1).before args0 about1 = true := by decide +kernel
theorem w_applies : (headSpec (Jvm.Cond.code x code maxLocals ret :: tables_1) room_1).applies x e0.platform about1 = true :=
  (Spec.applies_iff w_frames).mpr ⟨w_running, w_runnable, w_alone, w_named, w_hears, w_ripe, w_room, w_tables⟩
theorem atStart : AtStart classFile x code maxLocals ret World_1 tables_1 room_1 Calls_1 rest_1 Pre_1 launch0 p0 e0 about1 theMethod args0 below0 :=
  ⟨lists_1, trivial, launch0.admits_env _ _ _, launch0.least_env, fairChoices_fair.cas, fairChoices_fair.clock, w_frames, w_args, w_heap, w_applies, trivial, trivial, w_case⟩
end start1
theorem witness_1 : WitnessClaimed_1 := ⟨start1.p0, start1.e0, start1.about1, start1.theMethod, start1.args0, start1.below0, start1.atStart⟩
end Jvm.Pilot.@@N@@
