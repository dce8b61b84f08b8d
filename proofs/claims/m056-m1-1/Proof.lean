import JvmDerived
import JvmDerived.Pilot.@@N@@Statement
import JvmDerived.Pilot.@@N@@Code
set_option linter.unusedVariables false
set_option linter.unusedSimpArgs false
namespace Jvm.RoadKit
open Sem ClassFile Op Lib Jvm.Stand Jvm.Free Jvm.LawKit
section New
variable {p : Program} {l : Launch} {e : Env} {R : Room} {s : State} {m : MethodId} {args : Array Value} {below : List Frame} {meth : Method} {c : Code} {T : State} {locs : List Loc} {cells slots : Nat}
theorem retI (X : Stand p l e R s m args below meth c T locs cells slots) (hx : p.tables.exec = Jvm.exec) {pc : Nat} {Ls : Array Slot} {z : Int32} {rest : List Value} (hret : meth.sig.returnType = some .int) (hd : decode c.code pc = .ok (.ireturn, 1)) {fs : List Frame}
    (hl : ∀ (f : JFrame) (acts : List Action), f.method = m → f.locked = none → f.entered = [] → (doReturn e (T.setTop f) acts (some (.int z))).1 = T.setFrames fs) : Steps p.tables e below (T.setTop (mkF m pc Ls (.int z :: rest))) (T.setFrames fs) := by
  have hm' : T.vm.method? m = some meth := X.method'
  have hn : narrow .int (.int z) = .int z := rfl
  show Steps p.tables e below (T.setTop { method := m, pc := pc, locals := Ls, stack := _ :: rest, locked := none }) _
  jvm_step X.here [X.here.top, hx, hd, hm', hret, hn]
  first | (intro acts; rw [hl _ acts rfl rfl rfl]) | rw [hl _ _ rfl rfl rfl]
  exact Steps.refl _
abbrev jv (x : Int64) : Slot := .val (.long x)
/-- from the state st the run ends as Q says -/
def own_Go (p : Program) (e : Env) (below : List Frame) (s : State) (Q : Option Value → Heap → List Loc → Prop) (CS : Nat × Nat) (st : State) : Prop :=
  ∃ s₂ o, Steps p.tables e below st s₂ ∧ s₂.status = .running ∧ Ended s₂ below o ∧ ∃ v L, o = .returned v ∧ Q v s₂.heap L ∧ FrameEnd s o s₂ L CS.1 CS.2
variable {Q : Option Value → Heap → List Loc → Prop} {CS : Nat × Nat} {st st' : State}
theorem own_via (h : ∀ {t}, Steps p.tables e below st t → Steps p.tables e below st' t) (g : own_Go p e below s Q CS st) : own_Go p e below s Q CS st' := by
  obtain ⟨s₂, o, h1, h2⟩ := g
  exact ⟨s₂, o, h h1, h2⟩
theorem own_start {g g' : JFrame} (q : g = g') (h : own_Go p e below s Q CS (T.setTop g')) : ∃ s₂ o, Steps p.tables e below (T.setTop g) s₂ ∧ s₂.status = .running ∧ Ended s₂ below o ∧ ∃ v L, o = .returned v ∧ Q v s₂.heap L ∧ FrameEnd s o s₂ L CS.1 CS.2 := q ▸ h
theorem own_retN (X : Stand p l e R s m args below meth c T locs cells slots) (hx : p.tables.exec = Jvm.exec) (hlk : meth.locks = false) {pc : Nat} {Ls : Array Slot} {z : Int32} {t : FieldType} {rest : List Value} (hret : meth.sig.returnType = some t) (ht : t = .boolean ∨ t = .byte ∨ t = .char ∨ t = .short)
    (hd : decode c.code pc = .ok (.ireturn, 1)) (hq : Q (some (.int (nar t z))) T.heap locs) (hc : cells ≤ CS.1) (hs : slots ≤ CS.2) : own_Go p e below s Q CS (T.setTop (mkF m pc Ls (.int z :: rest))) := by
  obtain ⟨fs, hr, hrun, hended, hW, hsame⟩ := X.leave (v := some (.int (nar t z))) (fun h => by rw [hret] at h; cases h) hlk
  exact ⟨_, _, retN X hx hret ht hd hr, hrun, hended, _, _, rfl, hq, ⟨_, rfl⟩, hW, hsame.mono hc hs⟩
theorem own_retI (X : Stand p l e R s m args below meth c T locs cells slots) (hx : p.tables.exec = Jvm.exec) (hlk : meth.locks = false) {pc : Nat} {Ls : Array Slot} {z : Int32} {rest : List Value} (hret : meth.sig.returnType = some .int)
    (hd : decode c.code pc = .ok (.ireturn, 1)) (hq : Q (some (.int z)) T.heap locs) (hc : cells ≤ CS.1) (hs : slots ≤ CS.2) : own_Go p e below s Q CS (T.setTop (mkF m pc Ls (.int z :: rest))) := by
  obtain ⟨fs, hr, hrun, hended, hW, hsame⟩ := X.leave (v := some (.int z)) (fun h => by rw [hret] at h; cases h) hlk
  exact ⟨_, _, retI X hx hret hd hr, hrun, hended, _, _, rfl, hq, ⟨_, rfl⟩, hW, hsame.mono hc hs⟩
theorem own_retL (X : Stand p l e R s m args below meth c T locs cells slots) (hx : p.tables.exec = Jvm.exec) (hlk : meth.locks = false) {pc : Nat} {Ls : Array Slot} {z : Int64} (hret : meth.sig.returnType = some .long)
    (hd : decode c.code pc = .ok (.lreturn, 1)) (hq : Q (some (.long z)) T.heap locs) (hc : cells ≤ CS.1) (hs : slots ≤ CS.2) : own_Go p e below s Q CS (T.setTop (mkF m pc Ls [.long z])) := by
  obtain ⟨fs, hr, hrun, hended, hW, hsame⟩ := X.leave (v := some (.long z)) (fun h => by rw [hret] at h; cases h) hlk
  exact ⟨_, _, X.lreturnOut hx hret hd hr, hrun, hended, _, _, rfl, hq, ⟨_, rfl⟩, hW, hsame.mono hc hs⟩
theorem own_retA (X : Stand p l e R s m args below meth c T locs cells slots) (hx : p.tables.exec = Jvm.exec) (hlk : meth.locks = false) {pc : Nat} {Ls : Array Slot} {w : Value} (hw : w.isRef = true) {t : FieldType} (hret : meth.sig.returnType = some t) (ht : t.isReference = true)
    (hd : decode c.code pc = .ok (.areturn, 1)) (hq : Q (some w) T.heap locs) (hc : cells ≤ CS.1) (hs : slots ≤ CS.2) : own_Go p e below s Q CS (T.setTop (mkF m pc Ls [w])) := by
  obtain ⟨fs, hr, hrun, hended, hW, hsame⟩ := X.leave (v := some w) (fun h => by rw [hret] at h; cases h) hlk
  exact ⟨_, _, X.areturnOut hx hw hret ht hd hr, hrun, hended, _, _, rfl, hq, ⟨_, rfl⟩, hW, hsame.mono hc hs⟩
theorem own_ret0 (X : Stand p l e R s m args below meth c T locs cells slots) (hx : p.tables.exec = Jvm.exec) (hlk : meth.locks = false) {pc : Nat} {Ls : Array Slot} (hret : meth.sig.returnType = none)
    (hd : decode c.code pc = .ok (.return_, 1)) (hq : Q none T.heap locs) (hc : cells ≤ CS.1) (hs : slots ≤ CS.2) : own_Go p e below s Q CS (T.setTop (mkF m pc Ls [])) := by
  obtain ⟨fs, hr, hrun, hended, hW, hsame⟩ := X.leave (v := none) (fun _ => rfl) hlk
  exact ⟨_, _, X.returnOut hx hret hd hr, hrun, hended, _, _, rfl, hq, ⟨_, rfl⟩, hW, hsame.mono hc hs⟩
theorem own_selPriv {s : State} {args args' : Array Value} {y y' : MethodName} {C : String} (w : (Cond.selects C y' y').before args' s = true) (hc : y'.cls = y.cls) (hinst : (Cond.instanceMethod y).before args s = true) (hpriv : s.PrivateAt y) (hy : y.cls ≠ "java/lang/invoke/MethodHandle" ∧ y.cls ≠ "java/lang/invoke/VarHandle") : (Cond.selects y.cls y y).before args s = true := by
  obtain ⟨c2, r2, m2, q1, q2, q3, q4, kP, hkP, hkPi⟩ := Cond.selects_spec w
  exact selects_self_of_private (c := m2.cls) (k := kP) (by rw [← hc]; exact findClass_of_methodNamed q3) hkP hkPi hpriv hinst hy
theorem own_fldI {Z : State} {h : Heap} {a : Addr} {C n d : String} {v w : Int32} (q : v = w) (F : Fld Z h a C n d (.int v)) : Fld Z h a C n d (.int w) := q ▸ F
theorem own_fldJ {Z : State} {h : Heap} {a : Addr} {C n d : String} {v w : Int64} (q : v = w) (F : Fld Z h a C n d (.long v)) : Fld Z h a C n d (.long w) := q ▸ F
theorem own_arv {Z : State} {h : Heap} {a : Addr} {k : ClassId} {ty : FieldType} {n : Int32} {vs vs' : List Value} {d : Value} (q : vs = vs') (F : Arv Z h a k ty n vs d) : Arv Z h a k ty n vs' d := q ▸ F
theorem own_fits {t : FieldType} {v w : Int32} (q : v = w) (F : fits t (.int v) = true) : fits t (.int w) = true := q ▸ F
end New
end Jvm.RoadKit
namespace Jvm.Pilot.@@N@@
open Jvm Jvm.ClassFile Sem Op Lib Jvm.Free Jvm.Stand Jvm.LawKit Jvm.RoadKit Bundle Jvm.Pilot.@@N@@.Jvm.D
theorem own_l32 {x y : Int32} : x < y ↔ x.toInt < y.toInt := Int32.lt_iff_toInt_lt
theorem own_e32 {x y : Int32} : x = y ↔ x.toInt = y.toInt := Int32.toInt_inj.symm
theorem own_l64 {x y : Int64} : x < y ↔ x.toInt < y.toInt := Int64.lt_iff_toInt_lt
theorem own_e64 {x y : Int64} : x = y ↔ x.toInt = y.toInt := Int64.toInt_inj.symm
theorem own_all8 {P : Int8 → Prop} (h : ∀ n : Fin 256, P (Int8.ofBitVec (BitVec.ofFin n))) (i : Int8) : P i := h i.toBitVec.toFin
theorem own_ring (k i r : Int32) : k + (i + 1 - r) = k + (i - r) + 1 := by
  have e1 : (1 : Int32).toInt = 1 := by decide
  have a1 := c_iadd i 1; have a2 := c_isub (i + 1) r; have a3 := c_iadd k (i + 1 - r)
  have b1 := c_isub i r; have b2 := c_iadd k (i - r); have b3 := c_iadd (k + (i - r)) 1
  have r1 := rng32 (k + (i + 1 - r)); have r2 := rng32 (k + (i - r) + 1)
  rw [own_e32]; omega
theorem own_up {i t : Int32} (h : i < t) : (i + 1).toInt = i.toInt + 1 := by
  have := c_iadd i 1; have h1 : (1 : Int32).toInt = 1 := by decide
  have := rng32 t; have := rng32 i; have := rng32 (i + 1); rw [own_l32] at h; omega
def own_run (g : Int32 → Int32) : Nat → Int32 → Int32 → Int32 → Int32 → Int32 × Int32 × Int32 × Int32
  | 0, i, a, l, k => (a, l, k, i)
  | n + 1, i, a, l, k => if g i < 0 then (a, l, k, i) else if g i = 10 then (if a = 0 then own_run g n (i + 1) 0 (l + 1) 1 else own_run g n (i + 1) 0 l k) else if g i = 13 then own_run g n (i + 1) 1 (l + 1) 1 else own_run g n (i + 1) 0 l (k + 1)
def own_rn (g : Int32 → Int32) (t i a l k : Int32) : Int32 × Int32 × Int32 × Int32 := own_run g (t.toInt - i.toInt).toNat i a l k
theorem own_rn_end {g : Int32 → Int32} {t i a l k : Int32} (h : ¬ i < t) : own_rn g t i a l k = (a, l, k, i) := by
  rw [own_l32] at h; rw [own_rn, show (t.toInt - i.toInt).toNat = 0 by omega, own_run]
theorem own_rn_in {g : Int32 → Int32} {t i a l k : Int32} (h : i < t) : own_rn g t i a l k = if g i < 0 then (a, l, k, i) else if g i = 10 then (if a = 0 then own_rn g t (i + 1) 0 (l + 1) 1 else own_rn g t (i + 1) 0 l k) else if g i = 13 then own_rn g t (i + 1) 1 (l + 1) 1 else own_rn g t (i + 1) 0 l (k + 1) := by
  have u := own_up h; rw [own_l32] at h
  rw [own_rn, show (t.toInt - i.toInt).toNat = (t.toInt - (i + 1).toInt).toNat + 1 by omega, own_run]; rfl
theorem own_n10 {b : Int32} (h : b = 10) : ¬ b < (0 : Int32) := by subst h; decide
theorem own_n13 {b : Int32} (h : b = 13) : ¬ b < (0 : Int32) := by subst h; decide
theorem own_x10 {b : Int32} (h : b = 10) : ¬ b = (13 : Int32) := by subst h; decide
theorem own_x13 {b : Int32} (h : b = 13) : ¬ b = (10 : Int32) := by subst h; decide
theorem own_gt13 {b : Int32} (h : 13 < b) : ¬ b < 0 ∧ ¬ b = 10 ∧ ¬ b = 13 := by
  have e0 : (0 : Int32).toInt = 0 := by decide
  have e10 : (10 : Int32).toInt = 10 := by decide
  have e13 : (13 : Int32).toInt = 13 := by decide
  rw [own_l32] at h
  refine ⟨fun q => ?_, fun q => ?_, fun q => ?_⟩
  · rw [own_l32] at q; omega
  · subst q; omega
  · subst q; omega
section Rn
variable {g : Int32 → Int32} {t i a l k : Int32}
theorem own_rn_neg (h : i < t) (hb : g i < 0) : own_rn g t i a l k = (a, l, k, i) := by rw [own_rn_in h, if_pos hb]
theorem own_rn_nl0 (h : i < t) (hb : g i = 10) (ha : a = 0) : own_rn g t i a l k = own_rn g t (i + 1) 0 (l + 1) 1 := by rw [own_rn_in h, if_neg (own_n10 hb), if_pos hb, if_pos ha]
theorem own_rn_nl1 (h : i < t) (hb : g i = 10) (ha : ¬ a = 0) : own_rn g t i a l k = own_rn g t (i + 1) 0 l k := by rw [own_rn_in h, if_neg (own_n10 hb), if_pos hb, if_neg ha]
theorem own_rn_cr (h : i < t) (hb : g i = 13) : own_rn g t i a l k = own_rn g t (i + 1) 1 (l + 1) 1 := by rw [own_rn_in h, if_neg (own_n13 hb), if_neg (own_x13 hb), if_pos hb]
theorem own_rn_ot (h : i < t) (h1 : ¬ g i < 0) (h2 : ¬ g i = 10) (h3 : ¬ g i = 13) : own_rn g t i a l k = own_rn g t (i + 1) 0 l (k + 1) := by rw [own_rn_in h, if_neg h1, if_neg h2, if_neg h3]
theorem own_rn_gt (h : i < t) (hb : 13 < g i) : own_rn g t i a l k = own_rn g t (i + 1) 0 l (k + 1) := own_rn_ot h (own_gt13 hb).1 (own_gt13 hb).2.1 (own_gt13 hb).2.2
/-- the state of a run at the inner head: r where it began -/
def own_st (g : Int32 → Int32) (t i r a l k : Int32) : Int32 × Int32 × Int32 × Int32 := own_rn g t i (if r < i then 0 else a) l (k + (i - r))
theorem own_st_self : own_st g t i i a l k = own_rn g t i a l k := by
  rw [own_st, if_neg Int32.lt_irrefl, Int32.sub_self, Int32.add_zero]
theorem own_st_gt {r : Int32} (h : i < t) (hr : ¬ i < r) (hb : 13 < g i) : own_st g t (i + 1) r a l k = own_st g t i r a l k := by
  have hlt : r < i + 1 := by rw [own_l32, own_up h]; rw [own_l32] at hr; omega
  rw [own_st, own_st, if_pos hlt, own_rn_gt h hb]
  congr 1
  exact own_ring k i r
theorem own_st_no {r : Int32} (hr : ¬ i < r) (h : ¬ r < i) : own_st g t i r a l k = own_rn g t i a l k := by
  have e : r = i := Int32.toInt_inj.mp (by rw [own_l32] at hr h; omega)
  subst e; exact own_st_self
theorem own_st_yes {r : Int32} (h : r < i) : own_st g t i r a l k = own_rn g t i 0 l (k + (i - r)) := by rw [own_st, if_pos h]
theorem own_fu0 (h : (t.toInt - i.toInt).toNat = 0) : ¬ i < t := by rw [own_l32]; omega
theorem own_fu1 {n : Nat} (h : (t.toInt - i.toInt).toNat = n + 1) : i < t := by rw [own_l32]; omega
theorem own_fun {n : Nat} (h : (t.toInt - i.toInt).toNat = n + 1) : (t.toInt - (i + 1).toInt).toNat = n := by rw [own_up (own_fu1 h)]; omega
theorem own_nn (h : i < t) (h0 : ¬ i < 0) : ¬ (i + 1) < 0 := by
  have e0 : (0 : Int32).toInt = 0 := by decide
  rw [own_l32] at h0 ⊢; rw [own_up h]; omega
theorem own_rr {r : Int32} (h : i < t) (hr : ¬ i < r) : ¬ (i + 1) < r := by rw [own_l32] at hr ⊢; rw [own_up h]; omega
theorem own_inb (h : i < t) (h0 : ¬ i < 0) (h4 : ¬ (4 : Int32) < t) : ¬ i < (0 : Int32) ∧ i < (4 : Int32) := ⟨h0, by rw [own_l32] at h h4 ⊢; omega⟩
end Rn
def own_b (w0 w1 w2 w3 j : Int32) : Int32 := if j = 0 then w0 else if j = 1 then w1 else if j = 2 then w2 else w3
theorem own_get (w0 w1 w2 w3 j : Int32) (h : ¬ j < (0 : Int32) ∧ j < (4 : Int32)) : ([(.int w0), (.int w1), (.int w2), (.int w3)] : List Value).getD j.toNatClampNeg (.int 0) = .int (own_b w0 w1 w2 w3 j) := by
  have e : j = 0 ∨ j = 1 ∨ j = 2 ∨ j = 3 := by
    have e0 : (0 : Int32).toInt = 0 := by decide
    have e1 : (1 : Int32).toInt = 1 := by decide
    have e2 : (2 : Int32).toInt = 2 := by decide
    have e3 : (3 : Int32).toInt = 3 := by decide
    have e4 : (4 : Int32).toInt = 4 := by decide
    obtain ⟨h1, h2⟩ := h
    rw [own_l32] at h1 h2; simp only [own_e32]; omega
  rcases e with rfl | rfl | rfl | rfl <;> rfl
theorem own_b127 (w : Int32) : ¬ (127 : Int32) < nar .byte w := by
  have e : (127 : Int32).toInt = 127 := by decide
  have b := c_i2b w
  have n : nar .byte w = w.toInt8.toInt32 := rfl
  rw [own_l32, n]; omega
theorem own_br (w0 w1 w2 w3 j : Int32) : ¬ (127 : Int32) < own_b (nar .byte w0) (nar .byte w1) (nar .byte w2) (nar .byte w3) j := by
  rw [own_b]; split
  · exact own_b127 _
  · split
    · exact own_b127 _
    · split <;> exact own_b127 _
section Far
variable {z t : Int32}
theorem own_end4 (l1 : z < t) (l2 : (z + 1) < t) (l3 : ((z + 1) + 1) < t) (l4 : (((z + 1) + 1) + 1) < t) (h0 : ¬ z < 0) (h4 : ¬ (4 : Int32) < t) : ¬ ((((z + 1) + 1) + 1) + 1) < t := by
  have := own_up l1; have := own_up l2; have := own_up l3; have := own_up l4
  have e0 : (0 : Int32).toInt = 0 := by decide
  have e4 : (4 : Int32).toInt = 4 := by decide
  rw [own_l32] at h0 h4 ⊢; omega
theorem own_far1 (l1 : z < t) : ¬ (z + 1) = z := fun q => by have := own_up l1; rw [q] at this; omega
theorem own_far2 (l1 : z < t) (l2 : (z + 1) < t) : ¬ ((z + 1) + 1) = z := fun q => by have := own_up l1; have := own_up l2; rw [q] at this; omega
theorem own_far3 (l1 : z < t) (l2 : (z + 1) < t) (l3 : ((z + 1) + 1) < t) : ¬ (((z + 1) + 1) + 1) = z := fun q => by have := own_up l1; have := own_up l2; have := own_up l3; rw [q] at this; omega
theorem own_far4 (l1 : z < t) (l2 : (z + 1) < t) (l3 : ((z + 1) + 1) < t) (l4 : (((z + 1) + 1) + 1) < t) : ¬ ((((z + 1) + 1) + 1) + 1) = z := fun q => by have := own_up l1; have := own_up l2; have := own_up l3; have := own_up l4; rw [q] at this; omega
end Far
theorem d1_0 : decode method_2_code 0 = .ok (.iload_n 0, 1) := by decide +kernel
theorem d1_1 : decode method_2_code 1 = .ok (.bipush 8, 2) := by decide +kernel
theorem d1_3 : decode method_2_code 3 = .ok (.iushr, 1) := by decide +kernel
theorem d1_4 : decode method_2_code 4 = .ok (.iconst 3, 1) := by decide +kernel
theorem d1_5 : decode method_2_code 5 = .ok (.iand, 1) := by decide +kernel
theorem d1_6 : decode method_2_code 6 = .ok (.istore_n 1, 1) := by decide +kernel
theorem d1_7 : decode method_2_code 7 = .ok (.iload_n 1, 1) := by decide +kernel
theorem d1_8 : decode method_2_code 8 = .ok (.ifCond .ne 6, 3) := by decide +kernel
theorem d1_11 : decode method_2_code 11 = .ok (.bipush 13, 2) := by decide +kernel
theorem d1_13 : decode method_2_code 13 = .ok (.ireturn, 1) := by decide +kernel
theorem d1_14 : decode method_2_code 14 = .ok (.iload_n 1, 1) := by decide +kernel
theorem d1_15 : decode method_2_code 15 = .ok (.iconst 1, 1) := by decide +kernel
theorem d1_16 : decode method_2_code 16 = .ok (.if_icmp .ne 6, 3) := by decide +kernel
theorem d1_19 : decode method_2_code 19 = .ok (.bipush 10, 2) := by decide +kernel
theorem d1_21 : decode method_2_code 21 = .ok (.ireturn, 1) := by decide +kernel
theorem d1_22 : decode method_2_code 22 = .ok (.iload_n 0, 1) := by decide +kernel
theorem d1_23 : decode method_2_code 23 = .ok (.i2b, 1) := by decide +kernel
theorem d1_24 : decode method_2_code 24 = .ok (.ireturn, 1) := by decide +kernel
theorem pn_1 : plainName "com/example/tree_to_rows/treetorows/xml/DocumentPlacePassAsciiPinLaw" = true := by first | (simp [plainName, overriddenIn]; done) | decide +kernel
theorem ef_1 (m : MethodId) (x0 : Int32) : entryFrame m #[(.int x0)] 2 = mkF m 0 #[iv x0, .unset] [] := by first | (simp [entryFrame, mkF, argsToLocals, Value.category]; done) | rfl
def own_f1 (p0 : Int32) : Int32 := (if (((p0.toUInt32 >>> ((8 : Int32) &&& 31).toUInt32).toInt32) &&& (3 : Int32)) = (0 : Int32) then (13 : Int32) else (if (((p0.toUInt32 >>> ((8 : Int32) &&& 31).toUInt32).toInt32) &&& (3 : Int32)) = (1 : Int32) then (10 : Int32) else (nar .byte (p0.toInt8.toInt32))))
def Q1 (Z : State) (p0 : Int32) (h0 : Heap) (n0 : Nat) (v : Option Value) (h : Heap) (L : List Loc) : Prop := v = some (.int (own_f1 p0)) ∧ Fr n0 L ∧ h = h0
set_option maxRecDepth 65536 in
set_option maxHeartbeats 40000000 in
theorem rm1 (l : Launch) (Z : State) (aw : Array Value) (hw : ∀ d ∈ tables_1, d.before aw Z = true) (ws : List Jvm.Cond) (p0 : Int32) (h0 : Heap) (n0 : Nat) (Z0 : n0 ≤ h0.size)  :
    MetFree l (⟨"com/example/tree_to_rows/treetorows/xml/DocumentPlacePassAsciiPinLaw", "draw", "(I)B"⟩ : MethodName) (head1 (Jvm.Cond.code (⟨"com/example/tree_to_rows/treetorows/xml/DocumentPlacePassAsciiPinLaw", "draw", "(I)B"⟩ : MethodName) method_2_code 2 (some .byte) :: ws) ({ frames := 0, cells := 0, slots := 0, locals := 0 } : Room)) (fun a U => a = #[(.int p0)] ∧ Z.Warmed39 U.vm ∧ U.heap = h0) (fun _ _ _ _ _ => True) (fun _ U o U' => ∃ v L, o = .returned v ∧ Q1 Z p0 h0 n0 v U'.heap L ∧ FrameEnd U o U' L ({ frames := 0, cells := 0, slots := 0, locals := 0 } : Room).cells ({ frames := 0, cells := 0, slots := 0, locals := 0 } : Room).slots) := by
  refine MetFree.of_bodySF (plainFor_of_name pn_1) hisR ?_
  intro p e s m args below meth c s₁ Bd hml0 hP hK
  obtain ⟨rfl, hZ, hh⟩ := hP
  have hx := Bd.exec
  have hby := Bd.bytes
  have hml : c.maxLocals = 2 := hml0
  have hown : s.vm.findClass "com/example/tree_to_rows/treetorows/xml/DocumentPlacePassAsciiPinLaw" = some m.cls := findClass_of_methodNamed Bd.named
  have hnm := (name_of_methodNamed Bd.named Bd.method).1
  have hlk : meth.locks = false := by first | exact BodyLoose.notSynchronized (by assumption) | exact Body.notSynchronized (by assumption)
  have X0 : Stand p l e ({ frames := 0, cells := 0, slots := 0, locals := 0 } : Room) s m #[(.int p0)] below meth c s₁ [] 0 0 := Stand.of_body Bd
  have e0 : s₁.heap = h0 := by rw [← hh, Bd.state]; rfl
  have N0 := Fr.nil n0
  have K0 : Keep h0 h0 [] := Keep.refl _ _
  refine own_start (CS := (0, 0)) (Q := (Q1 Z p0 h0 n0)) (ef_1 m p0) ?_
  show own_Go p e below s _ _ (s₁.setTop (mkF m 0 #[iv p0, .unset] []))
  refine own_via (fun k => XS.iloadN X0.here hx rfl (hb hby d1_0) rfl  (XS.bipush X0.here hx rfl (hb hby d1_1) (XS.iushr X0.here hx rfl (hb hby d1_3) rfl (XS.iconst X0.here hx rfl (hb hby d1_4) k)))) ?_
  show own_Go p e below s _ _ (s₁.setTop (mkF m 5 #[iv p0, .unset] [(.int 3), (.int ((p0.toUInt32 >>> ((8 : Int32) &&& 31).toUInt32).toInt32))]))
  refine own_via (fun k => XS.iand X0.here hx rfl (hb hby d1_5) rfl (XS.istoreN X0.here hx rfl (hb hby d1_6) rfl (l' := #[iv p0, iv (((p0.toUInt32 >>> ((8 : Int32) &&& 31).toUInt32).toInt32) &&& (3 : Int32))]) rfl (XS.iloadN X0.here hx rfl (hb hby d1_7) rfl  k))) ?_
  show own_Go p e below s _ _ (s₁.setTop (mkF m 8 #[iv p0, iv (((p0.toUInt32 >>> ((8 : Int32) &&& 31).toUInt32).toInt32) &&& (3 : Int32))] [(.int (((p0.toUInt32 >>> ((8 : Int32) &&& 31).toUInt32).toInt32) &&& (3 : Int32)))]))
  by_cases hc1 : (((p0.toUInt32 >>> ((8 : Int32) &&& 31).toUInt32).toInt32) &&& (3 : Int32)) = (0 : Int32)
  · refine own_via (fun k => XS.ifNo X0.here hx rfl (hb hby d1_8) rfl ((if0 _ _).trans (teq hc1).2) k) ?_
    show own_Go p e below s _ _ (s₁.setTop (mkF m 11 #[iv p0, iv (((p0.toUInt32 >>> ((8 : Int32) &&& 31).toUInt32).toInt32) &&& (3 : Int32))] []))
    refine own_via (fun k => XS.bipush X0.here hx rfl (hb hby d1_11) k) ?_
    show own_Go p e below s _ _ (s₁.setTop (mkF m 13 #[iv p0, iv (((p0.toUInt32 >>> ((8 : Int32) &&& 31).toUInt32).toInt32) &&& (3 : Int32))] [(.int 13)]))
    exact own_retN X0 hx hlk (t := .byte) Bd.returns (by simp) (hb hby d1_13) (Q := (Q1 Z p0 h0 n0)) ⟨(congrArg (fun z => some (Value.int z)) (show (13 : Int32) = (own_f1 p0) from (by unfold own_f1; exact ((if_pos hc1).trans rfl).symm))), N0, e0⟩ (by decide) (by decide)
  · refine own_via (fun k => XS.ifYes X0.here hx rfl (pc0 := 8) (pc' := 14) rfl (hb hby d1_8) rfl ((if0 _ _).trans (feq hc1).2) (by decide) (by decide) k) ?_
    show own_Go p e below s _ _ (s₁.setTop (mkF m 14 #[iv p0, iv (((p0.toUInt32 >>> ((8 : Int32) &&& 31).toUInt32).toInt32) &&& (3 : Int32))] []))
    refine own_via (fun k => XS.iloadN X0.here hx rfl (hb hby d1_14) rfl  (XS.iconst X0.here hx rfl (hb hby d1_15) k)) ?_
    show own_Go p e below s _ _ (s₁.setTop (mkF m 16 #[iv p0, iv (((p0.toUInt32 >>> ((8 : Int32) &&& 31).toUInt32).toInt32) &&& (3 : Int32))] [(.int 1), (.int (((p0.toUInt32 >>> ((8 : Int32) &&& 31).toUInt32).toInt32) &&& (3 : Int32)))]))
    by_cases hc2 : (((p0.toUInt32 >>> ((8 : Int32) &&& 31).toUInt32).toInt32) &&& (3 : Int32)) = (1 : Int32)
    · refine own_via (fun k => XS.icmpNo X0.here hx rfl (hb hby d1_16) rfl (teq hc2).2 k) ?_
      show own_Go p e below s _ _ (s₁.setTop (mkF m 19 #[iv p0, iv (((p0.toUInt32 >>> ((8 : Int32) &&& 31).toUInt32).toInt32) &&& (3 : Int32))] []))
      refine own_via (fun k => XS.bipush X0.here hx rfl (hb hby d1_19) k) ?_
      show own_Go p e below s _ _ (s₁.setTop (mkF m 21 #[iv p0, iv (((p0.toUInt32 >>> ((8 : Int32) &&& 31).toUInt32).toInt32) &&& (3 : Int32))] [(.int 10)]))
      exact own_retN X0 hx hlk (t := .byte) Bd.returns (by simp) (hb hby d1_21) (Q := (Q1 Z p0 h0 n0)) ⟨(congrArg (fun z => some (Value.int z)) (show (10 : Int32) = (own_f1 p0) from (by unfold own_f1; exact ((if_neg hc1).trans ((if_pos hc2).trans rfl)).symm))), N0, e0⟩ (by decide) (by decide)
    · refine own_via (fun k => XS.icmpYes X0.here hx rfl (pc0 := 16) (pc' := 22) rfl (hb hby d1_16) rfl (feq hc2).2 (by decide) (by decide) k) ?_
      show own_Go p e below s _ _ (s₁.setTop (mkF m 22 #[iv p0, iv (((p0.toUInt32 >>> ((8 : Int32) &&& 31).toUInt32).toInt32) &&& (3 : Int32))] []))
      refine own_via (fun k => XS.iloadN X0.here hx rfl (hb hby d1_22) rfl  (XS.i2b X0.here hx rfl (hb hby d1_23) rfl k)) ?_
      show own_Go p e below s _ _ (s₁.setTop (mkF m 24 #[iv p0, iv (((p0.toUInt32 >>> ((8 : Int32) &&& 31).toUInt32).toInt32) &&& (3 : Int32))] [(.int (p0.toInt8.toInt32))]))
      exact own_retN X0 hx hlk (t := .byte) Bd.returns (by simp) (hb hby d1_24) (Q := (Q1 Z p0 h0 n0)) ⟨(congrArg (fun z => some (Value.int z)) (show (nar .byte (p0.toInt8.toInt32)) = (own_f1 p0) from (by unfold own_f1; exact ((if_neg hc1).trans ((if_neg hc2).trans rfl)).symm))), N0, e0⟩ (by decide) (by decide)
theorem d2_0 : decode prog_92_method_1_code 0 = .ok (.aload_n 0, 1) := by decide +kernel
theorem d2_1 : decode prog_92_method_1_code 1 = .ok (.invokespecial 1, 3) := by decide +kernel
theorem d2_4 : decode prog_92_method_1_code 4 = .ok (.aload_n 0, 1) := by decide +kernel
theorem d2_5 : decode prog_92_method_1_code 5 = .ok (.iload_n 1, 1) := by decide +kernel
theorem d2_6 : decode prog_92_method_1_code 6 = .ok (.putfield 7, 3) := by decide +kernel
theorem d2_9 : decode prog_92_method_1_code 9 = .ok (.aload_n 0, 1) := by decide +kernel
theorem d2_10 : decode prog_92_method_1_code 10 = .ok (.iconst 1, 1) := by decide +kernel
theorem d2_11 : decode prog_92_method_1_code 11 = .ok (.putfield 13, 3) := by decide +kernel
theorem d2_14 : decode prog_92_method_1_code 14 = .ok (.aload_n 0, 1) := by decide +kernel
theorem d2_15 : decode prog_92_method_1_code 15 = .ok (.iconst 0, 1) := by decide +kernel
theorem d2_16 : decode prog_92_method_1_code 16 = .ok (.putfield 16, 3) := by decide +kernel
theorem d2_19 : decode prog_92_method_1_code 19 = .ok (.aload_n 0, 1) := by decide +kernel
theorem d2_20 : decode prog_92_method_1_code 20 = .ok (.iconst 1, 1) := by decide +kernel
theorem d2_21 : decode prog_92_method_1_code 21 = .ok (.putfield 19, 3) := by decide +kernel
theorem d2_24 : decode prog_92_method_1_code 24 = .ok (.aload_n 0, 1) := by decide +kernel
theorem d2_25 : decode prog_92_method_1_code 25 = .ok (.iconst 1, 1) := by decide +kernel
theorem d2_26 : decode prog_92_method_1_code 26 = .ok (.putfield 23, 3) := by decide +kernel
theorem d2_29 : decode prog_92_method_1_code 29 = .ok (.return_, 1) := by decide +kernel
theorem pn_2 : plainName "com/example/tree_to_rows/treetorows/xml/DocumentPlace" = true := by first | (simp [plainName, overriddenIn]; done) | decide +kernel
theorem ef_2 (m : MethodId) (x0 : Addr) (x1 : Int32) : entryFrame m #[(.ref x0), (.int x1)] 2 = mkF m 0 #[rv x0, iv x1] [] := by first | (simp [entryFrame, mkF, argsToLocals, Value.category]; done) | rfl
def Q2 (Z : State) (a0 : Addr) (p1 : Int32) (h0 : Heap) (n0 : Nat) (v : Option Value) (h : Heap) (L : List Loc) : Prop := v = none ∧ Fr n0 L ∧ Keep h0 h [a0] ∧ Fld Z h a0 "com/example/tree_to_rows/treetorows/xml/DocumentPlace" "xml11" "Z" (.int p1) ∧ Fld Z h a0 "com/example/tree_to_rows/treetorows/xml/DocumentPlace" "firstCharacter" "Z" (.int 1) ∧ Fld Z h a0 "com/example/tree_to_rows/treetorows/xml/DocumentPlace" "afterCarriageReturn" "Z" (.int 0) ∧ Fld Z h a0 "com/example/tree_to_rows/treetorows/xml/DocumentPlace" "line" "I" (.int 1) ∧ Fld Z h a0 "com/example/tree_to_rows/treetorows/xml/DocumentPlace" "column" "I" (.int 1)
set_option maxRecDepth 65536 in
set_option maxHeartbeats 40000000 in
theorem rm2 (l : Launch) (Z : State) (aw : Array Value) (hw : ∀ d ∈ tables_1, d.before aw Z = true) (ws : List Jvm.Cond) (a0 : Addr) (p1 : Int32) (h0 : Heap) (n0 : Nat) (Z0 : n0 ≤ h0.size) (P0 : Fld Z h0 a0 "com/example/tree_to_rows/treetorows/xml/DocumentPlace" "xml11" "Z" (.int 0)) (P1 : Fld Z h0 a0 "com/example/tree_to_rows/treetorows/xml/DocumentPlace" "firstCharacter" "Z" (.int 0)) (P2 : Fld Z h0 a0 "com/example/tree_to_rows/treetorows/xml/DocumentPlace" "afterCarriageReturn" "Z" (.int 0)) (P3 : Fld Z h0 a0 "com/example/tree_to_rows/treetorows/xml/DocumentPlace" "line" "I" (.int 0)) (P4 : Fld Z h0 a0 "com/example/tree_to_rows/treetorows/xml/DocumentPlace" "column" "I" (.int 0)) (P5 : Exa Z h0 a0 "com/example/tree_to_rows/treetorows/xml/DocumentPlace") (ge0 : n0 ≤ a0) (hbo : nar .boolean p1 = p1) :
    MetFree l (⟨"com/example/tree_to_rows/treetorows/xml/DocumentPlace", "<init>", "(Z)V"⟩ : MethodName) (head1 (Jvm.Cond.code (⟨"com/example/tree_to_rows/treetorows/xml/DocumentPlace", "<init>", "(Z)V"⟩ : MethodName) prog_92_method_1_code 2 none :: ws) ({ frames := 1, cells := 0, slots := 0, locals := 12 } : Room)) (fun a U => a = #[(.ref a0), (.int p1)] ∧ Z.Warmed39 U.vm ∧ U.heap = h0) (fun _ _ _ _ _ => True) (fun _ U o U' => ∃ v L, o = .returned v ∧ Q2 Z a0 p1 h0 n0 v U'.heap L ∧ FrameEnd U o U' L ({ frames := 1, cells := 0, slots := 0, locals := 12 } : Room).cells ({ frames := 1, cells := 0, slots := 0, locals := 12 } : Room).slots) := by
  refine MetFree.of_bodySF (plainFor_of_name pn_2) hisR ?_
  intro p e s m args below meth c s₁ Bd hml0 hP hK
  obtain ⟨rfl, hZ, hh⟩ := hP
  have hx := Bd.exec
  have hby := Bd.bytes
  have hml : c.maxLocals = 2 := hml0
  have hown : s.vm.findClass "com/example/tree_to_rows/treetorows/xml/DocumentPlace" = some m.cls := findClass_of_methodNamed Bd.named
  have hnm := (name_of_methodNamed Bd.named Bd.method).1
  have hlk : meth.locks = false := by first | exact BodyLoose.notSynchronized (by assumption) | exact Body.notSynchronized (by assumption)
  have X0 : Stand p l e ({ frames := 1, cells := 0, slots := 0, locals := 12 } : Room) s m #[(.ref a0), (.int p1)] below meth c s₁ [] 0 0 := Stand.of_body Bd
  have e0 : s₁.heap = h0 := by rw [← hh, Bd.state]; rfl
  have N0 := Fr.nil n0
  have K0 : Keep h0 h0 [a0] := Keep.refl _ _
  refine own_start (CS := (0, 0)) (Q := (Q2 Z a0 p1 h0 n0)) (ef_2 m a0 p1) ?_
  show own_Go p e below s _ _ (s₁.setTop (mkF m 0 #[rv a0, iv p1] []))
  refine own_via (fun k => XS.aloadN X0.here hx rfl (hb hby d2_0) rfl rfl  k) ?_
  show own_Go p e below s _ _ (s₁.setTop (mkF m 1 #[rv a0, iv p1] [(.ref a0)]))
  obtain ⟨T1, X1, e1, st1⟩ := initO X0 hx hZ hown (hw _ (List.mem_of_getElem? (i := 11) rfl)) (hw _ (List.mem_of_getElem? (i := 12) rfl)) (hw _ (List.mem_of_getElem? (i := 13) rfl)) e0 (g := (mkF m 1 #[rv a0, iv p1] [(.ref a0)])) rfl (by rw [hml]; rfl) rfl (hb hby d2_1) (by decide) (W := 0) (by show 2 * 0 + _ ≤ _; exact Nat.le_of_eq rfl) (by decide)
  refine own_via (fun k => st1 _ k) ?_
  show own_Go p e below s _ _ (T1.setTop (mkF m 4 #[rv a0, iv p1] []))
  refine own_via (fun k => XS.aloadN X1.here hx rfl (hb hby d2_4) rfl rfl  (XS.iloadN X1.here hx rfl (hb hby d2_5) rfl  k)) ?_
  show own_Go p e below s _ _ (T1.setTop (mkF m 6 #[rv a0, iv p1] [(.int p1), (.ref a0)]))
  obtain ⟨T2, h2, X2, e2, W2, st2⟩ := putFN X1 hx hZ hown (hw _ (List.mem_of_getElem? (i := 14) rfl)) Via.refl e1 P0 P5 (Or.inr ⟨(hw _ (List.mem_of_getElem? (i := 15) rfl)), rfl, hnm⟩) (hw _ (List.mem_of_getElem? (i := 6) rfl)) (ty := .boolean) (v := (.int p1)) (v' := (.int p1)) (by decide) (congrArg Value.int hbo) (own_fits hbo (fits_nar_bool _)) (g := (mkF m 6 #[rv a0, iv p1] [(.int p1), (.ref a0)])) rfl rfl (hb hby d2_6)
  refine own_via (fun k => st2 _ k) ?_
  show own_Go p e below s _ _ (T2.setTop (mkF m 9 #[rv a0, iv p1] []))
  have B3 := P1.other W2 (Or.inr (slot_ne (Or.inl (hw _ (List.mem_of_getElem? (i := 17) rfl))) (Or.inr (hw _ (List.mem_of_getElem? (i := 15) rfl))) (by decide) (t := .boolean) (t' := .boolean) (by decide) (by decide)))
  have B4 := P2.other W2 (Or.inr (slot_ne (Or.inl (hw _ (List.mem_of_getElem? (i := 19) rfl))) (Or.inr (hw _ (List.mem_of_getElem? (i := 15) rfl))) (by decide) (t := .boolean) (t' := .boolean) (by decide) (by decide)))
  have B5 := P3.other W2 (Or.inr (slot_ne (Or.inl (hw _ (List.mem_of_getElem? (i := 21) rfl))) (Or.inr (hw _ (List.mem_of_getElem? (i := 15) rfl))) (by decide) (t := .int) (t' := .boolean) (by decide) (by decide)))
  have B6 := P4.other W2 (Or.inr (slot_ne (Or.inl (hw _ (List.mem_of_getElem? (i := 23) rfl))) (Or.inr (hw _ (List.mem_of_getElem? (i := 15) rfl))) (by decide) (t := .int) (t' := .boolean) (by decide) (by decide)))
  have B7 := P5.wr W2
  have B8 : Fld Z h2 a0 "com/example/tree_to_rows/treetorows/xml/DocumentPlace" "xml11" "Z" (.int p1) := P0.same W2
  have N9 := Fr.snoc X2 N0 ge0
  have K10 : Keep h0 h2 [a0] := K0.wr W2 (Or.inl (List.mem_of_getElem? (i := 0) rfl))
  have Z11 : n0 ≤ h2.size := Nat.le_trans Z0 (Keep.of_wr W2).1
  refine own_via (fun k => XS.aloadN X2.here hx rfl (hb hby d2_9) rfl rfl  (XS.iconst X2.here hx rfl (hb hby d2_10) k)) ?_
  show own_Go p e below s _ _ (T2.setTop (mkF m 11 #[rv a0, iv p1] [(.int 1), (.ref a0)]))
  obtain ⟨T12, h12, X12, e12, W12, st12⟩ := putFN X2 hx hZ hown (hw _ (List.mem_of_getElem? (i := 16) rfl)) Via.refl e2 B3 B7 (Or.inl (hw _ (List.mem_of_getElem? (i := 17) rfl))) (hw _ (List.mem_of_getElem? (i := 6) rfl)) (ty := .boolean) (v := (.int 1)) (v' := (.int (1 : Int32))) (by decide) rfl (by decide) (g := (mkF m 11 #[rv a0, iv p1] [(.int 1), (.ref a0)])) rfl rfl (hb hby d2_11)
  refine own_via (fun k => st12 _ k) ?_
  show own_Go p e below s _ _ (T12.setTop (mkF m 14 #[rv a0, iv p1] []))
  have B13 := B4.other W12 (Or.inr (slot_ne (Or.inl (hw _ (List.mem_of_getElem? (i := 19) rfl))) (Or.inl (hw _ (List.mem_of_getElem? (i := 17) rfl))) (by decide) (t := .boolean) (t' := .boolean) (by decide) (by decide)))
  have B14 := B5.other W12 (Or.inr (slot_ne (Or.inl (hw _ (List.mem_of_getElem? (i := 21) rfl))) (Or.inl (hw _ (List.mem_of_getElem? (i := 17) rfl))) (by decide) (t := .int) (t' := .boolean) (by decide) (by decide)))
  have B15 := B6.other W12 (Or.inr (slot_ne (Or.inl (hw _ (List.mem_of_getElem? (i := 23) rfl))) (Or.inl (hw _ (List.mem_of_getElem? (i := 17) rfl))) (by decide) (t := .int) (t' := .boolean) (by decide) (by decide)))
  have B16 := B7.wr W12
  have B17 := B8.other W12 (Or.inr (slot_ne (Or.inr (hw _ (List.mem_of_getElem? (i := 15) rfl))) (Or.inl (hw _ (List.mem_of_getElem? (i := 17) rfl))) (by decide) (t := .boolean) (t' := .boolean) (by decide) (by decide)))
  have B18 : Fld Z h12 a0 "com/example/tree_to_rows/treetorows/xml/DocumentPlace" "firstCharacter" "Z" (.int 1) := B3.same W12
  have N19 := Fr.snoc X12 N9 ge0
  have K20 : Keep h0 h12 [a0] := K10.wr W12 (Or.inl (List.mem_of_getElem? (i := 0) rfl))
  have Z21 : n0 ≤ h12.size := Nat.le_trans Z11 (Keep.of_wr W12).1
  refine own_via (fun k => XS.aloadN X12.here hx rfl (hb hby d2_14) rfl rfl  (XS.iconst X12.here hx rfl (hb hby d2_15) k)) ?_
  show own_Go p e below s _ _ (T12.setTop (mkF m 16 #[rv a0, iv p1] [(.int 0), (.ref a0)]))
  obtain ⟨T22, h22, X22, e22, W22, st22⟩ := putFN X12 hx hZ hown (hw _ (List.mem_of_getElem? (i := 18) rfl)) Via.refl e12 B13 B16 (Or.inl (hw _ (List.mem_of_getElem? (i := 19) rfl))) (hw _ (List.mem_of_getElem? (i := 6) rfl)) (ty := .boolean) (v := (.int 0)) (v' := (.int (0 : Int32))) (by decide) rfl (by decide) (g := (mkF m 16 #[rv a0, iv p1] [(.int 0), (.ref a0)])) rfl rfl (hb hby d2_16)
  refine own_via (fun k => st22 _ k) ?_
  show own_Go p e below s _ _ (T22.setTop (mkF m 19 #[rv a0, iv p1] []))
  have B23 := B14.other W22 (Or.inr (slot_ne (Or.inl (hw _ (List.mem_of_getElem? (i := 21) rfl))) (Or.inl (hw _ (List.mem_of_getElem? (i := 19) rfl))) (by decide) (t := .int) (t' := .boolean) (by decide) (by decide)))
  have B24 := B15.other W22 (Or.inr (slot_ne (Or.inl (hw _ (List.mem_of_getElem? (i := 23) rfl))) (Or.inl (hw _ (List.mem_of_getElem? (i := 19) rfl))) (by decide) (t := .int) (t' := .boolean) (by decide) (by decide)))
  have B25 := B16.wr W22
  have B26 := B17.other W22 (Or.inr (slot_ne (Or.inr (hw _ (List.mem_of_getElem? (i := 15) rfl))) (Or.inl (hw _ (List.mem_of_getElem? (i := 19) rfl))) (by decide) (t := .boolean) (t' := .boolean) (by decide) (by decide)))
  have B27 := B18.other W22 (Or.inr (slot_ne (Or.inl (hw _ (List.mem_of_getElem? (i := 17) rfl))) (Or.inl (hw _ (List.mem_of_getElem? (i := 19) rfl))) (by decide) (t := .boolean) (t' := .boolean) (by decide) (by decide)))
  have B28 : Fld Z h22 a0 "com/example/tree_to_rows/treetorows/xml/DocumentPlace" "afterCarriageReturn" "Z" (.int 0) := B13.same W22
  have N29 := Fr.snoc X22 N19 ge0
  have K30 : Keep h0 h22 [a0] := K20.wr W22 (Or.inl (List.mem_of_getElem? (i := 0) rfl))
  have Z31 : n0 ≤ h22.size := Nat.le_trans Z21 (Keep.of_wr W22).1
  refine own_via (fun k => XS.aloadN X22.here hx rfl (hb hby d2_19) rfl rfl  (XS.iconst X22.here hx rfl (hb hby d2_20) k)) ?_
  show own_Go p e below s _ _ (T22.setTop (mkF m 21 #[rv a0, iv p1] [(.int 1), (.ref a0)]))
  obtain ⟨T32, h32, X32, e32, W32, st32⟩ := putF X22 hx hZ hown (host := "") (Or.inl (hw _ (List.mem_of_getElem? (i := 20) rfl))) Via.refl e22 B23 B25 (Or.inl (hw _ (List.mem_of_getElem? (i := 21) rfl))) (hw _ (List.mem_of_getElem? (i := 6) rfl)) (ty := .int) (by decide) rfl rfl (g := (mkF m 21 #[rv a0, iv p1] [(.int 1), (.ref a0)])) rfl rfl (hb hby d2_21)
  refine own_via (fun k => st32 _ k) ?_
  show own_Go p e below s _ _ (T32.setTop (mkF m 24 #[rv a0, iv p1] []))
  have B33 := B24.other W32 (Or.inr (slot_ne (Or.inl (hw _ (List.mem_of_getElem? (i := 23) rfl))) (Or.inl (hw _ (List.mem_of_getElem? (i := 21) rfl))) (by decide) (t := .int) (t' := .int) (by decide) (by decide)))
  have B34 := B25.wr W32
  have B35 := B26.other W32 (Or.inr (slot_ne (Or.inr (hw _ (List.mem_of_getElem? (i := 15) rfl))) (Or.inl (hw _ (List.mem_of_getElem? (i := 21) rfl))) (by decide) (t := .boolean) (t' := .int) (by decide) (by decide)))
  have B36 := B27.other W32 (Or.inr (slot_ne (Or.inl (hw _ (List.mem_of_getElem? (i := 17) rfl))) (Or.inl (hw _ (List.mem_of_getElem? (i := 21) rfl))) (by decide) (t := .boolean) (t' := .int) (by decide) (by decide)))
  have B37 := B28.other W32 (Or.inr (slot_ne (Or.inl (hw _ (List.mem_of_getElem? (i := 19) rfl))) (Or.inl (hw _ (List.mem_of_getElem? (i := 21) rfl))) (by decide) (t := .boolean) (t' := .int) (by decide) (by decide)))
  have B38 : Fld Z h32 a0 "com/example/tree_to_rows/treetorows/xml/DocumentPlace" "line" "I" (.int 1) := B23.same W32
  have N39 := Fr.snoc X32 N29 ge0
  have K40 : Keep h0 h32 [a0] := K30.wr W32 (Or.inl (List.mem_of_getElem? (i := 0) rfl))
  have Z41 : n0 ≤ h32.size := Nat.le_trans Z31 (Keep.of_wr W32).1
  refine own_via (fun k => XS.aloadN X32.here hx rfl (hb hby d2_24) rfl rfl  (XS.iconst X32.here hx rfl (hb hby d2_25) k)) ?_
  show own_Go p e below s _ _ (T32.setTop (mkF m 26 #[rv a0, iv p1] [(.int 1), (.ref a0)]))
  obtain ⟨T42, h42, X42, e42, W42, st42⟩ := putF X32 hx hZ hown (host := "") (Or.inl (hw _ (List.mem_of_getElem? (i := 22) rfl))) Via.refl e32 B33 B34 (Or.inl (hw _ (List.mem_of_getElem? (i := 23) rfl))) (hw _ (List.mem_of_getElem? (i := 6) rfl)) (ty := .int) (by decide) rfl rfl (g := (mkF m 26 #[rv a0, iv p1] [(.int 1), (.ref a0)])) rfl rfl (hb hby d2_26)
  refine own_via (fun k => st42 _ k) ?_
  show own_Go p e below s _ _ (T42.setTop (mkF m 29 #[rv a0, iv p1] []))
  have B43 := B34.wr W42
  have B44 := B35.other W42 (Or.inr (slot_ne (Or.inr (hw _ (List.mem_of_getElem? (i := 15) rfl))) (Or.inl (hw _ (List.mem_of_getElem? (i := 23) rfl))) (by decide) (t := .boolean) (t' := .int) (by decide) (by decide)))
  have B45 := B36.other W42 (Or.inr (slot_ne (Or.inl (hw _ (List.mem_of_getElem? (i := 17) rfl))) (Or.inl (hw _ (List.mem_of_getElem? (i := 23) rfl))) (by decide) (t := .boolean) (t' := .int) (by decide) (by decide)))
  have B46 := B37.other W42 (Or.inr (slot_ne (Or.inl (hw _ (List.mem_of_getElem? (i := 19) rfl))) (Or.inl (hw _ (List.mem_of_getElem? (i := 23) rfl))) (by decide) (t := .boolean) (t' := .int) (by decide) (by decide)))
  have B47 := B38.other W42 (Or.inr (slot_ne (Or.inl (hw _ (List.mem_of_getElem? (i := 21) rfl))) (Or.inl (hw _ (List.mem_of_getElem? (i := 23) rfl))) (by decide) (t := .int) (t' := .int) (by decide) (by decide)))
  have B48 : Fld Z h42 a0 "com/example/tree_to_rows/treetorows/xml/DocumentPlace" "column" "I" (.int 1) := B33.same W42
  have N49 := Fr.snoc X42 N39 ge0
  have K50 : Keep h0 h42 [a0] := K40.wr W42 (Or.inl (List.mem_of_getElem? (i := 0) rfl))
  have Z51 : n0 ≤ h42.size := Nat.le_trans Z41 (Keep.of_wr W42).1
  exact own_ret0 X42 hx hlk Bd.returns (hb hby d2_29) (Q := (Q2 Z a0 p1 h0 n0)) ⟨rfl, N49, (by rw [e42]; exact K50), (by rw [e42]; exact B44), (by rw [e42]; exact B45), (by rw [e42]; exact B46), (by rw [e42]; exact B47), (by rw [e42]; exact B48)⟩ (by decide) (by decide)
theorem d4_0 : decode prog_92_method_3_code 0 = .ok (.aload_n 0, 1) := by decide +kernel
theorem d4_1 : decode prog_92_method_3_code 1 = .ok (.getfield 19, 3) := by decide +kernel
theorem d4_4 : decode prog_92_method_3_code 4 = .ok (.istore 4, 2) := by decide +kernel
theorem d4_6 : decode prog_92_method_3_code 6 = .ok (.aload_n 0, 1) := by decide +kernel
theorem d4_7 : decode prog_92_method_3_code 7 = .ok (.getfield 23, 3) := by decide +kernel
theorem d4_10 : decode prog_92_method_3_code 10 = .ok (.istore 5, 2) := by decide +kernel
theorem d4_12 : decode prog_92_method_3_code 12 = .ok (.aload_n 0, 1) := by decide +kernel
theorem d4_13 : decode prog_92_method_3_code 13 = .ok (.getfield 16, 3) := by decide +kernel
theorem d4_16 : decode prog_92_method_3_code 16 = .ok (.istore 6, 2) := by decide +kernel
theorem d4_18 : decode prog_92_method_3_code 18 = .ok (.iload_n 2, 1) := by decide +kernel
theorem d4_19 : decode prog_92_method_3_code 19 = .ok (.istore 7, 2) := by decide +kernel
theorem d4_21 : decode prog_92_method_3_code 21 = .ok (.iconst 1, 1) := by decide +kernel
theorem d4_22 : decode prog_92_method_3_code 22 = .ok (.istore 8, 2) := by decide +kernel
theorem d4_24 : decode prog_92_method_3_code 24 = .ok (.iload 8, 2) := by decide +kernel
theorem d4_26 : decode prog_92_method_3_code 26 = .ok (.ifCond .eq 159, 3) := by decide +kernel
theorem d4_29 : decode prog_92_method_3_code 29 = .ok (.iload 7, 2) := by decide +kernel
theorem d4_31 : decode prog_92_method_3_code 31 = .ok (.iload_n 3, 1) := by decide +kernel
theorem d4_32 : decode prog_92_method_3_code 32 = .ok (.if_icmp .ge 153, 3) := by decide +kernel
theorem d4_35 : decode prog_92_method_3_code 35 = .ok (.iload 7, 2) := by decide +kernel
theorem d4_37 : decode prog_92_method_3_code 37 = .ok (.istore 9, 2) := by decide +kernel
theorem d4_39 : decode prog_92_method_3_code 39 = .ok (.iload 7, 2) := by decide +kernel
theorem d4_41 : decode prog_92_method_3_code 41 = .ok (.iload_n 3, 1) := by decide +kernel
theorem d4_42 : decode prog_92_method_3_code 42 = .ok (.if_icmp .ge 18, 3) := by decide +kernel
theorem d4_45 : decode prog_92_method_3_code 45 = .ok (.aload_n 1, 1) := by decide +kernel
theorem d4_46 : decode prog_92_method_3_code 46 = .ok (.iload 7, 2) := by decide +kernel
theorem d4_48 : decode prog_92_method_3_code 48 = .ok (.baload, 1) := by decide +kernel
theorem d4_49 : decode prog_92_method_3_code 49 = .ok (.bipush 13, 2) := by decide +kernel
theorem d4_51 : decode prog_92_method_3_code 51 = .ok (.if_icmp .le 9, 3) := by decide +kernel
theorem d4_54 : decode prog_92_method_3_code 54 = .ok (.iinc 7 1, 3) := by decide +kernel
theorem d4_57 : decode prog_92_method_3_code 57 = .ok (.goto (-18), 3) := by decide +kernel
theorem d4_60 : decode prog_92_method_3_code 60 = .ok (.iload 7, 2) := by decide +kernel
theorem d4_62 : decode prog_92_method_3_code 62 = .ok (.iload 9, 2) := by decide +kernel
theorem d4_64 : decode prog_92_method_3_code 64 = .ok (.if_icmp .le 16, 3) := by decide +kernel
theorem d4_67 : decode prog_92_method_3_code 67 = .ok (.iload 5, 2) := by decide +kernel
theorem d4_69 : decode prog_92_method_3_code 69 = .ok (.iload 7, 2) := by decide +kernel
theorem d4_71 : decode prog_92_method_3_code 71 = .ok (.iload 9, 2) := by decide +kernel
theorem d4_73 : decode prog_92_method_3_code 73 = .ok (.isub, 1) := by decide +kernel
theorem d4_74 : decode prog_92_method_3_code 74 = .ok (.iadd, 1) := by decide +kernel
theorem d4_75 : decode prog_92_method_3_code 75 = .ok (.istore 5, 2) := by decide +kernel
theorem d4_77 : decode prog_92_method_3_code 77 = .ok (.iconst 0, 1) := by decide +kernel
theorem d4_78 : decode prog_92_method_3_code 78 = .ok (.istore 6, 2) := by decide +kernel
theorem d4_80 : decode prog_92_method_3_code 80 = .ok (.iload 7, 2) := by decide +kernel
theorem d4_82 : decode prog_92_method_3_code 82 = .ok (.iload_n 3, 1) := by decide +kernel
theorem d4_83 : decode prog_92_method_3_code 83 = .ok (.if_icmp .ge 10, 3) := by decide +kernel
theorem d4_86 : decode prog_92_method_3_code 86 = .ok (.aload_n 1, 1) := by decide +kernel
theorem d4_87 : decode prog_92_method_3_code 87 = .ok (.iload 7, 2) := by decide +kernel
theorem d4_89 : decode prog_92_method_3_code 89 = .ok (.baload, 1) := by decide +kernel
theorem d4_90 : decode prog_92_method_3_code 90 = .ok (.goto 4, 3) := by decide +kernel
theorem d4_93 : decode prog_92_method_3_code 93 = .ok (.iconst (-1), 1) := by decide +kernel
theorem d4_94 : decode prog_92_method_3_code 94 = .ok (.istore 10, 2) := by decide +kernel
theorem d4_96 : decode prog_92_method_3_code 96 = .ok (.iload 10, 2) := by decide +kernel
theorem d4_98 : decode prog_92_method_3_code 98 = .ok (.bipush 10, 2) := by decide +kernel
theorem d4_100 : decode prog_92_method_3_code 100 = .ok (.if_icmp .ne 14, 3) := by decide +kernel
theorem d4_103 : decode prog_92_method_3_code 103 = .ok (.iload 6, 2) := by decide +kernel
theorem d4_105 : decode prog_92_method_3_code 105 = .ok (.ifCond .eq 9, 3) := by decide +kernel
theorem d4_108 : decode prog_92_method_3_code 108 = .ok (.iconst 0, 1) := by decide +kernel
theorem d4_109 : decode prog_92_method_3_code 109 = .ok (.istore 6, 2) := by decide +kernel
theorem d4_111 : decode prog_92_method_3_code 111 = .ok (.goto 51, 3) := by decide +kernel
theorem d4_114 : decode prog_92_method_3_code 114 = .ok (.iload 10, 2) := by decide +kernel
theorem d4_116 : decode prog_92_method_3_code 116 = .ok (.bipush 10, 2) := by decide +kernel
theorem d4_118 : decode prog_92_method_3_code 118 = .ok (.if_icmp .eq 10, 3) := by decide +kernel
theorem d4_121 : decode prog_92_method_3_code 121 = .ok (.iload 10, 2) := by decide +kernel
theorem d4_123 : decode prog_92_method_3_code 123 = .ok (.bipush 13, 2) := by decide +kernel
theorem d4_125 : decode prog_92_method_3_code 125 = .ok (.if_icmp .ne 26, 3) := by decide +kernel
theorem d4_128 : decode prog_92_method_3_code 128 = .ok (.iinc 4 1, 3) := by decide +kernel
theorem d4_131 : decode prog_92_method_3_code 131 = .ok (.iconst 1, 1) := by decide +kernel
theorem d4_132 : decode prog_92_method_3_code 132 = .ok (.istore 5, 2) := by decide +kernel
theorem d4_134 : decode prog_92_method_3_code 134 = .ok (.iload 10, 2) := by decide +kernel
theorem d4_136 : decode prog_92_method_3_code 136 = .ok (.bipush 13, 2) := by decide +kernel
theorem d4_138 : decode prog_92_method_3_code 138 = .ok (.if_icmp .ne 7, 3) := by decide +kernel
theorem d4_141 : decode prog_92_method_3_code 141 = .ok (.iconst 1, 1) := by decide +kernel
theorem d4_142 : decode prog_92_method_3_code 142 = .ok (.goto 4, 3) := by decide +kernel
theorem d4_145 : decode prog_92_method_3_code 145 = .ok (.iconst 0, 1) := by decide +kernel
theorem d4_146 : decode prog_92_method_3_code 146 = .ok (.istore 6, 2) := by decide +kernel
theorem d4_148 : decode prog_92_method_3_code 148 = .ok (.goto 14, 3) := by decide +kernel
theorem d4_151 : decode prog_92_method_3_code 151 = .ok (.iload 10, 2) := by decide +kernel
theorem d4_153 : decode prog_92_method_3_code 153 = .ok (.ifCond .lt 9, 3) := by decide +kernel
theorem d4_156 : decode prog_92_method_3_code 156 = .ok (.iinc 5 1, 3) := by decide +kernel
theorem d4_159 : decode prog_92_method_3_code 159 = .ok (.iconst 0, 1) := by decide +kernel
theorem d4_160 : decode prog_92_method_3_code 160 = .ok (.istore 6, 2) := by decide +kernel
theorem d4_162 : decode prog_92_method_3_code 162 = .ok (.iload 10, 2) := by decide +kernel
theorem d4_164 : decode prog_92_method_3_code 164 = .ok (.ifCond .lt 7, 3) := by decide +kernel
theorem d4_167 : decode prog_92_method_3_code 167 = .ok (.iconst 1, 1) := by decide +kernel
theorem d4_168 : decode prog_92_method_3_code 168 = .ok (.goto 4, 3) := by decide +kernel
theorem d4_171 : decode prog_92_method_3_code 171 = .ok (.iconst 0, 1) := by decide +kernel
theorem d4_172 : decode prog_92_method_3_code 172 = .ok (.istore 8, 2) := by decide +kernel
theorem d4_174 : decode prog_92_method_3_code 174 = .ok (.iload 8, 2) := by decide +kernel
theorem d4_176 : decode prog_92_method_3_code 176 = .ok (.ifCond .eq 6, 3) := by decide +kernel
theorem d4_179 : decode prog_92_method_3_code 179 = .ok (.iinc 7 1, 3) := by decide +kernel
theorem d4_182 : decode prog_92_method_3_code 182 = .ok (.goto (-158), 3) := by decide +kernel
theorem d4_185 : decode prog_92_method_3_code 185 = .ok (.aload_n 0, 1) := by decide +kernel
theorem d4_186 : decode prog_92_method_3_code 186 = .ok (.iload 4, 2) := by decide +kernel
theorem d4_188 : decode prog_92_method_3_code 188 = .ok (.putfield 19, 3) := by decide +kernel
theorem d4_191 : decode prog_92_method_3_code 191 = .ok (.aload_n 0, 1) := by decide +kernel
theorem d4_192 : decode prog_92_method_3_code 192 = .ok (.iload 5, 2) := by decide +kernel
theorem d4_194 : decode prog_92_method_3_code 194 = .ok (.putfield 23, 3) := by decide +kernel
theorem d4_197 : decode prog_92_method_3_code 197 = .ok (.aload_n 0, 1) := by decide +kernel
theorem d4_198 : decode prog_92_method_3_code 198 = .ok (.iload 6, 2) := by decide +kernel
theorem d4_200 : decode prog_92_method_3_code 200 = .ok (.putfield 16, 3) := by decide +kernel
theorem d4_203 : decode prog_92_method_3_code 203 = .ok (.aload_n 0, 1) := by decide +kernel
theorem d4_204 : decode prog_92_method_3_code 204 = .ok (.dup, 1) := by decide +kernel
theorem d4_205 : decode prog_92_method_3_code 205 = .ok (.getfield 13, 3) := by decide +kernel
theorem d4_208 : decode prog_92_method_3_code 208 = .ok (.iload 7, 2) := by decide +kernel
theorem d4_210 : decode prog_92_method_3_code 210 = .ok (.iload_n 2, 1) := by decide +kernel
theorem d4_211 : decode prog_92_method_3_code 211 = .ok (.if_icmp .ne 7, 3) := by decide +kernel
theorem d4_214 : decode prog_92_method_3_code 214 = .ok (.iconst 1, 1) := by decide +kernel
theorem d4_215 : decode prog_92_method_3_code 215 = .ok (.goto 4, 3) := by decide +kernel
theorem d4_218 : decode prog_92_method_3_code 218 = .ok (.iconst 0, 1) := by decide +kernel
theorem d4_219 : decode prog_92_method_3_code 219 = .ok (.iand, 1) := by decide +kernel
theorem d4_220 : decode prog_92_method_3_code 220 = .ok (.putfield 13, 3) := by decide +kernel
theorem d4_223 : decode prog_92_method_3_code 223 = .ok (.iload 7, 2) := by decide +kernel
theorem d4_225 : decode prog_92_method_3_code 225 = .ok (.ireturn, 1) := by decide +kernel
theorem pn_4 : plainName "com/example/tree_to_rows/treetorows/xml/DocumentPlace" = true := by first | (simp [plainName, overriddenIn]; done) | decide +kernel
theorem ef_4 (m : MethodId) (x0 : Addr) (x1 : Addr) (x2 : Int32) (x3 : Int32) : entryFrame m #[(.ref x0), (.ref x1), (.int x2), (.int x3)] 11 = mkF m 0 #[rv x0, rv x1, iv x2, iv x3, .unset, .unset, .unset, .unset, .unset, .unset, .unset] [] := by first | (simp [entryFrame, mkF, argsToLocals, Value.category]; done) | rfl
def Q4 (Z : State) (a0 : Addr) (a1 : Addr) (p2 : Int32) (p3 : Int32) (x11 : Int32) (k : ClassId) (vs : List Value) (g : Int32 → Int32) (h0 : Heap) (n0 : Nat) (v : Option Value) (h : Heap) (L : List Loc) : Prop := v = some (.int (own_rn g p3 p2 (0 : Int32) (1 : Int32) (1 : Int32)).2.2.2) ∧ Fr n0 L ∧ Keep h0 h [a0] ∧ Fld Z h a0 "com/example/tree_to_rows/treetorows/xml/DocumentPlace" "xml11" "Z" (.int x11) ∧ Fld Z h a0 "com/example/tree_to_rows/treetorows/xml/DocumentPlace" "firstCharacter" "Z" (.int (if (own_rn g p3 p2 (0 : Int32) (1 : Int32) (1 : Int32)).2.2.2 = p2 then (1 : Int32) else (0 : Int32))) ∧ Fld Z h a0 "com/example/tree_to_rows/treetorows/xml/DocumentPlace" "afterCarriageReturn" "Z" (.int (own_rn g p3 p2 (0 : Int32) (1 : Int32) (1 : Int32)).1) ∧ Fld Z h a0 "com/example/tree_to_rows/treetorows/xml/DocumentPlace" "line" "I" (.int (own_rn g p3 p2 (0 : Int32) (1 : Int32) (1 : Int32)).2.1) ∧ Fld Z h a0 "com/example/tree_to_rows/treetorows/xml/DocumentPlace" "column" "I" (.int (own_rn g p3 p2 (0 : Int32) (1 : Int32) (1 : Int32)).2.2.1)
set_option maxRecDepth 65536 in
set_option maxHeartbeats 40000000 in
theorem rm4 (l : Launch) (Z : State) (aw : Array Value) (hw : ∀ d ∈ tables_1, d.before aw Z = true) (ws : List Jvm.Cond) (a0 : Addr) (a1 : Addr) (p2 : Int32) (p3 : Int32) (x11 : Int32) (k : ClassId) (vs : List Value) (g : Int32 → Int32) (h0 : Heap) (n0 : Nat) (Z0 : n0 ≤ h0.size) (P0 : Fld Z h0 a0 "com/example/tree_to_rows/treetorows/xml/DocumentPlace" "xml11" "Z" (.int x11)) (P1 : Fld Z h0 a0 "com/example/tree_to_rows/treetorows/xml/DocumentPlace" "firstCharacter" "Z" (.int 1)) (P2 : Fld Z h0 a0 "com/example/tree_to_rows/treetorows/xml/DocumentPlace" "afterCarriageReturn" "Z" (.int 0)) (P3 : Fld Z h0 a0 "com/example/tree_to_rows/treetorows/xml/DocumentPlace" "line" "I" (.int 1)) (P4 : Fld Z h0 a0 "com/example/tree_to_rows/treetorows/xml/DocumentPlace" "column" "I" (.int 1)) (P5 : Exa Z h0 a0 "com/example/tree_to_rows/treetorows/xml/DocumentPlace") (P6 : Arv Z h0 a1 k .byte (4 : Int32) vs (.int 0)) (ge0 : n0 ≤ a0) (nx0 : a1 ≠ a0) (hg : ∀ j : Int32, ¬ j < (0 : Int32) ∧ j < (4 : Int32) → vs.getD j.toNatClampNeg (.int 0) = .int (g j)) (hp2 : ¬ p2 < 0) (hp3 : ¬ (4 : Int32) < p3) :
    MetFree l (⟨"com/example/tree_to_rows/treetorows/xml/DocumentPlace", "passAscii", "([BII)I"⟩ : MethodName) (head1 (Jvm.Cond.code (⟨"com/example/tree_to_rows/treetorows/xml/DocumentPlace", "passAscii", "([BII)I"⟩ : MethodName) prog_92_method_3_code 11 (some .int) :: ws) ({ frames := 0, cells := 0, slots := 0, locals := 0 } : Room)) (fun a U => a = #[(.ref a0), (.ref a1), (.int p2), (.int p3)] ∧ Z.Warmed39 U.vm ∧ U.heap = h0) (fun _ _ _ _ _ => True) (fun _ U o U' => ∃ v L, o = .returned v ∧ Q4 Z a0 a1 p2 p3 x11 k vs g h0 n0 v U'.heap L ∧ FrameEnd U o U' L ({ frames := 0, cells := 0, slots := 0, locals := 0 } : Room).cells ({ frames := 0, cells := 0, slots := 0, locals := 0 } : Room).slots) := by
  refine MetFree.of_bodySF (plainFor_of_name pn_4) hisR ?_
  intro p e s m args below meth c s₁ Bd hml0 hP hK
  obtain ⟨rfl, hZ, hh⟩ := hP
  have hx := Bd.exec
  have hby := Bd.bytes
  have hml : c.maxLocals = 11 := hml0
  have hown : s.vm.findClass "com/example/tree_to_rows/treetorows/xml/DocumentPlace" = some m.cls := findClass_of_methodNamed Bd.named
  have hnm := (name_of_methodNamed Bd.named Bd.method).1
  have hlk : meth.locks = false := by first | exact BodyLoose.notSynchronized (by assumption) | exact Body.notSynchronized (by assumption)
  have X0 : Stand p l e ({ frames := 0, cells := 0, slots := 0, locals := 0 } : Room) s m #[(.ref a0), (.ref a1), (.int p2), (.int p3)] below meth c s₁ [] 0 0 := Stand.of_body Bd
  have e0 : s₁.heap = h0 := by rw [← hh, Bd.state]; rfl
  have N0 := Fr.nil n0
  have K0 : Keep h0 h0 [a0] := Keep.refl _ _
  refine own_start (CS := (0, 0)) (Q := (Q4 Z a0 a1 p2 p3 x11 k vs g h0 n0)) (ef_4 m a0 a1 p2 p3) ?_
  show own_Go p e below s _ _ (s₁.setTop (mkF m 0 #[rv a0, rv a1, iv p2, iv p3, .unset, .unset, .unset, .unset, .unset, .unset, .unset] []))
  refine own_via (fun k => XS.aloadN X0.here hx rfl (hb hby d4_0) rfl rfl  k) ?_
  show own_Go p e below s _ _ (s₁.setTop (mkF m 1 #[rv a0, rv a1, iv p2, iv p3, .unset, .unset, .unset, .unset, .unset, .unset, .unset] [(.ref a0)]))
  obtain ⟨T1, X1, e1, st1⟩ := getF X0 hx hZ hown (host := "") (Or.inl (hw _ (List.mem_of_getElem? (i := 20) rfl))) Via.refl e0 P3 (g := (mkF m 1 #[rv a0, rv a1, iv p2, iv p3, .unset, .unset, .unset, .unset, .unset, .unset, .unset] [(.ref a0)])) rfl rfl (hb hby d4_1)
  refine own_via (fun k => st1 _ k) ?_
  show own_Go p e below s _ _ (T1.setTop (mkF m 4 #[rv a0, rv a1, iv p2, iv p3, .unset, .unset, .unset, .unset, .unset, .unset, .unset] [(.int 1)]))
  refine own_via (fun k => XS.istore X1.here hx rfl (hb hby d4_4) rfl (l' := #[rv a0, rv a1, iv p2, iv p3, iv 1, .unset, .unset, .unset, .unset, .unset, .unset]) rfl (XS.aloadN X1.here hx rfl (hb hby d4_6) rfl rfl  k)) ?_
  show own_Go p e below s _ _ (T1.setTop (mkF m 7 #[rv a0, rv a1, iv p2, iv p3, iv 1, .unset, .unset, .unset, .unset, .unset, .unset] [(.ref a0)]))
  obtain ⟨T2, X2, e2, st2⟩ := getF X1 hx hZ hown (host := "") (Or.inl (hw _ (List.mem_of_getElem? (i := 22) rfl))) Via.refl e1 P4 (g := (mkF m 7 #[rv a0, rv a1, iv p2, iv p3, iv 1, .unset, .unset, .unset, .unset, .unset, .unset] [(.ref a0)])) rfl rfl (hb hby d4_7)
  refine own_via (fun k => st2 _ k) ?_
  show own_Go p e below s _ _ (T2.setTop (mkF m 10 #[rv a0, rv a1, iv p2, iv p3, iv 1, .unset, .unset, .unset, .unset, .unset, .unset] [(.int 1)]))
  refine own_via (fun k => XS.istore X2.here hx rfl (hb hby d4_10) rfl (l' := #[rv a0, rv a1, iv p2, iv p3, iv 1, iv 1, .unset, .unset, .unset, .unset, .unset]) rfl (XS.aloadN X2.here hx rfl (hb hby d4_12) rfl rfl  k)) ?_
  show own_Go p e below s _ _ (T2.setTop (mkF m 13 #[rv a0, rv a1, iv p2, iv p3, iv 1, iv 1, .unset, .unset, .unset, .unset, .unset] [(.ref a0)]))
  obtain ⟨T3, X3, e3, st3⟩ := getF X2 hx hZ hown (host := "") (Or.inl (hw _ (List.mem_of_getElem? (i := 18) rfl))) Via.refl e2 P2 (g := (mkF m 13 #[rv a0, rv a1, iv p2, iv p3, iv 1, iv 1, .unset, .unset, .unset, .unset, .unset] [(.ref a0)])) rfl rfl (hb hby d4_13)
  refine own_via (fun k => st3 _ k) ?_
  show own_Go p e below s _ _ (T3.setTop (mkF m 16 #[rv a0, rv a1, iv p2, iv p3, iv 1, iv 1, .unset, .unset, .unset, .unset, .unset] [(.int 0)]))
  refine own_via (fun k => XS.istore X3.here hx rfl (hb hby d4_16) rfl (l' := #[rv a0, rv a1, iv p2, iv p3, iv 1, iv 1, iv 0, .unset, .unset, .unset, .unset]) rfl (XS.iloadN X3.here hx rfl (hb hby d4_18) rfl  (XS.istore X3.here hx rfl (hb hby d4_19) rfl (l' := #[rv a0, rv a1, iv p2, iv p3, iv 1, iv 1, iv 0, iv p2, .unset, .unset, .unset]) rfl (XS.iconst X3.here hx rfl (hb hby d4_21) k)))) ?_
  show own_Go p e below s _ _ (T3.setTop (mkF m 22 #[rv a0, rv a1, iv p2, iv p3, iv 1, iv 1, iv 0, iv p2, .unset, .unset, .unset] [(.int 1)]))
  refine own_via (fun k => XS.istore X3.here hx rfl (hb hby d4_22) rfl (l' := #[rv a0, rv a1, iv p2, iv p3, iv 1, iv 1, iv 0, iv p2, iv 1, .unset, .unset]) rfl k) ?_
  show own_Go p e below s _ _ (T3.setTop (mkF m 24 #[rv a0, rv a1, iv p2, iv p3, iv 1, iv 1, iv 0, iv p2, iv 1, .unset, .unset] []))
  have T185 : ∀ v4 : Int32, ∀ v5 : Int32, ∀ v6 : Int32, ∀ v7 : Int32, ∀ v8 : Int32, ∀ v9 : Int32, ∀ v10 : Int32, nar .boolean v6 = v6 → (v6, v4, v5, v7) = (own_rn g p3 p2 (0 : Int32) (1 : Int32) (1 : Int32)) → own_Go p e below s (Q4 Z a0 a1 p2 p3 x11 k vs g h0 n0) (0, 0) (T3.setTop (mkF m 185 #[rv a0, rv a1, iv p2, iv p3, iv v4, iv v5, iv v6, iv v7, iv v8, iv v9, iv v10] [])) := by
    intro v4 v5 v6 v7 v8 v9 v10 hbo hW
    refine own_via (fun k => XS.aloadN X3.here hx rfl (hb hby d4_185) rfl rfl  (XS.iload X3.here hx rfl (hb hby d4_186) rfl  k)) ?_
    show own_Go p e below s _ _ (T3.setTop (mkF m 188 #[rv a0, rv a1, iv p2, iv p3, iv v4, iv v5, iv v6, iv v7, iv v8, iv v9, iv v10] [(.int v4), (.ref a0)]))
    obtain ⟨T4, h4, X4, e4, W4, st4⟩ := putF X3 hx hZ hown (host := "") (Or.inl (hw _ (List.mem_of_getElem? (i := 20) rfl))) Via.refl e3 P3 P5 (Or.inl (hw _ (List.mem_of_getElem? (i := 21) rfl))) (hw _ (List.mem_of_getElem? (i := 6) rfl)) (ty := .int) (by decide) rfl rfl (g := (mkF m 188 #[rv a0, rv a1, iv p2, iv p3, iv v4, iv v5, iv v6, iv v7, iv v8, iv v9, iv v10] [(.int v4), (.ref a0)])) rfl rfl (hb hby d4_188)
    refine own_via (fun k => st4 _ k) ?_
    show own_Go p e below s _ _ (T4.setTop (mkF m 191 #[rv a0, rv a1, iv p2, iv p3, iv v4, iv v5, iv v6, iv v7, iv v8, iv v9, iv v10] []))
    have B5 := P0.other W4 (Or.inr (slot_ne (Or.inr (hw _ (List.mem_of_getElem? (i := 15) rfl))) (Or.inl (hw _ (List.mem_of_getElem? (i := 21) rfl))) (by decide) (t := .boolean) (t' := .int) (by decide) (by decide)))
    have B6 := P1.other W4 (Or.inr (slot_ne (Or.inl (hw _ (List.mem_of_getElem? (i := 17) rfl))) (Or.inl (hw _ (List.mem_of_getElem? (i := 21) rfl))) (by decide) (t := .boolean) (t' := .int) (by decide) (by decide)))
    have B7 := P2.other W4 (Or.inr (slot_ne (Or.inl (hw _ (List.mem_of_getElem? (i := 19) rfl))) (Or.inl (hw _ (List.mem_of_getElem? (i := 21) rfl))) (by decide) (t := .boolean) (t' := .int) (by decide) (by decide)))
    have B8 := P4.other W4 (Or.inr (slot_ne (Or.inl (hw _ (List.mem_of_getElem? (i := 23) rfl))) (Or.inl (hw _ (List.mem_of_getElem? (i := 21) rfl))) (by decide) (t := .int) (t' := .int) (by decide) (by decide)))
    have B9 := P5.wr W4
    have B10 := P6.other W4 nx0
    have B11 : Fld Z h4 a0 "com/example/tree_to_rows/treetorows/xml/DocumentPlace" "line" "I" (.int v4) := P3.same W4
    have N12 := Fr.snoc X4 N0 ge0
    have K13 : Keep h0 h4 [a0] := K0.wr W4 (Or.inl (List.mem_of_getElem? (i := 0) rfl))
    have Z14 : n0 ≤ h4.size := Nat.le_trans Z0 (Keep.of_wr W4).1
    refine own_via (fun k => XS.aloadN X4.here hx rfl (hb hby d4_191) rfl rfl  (XS.iload X4.here hx rfl (hb hby d4_192) rfl  k)) ?_
    show own_Go p e below s _ _ (T4.setTop (mkF m 194 #[rv a0, rv a1, iv p2, iv p3, iv v4, iv v5, iv v6, iv v7, iv v8, iv v9, iv v10] [(.int v5), (.ref a0)]))
    obtain ⟨T15, h15, X15, e15, W15, st15⟩ := putF X4 hx hZ hown (host := "") (Or.inl (hw _ (List.mem_of_getElem? (i := 22) rfl))) Via.refl e4 B8 B9 (Or.inl (hw _ (List.mem_of_getElem? (i := 23) rfl))) (hw _ (List.mem_of_getElem? (i := 6) rfl)) (ty := .int) (by decide) rfl rfl (g := (mkF m 194 #[rv a0, rv a1, iv p2, iv p3, iv v4, iv v5, iv v6, iv v7, iv v8, iv v9, iv v10] [(.int v5), (.ref a0)])) rfl rfl (hb hby d4_194)
    refine own_via (fun k => st15 _ k) ?_
    show own_Go p e below s _ _ (T15.setTop (mkF m 197 #[rv a0, rv a1, iv p2, iv p3, iv v4, iv v5, iv v6, iv v7, iv v8, iv v9, iv v10] []))
    have B16 := B5.other W15 (Or.inr (slot_ne (Or.inr (hw _ (List.mem_of_getElem? (i := 15) rfl))) (Or.inl (hw _ (List.mem_of_getElem? (i := 23) rfl))) (by decide) (t := .boolean) (t' := .int) (by decide) (by decide)))
    have B17 := B6.other W15 (Or.inr (slot_ne (Or.inl (hw _ (List.mem_of_getElem? (i := 17) rfl))) (Or.inl (hw _ (List.mem_of_getElem? (i := 23) rfl))) (by decide) (t := .boolean) (t' := .int) (by decide) (by decide)))
    have B18 := B7.other W15 (Or.inr (slot_ne (Or.inl (hw _ (List.mem_of_getElem? (i := 19) rfl))) (Or.inl (hw _ (List.mem_of_getElem? (i := 23) rfl))) (by decide) (t := .boolean) (t' := .int) (by decide) (by decide)))
    have B19 := B9.wr W15
    have B20 := B10.other W15 nx0
    have B21 := B11.other W15 (Or.inr (slot_ne (Or.inl (hw _ (List.mem_of_getElem? (i := 21) rfl))) (Or.inl (hw _ (List.mem_of_getElem? (i := 23) rfl))) (by decide) (t := .int) (t' := .int) (by decide) (by decide)))
    have B22 : Fld Z h15 a0 "com/example/tree_to_rows/treetorows/xml/DocumentPlace" "column" "I" (.int v5) := B8.same W15
    have N23 := Fr.snoc X15 N12 ge0
    have K24 : Keep h0 h15 [a0] := K13.wr W15 (Or.inl (List.mem_of_getElem? (i := 0) rfl))
    have Z25 : n0 ≤ h15.size := Nat.le_trans Z14 (Keep.of_wr W15).1
    refine own_via (fun k => XS.aloadN X15.here hx rfl (hb hby d4_197) rfl rfl  (XS.iload X15.here hx rfl (hb hby d4_198) rfl  k)) ?_
    show own_Go p e below s _ _ (T15.setTop (mkF m 200 #[rv a0, rv a1, iv p2, iv p3, iv v4, iv v5, iv v6, iv v7, iv v8, iv v9, iv v10] [(.int v6), (.ref a0)]))
    obtain ⟨T26, h26, X26, e26, W26, st26⟩ := putFN X15 hx hZ hown (hw _ (List.mem_of_getElem? (i := 18) rfl)) Via.refl e15 B18 B19 (Or.inl (hw _ (List.mem_of_getElem? (i := 19) rfl))) (hw _ (List.mem_of_getElem? (i := 6) rfl)) (ty := .boolean) (v := (.int v6)) (v' := (.int v6)) (by decide) (congrArg Value.int hbo) (own_fits hbo (fits_nar_bool _)) (g := (mkF m 200 #[rv a0, rv a1, iv p2, iv p3, iv v4, iv v5, iv v6, iv v7, iv v8, iv v9, iv v10] [(.int v6), (.ref a0)])) rfl rfl (hb hby d4_200)
    refine own_via (fun k => st26 _ k) ?_
    show own_Go p e below s _ _ (T26.setTop (mkF m 203 #[rv a0, rv a1, iv p2, iv p3, iv v4, iv v5, iv v6, iv v7, iv v8, iv v9, iv v10] []))
    have B27 := B16.other W26 (Or.inr (slot_ne (Or.inr (hw _ (List.mem_of_getElem? (i := 15) rfl))) (Or.inl (hw _ (List.mem_of_getElem? (i := 19) rfl))) (by decide) (t := .boolean) (t' := .boolean) (by decide) (by decide)))
    have B28 := B17.other W26 (Or.inr (slot_ne (Or.inl (hw _ (List.mem_of_getElem? (i := 17) rfl))) (Or.inl (hw _ (List.mem_of_getElem? (i := 19) rfl))) (by decide) (t := .boolean) (t' := .boolean) (by decide) (by decide)))
    have B29 := B19.wr W26
    have B30 := B20.other W26 nx0
    have B31 := B21.other W26 (Or.inr (slot_ne (Or.inl (hw _ (List.mem_of_getElem? (i := 21) rfl))) (Or.inl (hw _ (List.mem_of_getElem? (i := 19) rfl))) (by decide) (t := .int) (t' := .boolean) (by decide) (by decide)))
    have B32 := B22.other W26 (Or.inr (slot_ne (Or.inl (hw _ (List.mem_of_getElem? (i := 23) rfl))) (Or.inl (hw _ (List.mem_of_getElem? (i := 19) rfl))) (by decide) (t := .int) (t' := .boolean) (by decide) (by decide)))
    have B33 : Fld Z h26 a0 "com/example/tree_to_rows/treetorows/xml/DocumentPlace" "afterCarriageReturn" "Z" (.int v6) := B18.same W26
    have N34 := Fr.snoc X26 N23 ge0
    have K35 : Keep h0 h26 [a0] := K24.wr W26 (Or.inl (List.mem_of_getElem? (i := 0) rfl))
    have Z36 : n0 ≤ h26.size := Nat.le_trans Z25 (Keep.of_wr W26).1
    refine own_via (fun k => XS.aloadN X26.here hx rfl (hb hby d4_203) rfl rfl  (XS.dup X26.here hx rfl (hb hby d4_204) rfl rfl k)) ?_
    show own_Go p e below s _ _ (T26.setTop (mkF m 205 #[rv a0, rv a1, iv p2, iv p3, iv v4, iv v5, iv v6, iv v7, iv v8, iv v9, iv v10] [(.ref a0), (.ref a0)]))
    obtain ⟨T37, X37, e37, st37⟩ := getF X26 hx hZ hown (host := "") (Or.inl (hw _ (List.mem_of_getElem? (i := 16) rfl))) Via.refl e26 B28 (g := (mkF m 205 #[rv a0, rv a1, iv p2, iv p3, iv v4, iv v5, iv v6, iv v7, iv v8, iv v9, iv v10] [(.ref a0), (.ref a0)])) rfl rfl (hb hby d4_205)
    refine own_via (fun k => st37 _ k) ?_
    show own_Go p e below s _ _ (T37.setTop (mkF m 208 #[rv a0, rv a1, iv p2, iv p3, iv v4, iv v5, iv v6, iv v7, iv v8, iv v9, iv v10] [(.int 1), (.ref a0)]))
    refine own_via (fun k => XS.iload X37.here hx rfl (hb hby d4_208) rfl  (XS.iloadN X37.here hx rfl (hb hby d4_210) rfl  k)) ?_
    show own_Go p e below s _ _ (T37.setTop (mkF m 211 #[rv a0, rv a1, iv p2, iv p3, iv v4, iv v5, iv v6, iv v7, iv v8, iv v9, iv v10] [(.int p2), (.int v7), (.int 1), (.ref a0)]))
    by_cases hc38 : v7 = p2
    · refine own_via (fun k => XS.icmpNo X37.here hx rfl (hb hby d4_211) rfl (teq hc38).2 k) ?_
      show own_Go p e below s _ _ (T37.setTop (mkF m 214 #[rv a0, rv a1, iv p2, iv p3, iv v4, iv v5, iv v6, iv v7, iv v8, iv v9, iv v10] [(.int 1), (.ref a0)]))
      refine own_via (fun k => XS.iconst X37.here hx rfl (hb hby d4_214) (XS.goto X37.here hx rfl (pc0 := 215) (pc' := 219) rfl (hb hby d4_215) (by decide) (by decide) (XS.iand X37.here hx rfl (hb hby d4_219) rfl k))) ?_
      show own_Go p e below s _ _ (T37.setTop (mkF m 220 #[rv a0, rv a1, iv p2, iv p3, iv v4, iv v5, iv v6, iv v7, iv v8, iv v9, iv v10] [(.int 1), (.ref a0)]))
      obtain ⟨T39, h39, X39, e39, W39, st39⟩ := putFN X37 hx hZ hown (hw _ (List.mem_of_getElem? (i := 16) rfl)) Via.refl e37 B28 B29 (Or.inl (hw _ (List.mem_of_getElem? (i := 17) rfl))) (hw _ (List.mem_of_getElem? (i := 6) rfl)) (ty := .boolean) (v := (.int 1)) (v' := (.int (1 : Int32))) (by decide) rfl (by decide) (g := (mkF m 220 #[rv a0, rv a1, iv p2, iv p3, iv v4, iv v5, iv v6, iv v7, iv v8, iv v9, iv v10] [(.int 1), (.ref a0)])) rfl rfl (hb hby d4_220)
      refine own_via (fun k => st39 _ k) ?_
      show own_Go p e below s _ _ (T39.setTop (mkF m 223 #[rv a0, rv a1, iv p2, iv p3, iv v4, iv v5, iv v6, iv v7, iv v8, iv v9, iv v10] []))
      have B40 := B27.other W39 (Or.inr (slot_ne (Or.inr (hw _ (List.mem_of_getElem? (i := 15) rfl))) (Or.inl (hw _ (List.mem_of_getElem? (i := 17) rfl))) (by decide) (t := .boolean) (t' := .boolean) (by decide) (by decide)))
      have B41 := B29.wr W39
      have B42 := B30.other W39 nx0
      have B43 := B31.other W39 (Or.inr (slot_ne (Or.inl (hw _ (List.mem_of_getElem? (i := 21) rfl))) (Or.inl (hw _ (List.mem_of_getElem? (i := 17) rfl))) (by decide) (t := .int) (t' := .boolean) (by decide) (by decide)))
      have B44 := B32.other W39 (Or.inr (slot_ne (Or.inl (hw _ (List.mem_of_getElem? (i := 23) rfl))) (Or.inl (hw _ (List.mem_of_getElem? (i := 17) rfl))) (by decide) (t := .int) (t' := .boolean) (by decide) (by decide)))
      have B45 := B33.other W39 (Or.inr (slot_ne (Or.inl (hw _ (List.mem_of_getElem? (i := 19) rfl))) (Or.inl (hw _ (List.mem_of_getElem? (i := 17) rfl))) (by decide) (t := .boolean) (t' := .boolean) (by decide) (by decide)))
      have B46 : Fld Z h39 a0 "com/example/tree_to_rows/treetorows/xml/DocumentPlace" "firstCharacter" "Z" (.int 1) := B28.same W39
      have N47 := Fr.snoc X39 N34 ge0
      have K48 : Keep h0 h39 [a0] := K35.wr W39 (Or.inl (List.mem_of_getElem? (i := 0) rfl))
      have Z49 : n0 ≤ h39.size := Nat.le_trans Z36 (Keep.of_wr W39).1
      refine own_via (fun k => XS.iload X39.here hx rfl (hb hby d4_223) rfl  k) ?_
      show own_Go p e below s _ _ (T39.setTop (mkF m 225 #[rv a0, rv a1, iv p2, iv p3, iv v4, iv v5, iv v6, iv v7, iv v8, iv v9, iv v10] [(.int v7)]))
      exact own_retI X39 hx hlk Bd.returns (hb hby d4_225) (Q := (Q4 Z a0 a1 p2 p3 x11 k vs g h0 n0)) ⟨(congrArg (fun z => some (Value.int z)) (show v7 = (own_rn g p3 p2 (0 : Int32) (1 : Int32) (1 : Int32)).2.2.2 from (congrArg (fun q => q.2.2.2) hW))), N47, (by rw [e39]; exact K48), (by rw [e39]; exact B40), (by rw [e39]; exact own_fldI (by rw [← hW]; exact (if_pos hc38).symm) B46), (by rw [e39]; exact own_fldI (congrArg (fun q => q.1) hW) B45), (by rw [e39]; exact own_fldI (congrArg (fun q => q.2.1) hW) B43), (by rw [e39]; exact own_fldI (congrArg (fun q => q.2.2.1) hW) B44)⟩ (by decide) (by decide)
    · refine own_via (fun k => XS.icmpYes X37.here hx rfl (pc0 := 211) (pc' := 218) rfl (hb hby d4_211) rfl (feq hc38).2 (by decide) (by decide) k) ?_
      show own_Go p e below s _ _ (T37.setTop (mkF m 218 #[rv a0, rv a1, iv p2, iv p3, iv v4, iv v5, iv v6, iv v7, iv v8, iv v9, iv v10] [(.int 1), (.ref a0)]))
      refine own_via (fun k => XS.iconst X37.here hx rfl (hb hby d4_218) (XS.iand X37.here hx rfl (hb hby d4_219) rfl k)) ?_
      show own_Go p e below s _ _ (T37.setTop (mkF m 220 #[rv a0, rv a1, iv p2, iv p3, iv v4, iv v5, iv v6, iv v7, iv v8, iv v9, iv v10] [(.int 0), (.ref a0)]))
      obtain ⟨T50, h50, X50, e50, W50, st50⟩ := putFN X37 hx hZ hown (hw _ (List.mem_of_getElem? (i := 16) rfl)) Via.refl e37 B28 B29 (Or.inl (hw _ (List.mem_of_getElem? (i := 17) rfl))) (hw _ (List.mem_of_getElem? (i := 6) rfl)) (ty := .boolean) (v := (.int 0)) (v' := (.int (0 : Int32))) (by decide) rfl (by decide) (g := (mkF m 220 #[rv a0, rv a1, iv p2, iv p3, iv v4, iv v5, iv v6, iv v7, iv v8, iv v9, iv v10] [(.int 0), (.ref a0)])) rfl rfl (hb hby d4_220)
      refine own_via (fun k => st50 _ k) ?_
      show own_Go p e below s _ _ (T50.setTop (mkF m 223 #[rv a0, rv a1, iv p2, iv p3, iv v4, iv v5, iv v6, iv v7, iv v8, iv v9, iv v10] []))
      have B51 := B27.other W50 (Or.inr (slot_ne (Or.inr (hw _ (List.mem_of_getElem? (i := 15) rfl))) (Or.inl (hw _ (List.mem_of_getElem? (i := 17) rfl))) (by decide) (t := .boolean) (t' := .boolean) (by decide) (by decide)))
      have B52 := B29.wr W50
      have B53 := B30.other W50 nx0
      have B54 := B31.other W50 (Or.inr (slot_ne (Or.inl (hw _ (List.mem_of_getElem? (i := 21) rfl))) (Or.inl (hw _ (List.mem_of_getElem? (i := 17) rfl))) (by decide) (t := .int) (t' := .boolean) (by decide) (by decide)))
      have B55 := B32.other W50 (Or.inr (slot_ne (Or.inl (hw _ (List.mem_of_getElem? (i := 23) rfl))) (Or.inl (hw _ (List.mem_of_getElem? (i := 17) rfl))) (by decide) (t := .int) (t' := .boolean) (by decide) (by decide)))
      have B56 := B33.other W50 (Or.inr (slot_ne (Or.inl (hw _ (List.mem_of_getElem? (i := 19) rfl))) (Or.inl (hw _ (List.mem_of_getElem? (i := 17) rfl))) (by decide) (t := .boolean) (t' := .boolean) (by decide) (by decide)))
      have B57 : Fld Z h50 a0 "com/example/tree_to_rows/treetorows/xml/DocumentPlace" "firstCharacter" "Z" (.int 0) := B28.same W50
      have N58 := Fr.snoc X50 N34 ge0
      have K59 : Keep h0 h50 [a0] := K35.wr W50 (Or.inl (List.mem_of_getElem? (i := 0) rfl))
      have Z60 : n0 ≤ h50.size := Nat.le_trans Z36 (Keep.of_wr W50).1
      refine own_via (fun k => XS.iload X50.here hx rfl (hb hby d4_223) rfl  k) ?_
      show own_Go p e below s _ _ (T50.setTop (mkF m 225 #[rv a0, rv a1, iv p2, iv p3, iv v4, iv v5, iv v6, iv v7, iv v8, iv v9, iv v10] [(.int v7)]))
      exact own_retI X50 hx hlk Bd.returns (hb hby d4_225) (Q := (Q4 Z a0 a1 p2 p3 x11 k vs g h0 n0)) ⟨(congrArg (fun z => some (Value.int z)) (show v7 = (own_rn g p3 p2 (0 : Int32) (1 : Int32) (1 : Int32)).2.2.2 from (congrArg (fun q => q.2.2.2) hW))), N58, (by rw [e50]; exact K59), (by rw [e50]; exact B51), (by rw [e50]; exact own_fldI (by rw [← hW]; exact (if_neg hc38).symm) B57), (by rw [e50]; exact own_fldI (congrArg (fun q => q.1) hW) B56), (by rw [e50]; exact own_fldI (congrArg (fun q => q.2.1) hW) B54), (by rw [e50]; exact own_fldI (congrArg (fun q => q.2.2.1) hW) B55)⟩ (by decide) (by decide)
  have ALL : ∀ n : Nat, (∀ v4 : Int32, ∀ v5 : Int32, ∀ v6 : Int32, ∀ v7 : Int32, ∀ v9 : Int32, ∀ v10 : Int32, nar .boolean v6 = v6 → (p3.toInt - v7.toInt).toNat = n → ¬ v7 < 0 → ¬ v7 < v9 → own_st g p3 v7 v9 v6 v4 v5 = (own_rn g p3 p2 (0 : Int32) (1 : Int32) (1 : Int32)) → own_Go p e below s (Q4 Z a0 a1 p2 p3 x11 k vs g h0 n0) (0, 0) (T3.setTop (mkF m 39 #[rv a0, rv a1, iv p2, iv p3, iv v4, iv v5, iv v6, iv v7, iv 1, iv v9, iv v10] []))) ∧ (∀ v4 : Int32, ∀ v5 : Int32, ∀ v6 : Int32, ∀ v7 : Int32, ∀ v9 : Int32, ∀ v10 : Int32, nar .boolean v6 = v6 → (p3.toInt - v7.toInt).toNat = n → ¬ v7 < 0 → own_rn g p3 v7 v6 v4 v5 = (own_rn g p3 p2 (0 : Int32) (1 : Int32) (1 : Int32)) → own_Go p e below s (Q4 Z a0 a1 p2 p3 x11 k vs g h0 n0) (0, 0) (T3.setTop (mkF m 24 #[rv a0, rv a1, iv p2, iv p3, iv v4, iv v5, iv v6, iv v7, iv 1, iv v9, iv v10] []))) ∧ (∀ v4 : Int32, ∀ v5 : Int32, ∀ v6 : Int32, ∀ v7 : Int32, ∀ v9 : Int32, nar .boolean v6 = v6 → (p3.toInt - v7.toInt).toNat = n → ¬ v7 < 0 → ¬ v7 < v9 → own_st g p3 v7 v9 v6 v4 v5 = (own_rn g p3 p2 (0 : Int32) (1 : Int32) (1 : Int32)) → own_Go p e below s (Q4 Z a0 a1 p2 p3 x11 k vs g h0 n0) (0, 0) (T3.setTop (mkF m 39 #[rv a0, rv a1, iv p2, iv p3, iv v4, iv v5, iv v6, iv v7, iv 1, iv v9, .unset] []))) := by
    intro n
    induction n with
    | zero =>
      have IG : ∀ v4 : Int32, ∀ v5 : Int32, ∀ v6 : Int32, ∀ v7 : Int32, ∀ v9 : Int32, ∀ v10 : Int32, nar .boolean v6 = v6 → (p3.toInt - v7.toInt).toNat = 0 → ¬ v7 < 0 → ¬ v7 < v9 → own_st g p3 v7 v9 v6 v4 v5 = (own_rn g p3 p2 (0 : Int32) (1 : Int32) (1 : Int32)) → own_Go p e below s (Q4 Z a0 a1 p2 p3 x11 k vs g h0 n0) (0, 0) (T3.setTop (mkF m 39 #[rv a0, rv a1, iv p2, iv p3, iv v4, iv v5, iv v6, iv v7, iv 1, iv v9, iv v10] [])) := by
        intro v4 v5 v6 v7 v9 v10 hbo hn h0v hrv hW
        have hge := own_fu0 hn
        refine own_via (fun k => XS.iload X3.here hx rfl (hb hby d4_39) rfl  (XS.iloadN X3.here hx rfl (hb hby d4_41) rfl  k)) ?_
        show own_Go p e below s _ _ (T3.setTop (mkF m 42 #[rv a0, rv a1, iv p2, iv p3, iv v4, iv v5, iv v6, iv v7, iv 1, iv v9, iv v10] [(.int p3), (.int v7)]))
        refine own_via (fun k => XS.icmpYes X3.here hx rfl (pc0 := 42) (pc' := 60) rfl (hb hby d4_42) rfl (flt hge).2.1 (by decide) (by decide) k) ?_
        show own_Go p e below s _ _ (T3.setTop (mkF m 60 #[rv a0, rv a1, iv p2, iv p3, iv v4, iv v5, iv v6, iv v7, iv 1, iv v9, iv v10] []))
        refine own_via (fun k => XS.iload X3.here hx rfl (hb hby d4_60) rfl  (XS.iload X3.here hx rfl (hb hby d4_62) rfl  k)) ?_
        show own_Go p e below s _ _ (T3.setTop (mkF m 64 #[rv a0, rv a1, iv p2, iv p3, iv v4, iv v5, iv v6, iv v7, iv 1, iv v9, iv v10] [(.int v9), (.int v7)]))
        by_cases hc61 : v9 < v7
        · refine own_via (fun k => XS.icmpNo X3.here hx rfl (hb hby d4_64) rfl (tlt hc61).2.2.2 k) ?_
          show own_Go p e below s _ _ (T3.setTop (mkF m 67 #[rv a0, rv a1, iv p2, iv p3, iv v4, iv v5, iv v6, iv v7, iv 1, iv v9, iv v10] []))
          refine own_via (fun k => XS.iload X3.here hx rfl (hb hby d4_67) rfl  (XS.iload X3.here hx rfl (hb hby d4_69) rfl  (XS.iload X3.here hx rfl (hb hby d4_71) rfl  (XS.isub X3.here hx rfl (hb hby d4_73) rfl k)))) ?_
          show own_Go p e below s _ _ (T3.setTop (mkF m 74 #[rv a0, rv a1, iv p2, iv p3, iv v4, iv v5, iv v6, iv v7, iv 1, iv v9, iv v10] [(.int (v7 - v9)), (.int v5)]))
          refine own_via (fun k => XS.iadd X3.here hx rfl (hb hby d4_74) rfl (XS.istore X3.here hx rfl (hb hby d4_75) rfl (l' := #[rv a0, rv a1, iv p2, iv p3, iv v4, iv (v5 + (v7 - v9)), iv v6, iv v7, iv 1, iv v9, iv v10]) rfl (XS.iconst X3.here hx rfl (hb hby d4_77) (XS.istore X3.here hx rfl (hb hby d4_78) rfl (l' := #[rv a0, rv a1, iv p2, iv p3, iv v4, iv (v5 + (v7 - v9)), iv 0, iv v7, iv 1, iv v9, iv v10]) rfl k)))) ?_
          show own_Go p e below s _ _ (T3.setTop (mkF m 80 #[rv a0, rv a1, iv p2, iv p3, iv v4, iv (v5 + (v7 - v9)), iv 0, iv v7, iv 1, iv v9, iv v10] []))
          refine own_via (fun k => XS.iload X3.here hx rfl (hb hby d4_80) rfl  (XS.iloadN X3.here hx rfl (hb hby d4_82) rfl  k)) ?_
          show own_Go p e below s _ _ (T3.setTop (mkF m 83 #[rv a0, rv a1, iv p2, iv p3, iv v4, iv (v5 + (v7 - v9)), iv 0, iv v7, iv 1, iv v9, iv v10] [(.int p3), (.int v7)]))
          refine own_via (fun k => XS.icmpYes X3.here hx rfl (pc0 := 83) (pc' := 93) rfl (hb hby d4_83) rfl (flt hge).2.1 (by decide) (by decide) k) ?_
          show own_Go p e below s _ _ (T3.setTop (mkF m 93 #[rv a0, rv a1, iv p2, iv p3, iv v4, iv (v5 + (v7 - v9)), iv 0, iv v7, iv 1, iv v9, iv v10] []))
          refine own_via (fun k => XS.iconst X3.here hx rfl (hb hby d4_93) (XS.istore X3.here hx rfl (hb hby d4_94) rfl (l' := #[rv a0, rv a1, iv p2, iv p3, iv v4, iv (v5 + (v7 - v9)), iv 0, iv v7, iv 1, iv v9, iv (-1)]) rfl (XS.iload X3.here hx rfl (hb hby d4_96) rfl  (XS.bipush X3.here hx rfl (hb hby d4_98) k)))) ?_
          show own_Go p e below s _ _ (T3.setTop (mkF m 100 #[rv a0, rv a1, iv p2, iv p3, iv v4, iv (v5 + (v7 - v9)), iv 0, iv v7, iv 1, iv v9, iv (-1)] [(.int 10), (.int (-1))]))
          refine own_via (fun k => XS.icmpYes X3.here hx rfl (pc0 := 100) (pc' := 114) rfl (hb hby d4_100) rfl (by decide) (by decide) (by decide) k) ?_
          show own_Go p e below s _ _ (T3.setTop (mkF m 114 #[rv a0, rv a1, iv p2, iv p3, iv v4, iv (v5 + (v7 - v9)), iv 0, iv v7, iv 1, iv v9, iv (-1)] []))
          refine own_via (fun k => XS.iload X3.here hx rfl (hb hby d4_114) rfl  (XS.bipush X3.here hx rfl (hb hby d4_116) k)) ?_
          show own_Go p e below s _ _ (T3.setTop (mkF m 118 #[rv a0, rv a1, iv p2, iv p3, iv v4, iv (v5 + (v7 - v9)), iv 0, iv v7, iv 1, iv v9, iv (-1)] [(.int 10), (.int (-1))]))
          refine own_via (fun k => XS.icmpNo X3.here hx rfl (hb hby d4_118) rfl (by decide) k) ?_
          show own_Go p e below s _ _ (T3.setTop (mkF m 121 #[rv a0, rv a1, iv p2, iv p3, iv v4, iv (v5 + (v7 - v9)), iv 0, iv v7, iv 1, iv v9, iv (-1)] []))
          refine own_via (fun k => XS.iload X3.here hx rfl (hb hby d4_121) rfl  (XS.bipush X3.here hx rfl (hb hby d4_123) k)) ?_
          show own_Go p e below s _ _ (T3.setTop (mkF m 125 #[rv a0, rv a1, iv p2, iv p3, iv v4, iv (v5 + (v7 - v9)), iv 0, iv v7, iv 1, iv v9, iv (-1)] [(.int 13), (.int (-1))]))
          refine own_via (fun k => XS.icmpYes X3.here hx rfl (pc0 := 125) (pc' := 151) rfl (hb hby d4_125) rfl (by decide) (by decide) (by decide) k) ?_
          show own_Go p e below s _ _ (T3.setTop (mkF m 151 #[rv a0, rv a1, iv p2, iv p3, iv v4, iv (v5 + (v7 - v9)), iv 0, iv v7, iv 1, iv v9, iv (-1)] []))
          refine own_via (fun k => XS.iload X3.here hx rfl (hb hby d4_151) rfl  k) ?_
          show own_Go p e below s _ _ (T3.setTop (mkF m 153 #[rv a0, rv a1, iv p2, iv p3, iv v4, iv (v5 + (v7 - v9)), iv 0, iv v7, iv 1, iv v9, iv (-1)] [(.int (-1))]))
          refine own_via (fun k => XS.ifYes X3.here hx rfl (pc0 := 153) (pc' := 162) rfl (hb hby d4_153) rfl (by decide) (by decide) (by decide) k) ?_
          show own_Go p e below s _ _ (T3.setTop (mkF m 162 #[rv a0, rv a1, iv p2, iv p3, iv v4, iv (v5 + (v7 - v9)), iv 0, iv v7, iv 1, iv v9, iv (-1)] []))
          refine own_via (fun k => XS.iload X3.here hx rfl (hb hby d4_162) rfl  k) ?_
          show own_Go p e below s _ _ (T3.setTop (mkF m 164 #[rv a0, rv a1, iv p2, iv p3, iv v4, iv (v5 + (v7 - v9)), iv 0, iv v7, iv 1, iv v9, iv (-1)] [(.int (-1))]))
          refine own_via (fun k => XS.ifYes X3.here hx rfl (pc0 := 164) (pc' := 171) rfl (hb hby d4_164) rfl (by decide) (by decide) (by decide) k) ?_
          show own_Go p e below s _ _ (T3.setTop (mkF m 171 #[rv a0, rv a1, iv p2, iv p3, iv v4, iv (v5 + (v7 - v9)), iv 0, iv v7, iv 1, iv v9, iv (-1)] []))
          refine own_via (fun k => XS.iconst X3.here hx rfl (hb hby d4_171) (XS.istore X3.here hx rfl (hb hby d4_172) rfl (l' := #[rv a0, rv a1, iv p2, iv p3, iv v4, iv (v5 + (v7 - v9)), iv 0, iv v7, iv 0, iv v9, iv (-1)]) rfl (XS.iload X3.here hx rfl (hb hby d4_174) rfl  k))) ?_
          show own_Go p e below s _ _ (T3.setTop (mkF m 176 #[rv a0, rv a1, iv p2, iv p3, iv v4, iv (v5 + (v7 - v9)), iv 0, iv v7, iv 0, iv v9, iv (-1)] [(.int 0)]))
          refine own_via (fun k => XS.ifYes X3.here hx rfl (pc0 := 176) (pc' := 182) rfl (hb hby d4_176) rfl (by decide) (by decide) (by decide) k) ?_
          show own_Go p e below s _ _ (T3.setTop (mkF m 182 #[rv a0, rv a1, iv p2, iv p3, iv v4, iv (v5 + (v7 - v9)), iv 0, iv v7, iv 0, iv v9, iv (-1)] []))
          refine own_via (fun k => XS.goto X3.here hx rfl (pc0 := 182) (pc' := 24) rfl (hb hby d4_182) (by decide) (by decide) k) ?_
          show own_Go p e below s _ _ (T3.setTop (mkF m 24 #[rv a0, rv a1, iv p2, iv p3, iv v4, iv (v5 + (v7 - v9)), iv 0, iv v7, iv 0, iv v9, iv (-1)] []))
          refine own_via (fun k => XS.iload X3.here hx rfl (hb hby d4_24) rfl  k) ?_
          show own_Go p e below s _ _ (T3.setTop (mkF m 26 #[rv a0, rv a1, iv p2, iv p3, iv v4, iv (v5 + (v7 - v9)), iv 0, iv v7, iv 0, iv v9, iv (-1)] [(.int 0)]))
          refine own_via (fun k => XS.ifYes X3.here hx rfl (pc0 := 26) (pc' := 185) rfl (hb hby d4_26) rfl (by decide) (by decide) (by decide) k) ?_
          show own_Go p e below s _ _ (T3.setTop (mkF m 185 #[rv a0, rv a1, iv p2, iv p3, iv v4, iv (v5 + (v7 - v9)), iv 0, iv v7, iv 0, iv v9, iv (-1)] []))
          exact T185 v4 (v5 + (v7 - v9)) (0 : Int32) v7 (0 : Int32) v9 (-1 : Int32) rfl ((own_rn_end hge).symm.trans ((own_st_yes hc61).symm.trans hW))
        · refine own_via (fun k => XS.icmpYes X3.here hx rfl (pc0 := 64) (pc' := 80) rfl (hb hby d4_64) rfl (flt hc61).2.2.2 (by decide) (by decide) k) ?_
          show own_Go p e below s _ _ (T3.setTop (mkF m 80 #[rv a0, rv a1, iv p2, iv p3, iv v4, iv v5, iv v6, iv v7, iv 1, iv v9, iv v10] []))
          refine own_via (fun k => XS.iload X3.here hx rfl (hb hby d4_80) rfl  (XS.iloadN X3.here hx rfl (hb hby d4_82) rfl  k)) ?_
          show own_Go p e below s _ _ (T3.setTop (mkF m 83 #[rv a0, rv a1, iv p2, iv p3, iv v4, iv v5, iv v6, iv v7, iv 1, iv v9, iv v10] [(.int p3), (.int v7)]))
          refine own_via (fun k => XS.icmpYes X3.here hx rfl (pc0 := 83) (pc' := 93) rfl (hb hby d4_83) rfl (flt hge).2.1 (by decide) (by decide) k) ?_
          show own_Go p e below s _ _ (T3.setTop (mkF m 93 #[rv a0, rv a1, iv p2, iv p3, iv v4, iv v5, iv v6, iv v7, iv 1, iv v9, iv v10] []))
          refine own_via (fun k => XS.iconst X3.here hx rfl (hb hby d4_93) (XS.istore X3.here hx rfl (hb hby d4_94) rfl (l' := #[rv a0, rv a1, iv p2, iv p3, iv v4, iv v5, iv v6, iv v7, iv 1, iv v9, iv (-1)]) rfl (XS.iload X3.here hx rfl (hb hby d4_96) rfl  (XS.bipush X3.here hx rfl (hb hby d4_98) k)))) ?_
          show own_Go p e below s _ _ (T3.setTop (mkF m 100 #[rv a0, rv a1, iv p2, iv p3, iv v4, iv v5, iv v6, iv v7, iv 1, iv v9, iv (-1)] [(.int 10), (.int (-1))]))
          refine own_via (fun k => XS.icmpYes X3.here hx rfl (pc0 := 100) (pc' := 114) rfl (hb hby d4_100) rfl (by decide) (by decide) (by decide) k) ?_
          show own_Go p e below s _ _ (T3.setTop (mkF m 114 #[rv a0, rv a1, iv p2, iv p3, iv v4, iv v5, iv v6, iv v7, iv 1, iv v9, iv (-1)] []))
          refine own_via (fun k => XS.iload X3.here hx rfl (hb hby d4_114) rfl  (XS.bipush X3.here hx rfl (hb hby d4_116) k)) ?_
          show own_Go p e below s _ _ (T3.setTop (mkF m 118 #[rv a0, rv a1, iv p2, iv p3, iv v4, iv v5, iv v6, iv v7, iv 1, iv v9, iv (-1)] [(.int 10), (.int (-1))]))
          refine own_via (fun k => XS.icmpNo X3.here hx rfl (hb hby d4_118) rfl (by decide) k) ?_
          show own_Go p e below s _ _ (T3.setTop (mkF m 121 #[rv a0, rv a1, iv p2, iv p3, iv v4, iv v5, iv v6, iv v7, iv 1, iv v9, iv (-1)] []))
          refine own_via (fun k => XS.iload X3.here hx rfl (hb hby d4_121) rfl  (XS.bipush X3.here hx rfl (hb hby d4_123) k)) ?_
          show own_Go p e below s _ _ (T3.setTop (mkF m 125 #[rv a0, rv a1, iv p2, iv p3, iv v4, iv v5, iv v6, iv v7, iv 1, iv v9, iv (-1)] [(.int 13), (.int (-1))]))
          refine own_via (fun k => XS.icmpYes X3.here hx rfl (pc0 := 125) (pc' := 151) rfl (hb hby d4_125) rfl (by decide) (by decide) (by decide) k) ?_
          show own_Go p e below s _ _ (T3.setTop (mkF m 151 #[rv a0, rv a1, iv p2, iv p3, iv v4, iv v5, iv v6, iv v7, iv 1, iv v9, iv (-1)] []))
          refine own_via (fun k => XS.iload X3.here hx rfl (hb hby d4_151) rfl  k) ?_
          show own_Go p e below s _ _ (T3.setTop (mkF m 153 #[rv a0, rv a1, iv p2, iv p3, iv v4, iv v5, iv v6, iv v7, iv 1, iv v9, iv (-1)] [(.int (-1))]))
          refine own_via (fun k => XS.ifYes X3.here hx rfl (pc0 := 153) (pc' := 162) rfl (hb hby d4_153) rfl (by decide) (by decide) (by decide) k) ?_
          show own_Go p e below s _ _ (T3.setTop (mkF m 162 #[rv a0, rv a1, iv p2, iv p3, iv v4, iv v5, iv v6, iv v7, iv 1, iv v9, iv (-1)] []))
          refine own_via (fun k => XS.iload X3.here hx rfl (hb hby d4_162) rfl  k) ?_
          show own_Go p e below s _ _ (T3.setTop (mkF m 164 #[rv a0, rv a1, iv p2, iv p3, iv v4, iv v5, iv v6, iv v7, iv 1, iv v9, iv (-1)] [(.int (-1))]))
          refine own_via (fun k => XS.ifYes X3.here hx rfl (pc0 := 164) (pc' := 171) rfl (hb hby d4_164) rfl (by decide) (by decide) (by decide) k) ?_
          show own_Go p e below s _ _ (T3.setTop (mkF m 171 #[rv a0, rv a1, iv p2, iv p3, iv v4, iv v5, iv v6, iv v7, iv 1, iv v9, iv (-1)] []))
          refine own_via (fun k => XS.iconst X3.here hx rfl (hb hby d4_171) (XS.istore X3.here hx rfl (hb hby d4_172) rfl (l' := #[rv a0, rv a1, iv p2, iv p3, iv v4, iv v5, iv v6, iv v7, iv 0, iv v9, iv (-1)]) rfl (XS.iload X3.here hx rfl (hb hby d4_174) rfl  k))) ?_
          show own_Go p e below s _ _ (T3.setTop (mkF m 176 #[rv a0, rv a1, iv p2, iv p3, iv v4, iv v5, iv v6, iv v7, iv 0, iv v9, iv (-1)] [(.int 0)]))
          refine own_via (fun k => XS.ifYes X3.here hx rfl (pc0 := 176) (pc' := 182) rfl (hb hby d4_176) rfl (by decide) (by decide) (by decide) k) ?_
          show own_Go p e below s _ _ (T3.setTop (mkF m 182 #[rv a0, rv a1, iv p2, iv p3, iv v4, iv v5, iv v6, iv v7, iv 0, iv v9, iv (-1)] []))
          refine own_via (fun k => XS.goto X3.here hx rfl (pc0 := 182) (pc' := 24) rfl (hb hby d4_182) (by decide) (by decide) k) ?_
          show own_Go p e below s _ _ (T3.setTop (mkF m 24 #[rv a0, rv a1, iv p2, iv p3, iv v4, iv v5, iv v6, iv v7, iv 0, iv v9, iv (-1)] []))
          refine own_via (fun k => XS.iload X3.here hx rfl (hb hby d4_24) rfl  k) ?_
          show own_Go p e below s _ _ (T3.setTop (mkF m 26 #[rv a0, rv a1, iv p2, iv p3, iv v4, iv v5, iv v6, iv v7, iv 0, iv v9, iv (-1)] [(.int 0)]))
          refine own_via (fun k => XS.ifYes X3.here hx rfl (pc0 := 26) (pc' := 185) rfl (hb hby d4_26) rfl (by decide) (by decide) (by decide) k) ?_
          show own_Go p e below s _ _ (T3.setTop (mkF m 185 #[rv a0, rv a1, iv p2, iv p3, iv v4, iv v5, iv v6, iv v7, iv 0, iv v9, iv (-1)] []))
          exact T185 v4 v5 v6 v7 (0 : Int32) v9 (-1 : Int32) hbo ((own_rn_end hge).symm.trans ((own_st_no hrv hc61).symm.trans hW))
      have OG : ∀ v4 : Int32, ∀ v5 : Int32, ∀ v6 : Int32, ∀ v7 : Int32, ∀ v9 : Int32, ∀ v10 : Int32, nar .boolean v6 = v6 → (p3.toInt - v7.toInt).toNat = 0 → ¬ v7 < 0 → own_rn g p3 v7 v6 v4 v5 = (own_rn g p3 p2 (0 : Int32) (1 : Int32) (1 : Int32)) → own_Go p e below s (Q4 Z a0 a1 p2 p3 x11 k vs g h0 n0) (0, 0) (T3.setTop (mkF m 24 #[rv a0, rv a1, iv p2, iv p3, iv v4, iv v5, iv v6, iv v7, iv 1, iv v9, iv v10] [])) := by
        intro v4 v5 v6 v7 v9 v10 hbo hn h0v hW
        have hge := own_fu0 hn
        refine own_via (fun k => XS.iload X3.here hx rfl (hb hby d4_24) rfl  k) ?_
        show own_Go p e below s _ _ (T3.setTop (mkF m 26 #[rv a0, rv a1, iv p2, iv p3, iv v4, iv v5, iv v6, iv v7, iv 1, iv v9, iv v10] [(.int 1)]))
        refine own_via (fun k => XS.ifNo X3.here hx rfl (hb hby d4_26) rfl (by decide) k) ?_
        show own_Go p e below s _ _ (T3.setTop (mkF m 29 #[rv a0, rv a1, iv p2, iv p3, iv v4, iv v5, iv v6, iv v7, iv 1, iv v9, iv v10] []))
        refine own_via (fun k => XS.iload X3.here hx rfl (hb hby d4_29) rfl  (XS.iloadN X3.here hx rfl (hb hby d4_31) rfl  k)) ?_
        show own_Go p e below s _ _ (T3.setTop (mkF m 32 #[rv a0, rv a1, iv p2, iv p3, iv v4, iv v5, iv v6, iv v7, iv 1, iv v9, iv v10] [(.int p3), (.int v7)]))
        refine own_via (fun k => XS.icmpYes X3.here hx rfl (pc0 := 32) (pc' := 185) rfl (hb hby d4_32) rfl (flt hge).2.1 (by decide) (by decide) k) ?_
        show own_Go p e below s _ _ (T3.setTop (mkF m 185 #[rv a0, rv a1, iv p2, iv p3, iv v4, iv v5, iv v6, iv v7, iv 1, iv v9, iv v10] []))
        exact T185 v4 v5 v6 v7 (1 : Int32) v9 v10 hbo ((own_rn_end hge).symm.trans hW)
      have IF : ∀ v4 : Int32, ∀ v5 : Int32, ∀ v6 : Int32, ∀ v7 : Int32, ∀ v9 : Int32, nar .boolean v6 = v6 → (p3.toInt - v7.toInt).toNat = 0 → ¬ v7 < 0 → ¬ v7 < v9 → own_st g p3 v7 v9 v6 v4 v5 = (own_rn g p3 p2 (0 : Int32) (1 : Int32) (1 : Int32)) → own_Go p e below s (Q4 Z a0 a1 p2 p3 x11 k vs g h0 n0) (0, 0) (T3.setTop (mkF m 39 #[rv a0, rv a1, iv p2, iv p3, iv v4, iv v5, iv v6, iv v7, iv 1, iv v9, .unset] [])) := by
        intro v4 v5 v6 v7 v9 hbo hn h0v hrv hW
        have hge := own_fu0 hn
        refine own_via (fun k => XS.iload X3.here hx rfl (hb hby d4_39) rfl  (XS.iloadN X3.here hx rfl (hb hby d4_41) rfl  k)) ?_
        show own_Go p e below s _ _ (T3.setTop (mkF m 42 #[rv a0, rv a1, iv p2, iv p3, iv v4, iv v5, iv v6, iv v7, iv 1, iv v9, .unset] [(.int p3), (.int v7)]))
        refine own_via (fun k => XS.icmpYes X3.here hx rfl (pc0 := 42) (pc' := 60) rfl (hb hby d4_42) rfl (flt hge).2.1 (by decide) (by decide) k) ?_
        show own_Go p e below s _ _ (T3.setTop (mkF m 60 #[rv a0, rv a1, iv p2, iv p3, iv v4, iv v5, iv v6, iv v7, iv 1, iv v9, .unset] []))
        refine own_via (fun k => XS.iload X3.here hx rfl (hb hby d4_60) rfl  (XS.iload X3.here hx rfl (hb hby d4_62) rfl  k)) ?_
        show own_Go p e below s _ _ (T3.setTop (mkF m 64 #[rv a0, rv a1, iv p2, iv p3, iv v4, iv v5, iv v6, iv v7, iv 1, iv v9, .unset] [(.int v9), (.int v7)]))
        by_cases hc62 : v9 < v7
        · refine own_via (fun k => XS.icmpNo X3.here hx rfl (hb hby d4_64) rfl (tlt hc62).2.2.2 k) ?_
          show own_Go p e below s _ _ (T3.setTop (mkF m 67 #[rv a0, rv a1, iv p2, iv p3, iv v4, iv v5, iv v6, iv v7, iv 1, iv v9, .unset] []))
          refine own_via (fun k => XS.iload X3.here hx rfl (hb hby d4_67) rfl  (XS.iload X3.here hx rfl (hb hby d4_69) rfl  (XS.iload X3.here hx rfl (hb hby d4_71) rfl  (XS.isub X3.here hx rfl (hb hby d4_73) rfl k)))) ?_
          show own_Go p e below s _ _ (T3.setTop (mkF m 74 #[rv a0, rv a1, iv p2, iv p3, iv v4, iv v5, iv v6, iv v7, iv 1, iv v9, .unset] [(.int (v7 - v9)), (.int v5)]))
          refine own_via (fun k => XS.iadd X3.here hx rfl (hb hby d4_74) rfl (XS.istore X3.here hx rfl (hb hby d4_75) rfl (l' := #[rv a0, rv a1, iv p2, iv p3, iv v4, iv (v5 + (v7 - v9)), iv v6, iv v7, iv 1, iv v9, .unset]) rfl (XS.iconst X3.here hx rfl (hb hby d4_77) (XS.istore X3.here hx rfl (hb hby d4_78) rfl (l' := #[rv a0, rv a1, iv p2, iv p3, iv v4, iv (v5 + (v7 - v9)), iv 0, iv v7, iv 1, iv v9, .unset]) rfl k)))) ?_
          show own_Go p e below s _ _ (T3.setTop (mkF m 80 #[rv a0, rv a1, iv p2, iv p3, iv v4, iv (v5 + (v7 - v9)), iv 0, iv v7, iv 1, iv v9, .unset] []))
          refine own_via (fun k => XS.iload X3.here hx rfl (hb hby d4_80) rfl  (XS.iloadN X3.here hx rfl (hb hby d4_82) rfl  k)) ?_
          show own_Go p e below s _ _ (T3.setTop (mkF m 83 #[rv a0, rv a1, iv p2, iv p3, iv v4, iv (v5 + (v7 - v9)), iv 0, iv v7, iv 1, iv v9, .unset] [(.int p3), (.int v7)]))
          refine own_via (fun k => XS.icmpYes X3.here hx rfl (pc0 := 83) (pc' := 93) rfl (hb hby d4_83) rfl (flt hge).2.1 (by decide) (by decide) k) ?_
          show own_Go p e below s _ _ (T3.setTop (mkF m 93 #[rv a0, rv a1, iv p2, iv p3, iv v4, iv (v5 + (v7 - v9)), iv 0, iv v7, iv 1, iv v9, .unset] []))
          refine own_via (fun k => XS.iconst X3.here hx rfl (hb hby d4_93) (XS.istore X3.here hx rfl (hb hby d4_94) rfl (l' := #[rv a0, rv a1, iv p2, iv p3, iv v4, iv (v5 + (v7 - v9)), iv 0, iv v7, iv 1, iv v9, iv (-1)]) rfl (XS.iload X3.here hx rfl (hb hby d4_96) rfl  (XS.bipush X3.here hx rfl (hb hby d4_98) k)))) ?_
          show own_Go p e below s _ _ (T3.setTop (mkF m 100 #[rv a0, rv a1, iv p2, iv p3, iv v4, iv (v5 + (v7 - v9)), iv 0, iv v7, iv 1, iv v9, iv (-1)] [(.int 10), (.int (-1))]))
          refine own_via (fun k => XS.icmpYes X3.here hx rfl (pc0 := 100) (pc' := 114) rfl (hb hby d4_100) rfl (by decide) (by decide) (by decide) k) ?_
          show own_Go p e below s _ _ (T3.setTop (mkF m 114 #[rv a0, rv a1, iv p2, iv p3, iv v4, iv (v5 + (v7 - v9)), iv 0, iv v7, iv 1, iv v9, iv (-1)] []))
          refine own_via (fun k => XS.iload X3.here hx rfl (hb hby d4_114) rfl  (XS.bipush X3.here hx rfl (hb hby d4_116) k)) ?_
          show own_Go p e below s _ _ (T3.setTop (mkF m 118 #[rv a0, rv a1, iv p2, iv p3, iv v4, iv (v5 + (v7 - v9)), iv 0, iv v7, iv 1, iv v9, iv (-1)] [(.int 10), (.int (-1))]))
          refine own_via (fun k => XS.icmpNo X3.here hx rfl (hb hby d4_118) rfl (by decide) k) ?_
          show own_Go p e below s _ _ (T3.setTop (mkF m 121 #[rv a0, rv a1, iv p2, iv p3, iv v4, iv (v5 + (v7 - v9)), iv 0, iv v7, iv 1, iv v9, iv (-1)] []))
          refine own_via (fun k => XS.iload X3.here hx rfl (hb hby d4_121) rfl  (XS.bipush X3.here hx rfl (hb hby d4_123) k)) ?_
          show own_Go p e below s _ _ (T3.setTop (mkF m 125 #[rv a0, rv a1, iv p2, iv p3, iv v4, iv (v5 + (v7 - v9)), iv 0, iv v7, iv 1, iv v9, iv (-1)] [(.int 13), (.int (-1))]))
          refine own_via (fun k => XS.icmpYes X3.here hx rfl (pc0 := 125) (pc' := 151) rfl (hb hby d4_125) rfl (by decide) (by decide) (by decide) k) ?_
          show own_Go p e below s _ _ (T3.setTop (mkF m 151 #[rv a0, rv a1, iv p2, iv p3, iv v4, iv (v5 + (v7 - v9)), iv 0, iv v7, iv 1, iv v9, iv (-1)] []))
          refine own_via (fun k => XS.iload X3.here hx rfl (hb hby d4_151) rfl  k) ?_
          show own_Go p e below s _ _ (T3.setTop (mkF m 153 #[rv a0, rv a1, iv p2, iv p3, iv v4, iv (v5 + (v7 - v9)), iv 0, iv v7, iv 1, iv v9, iv (-1)] [(.int (-1))]))
          refine own_via (fun k => XS.ifYes X3.here hx rfl (pc0 := 153) (pc' := 162) rfl (hb hby d4_153) rfl (by decide) (by decide) (by decide) k) ?_
          show own_Go p e below s _ _ (T3.setTop (mkF m 162 #[rv a0, rv a1, iv p2, iv p3, iv v4, iv (v5 + (v7 - v9)), iv 0, iv v7, iv 1, iv v9, iv (-1)] []))
          refine own_via (fun k => XS.iload X3.here hx rfl (hb hby d4_162) rfl  k) ?_
          show own_Go p e below s _ _ (T3.setTop (mkF m 164 #[rv a0, rv a1, iv p2, iv p3, iv v4, iv (v5 + (v7 - v9)), iv 0, iv v7, iv 1, iv v9, iv (-1)] [(.int (-1))]))
          refine own_via (fun k => XS.ifYes X3.here hx rfl (pc0 := 164) (pc' := 171) rfl (hb hby d4_164) rfl (by decide) (by decide) (by decide) k) ?_
          show own_Go p e below s _ _ (T3.setTop (mkF m 171 #[rv a0, rv a1, iv p2, iv p3, iv v4, iv (v5 + (v7 - v9)), iv 0, iv v7, iv 1, iv v9, iv (-1)] []))
          refine own_via (fun k => XS.iconst X3.here hx rfl (hb hby d4_171) (XS.istore X3.here hx rfl (hb hby d4_172) rfl (l' := #[rv a0, rv a1, iv p2, iv p3, iv v4, iv (v5 + (v7 - v9)), iv 0, iv v7, iv 0, iv v9, iv (-1)]) rfl (XS.iload X3.here hx rfl (hb hby d4_174) rfl  k))) ?_
          show own_Go p e below s _ _ (T3.setTop (mkF m 176 #[rv a0, rv a1, iv p2, iv p3, iv v4, iv (v5 + (v7 - v9)), iv 0, iv v7, iv 0, iv v9, iv (-1)] [(.int 0)]))
          refine own_via (fun k => XS.ifYes X3.here hx rfl (pc0 := 176) (pc' := 182) rfl (hb hby d4_176) rfl (by decide) (by decide) (by decide) k) ?_
          show own_Go p e below s _ _ (T3.setTop (mkF m 182 #[rv a0, rv a1, iv p2, iv p3, iv v4, iv (v5 + (v7 - v9)), iv 0, iv v7, iv 0, iv v9, iv (-1)] []))
          refine own_via (fun k => XS.goto X3.here hx rfl (pc0 := 182) (pc' := 24) rfl (hb hby d4_182) (by decide) (by decide) k) ?_
          show own_Go p e below s _ _ (T3.setTop (mkF m 24 #[rv a0, rv a1, iv p2, iv p3, iv v4, iv (v5 + (v7 - v9)), iv 0, iv v7, iv 0, iv v9, iv (-1)] []))
          refine own_via (fun k => XS.iload X3.here hx rfl (hb hby d4_24) rfl  k) ?_
          show own_Go p e below s _ _ (T3.setTop (mkF m 26 #[rv a0, rv a1, iv p2, iv p3, iv v4, iv (v5 + (v7 - v9)), iv 0, iv v7, iv 0, iv v9, iv (-1)] [(.int 0)]))
          refine own_via (fun k => XS.ifYes X3.here hx rfl (pc0 := 26) (pc' := 185) rfl (hb hby d4_26) rfl (by decide) (by decide) (by decide) k) ?_
          show own_Go p e below s _ _ (T3.setTop (mkF m 185 #[rv a0, rv a1, iv p2, iv p3, iv v4, iv (v5 + (v7 - v9)), iv 0, iv v7, iv 0, iv v9, iv (-1)] []))
          exact T185 v4 (v5 + (v7 - v9)) (0 : Int32) v7 (0 : Int32) v9 (-1 : Int32) rfl ((own_rn_end hge).symm.trans ((own_st_yes hc62).symm.trans hW))
        · refine own_via (fun k => XS.icmpYes X3.here hx rfl (pc0 := 64) (pc' := 80) rfl (hb hby d4_64) rfl (flt hc62).2.2.2 (by decide) (by decide) k) ?_
          show own_Go p e below s _ _ (T3.setTop (mkF m 80 #[rv a0, rv a1, iv p2, iv p3, iv v4, iv v5, iv v6, iv v7, iv 1, iv v9, .unset] []))
          refine own_via (fun k => XS.iload X3.here hx rfl (hb hby d4_80) rfl  (XS.iloadN X3.here hx rfl (hb hby d4_82) rfl  k)) ?_
          show own_Go p e below s _ _ (T3.setTop (mkF m 83 #[rv a0, rv a1, iv p2, iv p3, iv v4, iv v5, iv v6, iv v7, iv 1, iv v9, .unset] [(.int p3), (.int v7)]))
          refine own_via (fun k => XS.icmpYes X3.here hx rfl (pc0 := 83) (pc' := 93) rfl (hb hby d4_83) rfl (flt hge).2.1 (by decide) (by decide) k) ?_
          show own_Go p e below s _ _ (T3.setTop (mkF m 93 #[rv a0, rv a1, iv p2, iv p3, iv v4, iv v5, iv v6, iv v7, iv 1, iv v9, .unset] []))
          refine own_via (fun k => XS.iconst X3.here hx rfl (hb hby d4_93) (XS.istore X3.here hx rfl (hb hby d4_94) rfl (l' := #[rv a0, rv a1, iv p2, iv p3, iv v4, iv v5, iv v6, iv v7, iv 1, iv v9, iv (-1)]) rfl (XS.iload X3.here hx rfl (hb hby d4_96) rfl  (XS.bipush X3.here hx rfl (hb hby d4_98) k)))) ?_
          show own_Go p e below s _ _ (T3.setTop (mkF m 100 #[rv a0, rv a1, iv p2, iv p3, iv v4, iv v5, iv v6, iv v7, iv 1, iv v9, iv (-1)] [(.int 10), (.int (-1))]))
          refine own_via (fun k => XS.icmpYes X3.here hx rfl (pc0 := 100) (pc' := 114) rfl (hb hby d4_100) rfl (by decide) (by decide) (by decide) k) ?_
          show own_Go p e below s _ _ (T3.setTop (mkF m 114 #[rv a0, rv a1, iv p2, iv p3, iv v4, iv v5, iv v6, iv v7, iv 1, iv v9, iv (-1)] []))
          refine own_via (fun k => XS.iload X3.here hx rfl (hb hby d4_114) rfl  (XS.bipush X3.here hx rfl (hb hby d4_116) k)) ?_
          show own_Go p e below s _ _ (T3.setTop (mkF m 118 #[rv a0, rv a1, iv p2, iv p3, iv v4, iv v5, iv v6, iv v7, iv 1, iv v9, iv (-1)] [(.int 10), (.int (-1))]))
          refine own_via (fun k => XS.icmpNo X3.here hx rfl (hb hby d4_118) rfl (by decide) k) ?_
          show own_Go p e below s _ _ (T3.setTop (mkF m 121 #[rv a0, rv a1, iv p2, iv p3, iv v4, iv v5, iv v6, iv v7, iv 1, iv v9, iv (-1)] []))
          refine own_via (fun k => XS.iload X3.here hx rfl (hb hby d4_121) rfl  (XS.bipush X3.here hx rfl (hb hby d4_123) k)) ?_
          show own_Go p e below s _ _ (T3.setTop (mkF m 125 #[rv a0, rv a1, iv p2, iv p3, iv v4, iv v5, iv v6, iv v7, iv 1, iv v9, iv (-1)] [(.int 13), (.int (-1))]))
          refine own_via (fun k => XS.icmpYes X3.here hx rfl (pc0 := 125) (pc' := 151) rfl (hb hby d4_125) rfl (by decide) (by decide) (by decide) k) ?_
          show own_Go p e below s _ _ (T3.setTop (mkF m 151 #[rv a0, rv a1, iv p2, iv p3, iv v4, iv v5, iv v6, iv v7, iv 1, iv v9, iv (-1)] []))
          refine own_via (fun k => XS.iload X3.here hx rfl (hb hby d4_151) rfl  k) ?_
          show own_Go p e below s _ _ (T3.setTop (mkF m 153 #[rv a0, rv a1, iv p2, iv p3, iv v4, iv v5, iv v6, iv v7, iv 1, iv v9, iv (-1)] [(.int (-1))]))
          refine own_via (fun k => XS.ifYes X3.here hx rfl (pc0 := 153) (pc' := 162) rfl (hb hby d4_153) rfl (by decide) (by decide) (by decide) k) ?_
          show own_Go p e below s _ _ (T3.setTop (mkF m 162 #[rv a0, rv a1, iv p2, iv p3, iv v4, iv v5, iv v6, iv v7, iv 1, iv v9, iv (-1)] []))
          refine own_via (fun k => XS.iload X3.here hx rfl (hb hby d4_162) rfl  k) ?_
          show own_Go p e below s _ _ (T3.setTop (mkF m 164 #[rv a0, rv a1, iv p2, iv p3, iv v4, iv v5, iv v6, iv v7, iv 1, iv v9, iv (-1)] [(.int (-1))]))
          refine own_via (fun k => XS.ifYes X3.here hx rfl (pc0 := 164) (pc' := 171) rfl (hb hby d4_164) rfl (by decide) (by decide) (by decide) k) ?_
          show own_Go p e below s _ _ (T3.setTop (mkF m 171 #[rv a0, rv a1, iv p2, iv p3, iv v4, iv v5, iv v6, iv v7, iv 1, iv v9, iv (-1)] []))
          refine own_via (fun k => XS.iconst X3.here hx rfl (hb hby d4_171) (XS.istore X3.here hx rfl (hb hby d4_172) rfl (l' := #[rv a0, rv a1, iv p2, iv p3, iv v4, iv v5, iv v6, iv v7, iv 0, iv v9, iv (-1)]) rfl (XS.iload X3.here hx rfl (hb hby d4_174) rfl  k))) ?_
          show own_Go p e below s _ _ (T3.setTop (mkF m 176 #[rv a0, rv a1, iv p2, iv p3, iv v4, iv v5, iv v6, iv v7, iv 0, iv v9, iv (-1)] [(.int 0)]))
          refine own_via (fun k => XS.ifYes X3.here hx rfl (pc0 := 176) (pc' := 182) rfl (hb hby d4_176) rfl (by decide) (by decide) (by decide) k) ?_
          show own_Go p e below s _ _ (T3.setTop (mkF m 182 #[rv a0, rv a1, iv p2, iv p3, iv v4, iv v5, iv v6, iv v7, iv 0, iv v9, iv (-1)] []))
          refine own_via (fun k => XS.goto X3.here hx rfl (pc0 := 182) (pc' := 24) rfl (hb hby d4_182) (by decide) (by decide) k) ?_
          show own_Go p e below s _ _ (T3.setTop (mkF m 24 #[rv a0, rv a1, iv p2, iv p3, iv v4, iv v5, iv v6, iv v7, iv 0, iv v9, iv (-1)] []))
          refine own_via (fun k => XS.iload X3.here hx rfl (hb hby d4_24) rfl  k) ?_
          show own_Go p e below s _ _ (T3.setTop (mkF m 26 #[rv a0, rv a1, iv p2, iv p3, iv v4, iv v5, iv v6, iv v7, iv 0, iv v9, iv (-1)] [(.int 0)]))
          refine own_via (fun k => XS.ifYes X3.here hx rfl (pc0 := 26) (pc' := 185) rfl (hb hby d4_26) rfl (by decide) (by decide) (by decide) k) ?_
          show own_Go p e below s _ _ (T3.setTop (mkF m 185 #[rv a0, rv a1, iv p2, iv p3, iv v4, iv v5, iv v6, iv v7, iv 0, iv v9, iv (-1)] []))
          exact T185 v4 v5 v6 v7 (0 : Int32) v9 (-1 : Int32) hbo ((own_rn_end hge).symm.trans ((own_st_no hrv hc62).symm.trans hW))
      exact ⟨IG, OG, IF⟩
    | succ n ih =>
      have IG : ∀ v4 : Int32, ∀ v5 : Int32, ∀ v6 : Int32, ∀ v7 : Int32, ∀ v9 : Int32, ∀ v10 : Int32, nar .boolean v6 = v6 → (p3.toInt - v7.toInt).toNat = (n + 1) → ¬ v7 < 0 → ¬ v7 < v9 → own_st g p3 v7 v9 v6 v4 v5 = (own_rn g p3 p2 (0 : Int32) (1 : Int32) (1 : Int32)) → own_Go p e below s (Q4 Z a0 a1 p2 p3 x11 k vs g h0 n0) (0, 0) (T3.setTop (mkF m 39 #[rv a0, rv a1, iv p2, iv p3, iv v4, iv v5, iv v6, iv v7, iv 1, iv v9, iv v10] [])) := by
        intro v4 v5 v6 v7 v9 v10 hbo hn h0v hrv hW
        refine own_via (fun k => XS.iload X3.here hx rfl (hb hby d4_39) rfl  (XS.iloadN X3.here hx rfl (hb hby d4_41) rfl  k)) ?_
        show own_Go p e below s _ _ (T3.setTop (mkF m 42 #[rv a0, rv a1, iv p2, iv p3, iv v4, iv v5, iv v6, iv v7, iv 1, iv v9, iv v10] [(.int p3), (.int v7)]))
        refine own_via (fun k => XS.icmpNo X3.here hx rfl (hb hby d4_42) rfl (tlt (own_fu1 hn)).2.1 k) ?_
        show own_Go p e below s _ _ (T3.setTop (mkF m 45 #[rv a0, rv a1, iv p2, iv p3, iv v4, iv v5, iv v6, iv v7, iv 1, iv v9, iv v10] []))
        refine own_via (fun k => XS.aloadN X3.here hx rfl (hb hby d4_45) rfl rfl  (XS.iload X3.here hx rfl (hb hby d4_46) rfl  k)) ?_
        show own_Go p e below s _ _ (T3.setTop (mkF m 48 #[rv a0, rv a1, iv p2, iv p3, iv v4, iv v5, iv v6, iv v7, iv 1, iv v9, iv v10] [(.int v7), (.ref a1)]))
        obtain ⟨cl63, Ar63, q63, S63, NN63, H63, G63⟩ := id P6
        have hin63 : ¬ (v7 < 0 ∨ cl63.slots.size ≤ (v7).toNatClampNeg) := inb_of S63 (own_inb (own_fu1 hn) h0v hp3)
        have hat63 : cl63.slots[(v7).toNatClampNeg]? = some (.int (g v7)) := H63.at hin63 (hg _ (own_inb (own_fu1 hn) h0v hp3))
        refine own_via (fun k => X3.baloadBytes hx (j := v7) (v := (.int (g v7))) (by rw [e3]; exact Ar63.1) (State.isArrayOf_alike hZ.alike Ar63.2.1) Ar63.2.2 hin63 hat63 (g := (mkF m 48 #[rv a0, rv a1, iv p2, iv p3, iv v4, iv v5, iv v6, iv v7, iv 1, iv v9, iv v10] [(.int v7), (.ref a1)])) rfl rfl (hb hby d4_48) _ k) ?_
        show own_Go p e below s _ _ (T3.setTop (mkF m 49 #[rv a0, rv a1, iv p2, iv p3, iv v4, iv v5, iv v6, iv v7, iv 1, iv v9, iv v10] [(.int (g v7))]))
        refine own_via (fun k => XS.bipush X3.here hx rfl (hb hby d4_49) k) ?_
        show own_Go p e below s _ _ (T3.setTop (mkF m 51 #[rv a0, rv a1, iv p2, iv p3, iv v4, iv v5, iv v6, iv v7, iv 1, iv v9, iv v10] [(.int 13), (.int (g v7))]))
        by_cases hc64 : (13 : Int32) < (g v7)
        · refine own_via (fun k => XS.icmpNo X3.here hx rfl (hb hby d4_51) rfl (tlt hc64).2.2.2 k) ?_
          show own_Go p e below s _ _ (T3.setTop (mkF m 54 #[rv a0, rv a1, iv p2, iv p3, iv v4, iv v5, iv v6, iv v7, iv 1, iv v9, iv v10] []))
          refine own_via (fun k => XS.iinc X3.here hx rfl (hb hby d4_54) rfl (l' := #[rv a0, rv a1, iv p2, iv p3, iv v4, iv v5, iv v6, iv (v7 + (1 : Int32)), iv 1, iv v9, iv v10]) rfl (XS.goto X3.here hx rfl (pc0 := 57) (pc' := 39) rfl (hb hby d4_57) (by decide) (by decide) k)) ?_
          show own_Go p e below s _ _ (T3.setTop (mkF m 39 #[rv a0, rv a1, iv p2, iv p3, iv v4, iv v5, iv v6, iv (v7 + (1 : Int32)), iv 1, iv v9, iv v10] []))
          exact ih.1 v4 v5 v6 (v7 + (1 : Int32)) v9 v10 hbo (own_fun hn) (own_nn (own_fu1 hn) h0v) (own_rr (own_fu1 hn) hrv) ((own_st_gt (own_fu1 hn) hrv hc64).trans hW)
        · refine own_via (fun k => XS.icmpYes X3.here hx rfl (pc0 := 51) (pc' := 60) rfl (hb hby d4_51) rfl (flt hc64).2.2.2 (by decide) (by decide) k) ?_
          show own_Go p e below s _ _ (T3.setTop (mkF m 60 #[rv a0, rv a1, iv p2, iv p3, iv v4, iv v5, iv v6, iv v7, iv 1, iv v9, iv v10] []))
          refine own_via (fun k => XS.iload X3.here hx rfl (hb hby d4_60) rfl  (XS.iload X3.here hx rfl (hb hby d4_62) rfl  k)) ?_
          show own_Go p e below s _ _ (T3.setTop (mkF m 64 #[rv a0, rv a1, iv p2, iv p3, iv v4, iv v5, iv v6, iv v7, iv 1, iv v9, iv v10] [(.int v9), (.int v7)]))
          by_cases hc65 : v9 < v7
          · refine own_via (fun k => XS.icmpNo X3.here hx rfl (hb hby d4_64) rfl (tlt hc65).2.2.2 k) ?_
            show own_Go p e below s _ _ (T3.setTop (mkF m 67 #[rv a0, rv a1, iv p2, iv p3, iv v4, iv v5, iv v6, iv v7, iv 1, iv v9, iv v10] []))
            refine own_via (fun k => XS.iload X3.here hx rfl (hb hby d4_67) rfl  (XS.iload X3.here hx rfl (hb hby d4_69) rfl  (XS.iload X3.here hx rfl (hb hby d4_71) rfl  (XS.isub X3.here hx rfl (hb hby d4_73) rfl k)))) ?_
            show own_Go p e below s _ _ (T3.setTop (mkF m 74 #[rv a0, rv a1, iv p2, iv p3, iv v4, iv v5, iv v6, iv v7, iv 1, iv v9, iv v10] [(.int (v7 - v9)), (.int v5)]))
            refine own_via (fun k => XS.iadd X3.here hx rfl (hb hby d4_74) rfl (XS.istore X3.here hx rfl (hb hby d4_75) rfl (l' := #[rv a0, rv a1, iv p2, iv p3, iv v4, iv (v5 + (v7 - v9)), iv v6, iv v7, iv 1, iv v9, iv v10]) rfl (XS.iconst X3.here hx rfl (hb hby d4_77) (XS.istore X3.here hx rfl (hb hby d4_78) rfl (l' := #[rv a0, rv a1, iv p2, iv p3, iv v4, iv (v5 + (v7 - v9)), iv 0, iv v7, iv 1, iv v9, iv v10]) rfl k)))) ?_
            show own_Go p e below s _ _ (T3.setTop (mkF m 80 #[rv a0, rv a1, iv p2, iv p3, iv v4, iv (v5 + (v7 - v9)), iv 0, iv v7, iv 1, iv v9, iv v10] []))
            refine own_via (fun k => XS.iload X3.here hx rfl (hb hby d4_80) rfl  (XS.iloadN X3.here hx rfl (hb hby d4_82) rfl  k)) ?_
            show own_Go p e below s _ _ (T3.setTop (mkF m 83 #[rv a0, rv a1, iv p2, iv p3, iv v4, iv (v5 + (v7 - v9)), iv 0, iv v7, iv 1, iv v9, iv v10] [(.int p3), (.int v7)]))
            refine own_via (fun k => XS.icmpNo X3.here hx rfl (hb hby d4_83) rfl (tlt (own_fu1 hn)).2.1 k) ?_
            show own_Go p e below s _ _ (T3.setTop (mkF m 86 #[rv a0, rv a1, iv p2, iv p3, iv v4, iv (v5 + (v7 - v9)), iv 0, iv v7, iv 1, iv v9, iv v10] []))
            refine own_via (fun k => XS.aloadN X3.here hx rfl (hb hby d4_86) rfl rfl  (XS.iload X3.here hx rfl (hb hby d4_87) rfl  k)) ?_
            show own_Go p e below s _ _ (T3.setTop (mkF m 89 #[rv a0, rv a1, iv p2, iv p3, iv v4, iv (v5 + (v7 - v9)), iv 0, iv v7, iv 1, iv v9, iv v10] [(.int v7), (.ref a1)]))
            obtain ⟨cl66, Ar66, q66, S66, NN66, H66, G66⟩ := id P6
            have hin66 : ¬ (v7 < 0 ∨ cl66.slots.size ≤ (v7).toNatClampNeg) := inb_of S66 (own_inb (own_fu1 hn) h0v hp3)
            have hat66 : cl66.slots[(v7).toNatClampNeg]? = some (.int (g v7)) := H66.at hin66 (hg _ (own_inb (own_fu1 hn) h0v hp3))
            refine own_via (fun k => X3.baloadBytes hx (j := v7) (v := (.int (g v7))) (by rw [e3]; exact Ar66.1) (State.isArrayOf_alike hZ.alike Ar66.2.1) Ar66.2.2 hin66 hat66 (g := (mkF m 89 #[rv a0, rv a1, iv p2, iv p3, iv v4, iv (v5 + (v7 - v9)), iv 0, iv v7, iv 1, iv v9, iv v10] [(.int v7), (.ref a1)])) rfl rfl (hb hby d4_89) _ k) ?_
            show own_Go p e below s _ _ (T3.setTop (mkF m 90 #[rv a0, rv a1, iv p2, iv p3, iv v4, iv (v5 + (v7 - v9)), iv 0, iv v7, iv 1, iv v9, iv v10] [(.int (g v7))]))
            refine own_via (fun k => XS.goto X3.here hx rfl (pc0 := 90) (pc' := 94) rfl (hb hby d4_90) (by decide) (by decide) (XS.istore X3.here hx rfl (hb hby d4_94) rfl (l' := #[rv a0, rv a1, iv p2, iv p3, iv v4, iv (v5 + (v7 - v9)), iv 0, iv v7, iv 1, iv v9, iv (g v7)]) rfl (XS.iload X3.here hx rfl (hb hby d4_96) rfl  (XS.bipush X3.here hx rfl (hb hby d4_98) k)))) ?_
            show own_Go p e below s _ _ (T3.setTop (mkF m 100 #[rv a0, rv a1, iv p2, iv p3, iv v4, iv (v5 + (v7 - v9)), iv 0, iv v7, iv 1, iv v9, iv (g v7)] [(.int 10), (.int (g v7))]))
            by_cases hc67 : (g v7) = (10 : Int32)
            · refine own_via (fun k => XS.icmpNo X3.here hx rfl (hb hby d4_100) rfl (teq hc67).2 k) ?_
              show own_Go p e below s _ _ (T3.setTop (mkF m 103 #[rv a0, rv a1, iv p2, iv p3, iv v4, iv (v5 + (v7 - v9)), iv 0, iv v7, iv 1, iv v9, iv (g v7)] []))
              refine own_via (fun k => XS.iload X3.here hx rfl (hb hby d4_103) rfl  k) ?_
              show own_Go p e below s _ _ (T3.setTop (mkF m 105 #[rv a0, rv a1, iv p2, iv p3, iv v4, iv (v5 + (v7 - v9)), iv 0, iv v7, iv 1, iv v9, iv (g v7)] [(.int 0)]))
              refine own_via (fun k => XS.ifYes X3.here hx rfl (pc0 := 105) (pc' := 114) rfl (hb hby d4_105) rfl (by decide) (by decide) (by decide) k) ?_
              show own_Go p e below s _ _ (T3.setTop (mkF m 114 #[rv a0, rv a1, iv p2, iv p3, iv v4, iv (v5 + (v7 - v9)), iv 0, iv v7, iv 1, iv v9, iv (g v7)] []))
              refine own_via (fun k => XS.iload X3.here hx rfl (hb hby d4_114) rfl  (XS.bipush X3.here hx rfl (hb hby d4_116) k)) ?_
              show own_Go p e below s _ _ (T3.setTop (mkF m 118 #[rv a0, rv a1, iv p2, iv p3, iv v4, iv (v5 + (v7 - v9)), iv 0, iv v7, iv 1, iv v9, iv (g v7)] [(.int 10), (.int (g v7))]))
              refine own_via (fun k => XS.icmpYes X3.here hx rfl (pc0 := 118) (pc' := 128) rfl (hb hby d4_118) rfl (teq hc67).1 (by decide) (by decide) k) ?_
              show own_Go p e below s _ _ (T3.setTop (mkF m 128 #[rv a0, rv a1, iv p2, iv p3, iv v4, iv (v5 + (v7 - v9)), iv 0, iv v7, iv 1, iv v9, iv (g v7)] []))
              refine own_via (fun k => XS.iinc X3.here hx rfl (hb hby d4_128) rfl (l' := #[rv a0, rv a1, iv p2, iv p3, iv (v4 + (1 : Int32)), iv (v5 + (v7 - v9)), iv 0, iv v7, iv 1, iv v9, iv (g v7)]) rfl (XS.iconst X3.here hx rfl (hb hby d4_131) (XS.istore X3.here hx rfl (hb hby d4_132) rfl (l' := #[rv a0, rv a1, iv p2, iv p3, iv (v4 + (1 : Int32)), iv 1, iv 0, iv v7, iv 1, iv v9, iv (g v7)]) rfl (XS.iload X3.here hx rfl (hb hby d4_134) rfl  k)))) ?_
              show own_Go p e below s _ _ (T3.setTop (mkF m 136 #[rv a0, rv a1, iv p2, iv p3, iv (v4 + (1 : Int32)), iv 1, iv 0, iv v7, iv 1, iv v9, iv (g v7)] [(.int (g v7))]))
              refine own_via (fun k => XS.bipush X3.here hx rfl (hb hby d4_136) k) ?_
              show own_Go p e below s _ _ (T3.setTop (mkF m 138 #[rv a0, rv a1, iv p2, iv p3, iv (v4 + (1 : Int32)), iv 1, iv 0, iv v7, iv 1, iv v9, iv (g v7)] [(.int 13), (.int (g v7))]))
              refine own_via (fun k => XS.icmpYes X3.here hx rfl (pc0 := 138) (pc' := 145) rfl (hb hby d4_138) rfl (feq (own_x10 hc67)).2 (by decide) (by decide) k) ?_
              show own_Go p e below s _ _ (T3.setTop (mkF m 145 #[rv a0, rv a1, iv p2, iv p3, iv (v4 + (1 : Int32)), iv 1, iv 0, iv v7, iv 1, iv v9, iv (g v7)] []))
              refine own_via (fun k => XS.iconst X3.here hx rfl (hb hby d4_145) (XS.istore X3.here hx rfl (hb hby d4_146) rfl (l' := #[rv a0, rv a1, iv p2, iv p3, iv (v4 + (1 : Int32)), iv 1, iv 0, iv v7, iv 1, iv v9, iv (g v7)]) rfl (XS.goto X3.here hx rfl (pc0 := 148) (pc' := 162) rfl (hb hby d4_148) (by decide) (by decide) k))) ?_
              show own_Go p e below s _ _ (T3.setTop (mkF m 162 #[rv a0, rv a1, iv p2, iv p3, iv (v4 + (1 : Int32)), iv 1, iv 0, iv v7, iv 1, iv v9, iv (g v7)] []))
              refine own_via (fun k => XS.iload X3.here hx rfl (hb hby d4_162) rfl  k) ?_
              show own_Go p e below s _ _ (T3.setTop (mkF m 164 #[rv a0, rv a1, iv p2, iv p3, iv (v4 + (1 : Int32)), iv 1, iv 0, iv v7, iv 1, iv v9, iv (g v7)] [(.int (g v7))]))
              refine own_via (fun k => XS.ifNo X3.here hx rfl (hb hby d4_164) rfl ((if0 _ _).trans (flt (own_n10 hc67)).1) k) ?_
              show own_Go p e below s _ _ (T3.setTop (mkF m 167 #[rv a0, rv a1, iv p2, iv p3, iv (v4 + (1 : Int32)), iv 1, iv 0, iv v7, iv 1, iv v9, iv (g v7)] []))
              refine own_via (fun k => XS.iconst X3.here hx rfl (hb hby d4_167) (XS.goto X3.here hx rfl (pc0 := 168) (pc' := 172) rfl (hb hby d4_168) (by decide) (by decide) (XS.istore X3.here hx rfl (hb hby d4_172) rfl (l' := #[rv a0, rv a1, iv p2, iv p3, iv (v4 + (1 : Int32)), iv 1, iv 0, iv v7, iv 1, iv v9, iv (g v7)]) rfl (XS.iload X3.here hx rfl (hb hby d4_174) rfl  k)))) ?_
              show own_Go p e below s _ _ (T3.setTop (mkF m 176 #[rv a0, rv a1, iv p2, iv p3, iv (v4 + (1 : Int32)), iv 1, iv 0, iv v7, iv 1, iv v9, iv (g v7)] [(.int 1)]))
              refine own_via (fun k => XS.ifNo X3.here hx rfl (hb hby d4_176) rfl (by decide) k) ?_
              show own_Go p e below s _ _ (T3.setTop (mkF m 179 #[rv a0, rv a1, iv p2, iv p3, iv (v4 + (1 : Int32)), iv 1, iv 0, iv v7, iv 1, iv v9, iv (g v7)] []))
              refine own_via (fun k => XS.iinc X3.here hx rfl (hb hby d4_179) rfl (l' := #[rv a0, rv a1, iv p2, iv p3, iv (v4 + (1 : Int32)), iv 1, iv 0, iv (v7 + (1 : Int32)), iv 1, iv v9, iv (g v7)]) rfl (XS.goto X3.here hx rfl (pc0 := 182) (pc' := 24) rfl (hb hby d4_182) (by decide) (by decide) k)) ?_
              show own_Go p e below s _ _ (T3.setTop (mkF m 24 #[rv a0, rv a1, iv p2, iv p3, iv (v4 + (1 : Int32)), iv 1, iv 0, iv (v7 + (1 : Int32)), iv 1, iv v9, iv (g v7)] []))
              exact ih.2.1 (v4 + (1 : Int32)) (1 : Int32) (0 : Int32) (v7 + (1 : Int32)) v9 (g v7) rfl (own_fun hn) (own_nn (own_fu1 hn) h0v) ((own_rn_nl0 (own_fu1 hn) hc67 rfl).symm.trans ((own_st_yes hc65).symm.trans hW))
            · refine own_via (fun k => XS.icmpYes X3.here hx rfl (pc0 := 100) (pc' := 114) rfl (hb hby d4_100) rfl (feq hc67).2 (by decide) (by decide) k) ?_
              show own_Go p e below s _ _ (T3.setTop (mkF m 114 #[rv a0, rv a1, iv p2, iv p3, iv v4, iv (v5 + (v7 - v9)), iv 0, iv v7, iv 1, iv v9, iv (g v7)] []))
              refine own_via (fun k => XS.iload X3.here hx rfl (hb hby d4_114) rfl  (XS.bipush X3.here hx rfl (hb hby d4_116) k)) ?_
              show own_Go p e below s _ _ (T3.setTop (mkF m 118 #[rv a0, rv a1, iv p2, iv p3, iv v4, iv (v5 + (v7 - v9)), iv 0, iv v7, iv 1, iv v9, iv (g v7)] [(.int 10), (.int (g v7))]))
              refine own_via (fun k => XS.icmpNo X3.here hx rfl (hb hby d4_118) rfl (feq hc67).1 k) ?_
              show own_Go p e below s _ _ (T3.setTop (mkF m 121 #[rv a0, rv a1, iv p2, iv p3, iv v4, iv (v5 + (v7 - v9)), iv 0, iv v7, iv 1, iv v9, iv (g v7)] []))
              refine own_via (fun k => XS.iload X3.here hx rfl (hb hby d4_121) rfl  (XS.bipush X3.here hx rfl (hb hby d4_123) k)) ?_
              show own_Go p e below s _ _ (T3.setTop (mkF m 125 #[rv a0, rv a1, iv p2, iv p3, iv v4, iv (v5 + (v7 - v9)), iv 0, iv v7, iv 1, iv v9, iv (g v7)] [(.int 13), (.int (g v7))]))
              by_cases hc68 : (g v7) = (13 : Int32)
              · refine own_via (fun k => XS.icmpNo X3.here hx rfl (hb hby d4_125) rfl (teq hc68).2 k) ?_
                show own_Go p e below s _ _ (T3.setTop (mkF m 128 #[rv a0, rv a1, iv p2, iv p3, iv v4, iv (v5 + (v7 - v9)), iv 0, iv v7, iv 1, iv v9, iv (g v7)] []))
                refine own_via (fun k => XS.iinc X3.here hx rfl (hb hby d4_128) rfl (l' := #[rv a0, rv a1, iv p2, iv p3, iv (v4 + (1 : Int32)), iv (v5 + (v7 - v9)), iv 0, iv v7, iv 1, iv v9, iv (g v7)]) rfl (XS.iconst X3.here hx rfl (hb hby d4_131) (XS.istore X3.here hx rfl (hb hby d4_132) rfl (l' := #[rv a0, rv a1, iv p2, iv p3, iv (v4 + (1 : Int32)), iv 1, iv 0, iv v7, iv 1, iv v9, iv (g v7)]) rfl (XS.iload X3.here hx rfl (hb hby d4_134) rfl  k)))) ?_
                show own_Go p e below s _ _ (T3.setTop (mkF m 136 #[rv a0, rv a1, iv p2, iv p3, iv (v4 + (1 : Int32)), iv 1, iv 0, iv v7, iv 1, iv v9, iv (g v7)] [(.int (g v7))]))
                refine own_via (fun k => XS.bipush X3.here hx rfl (hb hby d4_136) k) ?_
                show own_Go p e below s _ _ (T3.setTop (mkF m 138 #[rv a0, rv a1, iv p2, iv p3, iv (v4 + (1 : Int32)), iv 1, iv 0, iv v7, iv 1, iv v9, iv (g v7)] [(.int 13), (.int (g v7))]))
                refine own_via (fun k => XS.icmpNo X3.here hx rfl (hb hby d4_138) rfl (teq hc68).2 k) ?_
                show own_Go p e below s _ _ (T3.setTop (mkF m 141 #[rv a0, rv a1, iv p2, iv p3, iv (v4 + (1 : Int32)), iv 1, iv 0, iv v7, iv 1, iv v9, iv (g v7)] []))
                refine own_via (fun k => XS.iconst X3.here hx rfl (hb hby d4_141) (XS.goto X3.here hx rfl (pc0 := 142) (pc' := 146) rfl (hb hby d4_142) (by decide) (by decide) (XS.istore X3.here hx rfl (hb hby d4_146) rfl (l' := #[rv a0, rv a1, iv p2, iv p3, iv (v4 + (1 : Int32)), iv 1, iv 1, iv v7, iv 1, iv v9, iv (g v7)]) rfl (XS.goto X3.here hx rfl (pc0 := 148) (pc' := 162) rfl (hb hby d4_148) (by decide) (by decide) k)))) ?_
                show own_Go p e below s _ _ (T3.setTop (mkF m 162 #[rv a0, rv a1, iv p2, iv p3, iv (v4 + (1 : Int32)), iv 1, iv 1, iv v7, iv 1, iv v9, iv (g v7)] []))
                refine own_via (fun k => XS.iload X3.here hx rfl (hb hby d4_162) rfl  k) ?_
                show own_Go p e below s _ _ (T3.setTop (mkF m 164 #[rv a0, rv a1, iv p2, iv p3, iv (v4 + (1 : Int32)), iv 1, iv 1, iv v7, iv 1, iv v9, iv (g v7)] [(.int (g v7))]))
                refine own_via (fun k => XS.ifNo X3.here hx rfl (hb hby d4_164) rfl ((if0 _ _).trans (flt (own_n13 hc68)).1) k) ?_
                show own_Go p e below s _ _ (T3.setTop (mkF m 167 #[rv a0, rv a1, iv p2, iv p3, iv (v4 + (1 : Int32)), iv 1, iv 1, iv v7, iv 1, iv v9, iv (g v7)] []))
                refine own_via (fun k => XS.iconst X3.here hx rfl (hb hby d4_167) (XS.goto X3.here hx rfl (pc0 := 168) (pc' := 172) rfl (hb hby d4_168) (by decide) (by decide) (XS.istore X3.here hx rfl (hb hby d4_172) rfl (l' := #[rv a0, rv a1, iv p2, iv p3, iv (v4 + (1 : Int32)), iv 1, iv 1, iv v7, iv 1, iv v9, iv (g v7)]) rfl (XS.iload X3.here hx rfl (hb hby d4_174) rfl  k)))) ?_
                show own_Go p e below s _ _ (T3.setTop (mkF m 176 #[rv a0, rv a1, iv p2, iv p3, iv (v4 + (1 : Int32)), iv 1, iv 1, iv v7, iv 1, iv v9, iv (g v7)] [(.int 1)]))
                refine own_via (fun k => XS.ifNo X3.here hx rfl (hb hby d4_176) rfl (by decide) k) ?_
                show own_Go p e below s _ _ (T3.setTop (mkF m 179 #[rv a0, rv a1, iv p2, iv p3, iv (v4 + (1 : Int32)), iv 1, iv 1, iv v7, iv 1, iv v9, iv (g v7)] []))
                refine own_via (fun k => XS.iinc X3.here hx rfl (hb hby d4_179) rfl (l' := #[rv a0, rv a1, iv p2, iv p3, iv (v4 + (1 : Int32)), iv 1, iv 1, iv (v7 + (1 : Int32)), iv 1, iv v9, iv (g v7)]) rfl (XS.goto X3.here hx rfl (pc0 := 182) (pc' := 24) rfl (hb hby d4_182) (by decide) (by decide) k)) ?_
                show own_Go p e below s _ _ (T3.setTop (mkF m 24 #[rv a0, rv a1, iv p2, iv p3, iv (v4 + (1 : Int32)), iv 1, iv 1, iv (v7 + (1 : Int32)), iv 1, iv v9, iv (g v7)] []))
                exact ih.2.1 (v4 + (1 : Int32)) (1 : Int32) (1 : Int32) (v7 + (1 : Int32)) v9 (g v7) rfl (own_fun hn) (own_nn (own_fu1 hn) h0v) ((own_rn_cr (own_fu1 hn) hc68).symm.trans ((own_st_yes hc65).symm.trans hW))
              · refine own_via (fun k => XS.icmpYes X3.here hx rfl (pc0 := 125) (pc' := 151) rfl (hb hby d4_125) rfl (feq hc68).2 (by decide) (by decide) k) ?_
                show own_Go p e below s _ _ (T3.setTop (mkF m 151 #[rv a0, rv a1, iv p2, iv p3, iv v4, iv (v5 + (v7 - v9)), iv 0, iv v7, iv 1, iv v9, iv (g v7)] []))
                refine own_via (fun k => XS.iload X3.here hx rfl (hb hby d4_151) rfl  k) ?_
                show own_Go p e below s _ _ (T3.setTop (mkF m 153 #[rv a0, rv a1, iv p2, iv p3, iv v4, iv (v5 + (v7 - v9)), iv 0, iv v7, iv 1, iv v9, iv (g v7)] [(.int (g v7))]))
                by_cases hc69 : (g v7) < (0 : Int32)
                · refine own_via (fun k => XS.ifYes X3.here hx rfl (pc0 := 153) (pc' := 162) rfl (hb hby d4_153) rfl ((if0 _ _).trans (tlt hc69).1) (by decide) (by decide) k) ?_
                  show own_Go p e below s _ _ (T3.setTop (mkF m 162 #[rv a0, rv a1, iv p2, iv p3, iv v4, iv (v5 + (v7 - v9)), iv 0, iv v7, iv 1, iv v9, iv (g v7)] []))
                  refine own_via (fun k => XS.iload X3.here hx rfl (hb hby d4_162) rfl  k) ?_
                  show own_Go p e below s _ _ (T3.setTop (mkF m 164 #[rv a0, rv a1, iv p2, iv p3, iv v4, iv (v5 + (v7 - v9)), iv 0, iv v7, iv 1, iv v9, iv (g v7)] [(.int (g v7))]))
                  refine own_via (fun k => XS.ifYes X3.here hx rfl (pc0 := 164) (pc' := 171) rfl (hb hby d4_164) rfl ((if0 _ _).trans (tlt hc69).1) (by decide) (by decide) k) ?_
                  show own_Go p e below s _ _ (T3.setTop (mkF m 171 #[rv a0, rv a1, iv p2, iv p3, iv v4, iv (v5 + (v7 - v9)), iv 0, iv v7, iv 1, iv v9, iv (g v7)] []))
                  refine own_via (fun k => XS.iconst X3.here hx rfl (hb hby d4_171) (XS.istore X3.here hx rfl (hb hby d4_172) rfl (l' := #[rv a0, rv a1, iv p2, iv p3, iv v4, iv (v5 + (v7 - v9)), iv 0, iv v7, iv 0, iv v9, iv (g v7)]) rfl (XS.iload X3.here hx rfl (hb hby d4_174) rfl  k))) ?_
                  show own_Go p e below s _ _ (T3.setTop (mkF m 176 #[rv a0, rv a1, iv p2, iv p3, iv v4, iv (v5 + (v7 - v9)), iv 0, iv v7, iv 0, iv v9, iv (g v7)] [(.int 0)]))
                  refine own_via (fun k => XS.ifYes X3.here hx rfl (pc0 := 176) (pc' := 182) rfl (hb hby d4_176) rfl (by decide) (by decide) (by decide) k) ?_
                  show own_Go p e below s _ _ (T3.setTop (mkF m 182 #[rv a0, rv a1, iv p2, iv p3, iv v4, iv (v5 + (v7 - v9)), iv 0, iv v7, iv 0, iv v9, iv (g v7)] []))
                  refine own_via (fun k => XS.goto X3.here hx rfl (pc0 := 182) (pc' := 24) rfl (hb hby d4_182) (by decide) (by decide) k) ?_
                  show own_Go p e below s _ _ (T3.setTop (mkF m 24 #[rv a0, rv a1, iv p2, iv p3, iv v4, iv (v5 + (v7 - v9)), iv 0, iv v7, iv 0, iv v9, iv (g v7)] []))
                  refine own_via (fun k => XS.iload X3.here hx rfl (hb hby d4_24) rfl  k) ?_
                  show own_Go p e below s _ _ (T3.setTop (mkF m 26 #[rv a0, rv a1, iv p2, iv p3, iv v4, iv (v5 + (v7 - v9)), iv 0, iv v7, iv 0, iv v9, iv (g v7)] [(.int 0)]))
                  refine own_via (fun k => XS.ifYes X3.here hx rfl (pc0 := 26) (pc' := 185) rfl (hb hby d4_26) rfl (by decide) (by decide) (by decide) k) ?_
                  show own_Go p e below s _ _ (T3.setTop (mkF m 185 #[rv a0, rv a1, iv p2, iv p3, iv v4, iv (v5 + (v7 - v9)), iv 0, iv v7, iv 0, iv v9, iv (g v7)] []))
                  exact T185 v4 (v5 + (v7 - v9)) (0 : Int32) v7 (0 : Int32) v9 (g v7) rfl ((own_rn_neg (own_fu1 hn) hc69).symm.trans ((own_st_yes hc65).symm.trans hW))
                · refine own_via (fun k => XS.ifNo X3.here hx rfl (hb hby d4_153) rfl ((if0 _ _).trans (flt hc69).1) k) ?_
                  show own_Go p e below s _ _ (T3.setTop (mkF m 156 #[rv a0, rv a1, iv p2, iv p3, iv v4, iv (v5 + (v7 - v9)), iv 0, iv v7, iv 1, iv v9, iv (g v7)] []))
                  refine own_via (fun k => XS.iinc X3.here hx rfl (hb hby d4_156) rfl (l' := #[rv a0, rv a1, iv p2, iv p3, iv v4, iv ((v5 + (v7 - v9)) + (1 : Int32)), iv 0, iv v7, iv 1, iv v9, iv (g v7)]) rfl (XS.iconst X3.here hx rfl (hb hby d4_159) (XS.istore X3.here hx rfl (hb hby d4_160) rfl (l' := #[rv a0, rv a1, iv p2, iv p3, iv v4, iv ((v5 + (v7 - v9)) + (1 : Int32)), iv 0, iv v7, iv 1, iv v9, iv (g v7)]) rfl k))) ?_
                  show own_Go p e below s _ _ (T3.setTop (mkF m 162 #[rv a0, rv a1, iv p2, iv p3, iv v4, iv ((v5 + (v7 - v9)) + (1 : Int32)), iv 0, iv v7, iv 1, iv v9, iv (g v7)] []))
                  refine own_via (fun k => XS.iload X3.here hx rfl (hb hby d4_162) rfl  k) ?_
                  show own_Go p e below s _ _ (T3.setTop (mkF m 164 #[rv a0, rv a1, iv p2, iv p3, iv v4, iv ((v5 + (v7 - v9)) + (1 : Int32)), iv 0, iv v7, iv 1, iv v9, iv (g v7)] [(.int (g v7))]))
                  refine own_via (fun k => XS.ifNo X3.here hx rfl (hb hby d4_164) rfl ((if0 _ _).trans (flt hc69).1) k) ?_
                  show own_Go p e below s _ _ (T3.setTop (mkF m 167 #[rv a0, rv a1, iv p2, iv p3, iv v4, iv ((v5 + (v7 - v9)) + (1 : Int32)), iv 0, iv v7, iv 1, iv v9, iv (g v7)] []))
                  refine own_via (fun k => XS.iconst X3.here hx rfl (hb hby d4_167) (XS.goto X3.here hx rfl (pc0 := 168) (pc' := 172) rfl (hb hby d4_168) (by decide) (by decide) (XS.istore X3.here hx rfl (hb hby d4_172) rfl (l' := #[rv a0, rv a1, iv p2, iv p3, iv v4, iv ((v5 + (v7 - v9)) + (1 : Int32)), iv 0, iv v7, iv 1, iv v9, iv (g v7)]) rfl (XS.iload X3.here hx rfl (hb hby d4_174) rfl  k)))) ?_
                  show own_Go p e below s _ _ (T3.setTop (mkF m 176 #[rv a0, rv a1, iv p2, iv p3, iv v4, iv ((v5 + (v7 - v9)) + (1 : Int32)), iv 0, iv v7, iv 1, iv v9, iv (g v7)] [(.int 1)]))
                  refine own_via (fun k => XS.ifNo X3.here hx rfl (hb hby d4_176) rfl (by decide) k) ?_
                  show own_Go p e below s _ _ (T3.setTop (mkF m 179 #[rv a0, rv a1, iv p2, iv p3, iv v4, iv ((v5 + (v7 - v9)) + (1 : Int32)), iv 0, iv v7, iv 1, iv v9, iv (g v7)] []))
                  refine own_via (fun k => XS.iinc X3.here hx rfl (hb hby d4_179) rfl (l' := #[rv a0, rv a1, iv p2, iv p3, iv v4, iv ((v5 + (v7 - v9)) + (1 : Int32)), iv 0, iv (v7 + (1 : Int32)), iv 1, iv v9, iv (g v7)]) rfl (XS.goto X3.here hx rfl (pc0 := 182) (pc' := 24) rfl (hb hby d4_182) (by decide) (by decide) k)) ?_
                  show own_Go p e below s _ _ (T3.setTop (mkF m 24 #[rv a0, rv a1, iv p2, iv p3, iv v4, iv ((v5 + (v7 - v9)) + (1 : Int32)), iv 0, iv (v7 + (1 : Int32)), iv 1, iv v9, iv (g v7)] []))
                  exact ih.2.1 v4 ((v5 + (v7 - v9)) + (1 : Int32)) (0 : Int32) (v7 + (1 : Int32)) v9 (g v7) rfl (own_fun hn) (own_nn (own_fu1 hn) h0v) ((own_rn_ot (own_fu1 hn) hc69 hc67 hc68).symm.trans ((own_st_yes hc65).symm.trans hW))
          · refine own_via (fun k => XS.icmpYes X3.here hx rfl (pc0 := 64) (pc' := 80) rfl (hb hby d4_64) rfl (flt hc65).2.2.2 (by decide) (by decide) k) ?_
            show own_Go p e below s _ _ (T3.setTop (mkF m 80 #[rv a0, rv a1, iv p2, iv p3, iv v4, iv v5, iv v6, iv v7, iv 1, iv v9, iv v10] []))
            refine own_via (fun k => XS.iload X3.here hx rfl (hb hby d4_80) rfl  (XS.iloadN X3.here hx rfl (hb hby d4_82) rfl  k)) ?_
            show own_Go p e below s _ _ (T3.setTop (mkF m 83 #[rv a0, rv a1, iv p2, iv p3, iv v4, iv v5, iv v6, iv v7, iv 1, iv v9, iv v10] [(.int p3), (.int v7)]))
            refine own_via (fun k => XS.icmpNo X3.here hx rfl (hb hby d4_83) rfl (tlt (own_fu1 hn)).2.1 k) ?_
            show own_Go p e below s _ _ (T3.setTop (mkF m 86 #[rv a0, rv a1, iv p2, iv p3, iv v4, iv v5, iv v6, iv v7, iv 1, iv v9, iv v10] []))
            refine own_via (fun k => XS.aloadN X3.here hx rfl (hb hby d4_86) rfl rfl  (XS.iload X3.here hx rfl (hb hby d4_87) rfl  k)) ?_
            show own_Go p e below s _ _ (T3.setTop (mkF m 89 #[rv a0, rv a1, iv p2, iv p3, iv v4, iv v5, iv v6, iv v7, iv 1, iv v9, iv v10] [(.int v7), (.ref a1)]))
            obtain ⟨cl70, Ar70, q70, S70, NN70, H70, G70⟩ := id P6
            have hin70 : ¬ (v7 < 0 ∨ cl70.slots.size ≤ (v7).toNatClampNeg) := inb_of S70 (own_inb (own_fu1 hn) h0v hp3)
            have hat70 : cl70.slots[(v7).toNatClampNeg]? = some (.int (g v7)) := H70.at hin70 (hg _ (own_inb (own_fu1 hn) h0v hp3))
            refine own_via (fun k => X3.baloadBytes hx (j := v7) (v := (.int (g v7))) (by rw [e3]; exact Ar70.1) (State.isArrayOf_alike hZ.alike Ar70.2.1) Ar70.2.2 hin70 hat70 (g := (mkF m 89 #[rv a0, rv a1, iv p2, iv p3, iv v4, iv v5, iv v6, iv v7, iv 1, iv v9, iv v10] [(.int v7), (.ref a1)])) rfl rfl (hb hby d4_89) _ k) ?_
            show own_Go p e below s _ _ (T3.setTop (mkF m 90 #[rv a0, rv a1, iv p2, iv p3, iv v4, iv v5, iv v6, iv v7, iv 1, iv v9, iv v10] [(.int (g v7))]))
            refine own_via (fun k => XS.goto X3.here hx rfl (pc0 := 90) (pc' := 94) rfl (hb hby d4_90) (by decide) (by decide) (XS.istore X3.here hx rfl (hb hby d4_94) rfl (l' := #[rv a0, rv a1, iv p2, iv p3, iv v4, iv v5, iv v6, iv v7, iv 1, iv v9, iv (g v7)]) rfl (XS.iload X3.here hx rfl (hb hby d4_96) rfl  (XS.bipush X3.here hx rfl (hb hby d4_98) k)))) ?_
            show own_Go p e below s _ _ (T3.setTop (mkF m 100 #[rv a0, rv a1, iv p2, iv p3, iv v4, iv v5, iv v6, iv v7, iv 1, iv v9, iv (g v7)] [(.int 10), (.int (g v7))]))
            by_cases hc71 : (g v7) = (10 : Int32)
            · refine own_via (fun k => XS.icmpNo X3.here hx rfl (hb hby d4_100) rfl (teq hc71).2 k) ?_
              show own_Go p e below s _ _ (T3.setTop (mkF m 103 #[rv a0, rv a1, iv p2, iv p3, iv v4, iv v5, iv v6, iv v7, iv 1, iv v9, iv (g v7)] []))
              refine own_via (fun k => XS.iload X3.here hx rfl (hb hby d4_103) rfl  k) ?_
              show own_Go p e below s _ _ (T3.setTop (mkF m 105 #[rv a0, rv a1, iv p2, iv p3, iv v4, iv v5, iv v6, iv v7, iv 1, iv v9, iv (g v7)] [(.int v6)]))
              by_cases hc72 : v6 = (0 : Int32)
              · refine own_via (fun k => XS.ifYes X3.here hx rfl (pc0 := 105) (pc' := 114) rfl (hb hby d4_105) rfl ((if0 _ _).trans (teq hc72).1) (by decide) (by decide) k) ?_
                show own_Go p e below s _ _ (T3.setTop (mkF m 114 #[rv a0, rv a1, iv p2, iv p3, iv v4, iv v5, iv v6, iv v7, iv 1, iv v9, iv (g v7)] []))
                refine own_via (fun k => XS.iload X3.here hx rfl (hb hby d4_114) rfl  (XS.bipush X3.here hx rfl (hb hby d4_116) k)) ?_
                show own_Go p e below s _ _ (T3.setTop (mkF m 118 #[rv a0, rv a1, iv p2, iv p3, iv v4, iv v5, iv v6, iv v7, iv 1, iv v9, iv (g v7)] [(.int 10), (.int (g v7))]))
                refine own_via (fun k => XS.icmpYes X3.here hx rfl (pc0 := 118) (pc' := 128) rfl (hb hby d4_118) rfl (teq hc71).1 (by decide) (by decide) k) ?_
                show own_Go p e below s _ _ (T3.setTop (mkF m 128 #[rv a0, rv a1, iv p2, iv p3, iv v4, iv v5, iv v6, iv v7, iv 1, iv v9, iv (g v7)] []))
                refine own_via (fun k => XS.iinc X3.here hx rfl (hb hby d4_128) rfl (l' := #[rv a0, rv a1, iv p2, iv p3, iv (v4 + (1 : Int32)), iv v5, iv v6, iv v7, iv 1, iv v9, iv (g v7)]) rfl (XS.iconst X3.here hx rfl (hb hby d4_131) (XS.istore X3.here hx rfl (hb hby d4_132) rfl (l' := #[rv a0, rv a1, iv p2, iv p3, iv (v4 + (1 : Int32)), iv 1, iv v6, iv v7, iv 1, iv v9, iv (g v7)]) rfl (XS.iload X3.here hx rfl (hb hby d4_134) rfl  k)))) ?_
                show own_Go p e below s _ _ (T3.setTop (mkF m 136 #[rv a0, rv a1, iv p2, iv p3, iv (v4 + (1 : Int32)), iv 1, iv v6, iv v7, iv 1, iv v9, iv (g v7)] [(.int (g v7))]))
                refine own_via (fun k => XS.bipush X3.here hx rfl (hb hby d4_136) k) ?_
                show own_Go p e below s _ _ (T3.setTop (mkF m 138 #[rv a0, rv a1, iv p2, iv p3, iv (v4 + (1 : Int32)), iv 1, iv v6, iv v7, iv 1, iv v9, iv (g v7)] [(.int 13), (.int (g v7))]))
                refine own_via (fun k => XS.icmpYes X3.here hx rfl (pc0 := 138) (pc' := 145) rfl (hb hby d4_138) rfl (feq (own_x10 hc71)).2 (by decide) (by decide) k) ?_
                show own_Go p e below s _ _ (T3.setTop (mkF m 145 #[rv a0, rv a1, iv p2, iv p3, iv (v4 + (1 : Int32)), iv 1, iv v6, iv v7, iv 1, iv v9, iv (g v7)] []))
                refine own_via (fun k => XS.iconst X3.here hx rfl (hb hby d4_145) (XS.istore X3.here hx rfl (hb hby d4_146) rfl (l' := #[rv a0, rv a1, iv p2, iv p3, iv (v4 + (1 : Int32)), iv 1, iv 0, iv v7, iv 1, iv v9, iv (g v7)]) rfl (XS.goto X3.here hx rfl (pc0 := 148) (pc' := 162) rfl (hb hby d4_148) (by decide) (by decide) k))) ?_
                show own_Go p e below s _ _ (T3.setTop (mkF m 162 #[rv a0, rv a1, iv p2, iv p3, iv (v4 + (1 : Int32)), iv 1, iv 0, iv v7, iv 1, iv v9, iv (g v7)] []))
                refine own_via (fun k => XS.iload X3.here hx rfl (hb hby d4_162) rfl  k) ?_
                show own_Go p e below s _ _ (T3.setTop (mkF m 164 #[rv a0, rv a1, iv p2, iv p3, iv (v4 + (1 : Int32)), iv 1, iv 0, iv v7, iv 1, iv v9, iv (g v7)] [(.int (g v7))]))
                refine own_via (fun k => XS.ifNo X3.here hx rfl (hb hby d4_164) rfl ((if0 _ _).trans (flt (own_n10 hc71)).1) k) ?_
                show own_Go p e below s _ _ (T3.setTop (mkF m 167 #[rv a0, rv a1, iv p2, iv p3, iv (v4 + (1 : Int32)), iv 1, iv 0, iv v7, iv 1, iv v9, iv (g v7)] []))
                refine own_via (fun k => XS.iconst X3.here hx rfl (hb hby d4_167) (XS.goto X3.here hx rfl (pc0 := 168) (pc' := 172) rfl (hb hby d4_168) (by decide) (by decide) (XS.istore X3.here hx rfl (hb hby d4_172) rfl (l' := #[rv a0, rv a1, iv p2, iv p3, iv (v4 + (1 : Int32)), iv 1, iv 0, iv v7, iv 1, iv v9, iv (g v7)]) rfl (XS.iload X3.here hx rfl (hb hby d4_174) rfl  k)))) ?_
                show own_Go p e below s _ _ (T3.setTop (mkF m 176 #[rv a0, rv a1, iv p2, iv p3, iv (v4 + (1 : Int32)), iv 1, iv 0, iv v7, iv 1, iv v9, iv (g v7)] [(.int 1)]))
                refine own_via (fun k => XS.ifNo X3.here hx rfl (hb hby d4_176) rfl (by decide) k) ?_
                show own_Go p e below s _ _ (T3.setTop (mkF m 179 #[rv a0, rv a1, iv p2, iv p3, iv (v4 + (1 : Int32)), iv 1, iv 0, iv v7, iv 1, iv v9, iv (g v7)] []))
                refine own_via (fun k => XS.iinc X3.here hx rfl (hb hby d4_179) rfl (l' := #[rv a0, rv a1, iv p2, iv p3, iv (v4 + (1 : Int32)), iv 1, iv 0, iv (v7 + (1 : Int32)), iv 1, iv v9, iv (g v7)]) rfl (XS.goto X3.here hx rfl (pc0 := 182) (pc' := 24) rfl (hb hby d4_182) (by decide) (by decide) k)) ?_
                show own_Go p e below s _ _ (T3.setTop (mkF m 24 #[rv a0, rv a1, iv p2, iv p3, iv (v4 + (1 : Int32)), iv 1, iv 0, iv (v7 + (1 : Int32)), iv 1, iv v9, iv (g v7)] []))
                exact ih.2.1 (v4 + (1 : Int32)) (1 : Int32) (0 : Int32) (v7 + (1 : Int32)) v9 (g v7) rfl (own_fun hn) (own_nn (own_fu1 hn) h0v) ((own_rn_nl0 (own_fu1 hn) hc71 hc72).symm.trans ((own_st_no hrv hc65).symm.trans hW))
              · refine own_via (fun k => XS.ifNo X3.here hx rfl (hb hby d4_105) rfl ((if0 _ _).trans (feq hc72).1) k) ?_
                show own_Go p e below s _ _ (T3.setTop (mkF m 108 #[rv a0, rv a1, iv p2, iv p3, iv v4, iv v5, iv v6, iv v7, iv 1, iv v9, iv (g v7)] []))
                refine own_via (fun k => XS.iconst X3.here hx rfl (hb hby d4_108) (XS.istore X3.here hx rfl (hb hby d4_109) rfl (l' := #[rv a0, rv a1, iv p2, iv p3, iv v4, iv v5, iv 0, iv v7, iv 1, iv v9, iv (g v7)]) rfl (XS.goto X3.here hx rfl (pc0 := 111) (pc' := 162) rfl (hb hby d4_111) (by decide) (by decide) k))) ?_
                show own_Go p e below s _ _ (T3.setTop (mkF m 162 #[rv a0, rv a1, iv p2, iv p3, iv v4, iv v5, iv 0, iv v7, iv 1, iv v9, iv (g v7)] []))
                refine own_via (fun k => XS.iload X3.here hx rfl (hb hby d4_162) rfl  k) ?_
                show own_Go p e below s _ _ (T3.setTop (mkF m 164 #[rv a0, rv a1, iv p2, iv p3, iv v4, iv v5, iv 0, iv v7, iv 1, iv v9, iv (g v7)] [(.int (g v7))]))
                refine own_via (fun k => XS.ifNo X3.here hx rfl (hb hby d4_164) rfl ((if0 _ _).trans (flt (own_n10 hc71)).1) k) ?_
                show own_Go p e below s _ _ (T3.setTop (mkF m 167 #[rv a0, rv a1, iv p2, iv p3, iv v4, iv v5, iv 0, iv v7, iv 1, iv v9, iv (g v7)] []))
                refine own_via (fun k => XS.iconst X3.here hx rfl (hb hby d4_167) (XS.goto X3.here hx rfl (pc0 := 168) (pc' := 172) rfl (hb hby d4_168) (by decide) (by decide) (XS.istore X3.here hx rfl (hb hby d4_172) rfl (l' := #[rv a0, rv a1, iv p2, iv p3, iv v4, iv v5, iv 0, iv v7, iv 1, iv v9, iv (g v7)]) rfl (XS.iload X3.here hx rfl (hb hby d4_174) rfl  k)))) ?_
                show own_Go p e below s _ _ (T3.setTop (mkF m 176 #[rv a0, rv a1, iv p2, iv p3, iv v4, iv v5, iv 0, iv v7, iv 1, iv v9, iv (g v7)] [(.int 1)]))
                refine own_via (fun k => XS.ifNo X3.here hx rfl (hb hby d4_176) rfl (by decide) k) ?_
                show own_Go p e below s _ _ (T3.setTop (mkF m 179 #[rv a0, rv a1, iv p2, iv p3, iv v4, iv v5, iv 0, iv v7, iv 1, iv v9, iv (g v7)] []))
                refine own_via (fun k => XS.iinc X3.here hx rfl (hb hby d4_179) rfl (l' := #[rv a0, rv a1, iv p2, iv p3, iv v4, iv v5, iv 0, iv (v7 + (1 : Int32)), iv 1, iv v9, iv (g v7)]) rfl (XS.goto X3.here hx rfl (pc0 := 182) (pc' := 24) rfl (hb hby d4_182) (by decide) (by decide) k)) ?_
                show own_Go p e below s _ _ (T3.setTop (mkF m 24 #[rv a0, rv a1, iv p2, iv p3, iv v4, iv v5, iv 0, iv (v7 + (1 : Int32)), iv 1, iv v9, iv (g v7)] []))
                exact ih.2.1 v4 v5 (0 : Int32) (v7 + (1 : Int32)) v9 (g v7) rfl (own_fun hn) (own_nn (own_fu1 hn) h0v) ((own_rn_nl1 (own_fu1 hn) hc71 hc72).symm.trans ((own_st_no hrv hc65).symm.trans hW))
            · refine own_via (fun k => XS.icmpYes X3.here hx rfl (pc0 := 100) (pc' := 114) rfl (hb hby d4_100) rfl (feq hc71).2 (by decide) (by decide) k) ?_
              show own_Go p e below s _ _ (T3.setTop (mkF m 114 #[rv a0, rv a1, iv p2, iv p3, iv v4, iv v5, iv v6, iv v7, iv 1, iv v9, iv (g v7)] []))
              refine own_via (fun k => XS.iload X3.here hx rfl (hb hby d4_114) rfl  (XS.bipush X3.here hx rfl (hb hby d4_116) k)) ?_
              show own_Go p e below s _ _ (T3.setTop (mkF m 118 #[rv a0, rv a1, iv p2, iv p3, iv v4, iv v5, iv v6, iv v7, iv 1, iv v9, iv (g v7)] [(.int 10), (.int (g v7))]))
              refine own_via (fun k => XS.icmpNo X3.here hx rfl (hb hby d4_118) rfl (feq hc71).1 k) ?_
              show own_Go p e below s _ _ (T3.setTop (mkF m 121 #[rv a0, rv a1, iv p2, iv p3, iv v4, iv v5, iv v6, iv v7, iv 1, iv v9, iv (g v7)] []))
              refine own_via (fun k => XS.iload X3.here hx rfl (hb hby d4_121) rfl  (XS.bipush X3.here hx rfl (hb hby d4_123) k)) ?_
              show own_Go p e below s _ _ (T3.setTop (mkF m 125 #[rv a0, rv a1, iv p2, iv p3, iv v4, iv v5, iv v6, iv v7, iv 1, iv v9, iv (g v7)] [(.int 13), (.int (g v7))]))
              by_cases hc73 : (g v7) = (13 : Int32)
              · refine own_via (fun k => XS.icmpNo X3.here hx rfl (hb hby d4_125) rfl (teq hc73).2 k) ?_
                show own_Go p e below s _ _ (T3.setTop (mkF m 128 #[rv a0, rv a1, iv p2, iv p3, iv v4, iv v5, iv v6, iv v7, iv 1, iv v9, iv (g v7)] []))
                refine own_via (fun k => XS.iinc X3.here hx rfl (hb hby d4_128) rfl (l' := #[rv a0, rv a1, iv p2, iv p3, iv (v4 + (1 : Int32)), iv v5, iv v6, iv v7, iv 1, iv v9, iv (g v7)]) rfl (XS.iconst X3.here hx rfl (hb hby d4_131) (XS.istore X3.here hx rfl (hb hby d4_132) rfl (l' := #[rv a0, rv a1, iv p2, iv p3, iv (v4 + (1 : Int32)), iv 1, iv v6, iv v7, iv 1, iv v9, iv (g v7)]) rfl (XS.iload X3.here hx rfl (hb hby d4_134) rfl  k)))) ?_
                show own_Go p e below s _ _ (T3.setTop (mkF m 136 #[rv a0, rv a1, iv p2, iv p3, iv (v4 + (1 : Int32)), iv 1, iv v6, iv v7, iv 1, iv v9, iv (g v7)] [(.int (g v7))]))
                refine own_via (fun k => XS.bipush X3.here hx rfl (hb hby d4_136) k) ?_
                show own_Go p e below s _ _ (T3.setTop (mkF m 138 #[rv a0, rv a1, iv p2, iv p3, iv (v4 + (1 : Int32)), iv 1, iv v6, iv v7, iv 1, iv v9, iv (g v7)] [(.int 13), (.int (g v7))]))
                refine own_via (fun k => XS.icmpNo X3.here hx rfl (hb hby d4_138) rfl (teq hc73).2 k) ?_
                show own_Go p e below s _ _ (T3.setTop (mkF m 141 #[rv a0, rv a1, iv p2, iv p3, iv (v4 + (1 : Int32)), iv 1, iv v6, iv v7, iv 1, iv v9, iv (g v7)] []))
                refine own_via (fun k => XS.iconst X3.here hx rfl (hb hby d4_141) (XS.goto X3.here hx rfl (pc0 := 142) (pc' := 146) rfl (hb hby d4_142) (by decide) (by decide) (XS.istore X3.here hx rfl (hb hby d4_146) rfl (l' := #[rv a0, rv a1, iv p2, iv p3, iv (v4 + (1 : Int32)), iv 1, iv 1, iv v7, iv 1, iv v9, iv (g v7)]) rfl (XS.goto X3.here hx rfl (pc0 := 148) (pc' := 162) rfl (hb hby d4_148) (by decide) (by decide) k)))) ?_
                show own_Go p e below s _ _ (T3.setTop (mkF m 162 #[rv a0, rv a1, iv p2, iv p3, iv (v4 + (1 : Int32)), iv 1, iv 1, iv v7, iv 1, iv v9, iv (g v7)] []))
                refine own_via (fun k => XS.iload X3.here hx rfl (hb hby d4_162) rfl  k) ?_
                show own_Go p e below s _ _ (T3.setTop (mkF m 164 #[rv a0, rv a1, iv p2, iv p3, iv (v4 + (1 : Int32)), iv 1, iv 1, iv v7, iv 1, iv v9, iv (g v7)] [(.int (g v7))]))
                refine own_via (fun k => XS.ifNo X3.here hx rfl (hb hby d4_164) rfl ((if0 _ _).trans (flt (own_n13 hc73)).1) k) ?_
                show own_Go p e below s _ _ (T3.setTop (mkF m 167 #[rv a0, rv a1, iv p2, iv p3, iv (v4 + (1 : Int32)), iv 1, iv 1, iv v7, iv 1, iv v9, iv (g v7)] []))
                refine own_via (fun k => XS.iconst X3.here hx rfl (hb hby d4_167) (XS.goto X3.here hx rfl (pc0 := 168) (pc' := 172) rfl (hb hby d4_168) (by decide) (by decide) (XS.istore X3.here hx rfl (hb hby d4_172) rfl (l' := #[rv a0, rv a1, iv p2, iv p3, iv (v4 + (1 : Int32)), iv 1, iv 1, iv v7, iv 1, iv v9, iv (g v7)]) rfl (XS.iload X3.here hx rfl (hb hby d4_174) rfl  k)))) ?_
                show own_Go p e below s _ _ (T3.setTop (mkF m 176 #[rv a0, rv a1, iv p2, iv p3, iv (v4 + (1 : Int32)), iv 1, iv 1, iv v7, iv 1, iv v9, iv (g v7)] [(.int 1)]))
                refine own_via (fun k => XS.ifNo X3.here hx rfl (hb hby d4_176) rfl (by decide) k) ?_
                show own_Go p e below s _ _ (T3.setTop (mkF m 179 #[rv a0, rv a1, iv p2, iv p3, iv (v4 + (1 : Int32)), iv 1, iv 1, iv v7, iv 1, iv v9, iv (g v7)] []))
                refine own_via (fun k => XS.iinc X3.here hx rfl (hb hby d4_179) rfl (l' := #[rv a0, rv a1, iv p2, iv p3, iv (v4 + (1 : Int32)), iv 1, iv 1, iv (v7 + (1 : Int32)), iv 1, iv v9, iv (g v7)]) rfl (XS.goto X3.here hx rfl (pc0 := 182) (pc' := 24) rfl (hb hby d4_182) (by decide) (by decide) k)) ?_
                show own_Go p e below s _ _ (T3.setTop (mkF m 24 #[rv a0, rv a1, iv p2, iv p3, iv (v4 + (1 : Int32)), iv 1, iv 1, iv (v7 + (1 : Int32)), iv 1, iv v9, iv (g v7)] []))
                exact ih.2.1 (v4 + (1 : Int32)) (1 : Int32) (1 : Int32) (v7 + (1 : Int32)) v9 (g v7) rfl (own_fun hn) (own_nn (own_fu1 hn) h0v) ((own_rn_cr (own_fu1 hn) hc73).symm.trans ((own_st_no hrv hc65).symm.trans hW))
              · refine own_via (fun k => XS.icmpYes X3.here hx rfl (pc0 := 125) (pc' := 151) rfl (hb hby d4_125) rfl (feq hc73).2 (by decide) (by decide) k) ?_
                show own_Go p e below s _ _ (T3.setTop (mkF m 151 #[rv a0, rv a1, iv p2, iv p3, iv v4, iv v5, iv v6, iv v7, iv 1, iv v9, iv (g v7)] []))
                refine own_via (fun k => XS.iload X3.here hx rfl (hb hby d4_151) rfl  k) ?_
                show own_Go p e below s _ _ (T3.setTop (mkF m 153 #[rv a0, rv a1, iv p2, iv p3, iv v4, iv v5, iv v6, iv v7, iv 1, iv v9, iv (g v7)] [(.int (g v7))]))
                by_cases hc74 : (g v7) < (0 : Int32)
                · refine own_via (fun k => XS.ifYes X3.here hx rfl (pc0 := 153) (pc' := 162) rfl (hb hby d4_153) rfl ((if0 _ _).trans (tlt hc74).1) (by decide) (by decide) k) ?_
                  show own_Go p e below s _ _ (T3.setTop (mkF m 162 #[rv a0, rv a1, iv p2, iv p3, iv v4, iv v5, iv v6, iv v7, iv 1, iv v9, iv (g v7)] []))
                  refine own_via (fun k => XS.iload X3.here hx rfl (hb hby d4_162) rfl  k) ?_
                  show own_Go p e below s _ _ (T3.setTop (mkF m 164 #[rv a0, rv a1, iv p2, iv p3, iv v4, iv v5, iv v6, iv v7, iv 1, iv v9, iv (g v7)] [(.int (g v7))]))
                  refine own_via (fun k => XS.ifYes X3.here hx rfl (pc0 := 164) (pc' := 171) rfl (hb hby d4_164) rfl ((if0 _ _).trans (tlt hc74).1) (by decide) (by decide) k) ?_
                  show own_Go p e below s _ _ (T3.setTop (mkF m 171 #[rv a0, rv a1, iv p2, iv p3, iv v4, iv v5, iv v6, iv v7, iv 1, iv v9, iv (g v7)] []))
                  refine own_via (fun k => XS.iconst X3.here hx rfl (hb hby d4_171) (XS.istore X3.here hx rfl (hb hby d4_172) rfl (l' := #[rv a0, rv a1, iv p2, iv p3, iv v4, iv v5, iv v6, iv v7, iv 0, iv v9, iv (g v7)]) rfl (XS.iload X3.here hx rfl (hb hby d4_174) rfl  k))) ?_
                  show own_Go p e below s _ _ (T3.setTop (mkF m 176 #[rv a0, rv a1, iv p2, iv p3, iv v4, iv v5, iv v6, iv v7, iv 0, iv v9, iv (g v7)] [(.int 0)]))
                  refine own_via (fun k => XS.ifYes X3.here hx rfl (pc0 := 176) (pc' := 182) rfl (hb hby d4_176) rfl (by decide) (by decide) (by decide) k) ?_
                  show own_Go p e below s _ _ (T3.setTop (mkF m 182 #[rv a0, rv a1, iv p2, iv p3, iv v4, iv v5, iv v6, iv v7, iv 0, iv v9, iv (g v7)] []))
                  refine own_via (fun k => XS.goto X3.here hx rfl (pc0 := 182) (pc' := 24) rfl (hb hby d4_182) (by decide) (by decide) k) ?_
                  show own_Go p e below s _ _ (T3.setTop (mkF m 24 #[rv a0, rv a1, iv p2, iv p3, iv v4, iv v5, iv v6, iv v7, iv 0, iv v9, iv (g v7)] []))
                  refine own_via (fun k => XS.iload X3.here hx rfl (hb hby d4_24) rfl  k) ?_
                  show own_Go p e below s _ _ (T3.setTop (mkF m 26 #[rv a0, rv a1, iv p2, iv p3, iv v4, iv v5, iv v6, iv v7, iv 0, iv v9, iv (g v7)] [(.int 0)]))
                  refine own_via (fun k => XS.ifYes X3.here hx rfl (pc0 := 26) (pc' := 185) rfl (hb hby d4_26) rfl (by decide) (by decide) (by decide) k) ?_
                  show own_Go p e below s _ _ (T3.setTop (mkF m 185 #[rv a0, rv a1, iv p2, iv p3, iv v4, iv v5, iv v6, iv v7, iv 0, iv v9, iv (g v7)] []))
                  exact T185 v4 v5 v6 v7 (0 : Int32) v9 (g v7) hbo ((own_rn_neg (own_fu1 hn) hc74).symm.trans ((own_st_no hrv hc65).symm.trans hW))
                · refine own_via (fun k => XS.ifNo X3.here hx rfl (hb hby d4_153) rfl ((if0 _ _).trans (flt hc74).1) k) ?_
                  show own_Go p e below s _ _ (T3.setTop (mkF m 156 #[rv a0, rv a1, iv p2, iv p3, iv v4, iv v5, iv v6, iv v7, iv 1, iv v9, iv (g v7)] []))
                  refine own_via (fun k => XS.iinc X3.here hx rfl (hb hby d4_156) rfl (l' := #[rv a0, rv a1, iv p2, iv p3, iv v4, iv (v5 + (1 : Int32)), iv v6, iv v7, iv 1, iv v9, iv (g v7)]) rfl (XS.iconst X3.here hx rfl (hb hby d4_159) (XS.istore X3.here hx rfl (hb hby d4_160) rfl (l' := #[rv a0, rv a1, iv p2, iv p3, iv v4, iv (v5 + (1 : Int32)), iv 0, iv v7, iv 1, iv v9, iv (g v7)]) rfl k))) ?_
                  show own_Go p e below s _ _ (T3.setTop (mkF m 162 #[rv a0, rv a1, iv p2, iv p3, iv v4, iv (v5 + (1 : Int32)), iv 0, iv v7, iv 1, iv v9, iv (g v7)] []))
                  refine own_via (fun k => XS.iload X3.here hx rfl (hb hby d4_162) rfl  k) ?_
                  show own_Go p e below s _ _ (T3.setTop (mkF m 164 #[rv a0, rv a1, iv p2, iv p3, iv v4, iv (v5 + (1 : Int32)), iv 0, iv v7, iv 1, iv v9, iv (g v7)] [(.int (g v7))]))
                  refine own_via (fun k => XS.ifNo X3.here hx rfl (hb hby d4_164) rfl ((if0 _ _).trans (flt hc74).1) k) ?_
                  show own_Go p e below s _ _ (T3.setTop (mkF m 167 #[rv a0, rv a1, iv p2, iv p3, iv v4, iv (v5 + (1 : Int32)), iv 0, iv v7, iv 1, iv v9, iv (g v7)] []))
                  refine own_via (fun k => XS.iconst X3.here hx rfl (hb hby d4_167) (XS.goto X3.here hx rfl (pc0 := 168) (pc' := 172) rfl (hb hby d4_168) (by decide) (by decide) (XS.istore X3.here hx rfl (hb hby d4_172) rfl (l' := #[rv a0, rv a1, iv p2, iv p3, iv v4, iv (v5 + (1 : Int32)), iv 0, iv v7, iv 1, iv v9, iv (g v7)]) rfl (XS.iload X3.here hx rfl (hb hby d4_174) rfl  k)))) ?_
                  show own_Go p e below s _ _ (T3.setTop (mkF m 176 #[rv a0, rv a1, iv p2, iv p3, iv v4, iv (v5 + (1 : Int32)), iv 0, iv v7, iv 1, iv v9, iv (g v7)] [(.int 1)]))
                  refine own_via (fun k => XS.ifNo X3.here hx rfl (hb hby d4_176) rfl (by decide) k) ?_
                  show own_Go p e below s _ _ (T3.setTop (mkF m 179 #[rv a0, rv a1, iv p2, iv p3, iv v4, iv (v5 + (1 : Int32)), iv 0, iv v7, iv 1, iv v9, iv (g v7)] []))
                  refine own_via (fun k => XS.iinc X3.here hx rfl (hb hby d4_179) rfl (l' := #[rv a0, rv a1, iv p2, iv p3, iv v4, iv (v5 + (1 : Int32)), iv 0, iv (v7 + (1 : Int32)), iv 1, iv v9, iv (g v7)]) rfl (XS.goto X3.here hx rfl (pc0 := 182) (pc' := 24) rfl (hb hby d4_182) (by decide) (by decide) k)) ?_
                  show own_Go p e below s _ _ (T3.setTop (mkF m 24 #[rv a0, rv a1, iv p2, iv p3, iv v4, iv (v5 + (1 : Int32)), iv 0, iv (v7 + (1 : Int32)), iv 1, iv v9, iv (g v7)] []))
                  exact ih.2.1 v4 (v5 + (1 : Int32)) (0 : Int32) (v7 + (1 : Int32)) v9 (g v7) rfl (own_fun hn) (own_nn (own_fu1 hn) h0v) ((own_rn_ot (own_fu1 hn) hc74 hc71 hc73).symm.trans ((own_st_no hrv hc65).symm.trans hW))
      have OG : ∀ v4 : Int32, ∀ v5 : Int32, ∀ v6 : Int32, ∀ v7 : Int32, ∀ v9 : Int32, ∀ v10 : Int32, nar .boolean v6 = v6 → (p3.toInt - v7.toInt).toNat = (n + 1) → ¬ v7 < 0 → own_rn g p3 v7 v6 v4 v5 = (own_rn g p3 p2 (0 : Int32) (1 : Int32) (1 : Int32)) → own_Go p e below s (Q4 Z a0 a1 p2 p3 x11 k vs g h0 n0) (0, 0) (T3.setTop (mkF m 24 #[rv a0, rv a1, iv p2, iv p3, iv v4, iv v5, iv v6, iv v7, iv 1, iv v9, iv v10] [])) := by
        intro v4 v5 v6 v7 v9 v10 hbo hn h0v hW
        refine own_via (fun k => XS.iload X3.here hx rfl (hb hby d4_24) rfl  k) ?_
        show own_Go p e below s _ _ (T3.setTop (mkF m 26 #[rv a0, rv a1, iv p2, iv p3, iv v4, iv v5, iv v6, iv v7, iv 1, iv v9, iv v10] [(.int 1)]))
        refine own_via (fun k => XS.ifNo X3.here hx rfl (hb hby d4_26) rfl (by decide) k) ?_
        show own_Go p e below s _ _ (T3.setTop (mkF m 29 #[rv a0, rv a1, iv p2, iv p3, iv v4, iv v5, iv v6, iv v7, iv 1, iv v9, iv v10] []))
        refine own_via (fun k => XS.iload X3.here hx rfl (hb hby d4_29) rfl  (XS.iloadN X3.here hx rfl (hb hby d4_31) rfl  k)) ?_
        show own_Go p e below s _ _ (T3.setTop (mkF m 32 #[rv a0, rv a1, iv p2, iv p3, iv v4, iv v5, iv v6, iv v7, iv 1, iv v9, iv v10] [(.int p3), (.int v7)]))
        refine own_via (fun k => XS.icmpNo X3.here hx rfl (hb hby d4_32) rfl (tlt (own_fu1 hn)).2.1 k) ?_
        show own_Go p e below s _ _ (T3.setTop (mkF m 35 #[rv a0, rv a1, iv p2, iv p3, iv v4, iv v5, iv v6, iv v7, iv 1, iv v9, iv v10] []))
        refine own_via (fun k => XS.iload X3.here hx rfl (hb hby d4_35) rfl  (XS.istore X3.here hx rfl (hb hby d4_37) rfl (l' := #[rv a0, rv a1, iv p2, iv p3, iv v4, iv v5, iv v6, iv v7, iv 1, iv v7, iv v10]) rfl k)) ?_
        show own_Go p e below s _ _ (T3.setTop (mkF m 39 #[rv a0, rv a1, iv p2, iv p3, iv v4, iv v5, iv v6, iv v7, iv 1, iv v7, iv v10] []))
        exact IG v4 v5 v6 v7 v7 v10 hbo hn h0v Int32.lt_irrefl (own_st_self.trans hW)
      have IF : ∀ v4 : Int32, ∀ v5 : Int32, ∀ v6 : Int32, ∀ v7 : Int32, ∀ v9 : Int32, nar .boolean v6 = v6 → (p3.toInt - v7.toInt).toNat = (n + 1) → ¬ v7 < 0 → ¬ v7 < v9 → own_st g p3 v7 v9 v6 v4 v5 = (own_rn g p3 p2 (0 : Int32) (1 : Int32) (1 : Int32)) → own_Go p e below s (Q4 Z a0 a1 p2 p3 x11 k vs g h0 n0) (0, 0) (T3.setTop (mkF m 39 #[rv a0, rv a1, iv p2, iv p3, iv v4, iv v5, iv v6, iv v7, iv 1, iv v9, .unset] [])) := by
        intro v4 v5 v6 v7 v9 hbo hn h0v hrv hW
        refine own_via (fun k => XS.iload X3.here hx rfl (hb hby d4_39) rfl  (XS.iloadN X3.here hx rfl (hb hby d4_41) rfl  k)) ?_
        show own_Go p e below s _ _ (T3.setTop (mkF m 42 #[rv a0, rv a1, iv p2, iv p3, iv v4, iv v5, iv v6, iv v7, iv 1, iv v9, .unset] [(.int p3), (.int v7)]))
        refine own_via (fun k => XS.icmpNo X3.here hx rfl (hb hby d4_42) rfl (tlt (own_fu1 hn)).2.1 k) ?_
        show own_Go p e below s _ _ (T3.setTop (mkF m 45 #[rv a0, rv a1, iv p2, iv p3, iv v4, iv v5, iv v6, iv v7, iv 1, iv v9, .unset] []))
        refine own_via (fun k => XS.aloadN X3.here hx rfl (hb hby d4_45) rfl rfl  (XS.iload X3.here hx rfl (hb hby d4_46) rfl  k)) ?_
        show own_Go p e below s _ _ (T3.setTop (mkF m 48 #[rv a0, rv a1, iv p2, iv p3, iv v4, iv v5, iv v6, iv v7, iv 1, iv v9, .unset] [(.int v7), (.ref a1)]))
        obtain ⟨cl75, Ar75, q75, S75, NN75, H75, G75⟩ := id P6
        have hin75 : ¬ (v7 < 0 ∨ cl75.slots.size ≤ (v7).toNatClampNeg) := inb_of S75 (own_inb (own_fu1 hn) h0v hp3)
        have hat75 : cl75.slots[(v7).toNatClampNeg]? = some (.int (g v7)) := H75.at hin75 (hg _ (own_inb (own_fu1 hn) h0v hp3))
        refine own_via (fun k => X3.baloadBytes hx (j := v7) (v := (.int (g v7))) (by rw [e3]; exact Ar75.1) (State.isArrayOf_alike hZ.alike Ar75.2.1) Ar75.2.2 hin75 hat75 (g := (mkF m 48 #[rv a0, rv a1, iv p2, iv p3, iv v4, iv v5, iv v6, iv v7, iv 1, iv v9, .unset] [(.int v7), (.ref a1)])) rfl rfl (hb hby d4_48) _ k) ?_
        show own_Go p e below s _ _ (T3.setTop (mkF m 49 #[rv a0, rv a1, iv p2, iv p3, iv v4, iv v5, iv v6, iv v7, iv 1, iv v9, .unset] [(.int (g v7))]))
        refine own_via (fun k => XS.bipush X3.here hx rfl (hb hby d4_49) k) ?_
        show own_Go p e below s _ _ (T3.setTop (mkF m 51 #[rv a0, rv a1, iv p2, iv p3, iv v4, iv v5, iv v6, iv v7, iv 1, iv v9, .unset] [(.int 13), (.int (g v7))]))
        by_cases hc76 : (13 : Int32) < (g v7)
        · refine own_via (fun k => XS.icmpNo X3.here hx rfl (hb hby d4_51) rfl (tlt hc76).2.2.2 k) ?_
          show own_Go p e below s _ _ (T3.setTop (mkF m 54 #[rv a0, rv a1, iv p2, iv p3, iv v4, iv v5, iv v6, iv v7, iv 1, iv v9, .unset] []))
          refine own_via (fun k => XS.iinc X3.here hx rfl (hb hby d4_54) rfl (l' := #[rv a0, rv a1, iv p2, iv p3, iv v4, iv v5, iv v6, iv (v7 + (1 : Int32)), iv 1, iv v9, .unset]) rfl (XS.goto X3.here hx rfl (pc0 := 57) (pc' := 39) rfl (hb hby d4_57) (by decide) (by decide) k)) ?_
          show own_Go p e below s _ _ (T3.setTop (mkF m 39 #[rv a0, rv a1, iv p2, iv p3, iv v4, iv v5, iv v6, iv (v7 + (1 : Int32)), iv 1, iv v9, .unset] []))
          exact ih.2.2 v4 v5 v6 (v7 + (1 : Int32)) v9 hbo (own_fun hn) (own_nn (own_fu1 hn) h0v) (own_rr (own_fu1 hn) hrv) ((own_st_gt (own_fu1 hn) hrv hc76).trans hW)
        · refine own_via (fun k => XS.icmpYes X3.here hx rfl (pc0 := 51) (pc' := 60) rfl (hb hby d4_51) rfl (flt hc76).2.2.2 (by decide) (by decide) k) ?_
          show own_Go p e below s _ _ (T3.setTop (mkF m 60 #[rv a0, rv a1, iv p2, iv p3, iv v4, iv v5, iv v6, iv v7, iv 1, iv v9, .unset] []))
          refine own_via (fun k => XS.iload X3.here hx rfl (hb hby d4_60) rfl  (XS.iload X3.here hx rfl (hb hby d4_62) rfl  k)) ?_
          show own_Go p e below s _ _ (T3.setTop (mkF m 64 #[rv a0, rv a1, iv p2, iv p3, iv v4, iv v5, iv v6, iv v7, iv 1, iv v9, .unset] [(.int v9), (.int v7)]))
          by_cases hc77 : v9 < v7
          · refine own_via (fun k => XS.icmpNo X3.here hx rfl (hb hby d4_64) rfl (tlt hc77).2.2.2 k) ?_
            show own_Go p e below s _ _ (T3.setTop (mkF m 67 #[rv a0, rv a1, iv p2, iv p3, iv v4, iv v5, iv v6, iv v7, iv 1, iv v9, .unset] []))
            refine own_via (fun k => XS.iload X3.here hx rfl (hb hby d4_67) rfl  (XS.iload X3.here hx rfl (hb hby d4_69) rfl  (XS.iload X3.here hx rfl (hb hby d4_71) rfl  (XS.isub X3.here hx rfl (hb hby d4_73) rfl k)))) ?_
            show own_Go p e below s _ _ (T3.setTop (mkF m 74 #[rv a0, rv a1, iv p2, iv p3, iv v4, iv v5, iv v6, iv v7, iv 1, iv v9, .unset] [(.int (v7 - v9)), (.int v5)]))
            refine own_via (fun k => XS.iadd X3.here hx rfl (hb hby d4_74) rfl (XS.istore X3.here hx rfl (hb hby d4_75) rfl (l' := #[rv a0, rv a1, iv p2, iv p3, iv v4, iv (v5 + (v7 - v9)), iv v6, iv v7, iv 1, iv v9, .unset]) rfl (XS.iconst X3.here hx rfl (hb hby d4_77) (XS.istore X3.here hx rfl (hb hby d4_78) rfl (l' := #[rv a0, rv a1, iv p2, iv p3, iv v4, iv (v5 + (v7 - v9)), iv 0, iv v7, iv 1, iv v9, .unset]) rfl k)))) ?_
            show own_Go p e below s _ _ (T3.setTop (mkF m 80 #[rv a0, rv a1, iv p2, iv p3, iv v4, iv (v5 + (v7 - v9)), iv 0, iv v7, iv 1, iv v9, .unset] []))
            refine own_via (fun k => XS.iload X3.here hx rfl (hb hby d4_80) rfl  (XS.iloadN X3.here hx rfl (hb hby d4_82) rfl  k)) ?_
            show own_Go p e below s _ _ (T3.setTop (mkF m 83 #[rv a0, rv a1, iv p2, iv p3, iv v4, iv (v5 + (v7 - v9)), iv 0, iv v7, iv 1, iv v9, .unset] [(.int p3), (.int v7)]))
            refine own_via (fun k => XS.icmpNo X3.here hx rfl (hb hby d4_83) rfl (tlt (own_fu1 hn)).2.1 k) ?_
            show own_Go p e below s _ _ (T3.setTop (mkF m 86 #[rv a0, rv a1, iv p2, iv p3, iv v4, iv (v5 + (v7 - v9)), iv 0, iv v7, iv 1, iv v9, .unset] []))
            refine own_via (fun k => XS.aloadN X3.here hx rfl (hb hby d4_86) rfl rfl  (XS.iload X3.here hx rfl (hb hby d4_87) rfl  k)) ?_
            show own_Go p e below s _ _ (T3.setTop (mkF m 89 #[rv a0, rv a1, iv p2, iv p3, iv v4, iv (v5 + (v7 - v9)), iv 0, iv v7, iv 1, iv v9, .unset] [(.int v7), (.ref a1)]))
            obtain ⟨cl78, Ar78, q78, S78, NN78, H78, G78⟩ := id P6
            have hin78 : ¬ (v7 < 0 ∨ cl78.slots.size ≤ (v7).toNatClampNeg) := inb_of S78 (own_inb (own_fu1 hn) h0v hp3)
            have hat78 : cl78.slots[(v7).toNatClampNeg]? = some (.int (g v7)) := H78.at hin78 (hg _ (own_inb (own_fu1 hn) h0v hp3))
            refine own_via (fun k => X3.baloadBytes hx (j := v7) (v := (.int (g v7))) (by rw [e3]; exact Ar78.1) (State.isArrayOf_alike hZ.alike Ar78.2.1) Ar78.2.2 hin78 hat78 (g := (mkF m 89 #[rv a0, rv a1, iv p2, iv p3, iv v4, iv (v5 + (v7 - v9)), iv 0, iv v7, iv 1, iv v9, .unset] [(.int v7), (.ref a1)])) rfl rfl (hb hby d4_89) _ k) ?_
            show own_Go p e below s _ _ (T3.setTop (mkF m 90 #[rv a0, rv a1, iv p2, iv p3, iv v4, iv (v5 + (v7 - v9)), iv 0, iv v7, iv 1, iv v9, .unset] [(.int (g v7))]))
            refine own_via (fun k => XS.goto X3.here hx rfl (pc0 := 90) (pc' := 94) rfl (hb hby d4_90) (by decide) (by decide) (XS.istore X3.here hx rfl (hb hby d4_94) rfl (l' := #[rv a0, rv a1, iv p2, iv p3, iv v4, iv (v5 + (v7 - v9)), iv 0, iv v7, iv 1, iv v9, iv (g v7)]) rfl (XS.iload X3.here hx rfl (hb hby d4_96) rfl  (XS.bipush X3.here hx rfl (hb hby d4_98) k)))) ?_
            show own_Go p e below s _ _ (T3.setTop (mkF m 100 #[rv a0, rv a1, iv p2, iv p3, iv v4, iv (v5 + (v7 - v9)), iv 0, iv v7, iv 1, iv v9, iv (g v7)] [(.int 10), (.int (g v7))]))
            by_cases hc79 : (g v7) = (10 : Int32)
            · refine own_via (fun k => XS.icmpNo X3.here hx rfl (hb hby d4_100) rfl (teq hc79).2 k) ?_
              show own_Go p e below s _ _ (T3.setTop (mkF m 103 #[rv a0, rv a1, iv p2, iv p3, iv v4, iv (v5 + (v7 - v9)), iv 0, iv v7, iv 1, iv v9, iv (g v7)] []))
              refine own_via (fun k => XS.iload X3.here hx rfl (hb hby d4_103) rfl  k) ?_
              show own_Go p e below s _ _ (T3.setTop (mkF m 105 #[rv a0, rv a1, iv p2, iv p3, iv v4, iv (v5 + (v7 - v9)), iv 0, iv v7, iv 1, iv v9, iv (g v7)] [(.int 0)]))
              refine own_via (fun k => XS.ifYes X3.here hx rfl (pc0 := 105) (pc' := 114) rfl (hb hby d4_105) rfl (by decide) (by decide) (by decide) k) ?_
              show own_Go p e below s _ _ (T3.setTop (mkF m 114 #[rv a0, rv a1, iv p2, iv p3, iv v4, iv (v5 + (v7 - v9)), iv 0, iv v7, iv 1, iv v9, iv (g v7)] []))
              refine own_via (fun k => XS.iload X3.here hx rfl (hb hby d4_114) rfl  (XS.bipush X3.here hx rfl (hb hby d4_116) k)) ?_
              show own_Go p e below s _ _ (T3.setTop (mkF m 118 #[rv a0, rv a1, iv p2, iv p3, iv v4, iv (v5 + (v7 - v9)), iv 0, iv v7, iv 1, iv v9, iv (g v7)] [(.int 10), (.int (g v7))]))
              refine own_via (fun k => XS.icmpYes X3.here hx rfl (pc0 := 118) (pc' := 128) rfl (hb hby d4_118) rfl (teq hc79).1 (by decide) (by decide) k) ?_
              show own_Go p e below s _ _ (T3.setTop (mkF m 128 #[rv a0, rv a1, iv p2, iv p3, iv v4, iv (v5 + (v7 - v9)), iv 0, iv v7, iv 1, iv v9, iv (g v7)] []))
              refine own_via (fun k => XS.iinc X3.here hx rfl (hb hby d4_128) rfl (l' := #[rv a0, rv a1, iv p2, iv p3, iv (v4 + (1 : Int32)), iv (v5 + (v7 - v9)), iv 0, iv v7, iv 1, iv v9, iv (g v7)]) rfl (XS.iconst X3.here hx rfl (hb hby d4_131) (XS.istore X3.here hx rfl (hb hby d4_132) rfl (l' := #[rv a0, rv a1, iv p2, iv p3, iv (v4 + (1 : Int32)), iv 1, iv 0, iv v7, iv 1, iv v9, iv (g v7)]) rfl (XS.iload X3.here hx rfl (hb hby d4_134) rfl  k)))) ?_
              show own_Go p e below s _ _ (T3.setTop (mkF m 136 #[rv a0, rv a1, iv p2, iv p3, iv (v4 + (1 : Int32)), iv 1, iv 0, iv v7, iv 1, iv v9, iv (g v7)] [(.int (g v7))]))
              refine own_via (fun k => XS.bipush X3.here hx rfl (hb hby d4_136) k) ?_
              show own_Go p e below s _ _ (T3.setTop (mkF m 138 #[rv a0, rv a1, iv p2, iv p3, iv (v4 + (1 : Int32)), iv 1, iv 0, iv v7, iv 1, iv v9, iv (g v7)] [(.int 13), (.int (g v7))]))
              refine own_via (fun k => XS.icmpYes X3.here hx rfl (pc0 := 138) (pc' := 145) rfl (hb hby d4_138) rfl (feq (own_x10 hc79)).2 (by decide) (by decide) k) ?_
              show own_Go p e below s _ _ (T3.setTop (mkF m 145 #[rv a0, rv a1, iv p2, iv p3, iv (v4 + (1 : Int32)), iv 1, iv 0, iv v7, iv 1, iv v9, iv (g v7)] []))
              refine own_via (fun k => XS.iconst X3.here hx rfl (hb hby d4_145) (XS.istore X3.here hx rfl (hb hby d4_146) rfl (l' := #[rv a0, rv a1, iv p2, iv p3, iv (v4 + (1 : Int32)), iv 1, iv 0, iv v7, iv 1, iv v9, iv (g v7)]) rfl (XS.goto X3.here hx rfl (pc0 := 148) (pc' := 162) rfl (hb hby d4_148) (by decide) (by decide) k))) ?_
              show own_Go p e below s _ _ (T3.setTop (mkF m 162 #[rv a0, rv a1, iv p2, iv p3, iv (v4 + (1 : Int32)), iv 1, iv 0, iv v7, iv 1, iv v9, iv (g v7)] []))
              refine own_via (fun k => XS.iload X3.here hx rfl (hb hby d4_162) rfl  k) ?_
              show own_Go p e below s _ _ (T3.setTop (mkF m 164 #[rv a0, rv a1, iv p2, iv p3, iv (v4 + (1 : Int32)), iv 1, iv 0, iv v7, iv 1, iv v9, iv (g v7)] [(.int (g v7))]))
              refine own_via (fun k => XS.ifNo X3.here hx rfl (hb hby d4_164) rfl ((if0 _ _).trans (flt (own_n10 hc79)).1) k) ?_
              show own_Go p e below s _ _ (T3.setTop (mkF m 167 #[rv a0, rv a1, iv p2, iv p3, iv (v4 + (1 : Int32)), iv 1, iv 0, iv v7, iv 1, iv v9, iv (g v7)] []))
              refine own_via (fun k => XS.iconst X3.here hx rfl (hb hby d4_167) (XS.goto X3.here hx rfl (pc0 := 168) (pc' := 172) rfl (hb hby d4_168) (by decide) (by decide) (XS.istore X3.here hx rfl (hb hby d4_172) rfl (l' := #[rv a0, rv a1, iv p2, iv p3, iv (v4 + (1 : Int32)), iv 1, iv 0, iv v7, iv 1, iv v9, iv (g v7)]) rfl (XS.iload X3.here hx rfl (hb hby d4_174) rfl  k)))) ?_
              show own_Go p e below s _ _ (T3.setTop (mkF m 176 #[rv a0, rv a1, iv p2, iv p3, iv (v4 + (1 : Int32)), iv 1, iv 0, iv v7, iv 1, iv v9, iv (g v7)] [(.int 1)]))
              refine own_via (fun k => XS.ifNo X3.here hx rfl (hb hby d4_176) rfl (by decide) k) ?_
              show own_Go p e below s _ _ (T3.setTop (mkF m 179 #[rv a0, rv a1, iv p2, iv p3, iv (v4 + (1 : Int32)), iv 1, iv 0, iv v7, iv 1, iv v9, iv (g v7)] []))
              refine own_via (fun k => XS.iinc X3.here hx rfl (hb hby d4_179) rfl (l' := #[rv a0, rv a1, iv p2, iv p3, iv (v4 + (1 : Int32)), iv 1, iv 0, iv (v7 + (1 : Int32)), iv 1, iv v9, iv (g v7)]) rfl (XS.goto X3.here hx rfl (pc0 := 182) (pc' := 24) rfl (hb hby d4_182) (by decide) (by decide) k)) ?_
              show own_Go p e below s _ _ (T3.setTop (mkF m 24 #[rv a0, rv a1, iv p2, iv p3, iv (v4 + (1 : Int32)), iv 1, iv 0, iv (v7 + (1 : Int32)), iv 1, iv v9, iv (g v7)] []))
              exact ih.2.1 (v4 + (1 : Int32)) (1 : Int32) (0 : Int32) (v7 + (1 : Int32)) v9 (g v7) rfl (own_fun hn) (own_nn (own_fu1 hn) h0v) ((own_rn_nl0 (own_fu1 hn) hc79 rfl).symm.trans ((own_st_yes hc77).symm.trans hW))
            · refine own_via (fun k => XS.icmpYes X3.here hx rfl (pc0 := 100) (pc' := 114) rfl (hb hby d4_100) rfl (feq hc79).2 (by decide) (by decide) k) ?_
              show own_Go p e below s _ _ (T3.setTop (mkF m 114 #[rv a0, rv a1, iv p2, iv p3, iv v4, iv (v5 + (v7 - v9)), iv 0, iv v7, iv 1, iv v9, iv (g v7)] []))
              refine own_via (fun k => XS.iload X3.here hx rfl (hb hby d4_114) rfl  (XS.bipush X3.here hx rfl (hb hby d4_116) k)) ?_
              show own_Go p e below s _ _ (T3.setTop (mkF m 118 #[rv a0, rv a1, iv p2, iv p3, iv v4, iv (v5 + (v7 - v9)), iv 0, iv v7, iv 1, iv v9, iv (g v7)] [(.int 10), (.int (g v7))]))
              refine own_via (fun k => XS.icmpNo X3.here hx rfl (hb hby d4_118) rfl (feq hc79).1 k) ?_
              show own_Go p e below s _ _ (T3.setTop (mkF m 121 #[rv a0, rv a1, iv p2, iv p3, iv v4, iv (v5 + (v7 - v9)), iv 0, iv v7, iv 1, iv v9, iv (g v7)] []))
              refine own_via (fun k => XS.iload X3.here hx rfl (hb hby d4_121) rfl  (XS.bipush X3.here hx rfl (hb hby d4_123) k)) ?_
              show own_Go p e below s _ _ (T3.setTop (mkF m 125 #[rv a0, rv a1, iv p2, iv p3, iv v4, iv (v5 + (v7 - v9)), iv 0, iv v7, iv 1, iv v9, iv (g v7)] [(.int 13), (.int (g v7))]))
              by_cases hc80 : (g v7) = (13 : Int32)
              · refine own_via (fun k => XS.icmpNo X3.here hx rfl (hb hby d4_125) rfl (teq hc80).2 k) ?_
                show own_Go p e below s _ _ (T3.setTop (mkF m 128 #[rv a0, rv a1, iv p2, iv p3, iv v4, iv (v5 + (v7 - v9)), iv 0, iv v7, iv 1, iv v9, iv (g v7)] []))
                refine own_via (fun k => XS.iinc X3.here hx rfl (hb hby d4_128) rfl (l' := #[rv a0, rv a1, iv p2, iv p3, iv (v4 + (1 : Int32)), iv (v5 + (v7 - v9)), iv 0, iv v7, iv 1, iv v9, iv (g v7)]) rfl (XS.iconst X3.here hx rfl (hb hby d4_131) (XS.istore X3.here hx rfl (hb hby d4_132) rfl (l' := #[rv a0, rv a1, iv p2, iv p3, iv (v4 + (1 : Int32)), iv 1, iv 0, iv v7, iv 1, iv v9, iv (g v7)]) rfl (XS.iload X3.here hx rfl (hb hby d4_134) rfl  k)))) ?_
                show own_Go p e below s _ _ (T3.setTop (mkF m 136 #[rv a0, rv a1, iv p2, iv p3, iv (v4 + (1 : Int32)), iv 1, iv 0, iv v7, iv 1, iv v9, iv (g v7)] [(.int (g v7))]))
                refine own_via (fun k => XS.bipush X3.here hx rfl (hb hby d4_136) k) ?_
                show own_Go p e below s _ _ (T3.setTop (mkF m 138 #[rv a0, rv a1, iv p2, iv p3, iv (v4 + (1 : Int32)), iv 1, iv 0, iv v7, iv 1, iv v9, iv (g v7)] [(.int 13), (.int (g v7))]))
                refine own_via (fun k => XS.icmpNo X3.here hx rfl (hb hby d4_138) rfl (teq hc80).2 k) ?_
                show own_Go p e below s _ _ (T3.setTop (mkF m 141 #[rv a0, rv a1, iv p2, iv p3, iv (v4 + (1 : Int32)), iv 1, iv 0, iv v7, iv 1, iv v9, iv (g v7)] []))
                refine own_via (fun k => XS.iconst X3.here hx rfl (hb hby d4_141) (XS.goto X3.here hx rfl (pc0 := 142) (pc' := 146) rfl (hb hby d4_142) (by decide) (by decide) (XS.istore X3.here hx rfl (hb hby d4_146) rfl (l' := #[rv a0, rv a1, iv p2, iv p3, iv (v4 + (1 : Int32)), iv 1, iv 1, iv v7, iv 1, iv v9, iv (g v7)]) rfl (XS.goto X3.here hx rfl (pc0 := 148) (pc' := 162) rfl (hb hby d4_148) (by decide) (by decide) k)))) ?_
                show own_Go p e below s _ _ (T3.setTop (mkF m 162 #[rv a0, rv a1, iv p2, iv p3, iv (v4 + (1 : Int32)), iv 1, iv 1, iv v7, iv 1, iv v9, iv (g v7)] []))
                refine own_via (fun k => XS.iload X3.here hx rfl (hb hby d4_162) rfl  k) ?_
                show own_Go p e below s _ _ (T3.setTop (mkF m 164 #[rv a0, rv a1, iv p2, iv p3, iv (v4 + (1 : Int32)), iv 1, iv 1, iv v7, iv 1, iv v9, iv (g v7)] [(.int (g v7))]))
                refine own_via (fun k => XS.ifNo X3.here hx rfl (hb hby d4_164) rfl ((if0 _ _).trans (flt (own_n13 hc80)).1) k) ?_
                show own_Go p e below s _ _ (T3.setTop (mkF m 167 #[rv a0, rv a1, iv p2, iv p3, iv (v4 + (1 : Int32)), iv 1, iv 1, iv v7, iv 1, iv v9, iv (g v7)] []))
                refine own_via (fun k => XS.iconst X3.here hx rfl (hb hby d4_167) (XS.goto X3.here hx rfl (pc0 := 168) (pc' := 172) rfl (hb hby d4_168) (by decide) (by decide) (XS.istore X3.here hx rfl (hb hby d4_172) rfl (l' := #[rv a0, rv a1, iv p2, iv p3, iv (v4 + (1 : Int32)), iv 1, iv 1, iv v7, iv 1, iv v9, iv (g v7)]) rfl (XS.iload X3.here hx rfl (hb hby d4_174) rfl  k)))) ?_
                show own_Go p e below s _ _ (T3.setTop (mkF m 176 #[rv a0, rv a1, iv p2, iv p3, iv (v4 + (1 : Int32)), iv 1, iv 1, iv v7, iv 1, iv v9, iv (g v7)] [(.int 1)]))
                refine own_via (fun k => XS.ifNo X3.here hx rfl (hb hby d4_176) rfl (by decide) k) ?_
                show own_Go p e below s _ _ (T3.setTop (mkF m 179 #[rv a0, rv a1, iv p2, iv p3, iv (v4 + (1 : Int32)), iv 1, iv 1, iv v7, iv 1, iv v9, iv (g v7)] []))
                refine own_via (fun k => XS.iinc X3.here hx rfl (hb hby d4_179) rfl (l' := #[rv a0, rv a1, iv p2, iv p3, iv (v4 + (1 : Int32)), iv 1, iv 1, iv (v7 + (1 : Int32)), iv 1, iv v9, iv (g v7)]) rfl (XS.goto X3.here hx rfl (pc0 := 182) (pc' := 24) rfl (hb hby d4_182) (by decide) (by decide) k)) ?_
                show own_Go p e below s _ _ (T3.setTop (mkF m 24 #[rv a0, rv a1, iv p2, iv p3, iv (v4 + (1 : Int32)), iv 1, iv 1, iv (v7 + (1 : Int32)), iv 1, iv v9, iv (g v7)] []))
                exact ih.2.1 (v4 + (1 : Int32)) (1 : Int32) (1 : Int32) (v7 + (1 : Int32)) v9 (g v7) rfl (own_fun hn) (own_nn (own_fu1 hn) h0v) ((own_rn_cr (own_fu1 hn) hc80).symm.trans ((own_st_yes hc77).symm.trans hW))
              · refine own_via (fun k => XS.icmpYes X3.here hx rfl (pc0 := 125) (pc' := 151) rfl (hb hby d4_125) rfl (feq hc80).2 (by decide) (by decide) k) ?_
                show own_Go p e below s _ _ (T3.setTop (mkF m 151 #[rv a0, rv a1, iv p2, iv p3, iv v4, iv (v5 + (v7 - v9)), iv 0, iv v7, iv 1, iv v9, iv (g v7)] []))
                refine own_via (fun k => XS.iload X3.here hx rfl (hb hby d4_151) rfl  k) ?_
                show own_Go p e below s _ _ (T3.setTop (mkF m 153 #[rv a0, rv a1, iv p2, iv p3, iv v4, iv (v5 + (v7 - v9)), iv 0, iv v7, iv 1, iv v9, iv (g v7)] [(.int (g v7))]))
                by_cases hc81 : (g v7) < (0 : Int32)
                · refine own_via (fun k => XS.ifYes X3.here hx rfl (pc0 := 153) (pc' := 162) rfl (hb hby d4_153) rfl ((if0 _ _).trans (tlt hc81).1) (by decide) (by decide) k) ?_
                  show own_Go p e below s _ _ (T3.setTop (mkF m 162 #[rv a0, rv a1, iv p2, iv p3, iv v4, iv (v5 + (v7 - v9)), iv 0, iv v7, iv 1, iv v9, iv (g v7)] []))
                  refine own_via (fun k => XS.iload X3.here hx rfl (hb hby d4_162) rfl  k) ?_
                  show own_Go p e below s _ _ (T3.setTop (mkF m 164 #[rv a0, rv a1, iv p2, iv p3, iv v4, iv (v5 + (v7 - v9)), iv 0, iv v7, iv 1, iv v9, iv (g v7)] [(.int (g v7))]))
                  refine own_via (fun k => XS.ifYes X3.here hx rfl (pc0 := 164) (pc' := 171) rfl (hb hby d4_164) rfl ((if0 _ _).trans (tlt hc81).1) (by decide) (by decide) k) ?_
                  show own_Go p e below s _ _ (T3.setTop (mkF m 171 #[rv a0, rv a1, iv p2, iv p3, iv v4, iv (v5 + (v7 - v9)), iv 0, iv v7, iv 1, iv v9, iv (g v7)] []))
                  refine own_via (fun k => XS.iconst X3.here hx rfl (hb hby d4_171) (XS.istore X3.here hx rfl (hb hby d4_172) rfl (l' := #[rv a0, rv a1, iv p2, iv p3, iv v4, iv (v5 + (v7 - v9)), iv 0, iv v7, iv 0, iv v9, iv (g v7)]) rfl (XS.iload X3.here hx rfl (hb hby d4_174) rfl  k))) ?_
                  show own_Go p e below s _ _ (T3.setTop (mkF m 176 #[rv a0, rv a1, iv p2, iv p3, iv v4, iv (v5 + (v7 - v9)), iv 0, iv v7, iv 0, iv v9, iv (g v7)] [(.int 0)]))
                  refine own_via (fun k => XS.ifYes X3.here hx rfl (pc0 := 176) (pc' := 182) rfl (hb hby d4_176) rfl (by decide) (by decide) (by decide) k) ?_
                  show own_Go p e below s _ _ (T3.setTop (mkF m 182 #[rv a0, rv a1, iv p2, iv p3, iv v4, iv (v5 + (v7 - v9)), iv 0, iv v7, iv 0, iv v9, iv (g v7)] []))
                  refine own_via (fun k => XS.goto X3.here hx rfl (pc0 := 182) (pc' := 24) rfl (hb hby d4_182) (by decide) (by decide) k) ?_
                  show own_Go p e below s _ _ (T3.setTop (mkF m 24 #[rv a0, rv a1, iv p2, iv p3, iv v4, iv (v5 + (v7 - v9)), iv 0, iv v7, iv 0, iv v9, iv (g v7)] []))
                  refine own_via (fun k => XS.iload X3.here hx rfl (hb hby d4_24) rfl  k) ?_
                  show own_Go p e below s _ _ (T3.setTop (mkF m 26 #[rv a0, rv a1, iv p2, iv p3, iv v4, iv (v5 + (v7 - v9)), iv 0, iv v7, iv 0, iv v9, iv (g v7)] [(.int 0)]))
                  refine own_via (fun k => XS.ifYes X3.here hx rfl (pc0 := 26) (pc' := 185) rfl (hb hby d4_26) rfl (by decide) (by decide) (by decide) k) ?_
                  show own_Go p e below s _ _ (T3.setTop (mkF m 185 #[rv a0, rv a1, iv p2, iv p3, iv v4, iv (v5 + (v7 - v9)), iv 0, iv v7, iv 0, iv v9, iv (g v7)] []))
                  exact T185 v4 (v5 + (v7 - v9)) (0 : Int32) v7 (0 : Int32) v9 (g v7) rfl ((own_rn_neg (own_fu1 hn) hc81).symm.trans ((own_st_yes hc77).symm.trans hW))
                · refine own_via (fun k => XS.ifNo X3.here hx rfl (hb hby d4_153) rfl ((if0 _ _).trans (flt hc81).1) k) ?_
                  show own_Go p e below s _ _ (T3.setTop (mkF m 156 #[rv a0, rv a1, iv p2, iv p3, iv v4, iv (v5 + (v7 - v9)), iv 0, iv v7, iv 1, iv v9, iv (g v7)] []))
                  refine own_via (fun k => XS.iinc X3.here hx rfl (hb hby d4_156) rfl (l' := #[rv a0, rv a1, iv p2, iv p3, iv v4, iv ((v5 + (v7 - v9)) + (1 : Int32)), iv 0, iv v7, iv 1, iv v9, iv (g v7)]) rfl (XS.iconst X3.here hx rfl (hb hby d4_159) (XS.istore X3.here hx rfl (hb hby d4_160) rfl (l' := #[rv a0, rv a1, iv p2, iv p3, iv v4, iv ((v5 + (v7 - v9)) + (1 : Int32)), iv 0, iv v7, iv 1, iv v9, iv (g v7)]) rfl k))) ?_
                  show own_Go p e below s _ _ (T3.setTop (mkF m 162 #[rv a0, rv a1, iv p2, iv p3, iv v4, iv ((v5 + (v7 - v9)) + (1 : Int32)), iv 0, iv v7, iv 1, iv v9, iv (g v7)] []))
                  refine own_via (fun k => XS.iload X3.here hx rfl (hb hby d4_162) rfl  k) ?_
                  show own_Go p e below s _ _ (T3.setTop (mkF m 164 #[rv a0, rv a1, iv p2, iv p3, iv v4, iv ((v5 + (v7 - v9)) + (1 : Int32)), iv 0, iv v7, iv 1, iv v9, iv (g v7)] [(.int (g v7))]))
                  refine own_via (fun k => XS.ifNo X3.here hx rfl (hb hby d4_164) rfl ((if0 _ _).trans (flt hc81).1) k) ?_
                  show own_Go p e below s _ _ (T3.setTop (mkF m 167 #[rv a0, rv a1, iv p2, iv p3, iv v4, iv ((v5 + (v7 - v9)) + (1 : Int32)), iv 0, iv v7, iv 1, iv v9, iv (g v7)] []))
                  refine own_via (fun k => XS.iconst X3.here hx rfl (hb hby d4_167) (XS.goto X3.here hx rfl (pc0 := 168) (pc' := 172) rfl (hb hby d4_168) (by decide) (by decide) (XS.istore X3.here hx rfl (hb hby d4_172) rfl (l' := #[rv a0, rv a1, iv p2, iv p3, iv v4, iv ((v5 + (v7 - v9)) + (1 : Int32)), iv 0, iv v7, iv 1, iv v9, iv (g v7)]) rfl (XS.iload X3.here hx rfl (hb hby d4_174) rfl  k)))) ?_
                  show own_Go p e below s _ _ (T3.setTop (mkF m 176 #[rv a0, rv a1, iv p2, iv p3, iv v4, iv ((v5 + (v7 - v9)) + (1 : Int32)), iv 0, iv v7, iv 1, iv v9, iv (g v7)] [(.int 1)]))
                  refine own_via (fun k => XS.ifNo X3.here hx rfl (hb hby d4_176) rfl (by decide) k) ?_
                  show own_Go p e below s _ _ (T3.setTop (mkF m 179 #[rv a0, rv a1, iv p2, iv p3, iv v4, iv ((v5 + (v7 - v9)) + (1 : Int32)), iv 0, iv v7, iv 1, iv v9, iv (g v7)] []))
                  refine own_via (fun k => XS.iinc X3.here hx rfl (hb hby d4_179) rfl (l' := #[rv a0, rv a1, iv p2, iv p3, iv v4, iv ((v5 + (v7 - v9)) + (1 : Int32)), iv 0, iv (v7 + (1 : Int32)), iv 1, iv v9, iv (g v7)]) rfl (XS.goto X3.here hx rfl (pc0 := 182) (pc' := 24) rfl (hb hby d4_182) (by decide) (by decide) k)) ?_
                  show own_Go p e below s _ _ (T3.setTop (mkF m 24 #[rv a0, rv a1, iv p2, iv p3, iv v4, iv ((v5 + (v7 - v9)) + (1 : Int32)), iv 0, iv (v7 + (1 : Int32)), iv 1, iv v9, iv (g v7)] []))
                  exact ih.2.1 v4 ((v5 + (v7 - v9)) + (1 : Int32)) (0 : Int32) (v7 + (1 : Int32)) v9 (g v7) rfl (own_fun hn) (own_nn (own_fu1 hn) h0v) ((own_rn_ot (own_fu1 hn) hc81 hc79 hc80).symm.trans ((own_st_yes hc77).symm.trans hW))
          · refine own_via (fun k => XS.icmpYes X3.here hx rfl (pc0 := 64) (pc' := 80) rfl (hb hby d4_64) rfl (flt hc77).2.2.2 (by decide) (by decide) k) ?_
            show own_Go p e below s _ _ (T3.setTop (mkF m 80 #[rv a0, rv a1, iv p2, iv p3, iv v4, iv v5, iv v6, iv v7, iv 1, iv v9, .unset] []))
            refine own_via (fun k => XS.iload X3.here hx rfl (hb hby d4_80) rfl  (XS.iloadN X3.here hx rfl (hb hby d4_82) rfl  k)) ?_
            show own_Go p e below s _ _ (T3.setTop (mkF m 83 #[rv a0, rv a1, iv p2, iv p3, iv v4, iv v5, iv v6, iv v7, iv 1, iv v9, .unset] [(.int p3), (.int v7)]))
            refine own_via (fun k => XS.icmpNo X3.here hx rfl (hb hby d4_83) rfl (tlt (own_fu1 hn)).2.1 k) ?_
            show own_Go p e below s _ _ (T3.setTop (mkF m 86 #[rv a0, rv a1, iv p2, iv p3, iv v4, iv v5, iv v6, iv v7, iv 1, iv v9, .unset] []))
            refine own_via (fun k => XS.aloadN X3.here hx rfl (hb hby d4_86) rfl rfl  (XS.iload X3.here hx rfl (hb hby d4_87) rfl  k)) ?_
            show own_Go p e below s _ _ (T3.setTop (mkF m 89 #[rv a0, rv a1, iv p2, iv p3, iv v4, iv v5, iv v6, iv v7, iv 1, iv v9, .unset] [(.int v7), (.ref a1)]))
            obtain ⟨cl82, Ar82, q82, S82, NN82, H82, G82⟩ := id P6
            have hin82 : ¬ (v7 < 0 ∨ cl82.slots.size ≤ (v7).toNatClampNeg) := inb_of S82 (own_inb (own_fu1 hn) h0v hp3)
            have hat82 : cl82.slots[(v7).toNatClampNeg]? = some (.int (g v7)) := H82.at hin82 (hg _ (own_inb (own_fu1 hn) h0v hp3))
            refine own_via (fun k => X3.baloadBytes hx (j := v7) (v := (.int (g v7))) (by rw [e3]; exact Ar82.1) (State.isArrayOf_alike hZ.alike Ar82.2.1) Ar82.2.2 hin82 hat82 (g := (mkF m 89 #[rv a0, rv a1, iv p2, iv p3, iv v4, iv v5, iv v6, iv v7, iv 1, iv v9, .unset] [(.int v7), (.ref a1)])) rfl rfl (hb hby d4_89) _ k) ?_
            show own_Go p e below s _ _ (T3.setTop (mkF m 90 #[rv a0, rv a1, iv p2, iv p3, iv v4, iv v5, iv v6, iv v7, iv 1, iv v9, .unset] [(.int (g v7))]))
            refine own_via (fun k => XS.goto X3.here hx rfl (pc0 := 90) (pc' := 94) rfl (hb hby d4_90) (by decide) (by decide) (XS.istore X3.here hx rfl (hb hby d4_94) rfl (l' := #[rv a0, rv a1, iv p2, iv p3, iv v4, iv v5, iv v6, iv v7, iv 1, iv v9, iv (g v7)]) rfl (XS.iload X3.here hx rfl (hb hby d4_96) rfl  (XS.bipush X3.here hx rfl (hb hby d4_98) k)))) ?_
            show own_Go p e below s _ _ (T3.setTop (mkF m 100 #[rv a0, rv a1, iv p2, iv p3, iv v4, iv v5, iv v6, iv v7, iv 1, iv v9, iv (g v7)] [(.int 10), (.int (g v7))]))
            by_cases hc83 : (g v7) = (10 : Int32)
            · refine own_via (fun k => XS.icmpNo X3.here hx rfl (hb hby d4_100) rfl (teq hc83).2 k) ?_
              show own_Go p e below s _ _ (T3.setTop (mkF m 103 #[rv a0, rv a1, iv p2, iv p3, iv v4, iv v5, iv v6, iv v7, iv 1, iv v9, iv (g v7)] []))
              refine own_via (fun k => XS.iload X3.here hx rfl (hb hby d4_103) rfl  k) ?_
              show own_Go p e below s _ _ (T3.setTop (mkF m 105 #[rv a0, rv a1, iv p2, iv p3, iv v4, iv v5, iv v6, iv v7, iv 1, iv v9, iv (g v7)] [(.int v6)]))
              by_cases hc84 : v6 = (0 : Int32)
              · refine own_via (fun k => XS.ifYes X3.here hx rfl (pc0 := 105) (pc' := 114) rfl (hb hby d4_105) rfl ((if0 _ _).trans (teq hc84).1) (by decide) (by decide) k) ?_
                show own_Go p e below s _ _ (T3.setTop (mkF m 114 #[rv a0, rv a1, iv p2, iv p3, iv v4, iv v5, iv v6, iv v7, iv 1, iv v9, iv (g v7)] []))
                refine own_via (fun k => XS.iload X3.here hx rfl (hb hby d4_114) rfl  (XS.bipush X3.here hx rfl (hb hby d4_116) k)) ?_
                show own_Go p e below s _ _ (T3.setTop (mkF m 118 #[rv a0, rv a1, iv p2, iv p3, iv v4, iv v5, iv v6, iv v7, iv 1, iv v9, iv (g v7)] [(.int 10), (.int (g v7))]))
                refine own_via (fun k => XS.icmpYes X3.here hx rfl (pc0 := 118) (pc' := 128) rfl (hb hby d4_118) rfl (teq hc83).1 (by decide) (by decide) k) ?_
                show own_Go p e below s _ _ (T3.setTop (mkF m 128 #[rv a0, rv a1, iv p2, iv p3, iv v4, iv v5, iv v6, iv v7, iv 1, iv v9, iv (g v7)] []))
                refine own_via (fun k => XS.iinc X3.here hx rfl (hb hby d4_128) rfl (l' := #[rv a0, rv a1, iv p2, iv p3, iv (v4 + (1 : Int32)), iv v5, iv v6, iv v7, iv 1, iv v9, iv (g v7)]) rfl (XS.iconst X3.here hx rfl (hb hby d4_131) (XS.istore X3.here hx rfl (hb hby d4_132) rfl (l' := #[rv a0, rv a1, iv p2, iv p3, iv (v4 + (1 : Int32)), iv 1, iv v6, iv v7, iv 1, iv v9, iv (g v7)]) rfl (XS.iload X3.here hx rfl (hb hby d4_134) rfl  k)))) ?_
                show own_Go p e below s _ _ (T3.setTop (mkF m 136 #[rv a0, rv a1, iv p2, iv p3, iv (v4 + (1 : Int32)), iv 1, iv v6, iv v7, iv 1, iv v9, iv (g v7)] [(.int (g v7))]))
                refine own_via (fun k => XS.bipush X3.here hx rfl (hb hby d4_136) k) ?_
                show own_Go p e below s _ _ (T3.setTop (mkF m 138 #[rv a0, rv a1, iv p2, iv p3, iv (v4 + (1 : Int32)), iv 1, iv v6, iv v7, iv 1, iv v9, iv (g v7)] [(.int 13), (.int (g v7))]))
                refine own_via (fun k => XS.icmpYes X3.here hx rfl (pc0 := 138) (pc' := 145) rfl (hb hby d4_138) rfl (feq (own_x10 hc83)).2 (by decide) (by decide) k) ?_
                show own_Go p e below s _ _ (T3.setTop (mkF m 145 #[rv a0, rv a1, iv p2, iv p3, iv (v4 + (1 : Int32)), iv 1, iv v6, iv v7, iv 1, iv v9, iv (g v7)] []))
                refine own_via (fun k => XS.iconst X3.here hx rfl (hb hby d4_145) (XS.istore X3.here hx rfl (hb hby d4_146) rfl (l' := #[rv a0, rv a1, iv p2, iv p3, iv (v4 + (1 : Int32)), iv 1, iv 0, iv v7, iv 1, iv v9, iv (g v7)]) rfl (XS.goto X3.here hx rfl (pc0 := 148) (pc' := 162) rfl (hb hby d4_148) (by decide) (by decide) k))) ?_
                show own_Go p e below s _ _ (T3.setTop (mkF m 162 #[rv a0, rv a1, iv p2, iv p3, iv (v4 + (1 : Int32)), iv 1, iv 0, iv v7, iv 1, iv v9, iv (g v7)] []))
                refine own_via (fun k => XS.iload X3.here hx rfl (hb hby d4_162) rfl  k) ?_
                show own_Go p e below s _ _ (T3.setTop (mkF m 164 #[rv a0, rv a1, iv p2, iv p3, iv (v4 + (1 : Int32)), iv 1, iv 0, iv v7, iv 1, iv v9, iv (g v7)] [(.int (g v7))]))
                refine own_via (fun k => XS.ifNo X3.here hx rfl (hb hby d4_164) rfl ((if0 _ _).trans (flt (own_n10 hc83)).1) k) ?_
                show own_Go p e below s _ _ (T3.setTop (mkF m 167 #[rv a0, rv a1, iv p2, iv p3, iv (v4 + (1 : Int32)), iv 1, iv 0, iv v7, iv 1, iv v9, iv (g v7)] []))
                refine own_via (fun k => XS.iconst X3.here hx rfl (hb hby d4_167) (XS.goto X3.here hx rfl (pc0 := 168) (pc' := 172) rfl (hb hby d4_168) (by decide) (by decide) (XS.istore X3.here hx rfl (hb hby d4_172) rfl (l' := #[rv a0, rv a1, iv p2, iv p3, iv (v4 + (1 : Int32)), iv 1, iv 0, iv v7, iv 1, iv v9, iv (g v7)]) rfl (XS.iload X3.here hx rfl (hb hby d4_174) rfl  k)))) ?_
                show own_Go p e below s _ _ (T3.setTop (mkF m 176 #[rv a0, rv a1, iv p2, iv p3, iv (v4 + (1 : Int32)), iv 1, iv 0, iv v7, iv 1, iv v9, iv (g v7)] [(.int 1)]))
                refine own_via (fun k => XS.ifNo X3.here hx rfl (hb hby d4_176) rfl (by decide) k) ?_
                show own_Go p e below s _ _ (T3.setTop (mkF m 179 #[rv a0, rv a1, iv p2, iv p3, iv (v4 + (1 : Int32)), iv 1, iv 0, iv v7, iv 1, iv v9, iv (g v7)] []))
                refine own_via (fun k => XS.iinc X3.here hx rfl (hb hby d4_179) rfl (l' := #[rv a0, rv a1, iv p2, iv p3, iv (v4 + (1 : Int32)), iv 1, iv 0, iv (v7 + (1 : Int32)), iv 1, iv v9, iv (g v7)]) rfl (XS.goto X3.here hx rfl (pc0 := 182) (pc' := 24) rfl (hb hby d4_182) (by decide) (by decide) k)) ?_
                show own_Go p e below s _ _ (T3.setTop (mkF m 24 #[rv a0, rv a1, iv p2, iv p3, iv (v4 + (1 : Int32)), iv 1, iv 0, iv (v7 + (1 : Int32)), iv 1, iv v9, iv (g v7)] []))
                exact ih.2.1 (v4 + (1 : Int32)) (1 : Int32) (0 : Int32) (v7 + (1 : Int32)) v9 (g v7) rfl (own_fun hn) (own_nn (own_fu1 hn) h0v) ((own_rn_nl0 (own_fu1 hn) hc83 hc84).symm.trans ((own_st_no hrv hc77).symm.trans hW))
              · refine own_via (fun k => XS.ifNo X3.here hx rfl (hb hby d4_105) rfl ((if0 _ _).trans (feq hc84).1) k) ?_
                show own_Go p e below s _ _ (T3.setTop (mkF m 108 #[rv a0, rv a1, iv p2, iv p3, iv v4, iv v5, iv v6, iv v7, iv 1, iv v9, iv (g v7)] []))
                refine own_via (fun k => XS.iconst X3.here hx rfl (hb hby d4_108) (XS.istore X3.here hx rfl (hb hby d4_109) rfl (l' := #[rv a0, rv a1, iv p2, iv p3, iv v4, iv v5, iv 0, iv v7, iv 1, iv v9, iv (g v7)]) rfl (XS.goto X3.here hx rfl (pc0 := 111) (pc' := 162) rfl (hb hby d4_111) (by decide) (by decide) k))) ?_
                show own_Go p e below s _ _ (T3.setTop (mkF m 162 #[rv a0, rv a1, iv p2, iv p3, iv v4, iv v5, iv 0, iv v7, iv 1, iv v9, iv (g v7)] []))
                refine own_via (fun k => XS.iload X3.here hx rfl (hb hby d4_162) rfl  k) ?_
                show own_Go p e below s _ _ (T3.setTop (mkF m 164 #[rv a0, rv a1, iv p2, iv p3, iv v4, iv v5, iv 0, iv v7, iv 1, iv v9, iv (g v7)] [(.int (g v7))]))
                refine own_via (fun k => XS.ifNo X3.here hx rfl (hb hby d4_164) rfl ((if0 _ _).trans (flt (own_n10 hc83)).1) k) ?_
                show own_Go p e below s _ _ (T3.setTop (mkF m 167 #[rv a0, rv a1, iv p2, iv p3, iv v4, iv v5, iv 0, iv v7, iv 1, iv v9, iv (g v7)] []))
                refine own_via (fun k => XS.iconst X3.here hx rfl (hb hby d4_167) (XS.goto X3.here hx rfl (pc0 := 168) (pc' := 172) rfl (hb hby d4_168) (by decide) (by decide) (XS.istore X3.here hx rfl (hb hby d4_172) rfl (l' := #[rv a0, rv a1, iv p2, iv p3, iv v4, iv v5, iv 0, iv v7, iv 1, iv v9, iv (g v7)]) rfl (XS.iload X3.here hx rfl (hb hby d4_174) rfl  k)))) ?_
                show own_Go p e below s _ _ (T3.setTop (mkF m 176 #[rv a0, rv a1, iv p2, iv p3, iv v4, iv v5, iv 0, iv v7, iv 1, iv v9, iv (g v7)] [(.int 1)]))
                refine own_via (fun k => XS.ifNo X3.here hx rfl (hb hby d4_176) rfl (by decide) k) ?_
                show own_Go p e below s _ _ (T3.setTop (mkF m 179 #[rv a0, rv a1, iv p2, iv p3, iv v4, iv v5, iv 0, iv v7, iv 1, iv v9, iv (g v7)] []))
                refine own_via (fun k => XS.iinc X3.here hx rfl (hb hby d4_179) rfl (l' := #[rv a0, rv a1, iv p2, iv p3, iv v4, iv v5, iv 0, iv (v7 + (1 : Int32)), iv 1, iv v9, iv (g v7)]) rfl (XS.goto X3.here hx rfl (pc0 := 182) (pc' := 24) rfl (hb hby d4_182) (by decide) (by decide) k)) ?_
                show own_Go p e below s _ _ (T3.setTop (mkF m 24 #[rv a0, rv a1, iv p2, iv p3, iv v4, iv v5, iv 0, iv (v7 + (1 : Int32)), iv 1, iv v9, iv (g v7)] []))
                exact ih.2.1 v4 v5 (0 : Int32) (v7 + (1 : Int32)) v9 (g v7) rfl (own_fun hn) (own_nn (own_fu1 hn) h0v) ((own_rn_nl1 (own_fu1 hn) hc83 hc84).symm.trans ((own_st_no hrv hc77).symm.trans hW))
            · refine own_via (fun k => XS.icmpYes X3.here hx rfl (pc0 := 100) (pc' := 114) rfl (hb hby d4_100) rfl (feq hc83).2 (by decide) (by decide) k) ?_
              show own_Go p e below s _ _ (T3.setTop (mkF m 114 #[rv a0, rv a1, iv p2, iv p3, iv v4, iv v5, iv v6, iv v7, iv 1, iv v9, iv (g v7)] []))
              refine own_via (fun k => XS.iload X3.here hx rfl (hb hby d4_114) rfl  (XS.bipush X3.here hx rfl (hb hby d4_116) k)) ?_
              show own_Go p e below s _ _ (T3.setTop (mkF m 118 #[rv a0, rv a1, iv p2, iv p3, iv v4, iv v5, iv v6, iv v7, iv 1, iv v9, iv (g v7)] [(.int 10), (.int (g v7))]))
              refine own_via (fun k => XS.icmpNo X3.here hx rfl (hb hby d4_118) rfl (feq hc83).1 k) ?_
              show own_Go p e below s _ _ (T3.setTop (mkF m 121 #[rv a0, rv a1, iv p2, iv p3, iv v4, iv v5, iv v6, iv v7, iv 1, iv v9, iv (g v7)] []))
              refine own_via (fun k => XS.iload X3.here hx rfl (hb hby d4_121) rfl  (XS.bipush X3.here hx rfl (hb hby d4_123) k)) ?_
              show own_Go p e below s _ _ (T3.setTop (mkF m 125 #[rv a0, rv a1, iv p2, iv p3, iv v4, iv v5, iv v6, iv v7, iv 1, iv v9, iv (g v7)] [(.int 13), (.int (g v7))]))
              by_cases hc85 : (g v7) = (13 : Int32)
              · refine own_via (fun k => XS.icmpNo X3.here hx rfl (hb hby d4_125) rfl (teq hc85).2 k) ?_
                show own_Go p e below s _ _ (T3.setTop (mkF m 128 #[rv a0, rv a1, iv p2, iv p3, iv v4, iv v5, iv v6, iv v7, iv 1, iv v9, iv (g v7)] []))
                refine own_via (fun k => XS.iinc X3.here hx rfl (hb hby d4_128) rfl (l' := #[rv a0, rv a1, iv p2, iv p3, iv (v4 + (1 : Int32)), iv v5, iv v6, iv v7, iv 1, iv v9, iv (g v7)]) rfl (XS.iconst X3.here hx rfl (hb hby d4_131) (XS.istore X3.here hx rfl (hb hby d4_132) rfl (l' := #[rv a0, rv a1, iv p2, iv p3, iv (v4 + (1 : Int32)), iv 1, iv v6, iv v7, iv 1, iv v9, iv (g v7)]) rfl (XS.iload X3.here hx rfl (hb hby d4_134) rfl  k)))) ?_
                show own_Go p e below s _ _ (T3.setTop (mkF m 136 #[rv a0, rv a1, iv p2, iv p3, iv (v4 + (1 : Int32)), iv 1, iv v6, iv v7, iv 1, iv v9, iv (g v7)] [(.int (g v7))]))
                refine own_via (fun k => XS.bipush X3.here hx rfl (hb hby d4_136) k) ?_
                show own_Go p e below s _ _ (T3.setTop (mkF m 138 #[rv a0, rv a1, iv p2, iv p3, iv (v4 + (1 : Int32)), iv 1, iv v6, iv v7, iv 1, iv v9, iv (g v7)] [(.int 13), (.int (g v7))]))
                refine own_via (fun k => XS.icmpNo X3.here hx rfl (hb hby d4_138) rfl (teq hc85).2 k) ?_
                show own_Go p e below s _ _ (T3.setTop (mkF m 141 #[rv a0, rv a1, iv p2, iv p3, iv (v4 + (1 : Int32)), iv 1, iv v6, iv v7, iv 1, iv v9, iv (g v7)] []))
                refine own_via (fun k => XS.iconst X3.here hx rfl (hb hby d4_141) (XS.goto X3.here hx rfl (pc0 := 142) (pc' := 146) rfl (hb hby d4_142) (by decide) (by decide) (XS.istore X3.here hx rfl (hb hby d4_146) rfl (l' := #[rv a0, rv a1, iv p2, iv p3, iv (v4 + (1 : Int32)), iv 1, iv 1, iv v7, iv 1, iv v9, iv (g v7)]) rfl (XS.goto X3.here hx rfl (pc0 := 148) (pc' := 162) rfl (hb hby d4_148) (by decide) (by decide) k)))) ?_
                show own_Go p e below s _ _ (T3.setTop (mkF m 162 #[rv a0, rv a1, iv p2, iv p3, iv (v4 + (1 : Int32)), iv 1, iv 1, iv v7, iv 1, iv v9, iv (g v7)] []))
                refine own_via (fun k => XS.iload X3.here hx rfl (hb hby d4_162) rfl  k) ?_
                show own_Go p e below s _ _ (T3.setTop (mkF m 164 #[rv a0, rv a1, iv p2, iv p3, iv (v4 + (1 : Int32)), iv 1, iv 1, iv v7, iv 1, iv v9, iv (g v7)] [(.int (g v7))]))
                refine own_via (fun k => XS.ifNo X3.here hx rfl (hb hby d4_164) rfl ((if0 _ _).trans (flt (own_n13 hc85)).1) k) ?_
                show own_Go p e below s _ _ (T3.setTop (mkF m 167 #[rv a0, rv a1, iv p2, iv p3, iv (v4 + (1 : Int32)), iv 1, iv 1, iv v7, iv 1, iv v9, iv (g v7)] []))
                refine own_via (fun k => XS.iconst X3.here hx rfl (hb hby d4_167) (XS.goto X3.here hx rfl (pc0 := 168) (pc' := 172) rfl (hb hby d4_168) (by decide) (by decide) (XS.istore X3.here hx rfl (hb hby d4_172) rfl (l' := #[rv a0, rv a1, iv p2, iv p3, iv (v4 + (1 : Int32)), iv 1, iv 1, iv v7, iv 1, iv v9, iv (g v7)]) rfl (XS.iload X3.here hx rfl (hb hby d4_174) rfl  k)))) ?_
                show own_Go p e below s _ _ (T3.setTop (mkF m 176 #[rv a0, rv a1, iv p2, iv p3, iv (v4 + (1 : Int32)), iv 1, iv 1, iv v7, iv 1, iv v9, iv (g v7)] [(.int 1)]))
                refine own_via (fun k => XS.ifNo X3.here hx rfl (hb hby d4_176) rfl (by decide) k) ?_
                show own_Go p e below s _ _ (T3.setTop (mkF m 179 #[rv a0, rv a1, iv p2, iv p3, iv (v4 + (1 : Int32)), iv 1, iv 1, iv v7, iv 1, iv v9, iv (g v7)] []))
                refine own_via (fun k => XS.iinc X3.here hx rfl (hb hby d4_179) rfl (l' := #[rv a0, rv a1, iv p2, iv p3, iv (v4 + (1 : Int32)), iv 1, iv 1, iv (v7 + (1 : Int32)), iv 1, iv v9, iv (g v7)]) rfl (XS.goto X3.here hx rfl (pc0 := 182) (pc' := 24) rfl (hb hby d4_182) (by decide) (by decide) k)) ?_
                show own_Go p e below s _ _ (T3.setTop (mkF m 24 #[rv a0, rv a1, iv p2, iv p3, iv (v4 + (1 : Int32)), iv 1, iv 1, iv (v7 + (1 : Int32)), iv 1, iv v9, iv (g v7)] []))
                exact ih.2.1 (v4 + (1 : Int32)) (1 : Int32) (1 : Int32) (v7 + (1 : Int32)) v9 (g v7) rfl (own_fun hn) (own_nn (own_fu1 hn) h0v) ((own_rn_cr (own_fu1 hn) hc85).symm.trans ((own_st_no hrv hc77).symm.trans hW))
              · refine own_via (fun k => XS.icmpYes X3.here hx rfl (pc0 := 125) (pc' := 151) rfl (hb hby d4_125) rfl (feq hc85).2 (by decide) (by decide) k) ?_
                show own_Go p e below s _ _ (T3.setTop (mkF m 151 #[rv a0, rv a1, iv p2, iv p3, iv v4, iv v5, iv v6, iv v7, iv 1, iv v9, iv (g v7)] []))
                refine own_via (fun k => XS.iload X3.here hx rfl (hb hby d4_151) rfl  k) ?_
                show own_Go p e below s _ _ (T3.setTop (mkF m 153 #[rv a0, rv a1, iv p2, iv p3, iv v4, iv v5, iv v6, iv v7, iv 1, iv v9, iv (g v7)] [(.int (g v7))]))
                by_cases hc86 : (g v7) < (0 : Int32)
                · refine own_via (fun k => XS.ifYes X3.here hx rfl (pc0 := 153) (pc' := 162) rfl (hb hby d4_153) rfl ((if0 _ _).trans (tlt hc86).1) (by decide) (by decide) k) ?_
                  show own_Go p e below s _ _ (T3.setTop (mkF m 162 #[rv a0, rv a1, iv p2, iv p3, iv v4, iv v5, iv v6, iv v7, iv 1, iv v9, iv (g v7)] []))
                  refine own_via (fun k => XS.iload X3.here hx rfl (hb hby d4_162) rfl  k) ?_
                  show own_Go p e below s _ _ (T3.setTop (mkF m 164 #[rv a0, rv a1, iv p2, iv p3, iv v4, iv v5, iv v6, iv v7, iv 1, iv v9, iv (g v7)] [(.int (g v7))]))
                  refine own_via (fun k => XS.ifYes X3.here hx rfl (pc0 := 164) (pc' := 171) rfl (hb hby d4_164) rfl ((if0 _ _).trans (tlt hc86).1) (by decide) (by decide) k) ?_
                  show own_Go p e below s _ _ (T3.setTop (mkF m 171 #[rv a0, rv a1, iv p2, iv p3, iv v4, iv v5, iv v6, iv v7, iv 1, iv v9, iv (g v7)] []))
                  refine own_via (fun k => XS.iconst X3.here hx rfl (hb hby d4_171) (XS.istore X3.here hx rfl (hb hby d4_172) rfl (l' := #[rv a0, rv a1, iv p2, iv p3, iv v4, iv v5, iv v6, iv v7, iv 0, iv v9, iv (g v7)]) rfl (XS.iload X3.here hx rfl (hb hby d4_174) rfl  k))) ?_
                  show own_Go p e below s _ _ (T3.setTop (mkF m 176 #[rv a0, rv a1, iv p2, iv p3, iv v4, iv v5, iv v6, iv v7, iv 0, iv v9, iv (g v7)] [(.int 0)]))
                  refine own_via (fun k => XS.ifYes X3.here hx rfl (pc0 := 176) (pc' := 182) rfl (hb hby d4_176) rfl (by decide) (by decide) (by decide) k) ?_
                  show own_Go p e below s _ _ (T3.setTop (mkF m 182 #[rv a0, rv a1, iv p2, iv p3, iv v4, iv v5, iv v6, iv v7, iv 0, iv v9, iv (g v7)] []))
                  refine own_via (fun k => XS.goto X3.here hx rfl (pc0 := 182) (pc' := 24) rfl (hb hby d4_182) (by decide) (by decide) k) ?_
                  show own_Go p e below s _ _ (T3.setTop (mkF m 24 #[rv a0, rv a1, iv p2, iv p3, iv v4, iv v5, iv v6, iv v7, iv 0, iv v9, iv (g v7)] []))
                  refine own_via (fun k => XS.iload X3.here hx rfl (hb hby d4_24) rfl  k) ?_
                  show own_Go p e below s _ _ (T3.setTop (mkF m 26 #[rv a0, rv a1, iv p2, iv p3, iv v4, iv v5, iv v6, iv v7, iv 0, iv v9, iv (g v7)] [(.int 0)]))
                  refine own_via (fun k => XS.ifYes X3.here hx rfl (pc0 := 26) (pc' := 185) rfl (hb hby d4_26) rfl (by decide) (by decide) (by decide) k) ?_
                  show own_Go p e below s _ _ (T3.setTop (mkF m 185 #[rv a0, rv a1, iv p2, iv p3, iv v4, iv v5, iv v6, iv v7, iv 0, iv v9, iv (g v7)] []))
                  exact T185 v4 v5 v6 v7 (0 : Int32) v9 (g v7) hbo ((own_rn_neg (own_fu1 hn) hc86).symm.trans ((own_st_no hrv hc77).symm.trans hW))
                · refine own_via (fun k => XS.ifNo X3.here hx rfl (hb hby d4_153) rfl ((if0 _ _).trans (flt hc86).1) k) ?_
                  show own_Go p e below s _ _ (T3.setTop (mkF m 156 #[rv a0, rv a1, iv p2, iv p3, iv v4, iv v5, iv v6, iv v7, iv 1, iv v9, iv (g v7)] []))
                  refine own_via (fun k => XS.iinc X3.here hx rfl (hb hby d4_156) rfl (l' := #[rv a0, rv a1, iv p2, iv p3, iv v4, iv (v5 + (1 : Int32)), iv v6, iv v7, iv 1, iv v9, iv (g v7)]) rfl (XS.iconst X3.here hx rfl (hb hby d4_159) (XS.istore X3.here hx rfl (hb hby d4_160) rfl (l' := #[rv a0, rv a1, iv p2, iv p3, iv v4, iv (v5 + (1 : Int32)), iv 0, iv v7, iv 1, iv v9, iv (g v7)]) rfl k))) ?_
                  show own_Go p e below s _ _ (T3.setTop (mkF m 162 #[rv a0, rv a1, iv p2, iv p3, iv v4, iv (v5 + (1 : Int32)), iv 0, iv v7, iv 1, iv v9, iv (g v7)] []))
                  refine own_via (fun k => XS.iload X3.here hx rfl (hb hby d4_162) rfl  k) ?_
                  show own_Go p e below s _ _ (T3.setTop (mkF m 164 #[rv a0, rv a1, iv p2, iv p3, iv v4, iv (v5 + (1 : Int32)), iv 0, iv v7, iv 1, iv v9, iv (g v7)] [(.int (g v7))]))
                  refine own_via (fun k => XS.ifNo X3.here hx rfl (hb hby d4_164) rfl ((if0 _ _).trans (flt hc86).1) k) ?_
                  show own_Go p e below s _ _ (T3.setTop (mkF m 167 #[rv a0, rv a1, iv p2, iv p3, iv v4, iv (v5 + (1 : Int32)), iv 0, iv v7, iv 1, iv v9, iv (g v7)] []))
                  refine own_via (fun k => XS.iconst X3.here hx rfl (hb hby d4_167) (XS.goto X3.here hx rfl (pc0 := 168) (pc' := 172) rfl (hb hby d4_168) (by decide) (by decide) (XS.istore X3.here hx rfl (hb hby d4_172) rfl (l' := #[rv a0, rv a1, iv p2, iv p3, iv v4, iv (v5 + (1 : Int32)), iv 0, iv v7, iv 1, iv v9, iv (g v7)]) rfl (XS.iload X3.here hx rfl (hb hby d4_174) rfl  k)))) ?_
                  show own_Go p e below s _ _ (T3.setTop (mkF m 176 #[rv a0, rv a1, iv p2, iv p3, iv v4, iv (v5 + (1 : Int32)), iv 0, iv v7, iv 1, iv v9, iv (g v7)] [(.int 1)]))
                  refine own_via (fun k => XS.ifNo X3.here hx rfl (hb hby d4_176) rfl (by decide) k) ?_
                  show own_Go p e below s _ _ (T3.setTop (mkF m 179 #[rv a0, rv a1, iv p2, iv p3, iv v4, iv (v5 + (1 : Int32)), iv 0, iv v7, iv 1, iv v9, iv (g v7)] []))
                  refine own_via (fun k => XS.iinc X3.here hx rfl (hb hby d4_179) rfl (l' := #[rv a0, rv a1, iv p2, iv p3, iv v4, iv (v5 + (1 : Int32)), iv 0, iv (v7 + (1 : Int32)), iv 1, iv v9, iv (g v7)]) rfl (XS.goto X3.here hx rfl (pc0 := 182) (pc' := 24) rfl (hb hby d4_182) (by decide) (by decide) k)) ?_
                  show own_Go p e below s _ _ (T3.setTop (mkF m 24 #[rv a0, rv a1, iv p2, iv p3, iv v4, iv (v5 + (1 : Int32)), iv 0, iv (v7 + (1 : Int32)), iv 1, iv v9, iv (g v7)] []))
                  exact ih.2.1 v4 (v5 + (1 : Int32)) (0 : Int32) (v7 + (1 : Int32)) v9 (g v7) rfl (own_fun hn) (own_nn (own_fu1 hn) h0v) ((own_rn_ot (own_fu1 hn) hc86 hc83 hc85).symm.trans ((own_st_no hrv hc77).symm.trans hW))
      exact ⟨IG, OG, IF⟩
  by_cases hn : p2 < p3
  · refine own_via (fun k => XS.iload X3.here hx rfl (hb hby d4_24) rfl  k) ?_
    show own_Go p e below s _ _ (T3.setTop (mkF m 26 #[rv a0, rv a1, iv p2, iv p3, iv 1, iv 1, iv 0, iv p2, iv 1, .unset, .unset] [(.int 1)]))
    refine own_via (fun k => XS.ifNo X3.here hx rfl (hb hby d4_26) rfl (by decide) k) ?_
    show own_Go p e below s _ _ (T3.setTop (mkF m 29 #[rv a0, rv a1, iv p2, iv p3, iv 1, iv 1, iv 0, iv p2, iv 1, .unset, .unset] []))
    refine own_via (fun k => XS.iload X3.here hx rfl (hb hby d4_29) rfl  (XS.iloadN X3.here hx rfl (hb hby d4_31) rfl  k)) ?_
    show own_Go p e below s _ _ (T3.setTop (mkF m 32 #[rv a0, rv a1, iv p2, iv p3, iv 1, iv 1, iv 0, iv p2, iv 1, .unset, .unset] [(.int p3), (.int p2)]))
    refine own_via (fun k => XS.icmpNo X3.here hx rfl (hb hby d4_32) rfl (tlt hn).2.1 k) ?_
    show own_Go p e below s _ _ (T3.setTop (mkF m 35 #[rv a0, rv a1, iv p2, iv p3, iv 1, iv 1, iv 0, iv p2, iv 1, .unset, .unset] []))
    refine own_via (fun k => XS.iload X3.here hx rfl (hb hby d4_35) rfl  (XS.istore X3.here hx rfl (hb hby d4_37) rfl (l' := #[rv a0, rv a1, iv p2, iv p3, iv 1, iv 1, iv 0, iv p2, iv 1, iv p2, .unset]) rfl k)) ?_
    show own_Go p e below s _ _ (T3.setTop (mkF m 39 #[rv a0, rv a1, iv p2, iv p3, iv 1, iv 1, iv 0, iv p2, iv 1, iv p2, .unset] []))
    exact (ALL _).2.2 (1 : Int32) (1 : Int32) (0 : Int32) p2 p2 rfl rfl hp2 Int32.lt_irrefl own_st_self
  · refine own_via (fun k => XS.iload X3.here hx rfl (hb hby d4_24) rfl  k) ?_
    show own_Go p e below s _ _ (T3.setTop (mkF m 26 #[rv a0, rv a1, iv p2, iv p3, iv 1, iv 1, iv 0, iv p2, iv 1, .unset, .unset] [(.int 1)]))
    refine own_via (fun k => XS.ifNo X3.here hx rfl (hb hby d4_26) rfl (by decide) k) ?_
    show own_Go p e below s _ _ (T3.setTop (mkF m 29 #[rv a0, rv a1, iv p2, iv p3, iv 1, iv 1, iv 0, iv p2, iv 1, .unset, .unset] []))
    refine own_via (fun k => XS.iload X3.here hx rfl (hb hby d4_29) rfl  (XS.iloadN X3.here hx rfl (hb hby d4_31) rfl  k)) ?_
    show own_Go p e below s _ _ (T3.setTop (mkF m 32 #[rv a0, rv a1, iv p2, iv p3, iv 1, iv 1, iv 0, iv p2, iv 1, .unset, .unset] [(.int p3), (.int p2)]))
    refine own_via (fun k => XS.icmpYes X3.here hx rfl (pc0 := 32) (pc' := 185) rfl (hb hby d4_32) rfl (flt hn).2.1 (by decide) (by decide) k) ?_
    show own_Go p e below s _ _ (T3.setTop (mkF m 185 #[rv a0, rv a1, iv p2, iv p3, iv 1, iv 1, iv 0, iv p2, iv 1, .unset, .unset] []))
    refine own_via (fun k => XS.aloadN X3.here hx rfl (hb hby d4_185) rfl rfl  (XS.iload X3.here hx rfl (hb hby d4_186) rfl  k)) ?_
    show own_Go p e below s _ _ (T3.setTop (mkF m 188 #[rv a0, rv a1, iv p2, iv p3, iv 1, iv 1, iv 0, iv p2, iv 1, .unset, .unset] [(.int 1), (.ref a0)]))
    obtain ⟨T87, h87, X87, e87, W87, st87⟩ := putF X3 hx hZ hown (host := "") (Or.inl (hw _ (List.mem_of_getElem? (i := 20) rfl))) Via.refl e3 P3 P5 (Or.inl (hw _ (List.mem_of_getElem? (i := 21) rfl))) (hw _ (List.mem_of_getElem? (i := 6) rfl)) (ty := .int) (by decide) rfl rfl (g := (mkF m 188 #[rv a0, rv a1, iv p2, iv p3, iv 1, iv 1, iv 0, iv p2, iv 1, .unset, .unset] [(.int 1), (.ref a0)])) rfl rfl (hb hby d4_188)
    refine own_via (fun k => st87 _ k) ?_
    show own_Go p e below s _ _ (T87.setTop (mkF m 191 #[rv a0, rv a1, iv p2, iv p3, iv 1, iv 1, iv 0, iv p2, iv 1, .unset, .unset] []))
    have B88 := P0.other W87 (Or.inr (slot_ne (Or.inr (hw _ (List.mem_of_getElem? (i := 15) rfl))) (Or.inl (hw _ (List.mem_of_getElem? (i := 21) rfl))) (by decide) (t := .boolean) (t' := .int) (by decide) (by decide)))
    have B89 := P1.other W87 (Or.inr (slot_ne (Or.inl (hw _ (List.mem_of_getElem? (i := 17) rfl))) (Or.inl (hw _ (List.mem_of_getElem? (i := 21) rfl))) (by decide) (t := .boolean) (t' := .int) (by decide) (by decide)))
    have B90 := P2.other W87 (Or.inr (slot_ne (Or.inl (hw _ (List.mem_of_getElem? (i := 19) rfl))) (Or.inl (hw _ (List.mem_of_getElem? (i := 21) rfl))) (by decide) (t := .boolean) (t' := .int) (by decide) (by decide)))
    have B91 := P4.other W87 (Or.inr (slot_ne (Or.inl (hw _ (List.mem_of_getElem? (i := 23) rfl))) (Or.inl (hw _ (List.mem_of_getElem? (i := 21) rfl))) (by decide) (t := .int) (t' := .int) (by decide) (by decide)))
    have B92 := P5.wr W87
    have B93 := P6.other W87 nx0
    have B94 : Fld Z h87 a0 "com/example/tree_to_rows/treetorows/xml/DocumentPlace" "line" "I" (.int 1) := P3.same W87
    have N95 := Fr.snoc X87 N0 ge0
    have K96 : Keep h0 h87 [a0] := K0.wr W87 (Or.inl (List.mem_of_getElem? (i := 0) rfl))
    have Z97 : n0 ≤ h87.size := Nat.le_trans Z0 (Keep.of_wr W87).1
    refine own_via (fun k => XS.aloadN X87.here hx rfl (hb hby d4_191) rfl rfl  (XS.iload X87.here hx rfl (hb hby d4_192) rfl  k)) ?_
    show own_Go p e below s _ _ (T87.setTop (mkF m 194 #[rv a0, rv a1, iv p2, iv p3, iv 1, iv 1, iv 0, iv p2, iv 1, .unset, .unset] [(.int 1), (.ref a0)]))
    obtain ⟨T98, h98, X98, e98, W98, st98⟩ := putF X87 hx hZ hown (host := "") (Or.inl (hw _ (List.mem_of_getElem? (i := 22) rfl))) Via.refl e87 B91 B92 (Or.inl (hw _ (List.mem_of_getElem? (i := 23) rfl))) (hw _ (List.mem_of_getElem? (i := 6) rfl)) (ty := .int) (by decide) rfl rfl (g := (mkF m 194 #[rv a0, rv a1, iv p2, iv p3, iv 1, iv 1, iv 0, iv p2, iv 1, .unset, .unset] [(.int 1), (.ref a0)])) rfl rfl (hb hby d4_194)
    refine own_via (fun k => st98 _ k) ?_
    show own_Go p e below s _ _ (T98.setTop (mkF m 197 #[rv a0, rv a1, iv p2, iv p3, iv 1, iv 1, iv 0, iv p2, iv 1, .unset, .unset] []))
    have B99 := B88.other W98 (Or.inr (slot_ne (Or.inr (hw _ (List.mem_of_getElem? (i := 15) rfl))) (Or.inl (hw _ (List.mem_of_getElem? (i := 23) rfl))) (by decide) (t := .boolean) (t' := .int) (by decide) (by decide)))
    have B100 := B89.other W98 (Or.inr (slot_ne (Or.inl (hw _ (List.mem_of_getElem? (i := 17) rfl))) (Or.inl (hw _ (List.mem_of_getElem? (i := 23) rfl))) (by decide) (t := .boolean) (t' := .int) (by decide) (by decide)))
    have B101 := B90.other W98 (Or.inr (slot_ne (Or.inl (hw _ (List.mem_of_getElem? (i := 19) rfl))) (Or.inl (hw _ (List.mem_of_getElem? (i := 23) rfl))) (by decide) (t := .boolean) (t' := .int) (by decide) (by decide)))
    have B102 := B92.wr W98
    have B103 := B93.other W98 nx0
    have B104 := B94.other W98 (Or.inr (slot_ne (Or.inl (hw _ (List.mem_of_getElem? (i := 21) rfl))) (Or.inl (hw _ (List.mem_of_getElem? (i := 23) rfl))) (by decide) (t := .int) (t' := .int) (by decide) (by decide)))
    have B105 : Fld Z h98 a0 "com/example/tree_to_rows/treetorows/xml/DocumentPlace" "column" "I" (.int 1) := B91.same W98
    have N106 := Fr.snoc X98 N95 ge0
    have K107 : Keep h0 h98 [a0] := K96.wr W98 (Or.inl (List.mem_of_getElem? (i := 0) rfl))
    have Z108 : n0 ≤ h98.size := Nat.le_trans Z97 (Keep.of_wr W98).1
    refine own_via (fun k => XS.aloadN X98.here hx rfl (hb hby d4_197) rfl rfl  (XS.iload X98.here hx rfl (hb hby d4_198) rfl  k)) ?_
    show own_Go p e below s _ _ (T98.setTop (mkF m 200 #[rv a0, rv a1, iv p2, iv p3, iv 1, iv 1, iv 0, iv p2, iv 1, .unset, .unset] [(.int 0), (.ref a0)]))
    obtain ⟨T109, h109, X109, e109, W109, st109⟩ := putFN X98 hx hZ hown (hw _ (List.mem_of_getElem? (i := 18) rfl)) Via.refl e98 B101 B102 (Or.inl (hw _ (List.mem_of_getElem? (i := 19) rfl))) (hw _ (List.mem_of_getElem? (i := 6) rfl)) (ty := .boolean) (v := (.int 0)) (v' := (.int (0 : Int32))) (by decide) rfl (by decide) (g := (mkF m 200 #[rv a0, rv a1, iv p2, iv p3, iv 1, iv 1, iv 0, iv p2, iv 1, .unset, .unset] [(.int 0), (.ref a0)])) rfl rfl (hb hby d4_200)
    refine own_via (fun k => st109 _ k) ?_
    show own_Go p e below s _ _ (T109.setTop (mkF m 203 #[rv a0, rv a1, iv p2, iv p3, iv 1, iv 1, iv 0, iv p2, iv 1, .unset, .unset] []))
    have B110 := B99.other W109 (Or.inr (slot_ne (Or.inr (hw _ (List.mem_of_getElem? (i := 15) rfl))) (Or.inl (hw _ (List.mem_of_getElem? (i := 19) rfl))) (by decide) (t := .boolean) (t' := .boolean) (by decide) (by decide)))
    have B111 := B100.other W109 (Or.inr (slot_ne (Or.inl (hw _ (List.mem_of_getElem? (i := 17) rfl))) (Or.inl (hw _ (List.mem_of_getElem? (i := 19) rfl))) (by decide) (t := .boolean) (t' := .boolean) (by decide) (by decide)))
    have B112 := B102.wr W109
    have B113 := B103.other W109 nx0
    have B114 := B104.other W109 (Or.inr (slot_ne (Or.inl (hw _ (List.mem_of_getElem? (i := 21) rfl))) (Or.inl (hw _ (List.mem_of_getElem? (i := 19) rfl))) (by decide) (t := .int) (t' := .boolean) (by decide) (by decide)))
    have B115 := B105.other W109 (Or.inr (slot_ne (Or.inl (hw _ (List.mem_of_getElem? (i := 23) rfl))) (Or.inl (hw _ (List.mem_of_getElem? (i := 19) rfl))) (by decide) (t := .int) (t' := .boolean) (by decide) (by decide)))
    have B116 : Fld Z h109 a0 "com/example/tree_to_rows/treetorows/xml/DocumentPlace" "afterCarriageReturn" "Z" (.int 0) := B101.same W109
    have N117 := Fr.snoc X109 N106 ge0
    have K118 : Keep h0 h109 [a0] := K107.wr W109 (Or.inl (List.mem_of_getElem? (i := 0) rfl))
    have Z119 : n0 ≤ h109.size := Nat.le_trans Z108 (Keep.of_wr W109).1
    refine own_via (fun k => XS.aloadN X109.here hx rfl (hb hby d4_203) rfl rfl  (XS.dup X109.here hx rfl (hb hby d4_204) rfl rfl k)) ?_
    show own_Go p e below s _ _ (T109.setTop (mkF m 205 #[rv a0, rv a1, iv p2, iv p3, iv 1, iv 1, iv 0, iv p2, iv 1, .unset, .unset] [(.ref a0), (.ref a0)]))
    obtain ⟨T120, X120, e120, st120⟩ := getF X109 hx hZ hown (host := "") (Or.inl (hw _ (List.mem_of_getElem? (i := 16) rfl))) Via.refl e109 B111 (g := (mkF m 205 #[rv a0, rv a1, iv p2, iv p3, iv 1, iv 1, iv 0, iv p2, iv 1, .unset, .unset] [(.ref a0), (.ref a0)])) rfl rfl (hb hby d4_205)
    refine own_via (fun k => st120 _ k) ?_
    show own_Go p e below s _ _ (T120.setTop (mkF m 208 #[rv a0, rv a1, iv p2, iv p3, iv 1, iv 1, iv 0, iv p2, iv 1, .unset, .unset] [(.int 1), (.ref a0)]))
    refine own_via (fun k => XS.iload X120.here hx rfl (hb hby d4_208) rfl  (XS.iloadN X120.here hx rfl (hb hby d4_210) rfl  k)) ?_
    show own_Go p e below s _ _ (T120.setTop (mkF m 211 #[rv a0, rv a1, iv p2, iv p3, iv 1, iv 1, iv 0, iv p2, iv 1, .unset, .unset] [(.int p2), (.int p2), (.int 1), (.ref a0)]))
    refine own_via (fun k => XS.icmpNo X120.here hx rfl (hb hby d4_211) rfl (teq (rfl)).2 k) ?_
    show own_Go p e below s _ _ (T120.setTop (mkF m 214 #[rv a0, rv a1, iv p2, iv p3, iv 1, iv 1, iv 0, iv p2, iv 1, .unset, .unset] [(.int 1), (.ref a0)]))
    refine own_via (fun k => XS.iconst X120.here hx rfl (hb hby d4_214) (XS.goto X120.here hx rfl (pc0 := 215) (pc' := 219) rfl (hb hby d4_215) (by decide) (by decide) (XS.iand X120.here hx rfl (hb hby d4_219) rfl k))) ?_
    show own_Go p e below s _ _ (T120.setTop (mkF m 220 #[rv a0, rv a1, iv p2, iv p3, iv 1, iv 1, iv 0, iv p2, iv 1, .unset, .unset] [(.int 1), (.ref a0)]))
    obtain ⟨T121, h121, X121, e121, W121, st121⟩ := putFN X120 hx hZ hown (hw _ (List.mem_of_getElem? (i := 16) rfl)) Via.refl e120 B111 B112 (Or.inl (hw _ (List.mem_of_getElem? (i := 17) rfl))) (hw _ (List.mem_of_getElem? (i := 6) rfl)) (ty := .boolean) (v := (.int 1)) (v' := (.int (1 : Int32))) (by decide) rfl (by decide) (g := (mkF m 220 #[rv a0, rv a1, iv p2, iv p3, iv 1, iv 1, iv 0, iv p2, iv 1, .unset, .unset] [(.int 1), (.ref a0)])) rfl rfl (hb hby d4_220)
    refine own_via (fun k => st121 _ k) ?_
    show own_Go p e below s _ _ (T121.setTop (mkF m 223 #[rv a0, rv a1, iv p2, iv p3, iv 1, iv 1, iv 0, iv p2, iv 1, .unset, .unset] []))
    have B122 := B110.other W121 (Or.inr (slot_ne (Or.inr (hw _ (List.mem_of_getElem? (i := 15) rfl))) (Or.inl (hw _ (List.mem_of_getElem? (i := 17) rfl))) (by decide) (t := .boolean) (t' := .boolean) (by decide) (by decide)))
    have B123 := B112.wr W121
    have B124 := B113.other W121 nx0
    have B125 := B114.other W121 (Or.inr (slot_ne (Or.inl (hw _ (List.mem_of_getElem? (i := 21) rfl))) (Or.inl (hw _ (List.mem_of_getElem? (i := 17) rfl))) (by decide) (t := .int) (t' := .boolean) (by decide) (by decide)))
    have B126 := B115.other W121 (Or.inr (slot_ne (Or.inl (hw _ (List.mem_of_getElem? (i := 23) rfl))) (Or.inl (hw _ (List.mem_of_getElem? (i := 17) rfl))) (by decide) (t := .int) (t' := .boolean) (by decide) (by decide)))
    have B127 := B116.other W121 (Or.inr (slot_ne (Or.inl (hw _ (List.mem_of_getElem? (i := 19) rfl))) (Or.inl (hw _ (List.mem_of_getElem? (i := 17) rfl))) (by decide) (t := .boolean) (t' := .boolean) (by decide) (by decide)))
    have B128 : Fld Z h121 a0 "com/example/tree_to_rows/treetorows/xml/DocumentPlace" "firstCharacter" "Z" (.int 1) := B111.same W121
    have N129 := Fr.snoc X121 N117 ge0
    have K130 : Keep h0 h121 [a0] := K118.wr W121 (Or.inl (List.mem_of_getElem? (i := 0) rfl))
    have Z131 : n0 ≤ h121.size := Nat.le_trans Z119 (Keep.of_wr W121).1
    refine own_via (fun k => XS.iload X121.here hx rfl (hb hby d4_223) rfl  k) ?_
    show own_Go p e below s _ _ (T121.setTop (mkF m 225 #[rv a0, rv a1, iv p2, iv p3, iv 1, iv 1, iv 0, iv p2, iv 1, .unset, .unset] [(.int p2)]))
    exact own_retI X121 hx hlk Bd.returns (hb hby d4_225) (Q := (Q4 Z a0 a1 p2 p3 x11 k vs g h0 n0)) ⟨(congrArg (fun z => some (Value.int z)) (show p2 = (own_rn g p3 p2 (0 : Int32) (1 : Int32) (1 : Int32)).2.2.2 from (congrArg (fun q => q.2.2.2) (own_rn_end hn).symm))), N129, (by rw [e121]; exact K130), (by rw [e121]; exact B122), (by rw [e121]; exact own_fldI (by rw [← (own_rn_end hn).symm]; exact (if_pos rfl).symm) B128), (by rw [e121]; exact own_fldI (congrArg (fun q => q.1) (own_rn_end hn).symm) B127), (by rw [e121]; exact own_fldI (congrArg (fun q => q.2.1) (own_rn_end hn).symm) B125), (by rw [e121]; exact own_fldI (congrArg (fun q => q.2.2.1) (own_rn_end hn).symm) B126)⟩ (by decide) (by decide)
theorem d5_0 : decode prog_92_method_5_code 0 = .ok (.aload_n 0, 1) := by decide +kernel
theorem d5_1 : decode prog_92_method_5_code 1 = .ok (.getfield 19, 3) := by decide +kernel
theorem d5_4 : decode prog_92_method_5_code 4 = .ok (.ireturn, 1) := by decide +kernel
theorem pn_5 : plainName "com/example/tree_to_rows/treetorows/xml/DocumentPlace" = true := by first | (simp [plainName, overriddenIn]; done) | decide +kernel
theorem ef_5 (m : MethodId) (x0 : Addr) : entryFrame m #[(.ref x0)] 1 = mkF m 0 #[rv x0] [] := by first | (simp [entryFrame, mkF, argsToLocals, Value.category]; done) | rfl
def Q5 (Z : State) (a0 : Addr) (ln : Int32) (h0 : Heap) (n0 : Nat) (v : Option Value) (h : Heap) (L : List Loc) : Prop := v = some (.int ln) ∧ Fr n0 L ∧ h = h0
set_option maxRecDepth 65536 in
set_option maxHeartbeats 40000000 in
theorem rm5 (l : Launch) (Z : State) (aw : Array Value) (hw : ∀ d ∈ tables_1, d.before aw Z = true) (ws : List Jvm.Cond) (a0 : Addr) (ln : Int32) (h0 : Heap) (n0 : Nat) (Z0 : n0 ≤ h0.size) (P0 : Fld Z h0 a0 "com/example/tree_to_rows/treetorows/xml/DocumentPlace" "line" "I" (.int ln)) :
    MetFree l (⟨"com/example/tree_to_rows/treetorows/xml/DocumentPlace", "line", "()I"⟩ : MethodName) (head1 (Jvm.Cond.code (⟨"com/example/tree_to_rows/treetorows/xml/DocumentPlace", "line", "()I"⟩ : MethodName) prog_92_method_5_code 1 (some .int) :: ws) ({ frames := 0, cells := 0, slots := 0, locals := 0 } : Room)) (fun a U => a = #[(.ref a0)] ∧ Z.Warmed39 U.vm ∧ U.heap = h0) (fun _ _ _ _ _ => True) (fun _ U o U' => ∃ v L, o = .returned v ∧ Q5 Z a0 ln h0 n0 v U'.heap L ∧ FrameEnd U o U' L ({ frames := 0, cells := 0, slots := 0, locals := 0 } : Room).cells ({ frames := 0, cells := 0, slots := 0, locals := 0 } : Room).slots) := by
  refine MetFree.of_bodySF (plainFor_of_name pn_5) hisR ?_
  intro p e s m args below meth c s₁ Bd hml0 hP hK
  obtain ⟨rfl, hZ, hh⟩ := hP
  have hx := Bd.exec
  have hby := Bd.bytes
  have hml : c.maxLocals = 1 := hml0
  have hown : s.vm.findClass "com/example/tree_to_rows/treetorows/xml/DocumentPlace" = some m.cls := findClass_of_methodNamed Bd.named
  have hnm := (name_of_methodNamed Bd.named Bd.method).1
  have hlk : meth.locks = false := by first | exact BodyLoose.notSynchronized (by assumption) | exact Body.notSynchronized (by assumption)
  have X0 : Stand p l e ({ frames := 0, cells := 0, slots := 0, locals := 0 } : Room) s m #[(.ref a0)] below meth c s₁ [] 0 0 := Stand.of_body Bd
  have e0 : s₁.heap = h0 := by rw [← hh, Bd.state]; rfl
  have N0 := Fr.nil n0
  have K0 : Keep h0 h0 [] := Keep.refl _ _
  refine own_start (CS := (0, 0)) (Q := (Q5 Z a0 ln h0 n0)) (ef_5 m a0) ?_
  show own_Go p e below s _ _ (s₁.setTop (mkF m 0 #[rv a0] []))
  refine own_via (fun k => XS.aloadN X0.here hx rfl (hb hby d5_0) rfl rfl  k) ?_
  show own_Go p e below s _ _ (s₁.setTop (mkF m 1 #[rv a0] [(.ref a0)]))
  obtain ⟨T1, X1, e1, st1⟩ := getF X0 hx hZ hown (host := "") (Or.inl (hw _ (List.mem_of_getElem? (i := 20) rfl))) Via.refl e0 P0 (g := (mkF m 1 #[rv a0] [(.ref a0)])) rfl rfl (hb hby d5_1)
  refine own_via (fun k => st1 _ k) ?_
  show own_Go p e below s _ _ (T1.setTop (mkF m 4 #[rv a0] [(.int ln)]))
  exact own_retI X1 hx hlk Bd.returns (hb hby d5_4) (Q := (Q5 Z a0 ln h0 n0)) ⟨rfl, N0, e1⟩ (by decide) (by decide)
theorem d6_0 : decode prog_92_method_6_code 0 = .ok (.aload_n 0, 1) := by decide +kernel
theorem d6_1 : decode prog_92_method_6_code 1 = .ok (.getfield 23, 3) := by decide +kernel
theorem d6_4 : decode prog_92_method_6_code 4 = .ok (.ireturn, 1) := by decide +kernel
theorem pn_6 : plainName "com/example/tree_to_rows/treetorows/xml/DocumentPlace" = true := by first | (simp [plainName, overriddenIn]; done) | decide +kernel
theorem ef_6 (m : MethodId) (x0 : Addr) : entryFrame m #[(.ref x0)] 1 = mkF m 0 #[rv x0] [] := by first | (simp [entryFrame, mkF, argsToLocals, Value.category]; done) | rfl
def Q6 (Z : State) (a0 : Addr) (cl : Int32) (h0 : Heap) (n0 : Nat) (v : Option Value) (h : Heap) (L : List Loc) : Prop := v = some (.int cl) ∧ Fr n0 L ∧ h = h0
set_option maxRecDepth 65536 in
set_option maxHeartbeats 40000000 in
theorem rm6 (l : Launch) (Z : State) (aw : Array Value) (hw : ∀ d ∈ tables_1, d.before aw Z = true) (ws : List Jvm.Cond) (a0 : Addr) (cl : Int32) (h0 : Heap) (n0 : Nat) (Z0 : n0 ≤ h0.size) (P0 : Fld Z h0 a0 "com/example/tree_to_rows/treetorows/xml/DocumentPlace" "column" "I" (.int cl)) :
    MetFree l (⟨"com/example/tree_to_rows/treetorows/xml/DocumentPlace", "column", "()I"⟩ : MethodName) (head1 (Jvm.Cond.code (⟨"com/example/tree_to_rows/treetorows/xml/DocumentPlace", "column", "()I"⟩ : MethodName) prog_92_method_6_code 1 (some .int) :: ws) ({ frames := 0, cells := 0, slots := 0, locals := 0 } : Room)) (fun a U => a = #[(.ref a0)] ∧ Z.Warmed39 U.vm ∧ U.heap = h0) (fun _ _ _ _ _ => True) (fun _ U o U' => ∃ v L, o = .returned v ∧ Q6 Z a0 cl h0 n0 v U'.heap L ∧ FrameEnd U o U' L ({ frames := 0, cells := 0, slots := 0, locals := 0 } : Room).cells ({ frames := 0, cells := 0, slots := 0, locals := 0 } : Room).slots) := by
  refine MetFree.of_bodySF (plainFor_of_name pn_6) hisR ?_
  intro p e s m args below meth c s₁ Bd hml0 hP hK
  obtain ⟨rfl, hZ, hh⟩ := hP
  have hx := Bd.exec
  have hby := Bd.bytes
  have hml : c.maxLocals = 1 := hml0
  have hown : s.vm.findClass "com/example/tree_to_rows/treetorows/xml/DocumentPlace" = some m.cls := findClass_of_methodNamed Bd.named
  have hnm := (name_of_methodNamed Bd.named Bd.method).1
  have hlk : meth.locks = false := by first | exact BodyLoose.notSynchronized (by assumption) | exact Body.notSynchronized (by assumption)
  have X0 : Stand p l e ({ frames := 0, cells := 0, slots := 0, locals := 0 } : Room) s m #[(.ref a0)] below meth c s₁ [] 0 0 := Stand.of_body Bd
  have e0 : s₁.heap = h0 := by rw [← hh, Bd.state]; rfl
  have N0 := Fr.nil n0
  have K0 : Keep h0 h0 [] := Keep.refl _ _
  refine own_start (CS := (0, 0)) (Q := (Q6 Z a0 cl h0 n0)) (ef_6 m a0) ?_
  show own_Go p e below s _ _ (s₁.setTop (mkF m 0 #[rv a0] []))
  refine own_via (fun k => XS.aloadN X0.here hx rfl (hb hby d6_0) rfl rfl  k) ?_
  show own_Go p e below s _ _ (s₁.setTop (mkF m 1 #[rv a0] [(.ref a0)]))
  obtain ⟨T1, X1, e1, st1⟩ := getF X0 hx hZ hown (host := "") (Or.inl (hw _ (List.mem_of_getElem? (i := 22) rfl))) Via.refl e0 P0 (g := (mkF m 1 #[rv a0] [(.ref a0)])) rfl rfl (hb hby d6_1)
  refine own_via (fun k => st1 _ k) ?_
  show own_Go p e below s _ _ (T1.setTop (mkF m 4 #[rv a0] [(.int cl)]))
  exact own_retI X1 hx hlk Bd.returns (hb hby d6_4) (Q := (Q6 Z a0 cl h0 n0)) ⟨rfl, N0, e1⟩ (by decide) (by decide)
theorem d7_0 : decode prog_92_method_2_code 0 = .ok (.aload_n 0, 1) := by decide +kernel
theorem d7_1 : decode prog_92_method_2_code 1 = .ok (.getfield 13, 3) := by decide +kernel
theorem d7_4 : decode prog_92_method_2_code 4 = .ok (.ifCond .eq 13, 3) := by decide +kernel
theorem d7_7 : decode prog_92_method_2_code 7 = .ok (.iload_n 1, 1) := by decide +kernel
theorem d7_8 : decode prog_92_method_2_code 8 = .ok (.ldc 26, 2) := by decide +kernel
theorem d7_10 : decode prog_92_method_2_code 10 = .ok (.if_icmp .ne 7, 3) := by decide +kernel
theorem d7_13 : decode prog_92_method_2_code 13 = .ok (.iconst 1, 1) := by decide +kernel
theorem d7_14 : decode prog_92_method_2_code 14 = .ok (.goto 4, 3) := by decide +kernel
theorem d7_17 : decode prog_92_method_2_code 17 = .ok (.iconst 0, 1) := by decide +kernel
theorem d7_18 : decode prog_92_method_2_code 18 = .ok (.istore_n 2, 1) := by decide +kernel
theorem d7_19 : decode prog_92_method_2_code 19 = .ok (.aload_n 0, 1) := by decide +kernel
theorem d7_20 : decode prog_92_method_2_code 20 = .ok (.iconst 0, 1) := by decide +kernel
theorem d7_21 : decode prog_92_method_2_code 21 = .ok (.putfield 13, 3) := by decide +kernel
theorem d7_24 : decode prog_92_method_2_code 24 = .ok (.iload_n 2, 1) := by decide +kernel
theorem d7_25 : decode prog_92_method_2_code 25 = .ok (.ifCond .ne 132, 3) := by decide +kernel
theorem d7_28 : decode prog_92_method_2_code 28 = .ok (.iload_n 1, 1) := by decide +kernel
theorem d7_29 : decode prog_92_method_2_code 29 = .ok (.bipush 13, 2) := by decide +kernel
theorem d7_31 : decode prog_92_method_2_code 31 = .ok (.if_icmp .eq 30, 3) := by decide +kernel
theorem d7_34 : decode prog_92_method_2_code 34 = .ok (.iload_n 1, 1) := by decide +kernel
theorem d7_35 : decode prog_92_method_2_code 35 = .ok (.bipush 10, 2) := by decide +kernel
theorem d7_37 : decode prog_92_method_2_code 37 = .ok (.if_icmp .eq 24, 3) := by decide +kernel
theorem d7_40 : decode prog_92_method_2_code 40 = .ok (.aload_n 0, 1) := by decide +kernel
theorem d7_41 : decode prog_92_method_2_code 41 = .ok (.getfield 7, 3) := by decide +kernel
theorem d7_44 : decode prog_92_method_2_code 44 = .ok (.ifCond .eq 21, 3) := by decide +kernel
theorem d7_47 : decode prog_92_method_2_code 47 = .ok (.iload_n 1, 1) := by decide +kernel
theorem d7_48 : decode prog_92_method_2_code 48 = .ok (.sipush 133, 3) := by decide +kernel
theorem d7_51 : decode prog_92_method_2_code 51 = .ok (.if_icmp .eq 10, 3) := by decide +kernel
theorem d7_54 : decode prog_92_method_2_code 54 = .ok (.iload_n 1, 1) := by decide +kernel
theorem d7_55 : decode prog_92_method_2_code 55 = .ok (.sipush 8232, 3) := by decide +kernel
theorem d7_58 : decode prog_92_method_2_code 58 = .ok (.if_icmp .ne 7, 3) := by decide +kernel
theorem d7_61 : decode prog_92_method_2_code 61 = .ok (.iconst 1, 1) := by decide +kernel
theorem d7_62 : decode prog_92_method_2_code 62 = .ok (.goto 4, 3) := by decide +kernel
theorem d7_65 : decode prog_92_method_2_code 65 = .ok (.iconst 0, 1) := by decide +kernel
theorem d7_66 : decode prog_92_method_2_code 66 = .ok (.istore_n 3, 1) := by decide +kernel
theorem d7_67 : decode prog_92_method_2_code 67 = .ok (.aload_n 0, 1) := by decide +kernel
theorem d7_68 : decode prog_92_method_2_code 68 = .ok (.getfield 16, 3) := by decide +kernel
theorem d7_71 : decode prog_92_method_2_code 71 = .ok (.ifCond .eq 27, 3) := by decide +kernel
theorem d7_74 : decode prog_92_method_2_code 74 = .ok (.iload_n 1, 1) := by decide +kernel
theorem d7_75 : decode prog_92_method_2_code 75 = .ok (.bipush 10, 2) := by decide +kernel
theorem d7_77 : decode prog_92_method_2_code 77 = .ok (.if_icmp .eq 17, 3) := by decide +kernel
theorem d7_80 : decode prog_92_method_2_code 80 = .ok (.aload_n 0, 1) := by decide +kernel
theorem d7_81 : decode prog_92_method_2_code 81 = .ok (.getfield 7, 3) := by decide +kernel
theorem d7_84 : decode prog_92_method_2_code 84 = .ok (.ifCond .eq 14, 3) := by decide +kernel
theorem d7_87 : decode prog_92_method_2_code 87 = .ok (.iload_n 1, 1) := by decide +kernel
theorem d7_88 : decode prog_92_method_2_code 88 = .ok (.sipush 133, 3) := by decide +kernel
theorem d7_91 : decode prog_92_method_2_code 91 = .ok (.if_icmp .ne 7, 3) := by decide +kernel
theorem d7_94 : decode prog_92_method_2_code 94 = .ok (.iconst 1, 1) := by decide +kernel
theorem d7_95 : decode prog_92_method_2_code 95 = .ok (.goto 4, 3) := by decide +kernel
theorem d7_98 : decode prog_92_method_2_code 98 = .ok (.iconst 0, 1) := by decide +kernel
theorem d7_99 : decode prog_92_method_2_code 99 = .ok (.istore 4, 2) := by decide +kernel
theorem d7_101 : decode prog_92_method_2_code 101 = .ok (.iload_n 3, 1) := by decide +kernel
theorem d7_102 : decode prog_92_method_2_code 102 = .ok (.ifCond .eq 26, 3) := by decide +kernel
theorem d7_105 : decode prog_92_method_2_code 105 = .ok (.iload 4, 2) := by decide +kernel
theorem d7_107 : decode prog_92_method_2_code 107 = .ok (.ifCond .ne 21, 3) := by decide +kernel
theorem d7_110 : decode prog_92_method_2_code 110 = .ok (.aload_n 0, 1) := by decide +kernel
theorem d7_111 : decode prog_92_method_2_code 111 = .ok (.dup, 1) := by decide +kernel
theorem d7_112 : decode prog_92_method_2_code 112 = .ok (.getfield 19, 3) := by decide +kernel
theorem d7_115 : decode prog_92_method_2_code 115 = .ok (.iconst 1, 1) := by decide +kernel
theorem d7_116 : decode prog_92_method_2_code 116 = .ok (.iadd, 1) := by decide +kernel
theorem d7_117 : decode prog_92_method_2_code 117 = .ok (.putfield 19, 3) := by decide +kernel
theorem d7_120 : decode prog_92_method_2_code 120 = .ok (.aload_n 0, 1) := by decide +kernel
theorem d7_121 : decode prog_92_method_2_code 121 = .ok (.iconst 1, 1) := by decide +kernel
theorem d7_122 : decode prog_92_method_2_code 122 = .ok (.putfield 23, 3) := by decide +kernel
theorem d7_125 : decode prog_92_method_2_code 125 = .ok (.goto 17, 3) := by decide +kernel
theorem d7_128 : decode prog_92_method_2_code 128 = .ok (.iload_n 3, 1) := by decide +kernel
theorem d7_129 : decode prog_92_method_2_code 129 = .ok (.ifCond .ne 13, 3) := by decide +kernel
theorem d7_132 : decode prog_92_method_2_code 132 = .ok (.aload_n 0, 1) := by decide +kernel
theorem d7_133 : decode prog_92_method_2_code 133 = .ok (.dup, 1) := by decide +kernel
theorem d7_134 : decode prog_92_method_2_code 134 = .ok (.getfield 23, 3) := by decide +kernel
theorem d7_137 : decode prog_92_method_2_code 137 = .ok (.iconst 1, 1) := by decide +kernel
theorem d7_138 : decode prog_92_method_2_code 138 = .ok (.iadd, 1) := by decide +kernel
theorem d7_139 : decode prog_92_method_2_code 139 = .ok (.putfield 23, 3) := by decide +kernel
theorem d7_142 : decode prog_92_method_2_code 142 = .ok (.aload_n 0, 1) := by decide +kernel
theorem d7_143 : decode prog_92_method_2_code 143 = .ok (.iload_n 1, 1) := by decide +kernel
theorem d7_144 : decode prog_92_method_2_code 144 = .ok (.bipush 13, 2) := by decide +kernel
theorem d7_146 : decode prog_92_method_2_code 146 = .ok (.if_icmp .ne 7, 3) := by decide +kernel
theorem d7_149 : decode prog_92_method_2_code 149 = .ok (.iconst 1, 1) := by decide +kernel
theorem d7_150 : decode prog_92_method_2_code 150 = .ok (.goto 4, 3) := by decide +kernel
theorem d7_153 : decode prog_92_method_2_code 153 = .ok (.iconst 0, 1) := by decide +kernel
theorem d7_154 : decode prog_92_method_2_code 154 = .ok (.putfield 16, 3) := by decide +kernel
theorem d7_157 : decode prog_92_method_2_code 157 = .ok (.return_, 1) := by decide +kernel
theorem pn_7 : plainName "com/example/tree_to_rows/treetorows/xml/DocumentPlace" = true := by first | (simp [plainName, overriddenIn]; done) | decide +kernel
theorem ef_7 (m : MethodId) (x0 : Addr) (x1 : Int32) : entryFrame m #[(.ref x0), (.int x1)] 5 = mkF m 0 #[rv x0, iv x1, .unset, .unset, .unset] [] := by first | (simp [entryFrame, mkF, argsToLocals, Value.category]; done) | rfl
def own_f7a (p1 : Int32) (x11 : Int32) (fc : Int32) (acr : Int32) : Int32 := (let z2 : Int32 := (if fc = (0 : Int32) then (0 : Int32) else (if p1 = (65279 : Int32) then (1 : Int32) else (0 : Int32))); (if z2 = (0 : Int32) then (let z16 : Int32 := (if p1 = (13 : Int32) then (1 : Int32) else (if p1 = (10 : Int32) then (1 : Int32) else (if x11 = (0 : Int32) then (0 : Int32) else (if p1 = (133 : Int32) then (1 : Int32) else (if p1 = (8232 : Int32) then (1 : Int32) else (0 : Int32)))))); (let z20 : Int32 := (if acr = (0 : Int32) then (0 : Int32) else (if p1 = (10 : Int32) then (1 : Int32) else (if x11 = (0 : Int32) then (0 : Int32) else (if p1 = (133 : Int32) then (1 : Int32) else (0 : Int32))))); (if z16 = (0 : Int32) then (if p1 = (13 : Int32) then (1 : Int32) else (0 : Int32)) else (if z20 = (0 : Int32) then (if p1 = (13 : Int32) then (1 : Int32) else (0 : Int32)) else (if p1 = (13 : Int32) then (1 : Int32) else (0 : Int32)))))) else acr))
def own_f7l (p1 : Int32) (x11 : Int32) (fc : Int32) (acr : Int32) (ln : Int32) : Int32 := (let z2 : Int32 := (if fc = (0 : Int32) then (0 : Int32) else (if p1 = (65279 : Int32) then (1 : Int32) else (0 : Int32))); (if z2 = (0 : Int32) then (let z16 : Int32 := (if p1 = (13 : Int32) then (1 : Int32) else (if p1 = (10 : Int32) then (1 : Int32) else (if x11 = (0 : Int32) then (0 : Int32) else (if p1 = (133 : Int32) then (1 : Int32) else (if p1 = (8232 : Int32) then (1 : Int32) else (0 : Int32)))))); (let z20 : Int32 := (if acr = (0 : Int32) then (0 : Int32) else (if p1 = (10 : Int32) then (1 : Int32) else (if x11 = (0 : Int32) then (0 : Int32) else (if p1 = (133 : Int32) then (1 : Int32) else (0 : Int32))))); (if z16 = (0 : Int32) then (if p1 = (13 : Int32) then ln else ln) else (if z20 = (0 : Int32) then (if p1 = (13 : Int32) then (ln + (1 : Int32)) else (ln + (1 : Int32))) else (if p1 = (13 : Int32) then ln else ln))))) else ln))
def own_f7k (p1 : Int32) (x11 : Int32) (fc : Int32) (acr : Int32) (cl : Int32) : Int32 := (let z2 : Int32 := (if fc = (0 : Int32) then (0 : Int32) else (if p1 = (65279 : Int32) then (1 : Int32) else (0 : Int32))); (if z2 = (0 : Int32) then (let z16 : Int32 := (if p1 = (13 : Int32) then (1 : Int32) else (if p1 = (10 : Int32) then (1 : Int32) else (if x11 = (0 : Int32) then (0 : Int32) else (if p1 = (133 : Int32) then (1 : Int32) else (if p1 = (8232 : Int32) then (1 : Int32) else (0 : Int32)))))); (let z20 : Int32 := (if acr = (0 : Int32) then (0 : Int32) else (if p1 = (10 : Int32) then (1 : Int32) else (if x11 = (0 : Int32) then (0 : Int32) else (if p1 = (133 : Int32) then (1 : Int32) else (0 : Int32))))); (if z16 = (0 : Int32) then (if p1 = (13 : Int32) then (cl + (1 : Int32)) else (cl + (1 : Int32))) else (if z20 = (0 : Int32) then (if p1 = (13 : Int32) then (1 : Int32) else (1 : Int32)) else (if p1 = (13 : Int32) then cl else cl))))) else cl))
def Q7 (Z : State) (a0 : Addr) (p1 : Int32) (x11 : Int32) (fc : Int32) (acr : Int32) (ln : Int32) (cl : Int32) (h0 : Heap) (n0 : Nat) (v : Option Value) (h : Heap) (L : List Loc) : Prop := v = none ∧ Fr n0 L ∧ Keep h0 h [a0] ∧ Fld Z h a0 "com/example/tree_to_rows/treetorows/xml/DocumentPlace" "xml11" "Z" (.int x11) ∧ Fld Z h a0 "com/example/tree_to_rows/treetorows/xml/DocumentPlace" "firstCharacter" "Z" (.int 0) ∧ Fld Z h a0 "com/example/tree_to_rows/treetorows/xml/DocumentPlace" "afterCarriageReturn" "Z" (.int (own_f7a p1 x11 fc acr)) ∧ Fld Z h a0 "com/example/tree_to_rows/treetorows/xml/DocumentPlace" "line" "I" (.int (own_f7l p1 x11 fc acr ln)) ∧ Fld Z h a0 "com/example/tree_to_rows/treetorows/xml/DocumentPlace" "column" "I" (.int (own_f7k p1 x11 fc acr cl))
set_option maxRecDepth 65536 in
set_option maxHeartbeats 40000000 in
theorem rm7 (l : Launch) (Z : State) (aw : Array Value) (hw : ∀ d ∈ tables_1, d.before aw Z = true) (ws : List Jvm.Cond) (a0 : Addr) (p1 : Int32) (x11 : Int32) (fc : Int32) (acr : Int32) (ln : Int32) (cl : Int32) (h0 : Heap) (n0 : Nat) (Z0 : n0 ≤ h0.size) (P0 : Fld Z h0 a0 "com/example/tree_to_rows/treetorows/xml/DocumentPlace" "xml11" "Z" (.int x11)) (P1 : Fld Z h0 a0 "com/example/tree_to_rows/treetorows/xml/DocumentPlace" "firstCharacter" "Z" (.int fc)) (P2 : Fld Z h0 a0 "com/example/tree_to_rows/treetorows/xml/DocumentPlace" "afterCarriageReturn" "Z" (.int acr)) (P3 : Fld Z h0 a0 "com/example/tree_to_rows/treetorows/xml/DocumentPlace" "line" "I" (.int ln)) (P4 : Fld Z h0 a0 "com/example/tree_to_rows/treetorows/xml/DocumentPlace" "column" "I" (.int cl)) (P5 : Exa Z h0 a0 "com/example/tree_to_rows/treetorows/xml/DocumentPlace") (ge0 : n0 ≤ a0) :
    MetFree l (⟨"com/example/tree_to_rows/treetorows/xml/DocumentPlace", "pass", "(C)V"⟩ : MethodName) (head1 (Jvm.Cond.code (⟨"com/example/tree_to_rows/treetorows/xml/DocumentPlace", "pass", "(C)V"⟩ : MethodName) prog_92_method_2_code 5 none :: ws) ({ frames := 0, cells := 0, slots := 0, locals := 0 } : Room)) (fun a U => a = #[(.ref a0), (.int p1)] ∧ Z.Warmed39 U.vm ∧ U.heap = h0) (fun _ _ _ _ _ => True) (fun _ U o U' => ∃ v L, o = .returned v ∧ Q7 Z a0 p1 x11 fc acr ln cl h0 n0 v U'.heap L ∧ FrameEnd U o U' L ({ frames := 0, cells := 0, slots := 0, locals := 0 } : Room).cells ({ frames := 0, cells := 0, slots := 0, locals := 0 } : Room).slots) := by
  refine MetFree.of_bodySF (plainFor_of_name pn_7) hisR ?_
  intro p e s m args below meth c s₁ Bd hml0 hP hK
  obtain ⟨rfl, hZ, hh⟩ := hP
  have hx := Bd.exec
  have hby := Bd.bytes
  have hml : c.maxLocals = 5 := hml0
  have hown : s.vm.findClass "com/example/tree_to_rows/treetorows/xml/DocumentPlace" = some m.cls := findClass_of_methodNamed Bd.named
  have hnm := (name_of_methodNamed Bd.named Bd.method).1
  have hlk : meth.locks = false := by first | exact BodyLoose.notSynchronized (by assumption) | exact Body.notSynchronized (by assumption)
  have X0 : Stand p l e ({ frames := 0, cells := 0, slots := 0, locals := 0 } : Room) s m #[(.ref a0), (.int p1)] below meth c s₁ [] 0 0 := Stand.of_body Bd
  have e0 : s₁.heap = h0 := by rw [← hh, Bd.state]; rfl
  have N0 := Fr.nil n0
  have K0 : Keep h0 h0 [a0] := Keep.refl _ _
  refine own_start (CS := (0, 0)) (Q := (Q7 Z a0 p1 x11 fc acr ln cl h0 n0)) (ef_7 m a0 p1) ?_
  show own_Go p e below s _ _ (s₁.setTop (mkF m 0 #[rv a0, iv p1, .unset, .unset, .unset] []))
  refine own_via (fun k => XS.aloadN X0.here hx rfl (hb hby d7_0) rfl rfl  k) ?_
  show own_Go p e below s _ _ (s₁.setTop (mkF m 1 #[rv a0, iv p1, .unset, .unset, .unset] [(.ref a0)]))
  obtain ⟨T1, X1, e1, st1⟩ := getF X0 hx hZ hown (host := "") (Or.inl (hw _ (List.mem_of_getElem? (i := 16) rfl))) Via.refl e0 P1 (g := (mkF m 1 #[rv a0, iv p1, .unset, .unset, .unset] [(.ref a0)])) rfl rfl (hb hby d7_1)
  refine own_via (fun k => st1 _ k) ?_
  show own_Go p e below s _ _ (T1.setTop (mkF m 4 #[rv a0, iv p1, .unset, .unset, .unset] [(.int fc)]))
  have J3 : ∀ (z2 : Int32), z2 = (if fc = (0 : Int32) then (0 : Int32) else (if p1 = (65279 : Int32) then (1 : Int32) else (0 : Int32))) → own_Go p e below s (Q7 Z a0 p1 x11 fc acr ln cl h0 n0) (0, 0) (T1.setTop (mkF m 18 #[rv a0, iv p1, .unset, .unset, .unset] [(.int z2)])) := by
    intro z2 hz2
    refine own_via (fun k => XS.istoreN X1.here hx rfl (hb hby d7_18) rfl (l' := #[rv a0, iv p1, iv z2, .unset, .unset]) rfl (XS.aloadN X1.here hx rfl (hb hby d7_19) rfl rfl  (XS.iconst X1.here hx rfl (hb hby d7_20) k))) ?_
    show own_Go p e below s _ _ (T1.setTop (mkF m 21 #[rv a0, iv p1, iv z2, .unset, .unset] [(.int 0), (.ref a0)]))
    obtain ⟨T4, h4, X4, e4, W4, st4⟩ := putFN X1 hx hZ hown (hw _ (List.mem_of_getElem? (i := 16) rfl)) Via.refl e1 P1 P5 (Or.inl (hw _ (List.mem_of_getElem? (i := 17) rfl))) (hw _ (List.mem_of_getElem? (i := 6) rfl)) (ty := .boolean) (v := (.int 0)) (v' := (.int (0 : Int32))) (by decide) rfl (by decide) (g := (mkF m 21 #[rv a0, iv p1, iv z2, .unset, .unset] [(.int 0), (.ref a0)])) rfl rfl (hb hby d7_21)
    refine own_via (fun k => st4 _ k) ?_
    show own_Go p e below s _ _ (T4.setTop (mkF m 24 #[rv a0, iv p1, iv z2, .unset, .unset] []))
    have B5 := P0.other W4 (Or.inr (slot_ne (Or.inr (hw _ (List.mem_of_getElem? (i := 15) rfl))) (Or.inl (hw _ (List.mem_of_getElem? (i := 17) rfl))) (by decide) (t := .boolean) (t' := .boolean) (by decide) (by decide)))
    have B6 := P2.other W4 (Or.inr (slot_ne (Or.inl (hw _ (List.mem_of_getElem? (i := 19) rfl))) (Or.inl (hw _ (List.mem_of_getElem? (i := 17) rfl))) (by decide) (t := .boolean) (t' := .boolean) (by decide) (by decide)))
    have B7 := P3.other W4 (Or.inr (slot_ne (Or.inl (hw _ (List.mem_of_getElem? (i := 21) rfl))) (Or.inl (hw _ (List.mem_of_getElem? (i := 17) rfl))) (by decide) (t := .int) (t' := .boolean) (by decide) (by decide)))
    have B8 := P4.other W4 (Or.inr (slot_ne (Or.inl (hw _ (List.mem_of_getElem? (i := 23) rfl))) (Or.inl (hw _ (List.mem_of_getElem? (i := 17) rfl))) (by decide) (t := .int) (t' := .boolean) (by decide) (by decide)))
    have B9 := P5.wr W4
    have B10 : Fld Z h4 a0 "com/example/tree_to_rows/treetorows/xml/DocumentPlace" "firstCharacter" "Z" (.int 0) := P1.same W4
    have N11 := Fr.snoc X4 N0 ge0
    have K12 : Keep h0 h4 [a0] := K0.wr W4 (Or.inl (List.mem_of_getElem? (i := 0) rfl))
    have Z13 : n0 ≤ h4.size := Nat.le_trans Z0 (Keep.of_wr W4).1
    refine own_via (fun k => XS.iloadN X4.here hx rfl (hb hby d7_24) rfl  k) ?_
    show own_Go p e below s _ _ (T4.setTop (mkF m 25 #[rv a0, iv p1, iv z2, .unset, .unset] [(.int z2)]))
    by_cases hc14 : z2 = (0 : Int32)
    · refine own_via (fun k => XS.ifNo X4.here hx rfl (hb hby d7_25) rfl ((if0 _ _).trans (teq hc14).2) k) ?_
      show own_Go p e below s _ _ (T4.setTop (mkF m 28 #[rv a0, iv p1, iv z2, .unset, .unset] []))
      refine own_via (fun k => XS.iloadN X4.here hx rfl (hb hby d7_28) rfl  (XS.bipush X4.here hx rfl (hb hby d7_29) k)) ?_
      show own_Go p e below s _ _ (T4.setTop (mkF m 31 #[rv a0, iv p1, iv z2, .unset, .unset] [(.int 13), (.int p1)]))
      have J17 : ∀ (T17 : State) (lo17 : List Loc), Stand p l e ({ frames := 0, cells := 0, slots := 0, locals := 0 } : Room) s m #[(.ref a0), (.int p1)] below meth c T17 lo17 0 0 → Fr n0 lo17 → T17.heap = h4 → ∀ (z16 : Int32), z16 = (if p1 = (13 : Int32) then (1 : Int32) else (if p1 = (10 : Int32) then (1 : Int32) else (if x11 = (0 : Int32) then (0 : Int32) else (if p1 = (133 : Int32) then (1 : Int32) else (if p1 = (8232 : Int32) then (1 : Int32) else (0 : Int32)))))) → own_Go p e below s (Q7 Z a0 p1 x11 fc acr ln cl h0 n0) (0, 0) (T17.setTop (mkF m 66 #[rv a0, iv p1, iv z2, .unset, .unset] [(.int z16)])) := by
        intro T17 lo17 X17 N17 e17 z16 hz16
        refine own_via (fun k => XS.istoreN X17.here hx rfl (hb hby d7_66) rfl (l' := #[rv a0, iv p1, iv z2, iv z16, .unset]) rfl (XS.aloadN X17.here hx rfl (hb hby d7_67) rfl rfl  k)) ?_
        show own_Go p e below s _ _ (T17.setTop (mkF m 68 #[rv a0, iv p1, iv z2, iv z16, .unset] [(.ref a0)]))
        obtain ⟨T18, X18, e18, st18⟩ := getF X17 hx hZ hown (host := "") (Or.inl (hw _ (List.mem_of_getElem? (i := 18) rfl))) Via.refl e17 B6 (g := (mkF m 68 #[rv a0, iv p1, iv z2, iv z16, .unset] [(.ref a0)])) rfl rfl (hb hby d7_68)
        refine own_via (fun k => st18 _ k) ?_
        show own_Go p e below s _ _ (T18.setTop (mkF m 71 #[rv a0, iv p1, iv z2, iv z16, .unset] [(.int acr)]))
        have J21 : ∀ (T21 : State) (lo21 : List Loc), Stand p l e ({ frames := 0, cells := 0, slots := 0, locals := 0 } : Room) s m #[(.ref a0), (.int p1)] below meth c T21 lo21 0 0 → Fr n0 lo21 → T21.heap = h4 → ∀ (z20 : Int32), z20 = (if acr = (0 : Int32) then (0 : Int32) else (if p1 = (10 : Int32) then (1 : Int32) else (if x11 = (0 : Int32) then (0 : Int32) else (if p1 = (133 : Int32) then (1 : Int32) else (0 : Int32))))) → own_Go p e below s (Q7 Z a0 p1 x11 fc acr ln cl h0 n0) (0, 0) (T21.setTop (mkF m 99 #[rv a0, iv p1, iv z2, iv z16, .unset] [(.int z20)])) := by
          intro T21 lo21 X21 N21 e21 z20 hz20
          refine own_via (fun k => XS.istore X21.here hx rfl (hb hby d7_99) rfl (l' := #[rv a0, iv p1, iv z2, iv z16, iv z20]) rfl (XS.iloadN X21.here hx rfl (hb hby d7_101) rfl  k)) ?_
          show own_Go p e below s _ _ (T21.setTop (mkF m 102 #[rv a0, iv p1, iv z2, iv z16, iv z20] [(.int z16)]))
          by_cases hc22 : z16 = (0 : Int32)
          · refine own_via (fun k => XS.ifYes X21.here hx rfl (pc0 := 102) (pc' := 128) rfl (hb hby d7_102) rfl ((if0 _ _).trans (teq hc22).1) (by decide) (by decide) k) ?_
            show own_Go p e below s _ _ (T21.setTop (mkF m 128 #[rv a0, iv p1, iv z2, iv z16, iv z20] []))
            refine own_via (fun k => XS.iloadN X21.here hx rfl (hb hby d7_128) rfl  k) ?_
            show own_Go p e below s _ _ (T21.setTop (mkF m 129 #[rv a0, iv p1, iv z2, iv z16, iv z20] [(.int z16)]))
            refine own_via (fun k => XS.ifNo X21.here hx rfl (hb hby d7_129) rfl ((if0 _ _).trans (teq hc22).2) k) ?_
            show own_Go p e below s _ _ (T21.setTop (mkF m 132 #[rv a0, iv p1, iv z2, iv z16, iv z20] []))
            refine own_via (fun k => XS.aloadN X21.here hx rfl (hb hby d7_132) rfl rfl  (XS.dup X21.here hx rfl (hb hby d7_133) rfl rfl k)) ?_
            show own_Go p e below s _ _ (T21.setTop (mkF m 134 #[rv a0, iv p1, iv z2, iv z16, iv z20] [(.ref a0), (.ref a0)]))
            obtain ⟨T23, X23, e23, st23⟩ := getF X21 hx hZ hown (host := "") (Or.inl (hw _ (List.mem_of_getElem? (i := 22) rfl))) Via.refl e21 B8 (g := (mkF m 134 #[rv a0, iv p1, iv z2, iv z16, iv z20] [(.ref a0), (.ref a0)])) rfl rfl (hb hby d7_134)
            refine own_via (fun k => st23 _ k) ?_
            show own_Go p e below s _ _ (T23.setTop (mkF m 137 #[rv a0, iv p1, iv z2, iv z16, iv z20] [(.int cl), (.ref a0)]))
            refine own_via (fun k => XS.iconst X23.here hx rfl (hb hby d7_137) (XS.iadd X23.here hx rfl (hb hby d7_138) rfl k)) ?_
            show own_Go p e below s _ _ (T23.setTop (mkF m 139 #[rv a0, iv p1, iv z2, iv z16, iv z20] [(.int (cl + (1 : Int32))), (.ref a0)]))
            obtain ⟨T24, h24, X24, e24, W24, st24⟩ := putF X23 hx hZ hown (host := "") (Or.inl (hw _ (List.mem_of_getElem? (i := 22) rfl))) Via.refl e23 B8 B9 (Or.inl (hw _ (List.mem_of_getElem? (i := 23) rfl))) (hw _ (List.mem_of_getElem? (i := 6) rfl)) (ty := .int) (by decide) rfl rfl (g := (mkF m 139 #[rv a0, iv p1, iv z2, iv z16, iv z20] [(.int (cl + (1 : Int32))), (.ref a0)])) rfl rfl (hb hby d7_139)
            refine own_via (fun k => st24 _ k) ?_
            show own_Go p e below s _ _ (T24.setTop (mkF m 142 #[rv a0, iv p1, iv z2, iv z16, iv z20] []))
            have B25 := B5.other W24 (Or.inr (slot_ne (Or.inr (hw _ (List.mem_of_getElem? (i := 15) rfl))) (Or.inl (hw _ (List.mem_of_getElem? (i := 23) rfl))) (by decide) (t := .boolean) (t' := .int) (by decide) (by decide)))
            have B26 := B6.other W24 (Or.inr (slot_ne (Or.inl (hw _ (List.mem_of_getElem? (i := 19) rfl))) (Or.inl (hw _ (List.mem_of_getElem? (i := 23) rfl))) (by decide) (t := .boolean) (t' := .int) (by decide) (by decide)))
            have B27 := B7.other W24 (Or.inr (slot_ne (Or.inl (hw _ (List.mem_of_getElem? (i := 21) rfl))) (Or.inl (hw _ (List.mem_of_getElem? (i := 23) rfl))) (by decide) (t := .int) (t' := .int) (by decide) (by decide)))
            have B28 := B9.wr W24
            have B29 := B10.other W24 (Or.inr (slot_ne (Or.inl (hw _ (List.mem_of_getElem? (i := 17) rfl))) (Or.inl (hw _ (List.mem_of_getElem? (i := 23) rfl))) (by decide) (t := .boolean) (t' := .int) (by decide) (by decide)))
            have B30 : Fld Z h24 a0 "com/example/tree_to_rows/treetorows/xml/DocumentPlace" "column" "I" (.int (cl + (1 : Int32))) := B8.same W24
            have N31 := Fr.snoc X24 N21 ge0
            have K32 : Keep h0 h24 [a0] := K12.wr W24 (Or.inl (List.mem_of_getElem? (i := 0) rfl))
            have Z33 : n0 ≤ h24.size := Nat.le_trans Z13 (Keep.of_wr W24).1
            refine own_via (fun k => XS.aloadN X24.here hx rfl (hb hby d7_142) rfl rfl  (XS.iloadN X24.here hx rfl (hb hby d7_143) rfl  (XS.bipush X24.here hx rfl (hb hby d7_144) k))) ?_
            show own_Go p e below s _ _ (T24.setTop (mkF m 146 #[rv a0, iv p1, iv z2, iv z16, iv z20] [(.int 13), (.int p1), (.ref a0)]))
            by_cases hc34 : p1 = (13 : Int32)
            · refine own_via (fun k => XS.icmpNo X24.here hx rfl (hb hby d7_146) rfl (teq hc34).2 k) ?_
              show own_Go p e below s _ _ (T24.setTop (mkF m 149 #[rv a0, iv p1, iv z2, iv z16, iv z20] [(.ref a0)]))
              refine own_via (fun k => XS.iconst X24.here hx rfl (hb hby d7_149) (XS.goto X24.here hx rfl (pc0 := 150) (pc' := 154) rfl (hb hby d7_150) (by decide) (by decide) k)) ?_
              show own_Go p e below s _ _ (T24.setTop (mkF m 154 #[rv a0, iv p1, iv z2, iv z16, iv z20] [(.int 1), (.ref a0)]))
              obtain ⟨T35, h35, X35, e35, W35, st35⟩ := putFN X24 hx hZ hown (hw _ (List.mem_of_getElem? (i := 18) rfl)) Via.refl e24 B26 B28 (Or.inl (hw _ (List.mem_of_getElem? (i := 19) rfl))) (hw _ (List.mem_of_getElem? (i := 6) rfl)) (ty := .boolean) (v := (.int 1)) (v' := (.int (1 : Int32))) (by decide) rfl (by decide) (g := (mkF m 154 #[rv a0, iv p1, iv z2, iv z16, iv z20] [(.int 1), (.ref a0)])) rfl rfl (hb hby d7_154)
              refine own_via (fun k => st35 _ k) ?_
              show own_Go p e below s _ _ (T35.setTop (mkF m 157 #[rv a0, iv p1, iv z2, iv z16, iv z20] []))
              have B36 := B25.other W35 (Or.inr (slot_ne (Or.inr (hw _ (List.mem_of_getElem? (i := 15) rfl))) (Or.inl (hw _ (List.mem_of_getElem? (i := 19) rfl))) (by decide) (t := .boolean) (t' := .boolean) (by decide) (by decide)))
              have B37 := B27.other W35 (Or.inr (slot_ne (Or.inl (hw _ (List.mem_of_getElem? (i := 21) rfl))) (Or.inl (hw _ (List.mem_of_getElem? (i := 19) rfl))) (by decide) (t := .int) (t' := .boolean) (by decide) (by decide)))
              have B38 := B28.wr W35
              have B39 := B29.other W35 (Or.inr (slot_ne (Or.inl (hw _ (List.mem_of_getElem? (i := 17) rfl))) (Or.inl (hw _ (List.mem_of_getElem? (i := 19) rfl))) (by decide) (t := .boolean) (t' := .boolean) (by decide) (by decide)))
              have B40 := B30.other W35 (Or.inr (slot_ne (Or.inl (hw _ (List.mem_of_getElem? (i := 23) rfl))) (Or.inl (hw _ (List.mem_of_getElem? (i := 19) rfl))) (by decide) (t := .int) (t' := .boolean) (by decide) (by decide)))
              have B41 : Fld Z h35 a0 "com/example/tree_to_rows/treetorows/xml/DocumentPlace" "afterCarriageReturn" "Z" (.int 1) := B26.same W35
              have N42 := Fr.snoc X35 N31 ge0
              have K43 : Keep h0 h35 [a0] := K32.wr W35 (Or.inl (List.mem_of_getElem? (i := 0) rfl))
              have Z44 : n0 ≤ h35.size := Nat.le_trans Z33 (Keep.of_wr W35).1
              exact own_ret0 X35 hx hlk Bd.returns (hb hby d7_157) (Q := (Q7 Z a0 p1 x11 fc acr ln cl h0 n0)) ⟨rfl, N42, (by rw [e35]; exact K43), (by rw [e35]; exact B36), (by rw [e35]; exact B39), (by rw [e35]; exact own_fldI (show (1 : Int32) = (own_f7a p1 x11 fc acr) from (by subst hz20 hz16 hz2; unfold own_f7a; exact ((if_pos hc14).trans ((if_pos hc22).trans ((if_pos hc34).trans rfl))).symm)) B41), (by rw [e35]; exact own_fldI (show ln = (own_f7l p1 x11 fc acr ln) from (by subst hz20 hz16 hz2; unfold own_f7l; exact ((if_pos hc14).trans ((if_pos hc22).trans ((if_pos hc34).trans rfl))).symm)) B37), (by rw [e35]; exact own_fldI (show (cl + (1 : Int32)) = (own_f7k p1 x11 fc acr cl) from (by subst hz20 hz16 hz2; unfold own_f7k; exact ((if_pos hc14).trans ((if_pos hc22).trans ((if_pos hc34).trans rfl))).symm)) B40)⟩ (by decide) (by decide)
            · refine own_via (fun k => XS.icmpYes X24.here hx rfl (pc0 := 146) (pc' := 153) rfl (hb hby d7_146) rfl (feq hc34).2 (by decide) (by decide) k) ?_
              show own_Go p e below s _ _ (T24.setTop (mkF m 153 #[rv a0, iv p1, iv z2, iv z16, iv z20] [(.ref a0)]))
              refine own_via (fun k => XS.iconst X24.here hx rfl (hb hby d7_153) k) ?_
              show own_Go p e below s _ _ (T24.setTop (mkF m 154 #[rv a0, iv p1, iv z2, iv z16, iv z20] [(.int 0), (.ref a0)]))
              obtain ⟨T45, h45, X45, e45, W45, st45⟩ := putFN X24 hx hZ hown (hw _ (List.mem_of_getElem? (i := 18) rfl)) Via.refl e24 B26 B28 (Or.inl (hw _ (List.mem_of_getElem? (i := 19) rfl))) (hw _ (List.mem_of_getElem? (i := 6) rfl)) (ty := .boolean) (v := (.int 0)) (v' := (.int (0 : Int32))) (by decide) rfl (by decide) (g := (mkF m 154 #[rv a0, iv p1, iv z2, iv z16, iv z20] [(.int 0), (.ref a0)])) rfl rfl (hb hby d7_154)
              refine own_via (fun k => st45 _ k) ?_
              show own_Go p e below s _ _ (T45.setTop (mkF m 157 #[rv a0, iv p1, iv z2, iv z16, iv z20] []))
              have B46 := B25.other W45 (Or.inr (slot_ne (Or.inr (hw _ (List.mem_of_getElem? (i := 15) rfl))) (Or.inl (hw _ (List.mem_of_getElem? (i := 19) rfl))) (by decide) (t := .boolean) (t' := .boolean) (by decide) (by decide)))
              have B47 := B27.other W45 (Or.inr (slot_ne (Or.inl (hw _ (List.mem_of_getElem? (i := 21) rfl))) (Or.inl (hw _ (List.mem_of_getElem? (i := 19) rfl))) (by decide) (t := .int) (t' := .boolean) (by decide) (by decide)))
              have B48 := B28.wr W45
              have B49 := B29.other W45 (Or.inr (slot_ne (Or.inl (hw _ (List.mem_of_getElem? (i := 17) rfl))) (Or.inl (hw _ (List.mem_of_getElem? (i := 19) rfl))) (by decide) (t := .boolean) (t' := .boolean) (by decide) (by decide)))
              have B50 := B30.other W45 (Or.inr (slot_ne (Or.inl (hw _ (List.mem_of_getElem? (i := 23) rfl))) (Or.inl (hw _ (List.mem_of_getElem? (i := 19) rfl))) (by decide) (t := .int) (t' := .boolean) (by decide) (by decide)))
              have B51 : Fld Z h45 a0 "com/example/tree_to_rows/treetorows/xml/DocumentPlace" "afterCarriageReturn" "Z" (.int 0) := B26.same W45
              have N52 := Fr.snoc X45 N31 ge0
              have K53 : Keep h0 h45 [a0] := K32.wr W45 (Or.inl (List.mem_of_getElem? (i := 0) rfl))
              have Z54 : n0 ≤ h45.size := Nat.le_trans Z33 (Keep.of_wr W45).1
              exact own_ret0 X45 hx hlk Bd.returns (hb hby d7_157) (Q := (Q7 Z a0 p1 x11 fc acr ln cl h0 n0)) ⟨rfl, N52, (by rw [e45]; exact K53), (by rw [e45]; exact B46), (by rw [e45]; exact B49), (by rw [e45]; exact own_fldI (show (0 : Int32) = (own_f7a p1 x11 fc acr) from (by subst hz20 hz16 hz2; unfold own_f7a; exact ((if_pos hc14).trans ((if_pos hc22).trans ((if_neg hc34).trans rfl))).symm)) B51), (by rw [e45]; exact own_fldI (show ln = (own_f7l p1 x11 fc acr ln) from (by subst hz20 hz16 hz2; unfold own_f7l; exact ((if_pos hc14).trans ((if_pos hc22).trans ((if_neg hc34).trans rfl))).symm)) B47), (by rw [e45]; exact own_fldI (show (cl + (1 : Int32)) = (own_f7k p1 x11 fc acr cl) from (by subst hz20 hz16 hz2; unfold own_f7k; exact ((if_pos hc14).trans ((if_pos hc22).trans ((if_neg hc34).trans rfl))).symm)) B50)⟩ (by decide) (by decide)
          · refine own_via (fun k => XS.ifNo X21.here hx rfl (hb hby d7_102) rfl ((if0 _ _).trans (feq hc22).1) k) ?_
            show own_Go p e below s _ _ (T21.setTop (mkF m 105 #[rv a0, iv p1, iv z2, iv z16, iv z20] []))
            refine own_via (fun k => XS.iload X21.here hx rfl (hb hby d7_105) rfl  k) ?_
            show own_Go p e below s _ _ (T21.setTop (mkF m 107 #[rv a0, iv p1, iv z2, iv z16, iv z20] [(.int z20)]))
            by_cases hc55 : z20 = (0 : Int32)
            · refine own_via (fun k => XS.ifNo X21.here hx rfl (hb hby d7_107) rfl ((if0 _ _).trans (teq hc55).2) k) ?_
              show own_Go p e below s _ _ (T21.setTop (mkF m 110 #[rv a0, iv p1, iv z2, iv z16, iv z20] []))
              refine own_via (fun k => XS.aloadN X21.here hx rfl (hb hby d7_110) rfl rfl  (XS.dup X21.here hx rfl (hb hby d7_111) rfl rfl k)) ?_
              show own_Go p e below s _ _ (T21.setTop (mkF m 112 #[rv a0, iv p1, iv z2, iv z16, iv z20] [(.ref a0), (.ref a0)]))
              obtain ⟨T56, X56, e56, st56⟩ := getF X21 hx hZ hown (host := "") (Or.inl (hw _ (List.mem_of_getElem? (i := 20) rfl))) Via.refl e21 B7 (g := (mkF m 112 #[rv a0, iv p1, iv z2, iv z16, iv z20] [(.ref a0), (.ref a0)])) rfl rfl (hb hby d7_112)
              refine own_via (fun k => st56 _ k) ?_
              show own_Go p e below s _ _ (T56.setTop (mkF m 115 #[rv a0, iv p1, iv z2, iv z16, iv z20] [(.int ln), (.ref a0)]))
              refine own_via (fun k => XS.iconst X56.here hx rfl (hb hby d7_115) (XS.iadd X56.here hx rfl (hb hby d7_116) rfl k)) ?_
              show own_Go p e below s _ _ (T56.setTop (mkF m 117 #[rv a0, iv p1, iv z2, iv z16, iv z20] [(.int (ln + (1 : Int32))), (.ref a0)]))
              obtain ⟨T57, h57, X57, e57, W57, st57⟩ := putF X56 hx hZ hown (host := "") (Or.inl (hw _ (List.mem_of_getElem? (i := 20) rfl))) Via.refl e56 B7 B9 (Or.inl (hw _ (List.mem_of_getElem? (i := 21) rfl))) (hw _ (List.mem_of_getElem? (i := 6) rfl)) (ty := .int) (by decide) rfl rfl (g := (mkF m 117 #[rv a0, iv p1, iv z2, iv z16, iv z20] [(.int (ln + (1 : Int32))), (.ref a0)])) rfl rfl (hb hby d7_117)
              refine own_via (fun k => st57 _ k) ?_
              show own_Go p e below s _ _ (T57.setTop (mkF m 120 #[rv a0, iv p1, iv z2, iv z16, iv z20] []))
              have B58 := B5.other W57 (Or.inr (slot_ne (Or.inr (hw _ (List.mem_of_getElem? (i := 15) rfl))) (Or.inl (hw _ (List.mem_of_getElem? (i := 21) rfl))) (by decide) (t := .boolean) (t' := .int) (by decide) (by decide)))
              have B59 := B6.other W57 (Or.inr (slot_ne (Or.inl (hw _ (List.mem_of_getElem? (i := 19) rfl))) (Or.inl (hw _ (List.mem_of_getElem? (i := 21) rfl))) (by decide) (t := .boolean) (t' := .int) (by decide) (by decide)))
              have B60 := B8.other W57 (Or.inr (slot_ne (Or.inl (hw _ (List.mem_of_getElem? (i := 23) rfl))) (Or.inl (hw _ (List.mem_of_getElem? (i := 21) rfl))) (by decide) (t := .int) (t' := .int) (by decide) (by decide)))
              have B61 := B9.wr W57
              have B62 := B10.other W57 (Or.inr (slot_ne (Or.inl (hw _ (List.mem_of_getElem? (i := 17) rfl))) (Or.inl (hw _ (List.mem_of_getElem? (i := 21) rfl))) (by decide) (t := .boolean) (t' := .int) (by decide) (by decide)))
              have B63 : Fld Z h57 a0 "com/example/tree_to_rows/treetorows/xml/DocumentPlace" "line" "I" (.int (ln + (1 : Int32))) := B7.same W57
              have N64 := Fr.snoc X57 N21 ge0
              have K65 : Keep h0 h57 [a0] := K12.wr W57 (Or.inl (List.mem_of_getElem? (i := 0) rfl))
              have Z66 : n0 ≤ h57.size := Nat.le_trans Z13 (Keep.of_wr W57).1
              refine own_via (fun k => XS.aloadN X57.here hx rfl (hb hby d7_120) rfl rfl  (XS.iconst X57.here hx rfl (hb hby d7_121) k)) ?_
              show own_Go p e below s _ _ (T57.setTop (mkF m 122 #[rv a0, iv p1, iv z2, iv z16, iv z20] [(.int 1), (.ref a0)]))
              obtain ⟨T67, h67, X67, e67, W67, st67⟩ := putF X57 hx hZ hown (host := "") (Or.inl (hw _ (List.mem_of_getElem? (i := 22) rfl))) Via.refl e57 B60 B61 (Or.inl (hw _ (List.mem_of_getElem? (i := 23) rfl))) (hw _ (List.mem_of_getElem? (i := 6) rfl)) (ty := .int) (by decide) rfl rfl (g := (mkF m 122 #[rv a0, iv p1, iv z2, iv z16, iv z20] [(.int 1), (.ref a0)])) rfl rfl (hb hby d7_122)
              refine own_via (fun k => st67 _ k) ?_
              show own_Go p e below s _ _ (T67.setTop (mkF m 125 #[rv a0, iv p1, iv z2, iv z16, iv z20] []))
              have B68 := B58.other W67 (Or.inr (slot_ne (Or.inr (hw _ (List.mem_of_getElem? (i := 15) rfl))) (Or.inl (hw _ (List.mem_of_getElem? (i := 23) rfl))) (by decide) (t := .boolean) (t' := .int) (by decide) (by decide)))
              have B69 := B59.other W67 (Or.inr (slot_ne (Or.inl (hw _ (List.mem_of_getElem? (i := 19) rfl))) (Or.inl (hw _ (List.mem_of_getElem? (i := 23) rfl))) (by decide) (t := .boolean) (t' := .int) (by decide) (by decide)))
              have B70 := B61.wr W67
              have B71 := B62.other W67 (Or.inr (slot_ne (Or.inl (hw _ (List.mem_of_getElem? (i := 17) rfl))) (Or.inl (hw _ (List.mem_of_getElem? (i := 23) rfl))) (by decide) (t := .boolean) (t' := .int) (by decide) (by decide)))
              have B72 := B63.other W67 (Or.inr (slot_ne (Or.inl (hw _ (List.mem_of_getElem? (i := 21) rfl))) (Or.inl (hw _ (List.mem_of_getElem? (i := 23) rfl))) (by decide) (t := .int) (t' := .int) (by decide) (by decide)))
              have B73 : Fld Z h67 a0 "com/example/tree_to_rows/treetorows/xml/DocumentPlace" "column" "I" (.int 1) := B60.same W67
              have N74 := Fr.snoc X67 N64 ge0
              have K75 : Keep h0 h67 [a0] := K65.wr W67 (Or.inl (List.mem_of_getElem? (i := 0) rfl))
              have Z76 : n0 ≤ h67.size := Nat.le_trans Z66 (Keep.of_wr W67).1
              refine own_via (fun k => XS.goto X67.here hx rfl (pc0 := 125) (pc' := 142) rfl (hb hby d7_125) (by decide) (by decide) (XS.aloadN X67.here hx rfl (hb hby d7_142) rfl rfl  (XS.iloadN X67.here hx rfl (hb hby d7_143) rfl  (XS.bipush X67.here hx rfl (hb hby d7_144) k)))) ?_
              show own_Go p e below s _ _ (T67.setTop (mkF m 146 #[rv a0, iv p1, iv z2, iv z16, iv z20] [(.int 13), (.int p1), (.ref a0)]))
              by_cases hc77 : p1 = (13 : Int32)
              · refine own_via (fun k => XS.icmpNo X67.here hx rfl (hb hby d7_146) rfl (teq hc77).2 k) ?_
                show own_Go p e below s _ _ (T67.setTop (mkF m 149 #[rv a0, iv p1, iv z2, iv z16, iv z20] [(.ref a0)]))
                refine own_via (fun k => XS.iconst X67.here hx rfl (hb hby d7_149) (XS.goto X67.here hx rfl (pc0 := 150) (pc' := 154) rfl (hb hby d7_150) (by decide) (by decide) k)) ?_
                show own_Go p e below s _ _ (T67.setTop (mkF m 154 #[rv a0, iv p1, iv z2, iv z16, iv z20] [(.int 1), (.ref a0)]))
                obtain ⟨T78, h78, X78, e78, W78, st78⟩ := putFN X67 hx hZ hown (hw _ (List.mem_of_getElem? (i := 18) rfl)) Via.refl e67 B69 B70 (Or.inl (hw _ (List.mem_of_getElem? (i := 19) rfl))) (hw _ (List.mem_of_getElem? (i := 6) rfl)) (ty := .boolean) (v := (.int 1)) (v' := (.int (1 : Int32))) (by decide) rfl (by decide) (g := (mkF m 154 #[rv a0, iv p1, iv z2, iv z16, iv z20] [(.int 1), (.ref a0)])) rfl rfl (hb hby d7_154)
                refine own_via (fun k => st78 _ k) ?_
                show own_Go p e below s _ _ (T78.setTop (mkF m 157 #[rv a0, iv p1, iv z2, iv z16, iv z20] []))
                have B79 := B68.other W78 (Or.inr (slot_ne (Or.inr (hw _ (List.mem_of_getElem? (i := 15) rfl))) (Or.inl (hw _ (List.mem_of_getElem? (i := 19) rfl))) (by decide) (t := .boolean) (t' := .boolean) (by decide) (by decide)))
                have B80 := B70.wr W78
                have B81 := B71.other W78 (Or.inr (slot_ne (Or.inl (hw _ (List.mem_of_getElem? (i := 17) rfl))) (Or.inl (hw _ (List.mem_of_getElem? (i := 19) rfl))) (by decide) (t := .boolean) (t' := .boolean) (by decide) (by decide)))
                have B82 := B72.other W78 (Or.inr (slot_ne (Or.inl (hw _ (List.mem_of_getElem? (i := 21) rfl))) (Or.inl (hw _ (List.mem_of_getElem? (i := 19) rfl))) (by decide) (t := .int) (t' := .boolean) (by decide) (by decide)))
                have B83 := B73.other W78 (Or.inr (slot_ne (Or.inl (hw _ (List.mem_of_getElem? (i := 23) rfl))) (Or.inl (hw _ (List.mem_of_getElem? (i := 19) rfl))) (by decide) (t := .int) (t' := .boolean) (by decide) (by decide)))
                have B84 : Fld Z h78 a0 "com/example/tree_to_rows/treetorows/xml/DocumentPlace" "afterCarriageReturn" "Z" (.int 1) := B69.same W78
                have N85 := Fr.snoc X78 N74 ge0
                have K86 : Keep h0 h78 [a0] := K75.wr W78 (Or.inl (List.mem_of_getElem? (i := 0) rfl))
                have Z87 : n0 ≤ h78.size := Nat.le_trans Z76 (Keep.of_wr W78).1
                exact own_ret0 X78 hx hlk Bd.returns (hb hby d7_157) (Q := (Q7 Z a0 p1 x11 fc acr ln cl h0 n0)) ⟨rfl, N85, (by rw [e78]; exact K86), (by rw [e78]; exact B79), (by rw [e78]; exact B81), (by rw [e78]; exact own_fldI (show (1 : Int32) = (own_f7a p1 x11 fc acr) from (by subst hz20 hz16 hz2; unfold own_f7a; exact ((if_pos hc14).trans ((if_neg hc22).trans ((if_pos hc55).trans ((if_pos hc77).trans rfl)))).symm)) B84), (by rw [e78]; exact own_fldI (show (ln + (1 : Int32)) = (own_f7l p1 x11 fc acr ln) from (by subst hz20 hz16 hz2; unfold own_f7l; exact ((if_pos hc14).trans ((if_neg hc22).trans ((if_pos hc55).trans ((if_pos hc77).trans rfl)))).symm)) B82), (by rw [e78]; exact own_fldI (show (1 : Int32) = (own_f7k p1 x11 fc acr cl) from (by subst hz20 hz16 hz2; unfold own_f7k; exact ((if_pos hc14).trans ((if_neg hc22).trans ((if_pos hc55).trans ((if_pos hc77).trans rfl)))).symm)) B83)⟩ (by decide) (by decide)
              · refine own_via (fun k => XS.icmpYes X67.here hx rfl (pc0 := 146) (pc' := 153) rfl (hb hby d7_146) rfl (feq hc77).2 (by decide) (by decide) k) ?_
                show own_Go p e below s _ _ (T67.setTop (mkF m 153 #[rv a0, iv p1, iv z2, iv z16, iv z20] [(.ref a0)]))
                refine own_via (fun k => XS.iconst X67.here hx rfl (hb hby d7_153) k) ?_
                show own_Go p e below s _ _ (T67.setTop (mkF m 154 #[rv a0, iv p1, iv z2, iv z16, iv z20] [(.int 0), (.ref a0)]))
                obtain ⟨T88, h88, X88, e88, W88, st88⟩ := putFN X67 hx hZ hown (hw _ (List.mem_of_getElem? (i := 18) rfl)) Via.refl e67 B69 B70 (Or.inl (hw _ (List.mem_of_getElem? (i := 19) rfl))) (hw _ (List.mem_of_getElem? (i := 6) rfl)) (ty := .boolean) (v := (.int 0)) (v' := (.int (0 : Int32))) (by decide) rfl (by decide) (g := (mkF m 154 #[rv a0, iv p1, iv z2, iv z16, iv z20] [(.int 0), (.ref a0)])) rfl rfl (hb hby d7_154)
                refine own_via (fun k => st88 _ k) ?_
                show own_Go p e below s _ _ (T88.setTop (mkF m 157 #[rv a0, iv p1, iv z2, iv z16, iv z20] []))
                have B89 := B68.other W88 (Or.inr (slot_ne (Or.inr (hw _ (List.mem_of_getElem? (i := 15) rfl))) (Or.inl (hw _ (List.mem_of_getElem? (i := 19) rfl))) (by decide) (t := .boolean) (t' := .boolean) (by decide) (by decide)))
                have B90 := B70.wr W88
                have B91 := B71.other W88 (Or.inr (slot_ne (Or.inl (hw _ (List.mem_of_getElem? (i := 17) rfl))) (Or.inl (hw _ (List.mem_of_getElem? (i := 19) rfl))) (by decide) (t := .boolean) (t' := .boolean) (by decide) (by decide)))
                have B92 := B72.other W88 (Or.inr (slot_ne (Or.inl (hw _ (List.mem_of_getElem? (i := 21) rfl))) (Or.inl (hw _ (List.mem_of_getElem? (i := 19) rfl))) (by decide) (t := .int) (t' := .boolean) (by decide) (by decide)))
                have B93 := B73.other W88 (Or.inr (slot_ne (Or.inl (hw _ (List.mem_of_getElem? (i := 23) rfl))) (Or.inl (hw _ (List.mem_of_getElem? (i := 19) rfl))) (by decide) (t := .int) (t' := .boolean) (by decide) (by decide)))
                have B94 : Fld Z h88 a0 "com/example/tree_to_rows/treetorows/xml/DocumentPlace" "afterCarriageReturn" "Z" (.int 0) := B69.same W88
                have N95 := Fr.snoc X88 N74 ge0
                have K96 : Keep h0 h88 [a0] := K75.wr W88 (Or.inl (List.mem_of_getElem? (i := 0) rfl))
                have Z97 : n0 ≤ h88.size := Nat.le_trans Z76 (Keep.of_wr W88).1
                exact own_ret0 X88 hx hlk Bd.returns (hb hby d7_157) (Q := (Q7 Z a0 p1 x11 fc acr ln cl h0 n0)) ⟨rfl, N95, (by rw [e88]; exact K96), (by rw [e88]; exact B89), (by rw [e88]; exact B91), (by rw [e88]; exact own_fldI (show (0 : Int32) = (own_f7a p1 x11 fc acr) from (by subst hz20 hz16 hz2; unfold own_f7a; exact ((if_pos hc14).trans ((if_neg hc22).trans ((if_pos hc55).trans ((if_neg hc77).trans rfl)))).symm)) B94), (by rw [e88]; exact own_fldI (show (ln + (1 : Int32)) = (own_f7l p1 x11 fc acr ln) from (by subst hz20 hz16 hz2; unfold own_f7l; exact ((if_pos hc14).trans ((if_neg hc22).trans ((if_pos hc55).trans ((if_neg hc77).trans rfl)))).symm)) B92), (by rw [e88]; exact own_fldI (show (1 : Int32) = (own_f7k p1 x11 fc acr cl) from (by subst hz20 hz16 hz2; unfold own_f7k; exact ((if_pos hc14).trans ((if_neg hc22).trans ((if_pos hc55).trans ((if_neg hc77).trans rfl)))).symm)) B93)⟩ (by decide) (by decide)
            · refine own_via (fun k => XS.ifYes X21.here hx rfl (pc0 := 107) (pc' := 128) rfl (hb hby d7_107) rfl ((if0 _ _).trans (feq hc55).2) (by decide) (by decide) k) ?_
              show own_Go p e below s _ _ (T21.setTop (mkF m 128 #[rv a0, iv p1, iv z2, iv z16, iv z20] []))
              refine own_via (fun k => XS.iloadN X21.here hx rfl (hb hby d7_128) rfl  k) ?_
              show own_Go p e below s _ _ (T21.setTop (mkF m 129 #[rv a0, iv p1, iv z2, iv z16, iv z20] [(.int z16)]))
              refine own_via (fun k => XS.ifYes X21.here hx rfl (pc0 := 129) (pc' := 142) rfl (hb hby d7_129) rfl ((if0 _ _).trans (feq hc22).2) (by decide) (by decide) k) ?_
              show own_Go p e below s _ _ (T21.setTop (mkF m 142 #[rv a0, iv p1, iv z2, iv z16, iv z20] []))
              refine own_via (fun k => XS.aloadN X21.here hx rfl (hb hby d7_142) rfl rfl  (XS.iloadN X21.here hx rfl (hb hby d7_143) rfl  (XS.bipush X21.here hx rfl (hb hby d7_144) k))) ?_
              show own_Go p e below s _ _ (T21.setTop (mkF m 146 #[rv a0, iv p1, iv z2, iv z16, iv z20] [(.int 13), (.int p1), (.ref a0)]))
              by_cases hc98 : p1 = (13 : Int32)
              · refine own_via (fun k => XS.icmpNo X21.here hx rfl (hb hby d7_146) rfl (teq hc98).2 k) ?_
                show own_Go p e below s _ _ (T21.setTop (mkF m 149 #[rv a0, iv p1, iv z2, iv z16, iv z20] [(.ref a0)]))
                refine own_via (fun k => XS.iconst X21.here hx rfl (hb hby d7_149) (XS.goto X21.here hx rfl (pc0 := 150) (pc' := 154) rfl (hb hby d7_150) (by decide) (by decide) k)) ?_
                show own_Go p e below s _ _ (T21.setTop (mkF m 154 #[rv a0, iv p1, iv z2, iv z16, iv z20] [(.int 1), (.ref a0)]))
                obtain ⟨T99, h99, X99, e99, W99, st99⟩ := putFN X21 hx hZ hown (hw _ (List.mem_of_getElem? (i := 18) rfl)) Via.refl e21 B6 B9 (Or.inl (hw _ (List.mem_of_getElem? (i := 19) rfl))) (hw _ (List.mem_of_getElem? (i := 6) rfl)) (ty := .boolean) (v := (.int 1)) (v' := (.int (1 : Int32))) (by decide) rfl (by decide) (g := (mkF m 154 #[rv a0, iv p1, iv z2, iv z16, iv z20] [(.int 1), (.ref a0)])) rfl rfl (hb hby d7_154)
                refine own_via (fun k => st99 _ k) ?_
                show own_Go p e below s _ _ (T99.setTop (mkF m 157 #[rv a0, iv p1, iv z2, iv z16, iv z20] []))
                have B100 := B5.other W99 (Or.inr (slot_ne (Or.inr (hw _ (List.mem_of_getElem? (i := 15) rfl))) (Or.inl (hw _ (List.mem_of_getElem? (i := 19) rfl))) (by decide) (t := .boolean) (t' := .boolean) (by decide) (by decide)))
                have B101 := B7.other W99 (Or.inr (slot_ne (Or.inl (hw _ (List.mem_of_getElem? (i := 21) rfl))) (Or.inl (hw _ (List.mem_of_getElem? (i := 19) rfl))) (by decide) (t := .int) (t' := .boolean) (by decide) (by decide)))
                have B102 := B8.other W99 (Or.inr (slot_ne (Or.inl (hw _ (List.mem_of_getElem? (i := 23) rfl))) (Or.inl (hw _ (List.mem_of_getElem? (i := 19) rfl))) (by decide) (t := .int) (t' := .boolean) (by decide) (by decide)))
                have B103 := B9.wr W99
                have B104 := B10.other W99 (Or.inr (slot_ne (Or.inl (hw _ (List.mem_of_getElem? (i := 17) rfl))) (Or.inl (hw _ (List.mem_of_getElem? (i := 19) rfl))) (by decide) (t := .boolean) (t' := .boolean) (by decide) (by decide)))
                have B105 : Fld Z h99 a0 "com/example/tree_to_rows/treetorows/xml/DocumentPlace" "afterCarriageReturn" "Z" (.int 1) := B6.same W99
                have N106 := Fr.snoc X99 N21 ge0
                have K107 : Keep h0 h99 [a0] := K12.wr W99 (Or.inl (List.mem_of_getElem? (i := 0) rfl))
                have Z108 : n0 ≤ h99.size := Nat.le_trans Z13 (Keep.of_wr W99).1
                exact own_ret0 X99 hx hlk Bd.returns (hb hby d7_157) (Q := (Q7 Z a0 p1 x11 fc acr ln cl h0 n0)) ⟨rfl, N106, (by rw [e99]; exact K107), (by rw [e99]; exact B100), (by rw [e99]; exact B104), (by rw [e99]; exact own_fldI (show (1 : Int32) = (own_f7a p1 x11 fc acr) from (by subst hz20 hz16 hz2; unfold own_f7a; exact ((if_pos hc14).trans ((if_neg hc22).trans ((if_neg hc55).trans ((if_pos hc98).trans rfl)))).symm)) B105), (by rw [e99]; exact own_fldI (show ln = (own_f7l p1 x11 fc acr ln) from (by subst hz20 hz16 hz2; unfold own_f7l; exact ((if_pos hc14).trans ((if_neg hc22).trans ((if_neg hc55).trans ((if_pos hc98).trans rfl)))).symm)) B101), (by rw [e99]; exact own_fldI (show cl = (own_f7k p1 x11 fc acr cl) from (by subst hz20 hz16 hz2; unfold own_f7k; exact ((if_pos hc14).trans ((if_neg hc22).trans ((if_neg hc55).trans ((if_pos hc98).trans rfl)))).symm)) B102)⟩ (by decide) (by decide)
              · refine own_via (fun k => XS.icmpYes X21.here hx rfl (pc0 := 146) (pc' := 153) rfl (hb hby d7_146) rfl (feq hc98).2 (by decide) (by decide) k) ?_
                show own_Go p e below s _ _ (T21.setTop (mkF m 153 #[rv a0, iv p1, iv z2, iv z16, iv z20] [(.ref a0)]))
                refine own_via (fun k => XS.iconst X21.here hx rfl (hb hby d7_153) k) ?_
                show own_Go p e below s _ _ (T21.setTop (mkF m 154 #[rv a0, iv p1, iv z2, iv z16, iv z20] [(.int 0), (.ref a0)]))
                obtain ⟨T109, h109, X109, e109, W109, st109⟩ := putFN X21 hx hZ hown (hw _ (List.mem_of_getElem? (i := 18) rfl)) Via.refl e21 B6 B9 (Or.inl (hw _ (List.mem_of_getElem? (i := 19) rfl))) (hw _ (List.mem_of_getElem? (i := 6) rfl)) (ty := .boolean) (v := (.int 0)) (v' := (.int (0 : Int32))) (by decide) rfl (by decide) (g := (mkF m 154 #[rv a0, iv p1, iv z2, iv z16, iv z20] [(.int 0), (.ref a0)])) rfl rfl (hb hby d7_154)
                refine own_via (fun k => st109 _ k) ?_
                show own_Go p e below s _ _ (T109.setTop (mkF m 157 #[rv a0, iv p1, iv z2, iv z16, iv z20] []))
                have B110 := B5.other W109 (Or.inr (slot_ne (Or.inr (hw _ (List.mem_of_getElem? (i := 15) rfl))) (Or.inl (hw _ (List.mem_of_getElem? (i := 19) rfl))) (by decide) (t := .boolean) (t' := .boolean) (by decide) (by decide)))
                have B111 := B7.other W109 (Or.inr (slot_ne (Or.inl (hw _ (List.mem_of_getElem? (i := 21) rfl))) (Or.inl (hw _ (List.mem_of_getElem? (i := 19) rfl))) (by decide) (t := .int) (t' := .boolean) (by decide) (by decide)))
                have B112 := B8.other W109 (Or.inr (slot_ne (Or.inl (hw _ (List.mem_of_getElem? (i := 23) rfl))) (Or.inl (hw _ (List.mem_of_getElem? (i := 19) rfl))) (by decide) (t := .int) (t' := .boolean) (by decide) (by decide)))
                have B113 := B9.wr W109
                have B114 := B10.other W109 (Or.inr (slot_ne (Or.inl (hw _ (List.mem_of_getElem? (i := 17) rfl))) (Or.inl (hw _ (List.mem_of_getElem? (i := 19) rfl))) (by decide) (t := .boolean) (t' := .boolean) (by decide) (by decide)))
                have B115 : Fld Z h109 a0 "com/example/tree_to_rows/treetorows/xml/DocumentPlace" "afterCarriageReturn" "Z" (.int 0) := B6.same W109
                have N116 := Fr.snoc X109 N21 ge0
                have K117 : Keep h0 h109 [a0] := K12.wr W109 (Or.inl (List.mem_of_getElem? (i := 0) rfl))
                have Z118 : n0 ≤ h109.size := Nat.le_trans Z13 (Keep.of_wr W109).1
                exact own_ret0 X109 hx hlk Bd.returns (hb hby d7_157) (Q := (Q7 Z a0 p1 x11 fc acr ln cl h0 n0)) ⟨rfl, N116, (by rw [e109]; exact K117), (by rw [e109]; exact B110), (by rw [e109]; exact B114), (by rw [e109]; exact own_fldI (show (0 : Int32) = (own_f7a p1 x11 fc acr) from (by subst hz20 hz16 hz2; unfold own_f7a; exact ((if_pos hc14).trans ((if_neg hc22).trans ((if_neg hc55).trans ((if_neg hc98).trans rfl)))).symm)) B115), (by rw [e109]; exact own_fldI (show ln = (own_f7l p1 x11 fc acr ln) from (by subst hz20 hz16 hz2; unfold own_f7l; exact ((if_pos hc14).trans ((if_neg hc22).trans ((if_neg hc55).trans ((if_neg hc98).trans rfl)))).symm)) B111), (by rw [e109]; exact own_fldI (show cl = (own_f7k p1 x11 fc acr cl) from (by subst hz20 hz16 hz2; unfold own_f7k; exact ((if_pos hc14).trans ((if_neg hc22).trans ((if_neg hc55).trans ((if_neg hc98).trans rfl)))).symm)) B112)⟩ (by decide) (by decide)
        by_cases hc119 : acr = (0 : Int32)
        · refine own_via (fun k => XS.ifYes X18.here hx rfl (pc0 := 71) (pc' := 98) rfl (hb hby d7_71) rfl ((if0 _ _).trans (teq hc119).1) (by decide) (by decide) k) ?_
          show own_Go p e below s _ _ (T18.setTop (mkF m 98 #[rv a0, iv p1, iv z2, iv z16, .unset] []))
          refine own_via (fun k => XS.iconst X18.here hx rfl (hb hby d7_98) k) ?_
          show own_Go p e below s _ _ (T18.setTop (mkF m 99 #[rv a0, iv p1, iv z2, iv z16, .unset] [(.int 0)]))
          exact J21 _ _ X18 N17 e18 (0 : Int32) (((if_pos hc119).trans rfl)).symm
        · refine own_via (fun k => XS.ifNo X18.here hx rfl (hb hby d7_71) rfl ((if0 _ _).trans (feq hc119).1) k) ?_
          show own_Go p e below s _ _ (T18.setTop (mkF m 74 #[rv a0, iv p1, iv z2, iv z16, .unset] []))
          refine own_via (fun k => XS.iloadN X18.here hx rfl (hb hby d7_74) rfl  (XS.bipush X18.here hx rfl (hb hby d7_75) k)) ?_
          show own_Go p e below s _ _ (T18.setTop (mkF m 77 #[rv a0, iv p1, iv z2, iv z16, .unset] [(.int 10), (.int p1)]))
          by_cases hc120 : p1 = (10 : Int32)
          · refine own_via (fun k => XS.icmpYes X18.here hx rfl (pc0 := 77) (pc' := 94) rfl (hb hby d7_77) rfl (teq hc120).1 (by decide) (by decide) k) ?_
            show own_Go p e below s _ _ (T18.setTop (mkF m 94 #[rv a0, iv p1, iv z2, iv z16, .unset] []))
            refine own_via (fun k => XS.iconst X18.here hx rfl (hb hby d7_94) (XS.goto X18.here hx rfl (pc0 := 95) (pc' := 99) rfl (hb hby d7_95) (by decide) (by decide) k)) ?_
            show own_Go p e below s _ _ (T18.setTop (mkF m 99 #[rv a0, iv p1, iv z2, iv z16, .unset] [(.int 1)]))
            exact J21 _ _ X18 N17 e18 (1 : Int32) (((if_neg hc119).trans ((if_pos hc120).trans rfl))).symm
          · refine own_via (fun k => XS.icmpNo X18.here hx rfl (hb hby d7_77) rfl (feq hc120).1 k) ?_
            show own_Go p e below s _ _ (T18.setTop (mkF m 80 #[rv a0, iv p1, iv z2, iv z16, .unset] []))
            refine own_via (fun k => XS.aloadN X18.here hx rfl (hb hby d7_80) rfl rfl  k) ?_
            show own_Go p e below s _ _ (T18.setTop (mkF m 81 #[rv a0, iv p1, iv z2, iv z16, .unset] [(.ref a0)]))
            obtain ⟨T121, X121, e121, st121⟩ := getF X18 hx hZ hown (host := "") (Or.inl (hw _ (List.mem_of_getElem? (i := 14) rfl))) Via.refl e18 B5 (g := (mkF m 81 #[rv a0, iv p1, iv z2, iv z16, .unset] [(.ref a0)])) rfl rfl (hb hby d7_81)
            refine own_via (fun k => st121 _ k) ?_
            show own_Go p e below s _ _ (T121.setTop (mkF m 84 #[rv a0, iv p1, iv z2, iv z16, .unset] [(.int x11)]))
            by_cases hc122 : x11 = (0 : Int32)
            · refine own_via (fun k => XS.ifYes X121.here hx rfl (pc0 := 84) (pc' := 98) rfl (hb hby d7_84) rfl ((if0 _ _).trans (teq hc122).1) (by decide) (by decide) k) ?_
              show own_Go p e below s _ _ (T121.setTop (mkF m 98 #[rv a0, iv p1, iv z2, iv z16, .unset] []))
              refine own_via (fun k => XS.iconst X121.here hx rfl (hb hby d7_98) k) ?_
              show own_Go p e below s _ _ (T121.setTop (mkF m 99 #[rv a0, iv p1, iv z2, iv z16, .unset] [(.int 0)]))
              exact J21 _ _ X121 N17 e121 (0 : Int32) (((if_neg hc119).trans ((if_neg hc120).trans ((if_pos hc122).trans rfl)))).symm
            · refine own_via (fun k => XS.ifNo X121.here hx rfl (hb hby d7_84) rfl ((if0 _ _).trans (feq hc122).1) k) ?_
              show own_Go p e below s _ _ (T121.setTop (mkF m 87 #[rv a0, iv p1, iv z2, iv z16, .unset] []))
              refine own_via (fun k => XS.iloadN X121.here hx rfl (hb hby d7_87) rfl  (XS.sipush X121.here hx rfl (hb hby d7_88) k)) ?_
              show own_Go p e below s _ _ (T121.setTop (mkF m 91 #[rv a0, iv p1, iv z2, iv z16, .unset] [(.int 133), (.int p1)]))
              by_cases hc123 : p1 = (133 : Int32)
              · refine own_via (fun k => XS.icmpNo X121.here hx rfl (hb hby d7_91) rfl (teq hc123).2 k) ?_
                show own_Go p e below s _ _ (T121.setTop (mkF m 94 #[rv a0, iv p1, iv z2, iv z16, .unset] []))
                refine own_via (fun k => XS.iconst X121.here hx rfl (hb hby d7_94) (XS.goto X121.here hx rfl (pc0 := 95) (pc' := 99) rfl (hb hby d7_95) (by decide) (by decide) k)) ?_
                show own_Go p e below s _ _ (T121.setTop (mkF m 99 #[rv a0, iv p1, iv z2, iv z16, .unset] [(.int 1)]))
                exact J21 _ _ X121 N17 e121 (1 : Int32) (((if_neg hc119).trans ((if_neg hc120).trans ((if_neg hc122).trans ((if_pos hc123).trans rfl))))).symm
              · refine own_via (fun k => XS.icmpYes X121.here hx rfl (pc0 := 91) (pc' := 98) rfl (hb hby d7_91) rfl (feq hc123).2 (by decide) (by decide) k) ?_
                show own_Go p e below s _ _ (T121.setTop (mkF m 98 #[rv a0, iv p1, iv z2, iv z16, .unset] []))
                refine own_via (fun k => XS.iconst X121.here hx rfl (hb hby d7_98) k) ?_
                show own_Go p e below s _ _ (T121.setTop (mkF m 99 #[rv a0, iv p1, iv z2, iv z16, .unset] [(.int 0)]))
                exact J21 _ _ X121 N17 e121 (0 : Int32) (((if_neg hc119).trans ((if_neg hc120).trans ((if_neg hc122).trans ((if_neg hc123).trans rfl))))).symm
      by_cases hc124 : p1 = (13 : Int32)
      · refine own_via (fun k => XS.icmpYes X4.here hx rfl (pc0 := 31) (pc' := 61) rfl (hb hby d7_31) rfl (teq hc124).1 (by decide) (by decide) k) ?_
        show own_Go p e below s _ _ (T4.setTop (mkF m 61 #[rv a0, iv p1, iv z2, .unset, .unset] []))
        refine own_via (fun k => XS.iconst X4.here hx rfl (hb hby d7_61) (XS.goto X4.here hx rfl (pc0 := 62) (pc' := 66) rfl (hb hby d7_62) (by decide) (by decide) k)) ?_
        show own_Go p e below s _ _ (T4.setTop (mkF m 66 #[rv a0, iv p1, iv z2, .unset, .unset] [(.int 1)]))
        exact J17 _ _ X4 N11 e4 (1 : Int32) (((if_pos hc124).trans rfl)).symm
      · refine own_via (fun k => XS.icmpNo X4.here hx rfl (hb hby d7_31) rfl (feq hc124).1 k) ?_
        show own_Go p e below s _ _ (T4.setTop (mkF m 34 #[rv a0, iv p1, iv z2, .unset, .unset] []))
        refine own_via (fun k => XS.iloadN X4.here hx rfl (hb hby d7_34) rfl  (XS.bipush X4.here hx rfl (hb hby d7_35) k)) ?_
        show own_Go p e below s _ _ (T4.setTop (mkF m 37 #[rv a0, iv p1, iv z2, .unset, .unset] [(.int 10), (.int p1)]))
        by_cases hc125 : p1 = (10 : Int32)
        · refine own_via (fun k => XS.icmpYes X4.here hx rfl (pc0 := 37) (pc' := 61) rfl (hb hby d7_37) rfl (teq hc125).1 (by decide) (by decide) k) ?_
          show own_Go p e below s _ _ (T4.setTop (mkF m 61 #[rv a0, iv p1, iv z2, .unset, .unset] []))
          refine own_via (fun k => XS.iconst X4.here hx rfl (hb hby d7_61) (XS.goto X4.here hx rfl (pc0 := 62) (pc' := 66) rfl (hb hby d7_62) (by decide) (by decide) k)) ?_
          show own_Go p e below s _ _ (T4.setTop (mkF m 66 #[rv a0, iv p1, iv z2, .unset, .unset] [(.int 1)]))
          exact J17 _ _ X4 N11 e4 (1 : Int32) (((if_neg hc124).trans ((if_pos hc125).trans rfl))).symm
        · refine own_via (fun k => XS.icmpNo X4.here hx rfl (hb hby d7_37) rfl (feq hc125).1 k) ?_
          show own_Go p e below s _ _ (T4.setTop (mkF m 40 #[rv a0, iv p1, iv z2, .unset, .unset] []))
          refine own_via (fun k => XS.aloadN X4.here hx rfl (hb hby d7_40) rfl rfl  k) ?_
          show own_Go p e below s _ _ (T4.setTop (mkF m 41 #[rv a0, iv p1, iv z2, .unset, .unset] [(.ref a0)]))
          obtain ⟨T126, X126, e126, st126⟩ := getF X4 hx hZ hown (host := "") (Or.inl (hw _ (List.mem_of_getElem? (i := 14) rfl))) Via.refl e4 B5 (g := (mkF m 41 #[rv a0, iv p1, iv z2, .unset, .unset] [(.ref a0)])) rfl rfl (hb hby d7_41)
          refine own_via (fun k => st126 _ k) ?_
          show own_Go p e below s _ _ (T126.setTop (mkF m 44 #[rv a0, iv p1, iv z2, .unset, .unset] [(.int x11)]))
          by_cases hc127 : x11 = (0 : Int32)
          · refine own_via (fun k => XS.ifYes X126.here hx rfl (pc0 := 44) (pc' := 65) rfl (hb hby d7_44) rfl ((if0 _ _).trans (teq hc127).1) (by decide) (by decide) k) ?_
            show own_Go p e below s _ _ (T126.setTop (mkF m 65 #[rv a0, iv p1, iv z2, .unset, .unset] []))
            refine own_via (fun k => XS.iconst X126.here hx rfl (hb hby d7_65) k) ?_
            show own_Go p e below s _ _ (T126.setTop (mkF m 66 #[rv a0, iv p1, iv z2, .unset, .unset] [(.int 0)]))
            exact J17 _ _ X126 N11 e126 (0 : Int32) (((if_neg hc124).trans ((if_neg hc125).trans ((if_pos hc127).trans rfl)))).symm
          · refine own_via (fun k => XS.ifNo X126.here hx rfl (hb hby d7_44) rfl ((if0 _ _).trans (feq hc127).1) k) ?_
            show own_Go p e below s _ _ (T126.setTop (mkF m 47 #[rv a0, iv p1, iv z2, .unset, .unset] []))
            refine own_via (fun k => XS.iloadN X126.here hx rfl (hb hby d7_47) rfl  (XS.sipush X126.here hx rfl (hb hby d7_48) k)) ?_
            show own_Go p e below s _ _ (T126.setTop (mkF m 51 #[rv a0, iv p1, iv z2, .unset, .unset] [(.int 133), (.int p1)]))
            by_cases hc128 : p1 = (133 : Int32)
            · refine own_via (fun k => XS.icmpYes X126.here hx rfl (pc0 := 51) (pc' := 61) rfl (hb hby d7_51) rfl (teq hc128).1 (by decide) (by decide) k) ?_
              show own_Go p e below s _ _ (T126.setTop (mkF m 61 #[rv a0, iv p1, iv z2, .unset, .unset] []))
              refine own_via (fun k => XS.iconst X126.here hx rfl (hb hby d7_61) (XS.goto X126.here hx rfl (pc0 := 62) (pc' := 66) rfl (hb hby d7_62) (by decide) (by decide) k)) ?_
              show own_Go p e below s _ _ (T126.setTop (mkF m 66 #[rv a0, iv p1, iv z2, .unset, .unset] [(.int 1)]))
              exact J17 _ _ X126 N11 e126 (1 : Int32) (((if_neg hc124).trans ((if_neg hc125).trans ((if_neg hc127).trans ((if_pos hc128).trans rfl))))).symm
            · refine own_via (fun k => XS.icmpNo X126.here hx rfl (hb hby d7_51) rfl (feq hc128).1 k) ?_
              show own_Go p e below s _ _ (T126.setTop (mkF m 54 #[rv a0, iv p1, iv z2, .unset, .unset] []))
              refine own_via (fun k => XS.iloadN X126.here hx rfl (hb hby d7_54) rfl  (XS.sipush X126.here hx rfl (hb hby d7_55) k)) ?_
              show own_Go p e below s _ _ (T126.setTop (mkF m 58 #[rv a0, iv p1, iv z2, .unset, .unset] [(.int 8232), (.int p1)]))
              by_cases hc129 : p1 = (8232 : Int32)
              · refine own_via (fun k => XS.icmpNo X126.here hx rfl (hb hby d7_58) rfl (teq hc129).2 k) ?_
                show own_Go p e below s _ _ (T126.setTop (mkF m 61 #[rv a0, iv p1, iv z2, .unset, .unset] []))
                refine own_via (fun k => XS.iconst X126.here hx rfl (hb hby d7_61) (XS.goto X126.here hx rfl (pc0 := 62) (pc' := 66) rfl (hb hby d7_62) (by decide) (by decide) k)) ?_
                show own_Go p e below s _ _ (T126.setTop (mkF m 66 #[rv a0, iv p1, iv z2, .unset, .unset] [(.int 1)]))
                exact J17 _ _ X126 N11 e126 (1 : Int32) (((if_neg hc124).trans ((if_neg hc125).trans ((if_neg hc127).trans ((if_neg hc128).trans ((if_pos hc129).trans rfl)))))).symm
              · refine own_via (fun k => XS.icmpYes X126.here hx rfl (pc0 := 58) (pc' := 65) rfl (hb hby d7_58) rfl (feq hc129).2 (by decide) (by decide) k) ?_
                show own_Go p e below s _ _ (T126.setTop (mkF m 65 #[rv a0, iv p1, iv z2, .unset, .unset] []))
                refine own_via (fun k => XS.iconst X126.here hx rfl (hb hby d7_65) k) ?_
                show own_Go p e below s _ _ (T126.setTop (mkF m 66 #[rv a0, iv p1, iv z2, .unset, .unset] [(.int 0)]))
                exact J17 _ _ X126 N11 e126 (0 : Int32) (((if_neg hc124).trans ((if_neg hc125).trans ((if_neg hc127).trans ((if_neg hc128).trans ((if_neg hc129).trans rfl)))))).symm
    · refine own_via (fun k => XS.ifYes X4.here hx rfl (pc0 := 25) (pc' := 157) rfl (hb hby d7_25) rfl ((if0 _ _).trans (feq hc14).2) (by decide) (by decide) k) ?_
      show own_Go p e below s _ _ (T4.setTop (mkF m 157 #[rv a0, iv p1, iv z2, .unset, .unset] []))
      exact own_ret0 X4 hx hlk Bd.returns (hb hby d7_157) (Q := (Q7 Z a0 p1 x11 fc acr ln cl h0 n0)) ⟨rfl, N11, (by rw [e4]; exact K12), (by rw [e4]; exact B5), (by rw [e4]; exact B10), (by rw [e4]; exact own_fldI (show acr = (own_f7a p1 x11 fc acr) from (by subst hz2; unfold own_f7a; exact ((if_neg hc14).trans rfl).symm)) B6), (by rw [e4]; exact own_fldI (show ln = (own_f7l p1 x11 fc acr ln) from (by subst hz2; unfold own_f7l; exact ((if_neg hc14).trans rfl).symm)) B7), (by rw [e4]; exact own_fldI (show cl = (own_f7k p1 x11 fc acr cl) from (by subst hz2; unfold own_f7k; exact ((if_neg hc14).trans rfl).symm)) B8)⟩ (by decide) (by decide)
  by_cases hc130 : fc = (0 : Int32)
  · refine own_via (fun k => XS.ifYes X1.here hx rfl (pc0 := 4) (pc' := 17) rfl (hb hby d7_4) rfl ((if0 _ _).trans (teq hc130).1) (by decide) (by decide) k) ?_
    show own_Go p e below s _ _ (T1.setTop (mkF m 17 #[rv a0, iv p1, .unset, .unset, .unset] []))
    refine own_via (fun k => XS.iconst X1.here hx rfl (hb hby d7_17) k) ?_
    show own_Go p e below s _ _ (T1.setTop (mkF m 18 #[rv a0, iv p1, .unset, .unset, .unset] [(.int 0)]))
    exact J3 (0 : Int32) (((if_pos hc130).trans rfl)).symm
  · refine own_via (fun k => XS.ifNo X1.here hx rfl (hb hby d7_4) rfl ((if0 _ _).trans (feq hc130).1) k) ?_
    show own_Go p e below s _ _ (T1.setTop (mkF m 7 #[rv a0, iv p1, .unset, .unset, .unset] []))
    refine own_via (fun k => XS.iloadN X1.here hx rfl (hb hby d7_7) rfl  (X1.ldcInt hx hown (mvT hZ (hw _ (List.mem_of_getElem? (i := 44) rfl))) (g := (mkF m 8 #[rv a0, iv p1, .unset, .unset, .unset] [(.int p1)])) rfl (hb hby d7_8) _ k)) ?_
    show own_Go p e below s _ _ (T1.setTop (mkF m 10 #[rv a0, iv p1, .unset, .unset, .unset] [(.int 65279), (.int p1)]))
    by_cases hc131 : p1 = (65279 : Int32)
    · refine own_via (fun k => XS.icmpNo X1.here hx rfl (hb hby d7_10) rfl (teq hc131).2 k) ?_
      show own_Go p e below s _ _ (T1.setTop (mkF m 13 #[rv a0, iv p1, .unset, .unset, .unset] []))
      refine own_via (fun k => XS.iconst X1.here hx rfl (hb hby d7_13) (XS.goto X1.here hx rfl (pc0 := 14) (pc' := 18) rfl (hb hby d7_14) (by decide) (by decide) k)) ?_
      show own_Go p e below s _ _ (T1.setTop (mkF m 18 #[rv a0, iv p1, .unset, .unset, .unset] [(.int 1)]))
      exact J3 (1 : Int32) (((if_neg hc130).trans ((if_pos hc131).trans rfl))).symm
    · refine own_via (fun k => XS.icmpYes X1.here hx rfl (pc0 := 10) (pc' := 17) rfl (hb hby d7_10) rfl (feq hc131).2 (by decide) (by decide) k) ?_
      show own_Go p e below s _ _ (T1.setTop (mkF m 17 #[rv a0, iv p1, .unset, .unset, .unset] []))
      refine own_via (fun k => XS.iconst X1.here hx rfl (hb hby d7_17) k) ?_
      show own_Go p e below s _ _ (T1.setTop (mkF m 18 #[rv a0, iv p1, .unset, .unset, .unset] [(.int 0)]))
      exact J3 (0 : Int32) (((if_neg hc130).trans ((if_neg hc131).trans rfl))).symm
theorem pn_0 : plainName "com/example/tree_to_rows/treetorows/xml/DocumentPlacePassAsciiPinLaw" = true := by first | (simp [plainName, overriddenIn]; done) | decide +kernel
theorem pd_0 : parseMethodDescriptor "(I)B" = some ⟨[.int], some .byte⟩ := by decide +kernel
theorem pd_1 : parseMethodDescriptor "(Z)V" = some ⟨[.boolean], none⟩ := by decide +kernel
theorem pd_3 : parseMethodDescriptor "([BII)I" = some ⟨[(.array .byte), .int, .int], some .int⟩ := by decide +kernel
theorem pd_4 : parseMethodDescriptor "()I" = some ⟨[], some .int⟩ := by decide +kernel
theorem pd_5 : parseMethodDescriptor "(C)V" = some ⟨[.char], none⟩ := by decide +kernel
theorem ef_0 (m : MethodId) (x0 : Int32) (x1 : Int32) (x2 : Int32) (x3 : Int32) (x4 : Int32) (x5 : Int32) : entryFrame m #[(.int x0), (.int x1), (.int x2), (.int x3), (.int x4), (.int x5)] maxLocals = mkF m 0 #[iv x0, iv x1, iv x2, iv x3, iv x4, iv x5, .unset, .unset, .unset, .unset, .unset, .unset, .unset, .unset, .unset, .unset] [] := by first | (simp [entryFrame, mkF, argsToLocals, Value.category, maxLocals]; done) | rfl
theorem own_pass1 {g : Int32 → Int32} {t i a l k x f : Int32} (h : i < t) (h1 : ¬ g i < (0 : Int32)) (h2 : ¬ (127 : Int32) < g i) : own_rn g t i a l k = own_rn g t (i + 1) (own_f7a ((g i).toUInt32.toUInt16.toUInt32.toInt32) x f a) (own_f7l ((g i).toUInt32.toUInt16.toUInt32.toInt32) x f a l) (own_f7k ((g i).toUInt32.toUInt16.toUInt32.toInt32) x f a k) := by
  have e0 : (0 : Int32).toInt = 0 := by decide
  have e127 : (127 : Int32).toInt = 127 := by decide
  have hc : (g i).toUInt32.toUInt16.toUInt32.toInt32 = g i := by
    have c := c_i2c (g i); rw [own_l32] at h1 h2; rw [own_e32]; omega
  rw [hc, own_rn_in h, if_neg h1]
  generalize g i = b at *
  have k1 : ¬ b = 133 := by intro q; subst q; exact h2 (by decide)
  have k2 : ¬ b = 8232 := by intro q; subst q; exact h2 (by decide)
  have k3 : ¬ b = 65279 := by intro q; subst q; exact h2 (by decide)
  by_cases b1 : b = 10
  · subst b1
    by_cases ha : a = 0 <;> by_cases hx : x = 0 <;> by_cases hf : f = 0 <;> simp [own_f7a, own_f7l, own_f7k, ha, hx, hf]
  · by_cases b2 : b = 13
    · subst b2
      by_cases ha : a = 0 <;> by_cases hx : x = 0 <;> by_cases hf : f = 0 <;> simp [own_f7a, own_f7l, own_f7k, ha, hx, hf]
    · by_cases ha : a = 0 <;> by_cases hx : x = 0 <;> by_cases hf : f = 0 <;> simp [own_f7a, own_f7l, own_f7k, ha, hx, hf, b1, b2, k1, k2, k3]
theorem own_fr (u z : Int32) (h : z = ((u &&& (7 : Int32)) % (5 : Int32))) : 0 ≤ z.toInt ∧ z.toInt < 5 := by
  have m := c_mask u 7 3 (by decide) (by decide)
  have r := (c_irem (u &&& (7 : Int32)) 5 5 (by decide)).1 (by omega)
  rw [h]; omega
theorem own_5z (z : Int32) (h : 0 ≤ z.toInt ∧ z.toInt < 5) : ((5 : Int32) - z).toInt = 5 - z.toInt := by
  have e : (5 : Int32).toInt = 5 := by decide
  have s := c_isub 5 z; have r := rng32 (5 - z); omega
theorem own_nz0 (u z : Int32) (h : z = ((u &&& (7 : Int32)) % (5 : Int32))) : ¬ (((5 : Int32) - z) = (0 : Int32)) := by
  have e0 : (0 : Int32).toInt = 0 := by decide
  have b := own_fr u z h; have s := own_5z z b
  rw [own_e32]; omega
theorem own_p2 (u z : Int32) (h : z = ((u &&& (7 : Int32)) % (5 : Int32))) : ¬ z < 0 := by
  have e0 : (0 : Int32).toInt = 0 := by decide
  have b := own_fr u z h; rw [own_l32]; omega
theorem own_p3 (u v z t : Int32) (h : z = ((u &&& (7 : Int32)) % (5 : Int32))) (ht : t = z + ((v &&& (7 : Int32)) % ((5 : Int32) - z))) : ¬ (4 : Int32) < t := by
  have e4 : (4 : Int32).toInt = 4 := by decide
  have b := own_fr u z h; have s := own_5z z b
  have m := c_mask v 7 3 (by decide) (by decide)
  have r := (c_iremV (v &&& (7 : Int32)) ((5 : Int32) - z)).1 (by omega) (by omega)
  have a := c_iadd z ((v &&& (7 : Int32)) % ((5 : Int32) - z)); have ra := rng32 (z + ((v &&& (7 : Int32)) % ((5 : Int32) - z)))
  rw [ht, own_l32]; omega
theorem own_nz (p4 : Int32) (z35 : Int32) (hz35 : z35 = ((((p4.toUInt32 >>> ((1 : Int32) &&& 31).toUInt32).toInt32) &&& (7 : Int32)) % (5 : Int32))) : ¬ (((5 : Int32) - z35) = (0 : Int32)) := own_nz0 _ _ hz35
theorem own_hhbo (p4 : Int32) (z1 : Int32) (hz1 : z1 = (if (p4 &&& (1 : Int32)) = (0 : Int32) then (0 : Int32) else (1 : Int32))) : nar .boolean z1 = z1 := by subst hz1; split <;> rfl
theorem own_hhp2 (p4 : Int32) (z35 : Int32) (hz35 : z35 = ((((p4.toUInt32 >>> ((1 : Int32) &&& 31).toUInt32).toInt32) &&& (7 : Int32)) % (5 : Int32))) : ¬ z35 < 0 := own_p2 _ _ hz35
theorem own_hhp3 (p4 : Int32) (z35 : Int32) (hz35 : z35 = ((((p4.toUInt32 >>> ((1 : Int32) &&& 31).toUInt32).toInt32) &&& (7 : Int32)) % (5 : Int32))) (z36 : Int32) (hz36 : z36 = (z35 + ((((p4.toUInt32 >>> ((4 : Int32) &&& 31).toUInt32).toInt32) &&& (7 : Int32)) % ((5 : Int32) - z35)))) : ¬ (4 : Int32) < z36 := own_p3 _ _ _ _ hz35 hz36
def Q0 (Z : State) (p0 : Int32) (p1 : Int32) (p2 : Int32) (p3 : Int32) (p4 : Int32) (p5 : Int32) (h0 : Heap) (n0 : Nat) (v : Option Value) (h : Heap) (L : List Loc) : Prop := v = some (.int 1) ∧ Fr n0 L
set_option maxRecDepth 65536 in
set_option maxHeartbeats 40000000 in
theorem rm0 (l : Launch) (Z : State) (aw : Array Value) (hw : ∀ d ∈ tables_1, d.before aw Z = true) (ws : List Jvm.Cond) (p0 : Int32) (p1 : Int32) (p2 : Int32) (p3 : Int32) (p4 : Int32) (p5 : Int32) (h0 : Heap) (n0 : Nat) (Z0 : n0 ≤ h0.size)  :
    MetFree l x (head1 (Jvm.Cond.code x code maxLocals ret :: ws) room_1) (fun a U => a = #[(.int p0), (.int p1), (.int p2), (.int p3), (.int p4), (.int p5)] ∧ Z.Warmed39 U.vm ∧ U.heap = h0) (fun _ _ _ _ _ => True) (fun _ U o U' => ∃ v L, o = .returned v ∧ Q0 Z p0 p1 p2 p3 p4 p5 h0 n0 v U'.heap L ∧ FrameEnd U o U' L room_1.cells room_1.slots) := by
  refine MetFree.of_bodySF (plainFor_of_name pn_0) hisR ?_
  intro p e s m args below meth c s₁ Bd hml0 hP hK
  obtain ⟨rfl, hZ, hh⟩ := hP
  have hx := Bd.exec
  have hby := Bd.bytes
  have hml : c.maxLocals = 16 := hml0
  have hown : s.vm.findClass "com/example/tree_to_rows/treetorows/xml/DocumentPlacePassAsciiPinLaw" = some m.cls := findClass_of_methodNamed Bd.named
  have hnm := (name_of_methodNamed Bd.named Bd.method).1
  have hlk : meth.locks = false := by first | exact BodyLoose.notSynchronized (by assumption) | exact Body.notSynchronized (by assumption)
  have X0 : Stand p l e room_1 s m #[(.int p0), (.int p1), (.int p2), (.int p3), (.int p4), (.int p5)] below meth c s₁ [] 0 0 := Stand.of_body Bd
  have e0 : s₁.heap = h0 := by rw [← hh, Bd.state]; rfl
  have N0 := Fr.nil n0
  refine own_start (CS := (room_1.cells, room_1.slots)) (Q := (Q0 Z p0 p1 p2 p3 p4 p5 h0 n0)) (ef_0 m p0 p1 p2 p3 p4 p5) ?_
  show own_Go p e below s _ _ (s₁.setTop (mkF m 0 #[iv p0, iv p1, iv p2, iv p3, iv p4, iv p5, .unset, .unset, .unset, .unset, .unset, .unset, .unset, .unset, .unset, .unset] []))
  refine own_via (fun k => XS.iload X0.here hx rfl (hb hby at_0) rfl  (XS.iconst X0.here hx rfl (hb hby at_2) (XS.iand X0.here hx rfl (hb hby at_3) rfl k))) ?_
  show own_Go p e below s _ _ (s₁.setTop (mkF m 4 #[iv p0, iv p1, iv p2, iv p3, iv p4, iv p5, .unset, .unset, .unset, .unset, .unset, .unset, .unset, .unset, .unset, .unset] [(.int (p4 &&& (1 : Int32)))]))
  have J2 : ∀ (z1 : Int32), z1 = (if (p4 &&& (1 : Int32)) = (0 : Int32) then (0 : Int32) else (1 : Int32)) → own_Go p e below s (Q0 Z p0 p1 p2 p3 p4 p5 h0 n0) (room_1.cells, room_1.slots) (s₁.setTop (mkF m 12 #[iv p0, iv p1, iv p2, iv p3, iv p4, iv p5, .unset, .unset, .unset, .unset, .unset, .unset, .unset, .unset, .unset, .unset] [(.int z1)])) := by
    intro z1 hz1
    refine own_via (fun k => XS.istore X0.here hx rfl (hb hby at_12) rfl (l' := #[iv p0, iv p1, iv p2, iv p3, iv p4, iv p5, iv z1, .unset, .unset, .unset, .unset, .unset, .unset, .unset, .unset, .unset]) rfl (XS.iconst X0.here hx rfl (hb hby at_14) k)) ?_
    show own_Go p e below s _ _ (s₁.setTop (mkF m 15 #[iv p0, iv p1, iv p2, iv p3, iv p4, iv p5, iv z1, .unset, .unset, .unset, .unset, .unset, .unset, .unset, .unset, .unset] [(.int 4)]))
    obtain ⟨T3, h3, k3, X3, e3, E3, A3, st3⟩ := newP X0 hx hZ (hw _ (List.mem_of_getElem? (i := 0) rfl)) e0 (g := (mkF m 15 #[iv p0, iv p1, iv p2, iv p3, iv p4, iv p5, iv z1, .unset, .unset, .unset, .unset, .unset, .unset, .unset, .unset, .unset] [(.int 4)])) rfl (hb hby at_15) rfl (by decide) (cap := 4) (by decide) (by decide) (by decide) (by decide)
    obtain ⟨b3, g3⟩ : ∃ z, z = h0.size := ⟨_, rfl⟩
    rw [← g3] at A3 st3
    refine own_via (fun k => st3 _ k) ?_
    show own_Go p e below s _ _ (T3.setTop (mkF m 17 #[iv p0, iv p1, iv p2, iv p3, iv p4, iv p5, iv z1, .unset, .unset, .unset, .unset, .unset, .unset, .unset, .unset, .unset] [(.ref b3)]))
    have g4 : n0 ≤ b3 := Nat.le_trans Z0 (Nat.le_of_eq g3.symm)
    have Z5 : n0 ≤ h3.size := Nat.le_trans Z0 E3.1
    have B6 : Arv Z h3 b3 k3 .byte (4 : Int32) [(.int 0), (.int 0), (.int 0), (.int 0)] (.int 0) := (Arv.new A3 (by decide)).pad (pad_rep [] (.int 0) 4)
    refine own_via (fun k => XS.dup X3.here hx rfl (hb hby at_17) rfl rfl (XS.iconst X3.here hx rfl (hb hby at_18) (XS.iloadN X3.here hx rfl (hb hby at_19) rfl  k))) ?_
    show own_Go p e below s _ _ (T3.setTop (mkF m 20 #[iv p0, iv p1, iv p2, iv p3, iv p4, iv p5, iv z1, .unset, .unset, .unset, .unset, .unset, .unset, .unset, .unset, .unset] [(.int p0), (.int 0), (.ref b3), (.ref b3)]))
    obtain ⟨_, _, ⟨T7, L7, k7, n7⟩, -, X7, ⟨Lc7, hQ7, l7, y7, z7⟩, st7⟩ := Jvm.LawKit.callS X3 hx (y := (⟨"com/example/tree_to_rows/treetorows/xml/DocumentPlacePassAsciiPinLaw", "draw", "(I)B"⟩ : MethodName)) hown (mvT hZ (hw _ (List.mem_of_getElem? (i := 1) rfl))) (mvT hZ (hw _ (List.mem_of_getElem? (i := 2) rfl))) (mvT hZ (hw _ (List.mem_of_getElem? (i := 3) rfl))) (mvT hZ (hw _ (List.mem_of_getElem? (i := 4) rfl))) (by decide) (backOf (W := 3) (rm1 l Z aw hw [] p0 h3 n0 Z5) hZ (hw _ (List.mem_of_getElem? (i := 4) rfl)) (hw _ (List.mem_of_getElem? (i := 3) rfl)) (by decide) (by decide)) (g := (mkF m 20 #[iv p0, iv p1, iv p2, iv p3, iv p4, iv p5, iv z1, .unset, .unset, .unset, .unset, .unset, .unset, .unset, .unset, .unset] [(.int p0), (.int 0), (.ref b3), (.ref b3)])) rfl (by rw [hml]; rfl) (argsL := [(.int p0)]) (rest := [(.int 0), (.ref b3), (.ref b3)]) (lenOf pd_0 rfl) rfl (by show 2 * 0 + _ ≤ _; exact Nat.le_of_eq rfl) (hb hby at_20) (fun _ _ => ⟨rfl, e3, (by decide : 1 + 0 ≤ _), (by decide : 4 + 0 ≤ _)⟩)
    dsimp only [Pt.U, Pt.locs, Pt.cells, Pt.slots] at X7 l7 y7 z7 st7 hQ7
    subst l7 y7 z7
    obtain ⟨rfl, N7q, eh7⟩ := hQ7
    have N8 := Fr.app N0 N7q
    refine own_via (fun k => st7 _ k) ?_
    show own_Go p e below s _ _ (T7.setTop (mkF m 23 #[iv p0, iv p1, iv p2, iv p3, iv p4, iv p5, iv z1, .unset, .unset, .unset, .unset, .unset, .unset, .unset, .unset, .unset] [(.int (own_f1 p0)), (.int 0), (.ref b3), (.ref b3)]))
    obtain ⟨z9, hz9⟩ : ∃ z : Int32, z = (own_f1 p0) := ⟨_, rfl⟩
    rw [← hz9]
    show own_Go p e below s _ _ (T7.setTop (mkF m 23 #[iv p0, iv p1, iv p2, iv p3, iv p4, iv p5, iv z1, .unset, .unset, .unset, .unset, .unset, .unset, .unset, .unset, .unset] [(.int z9), (.int 0), (.ref b3), (.ref b3)]))
    obtain ⟨cl10, Ar10, q10, S10, NN10, H10, G10⟩ := id B6
    have hin10 : ¬ ((0 : Int32) < 0 ∨ cl10.slots.size ≤ ((0 : Int32)).toNatClampNeg) := inb_of S10 ⟨by decide, by decide⟩
    obtain ⟨T10, h10, X10, e10, W10, st10⟩ := stB X7 hx hZ eh7 Ar10 (j := (0 : Int32)) hin10 (g := (mkF m 23 #[iv p0, iv p1, iv p2, iv p3, iv p4, iv p5, iv z1, .unset, .unset, .unset, .unset, .unset, .unset, .unset, .unset, .unset] [(.int z9), (.int 0), (.ref b3), (.ref b3)])) rfl rfl (hb hby at_23)
    refine own_via (fun k => st10 _ k) ?_
    show own_Go p e below s _ _ (T10.setTop (mkF m 24 #[iv p0, iv p1, iv p2, iv p3, iv p4, iv p5, iv z1, .unset, .unset, .unset, .unset, .unset, .unset, .unset, .unset, .unset] [(.ref b3)]))
    have B11 : Arv Z h10 b3 k3 .byte (4 : Int32) [(.int (nar .byte z9)), (.int 0), (.int 0), (.int 0)] (.int 0) := Arv.set Ar10 q10 S10 NN10 H10 G10 (fits_nar_byte _) W10 0 rfl (Nat.le_of_ble_eq_true rfl)
    have N12 := Fr.snoc X10 N8 g4
    have Z13 : n0 ≤ h10.size := Nat.le_trans Z5 (Keep.of_wr W10).1
    refine own_via (fun k => XS.dup X10.here hx rfl (hb hby at_24) rfl rfl (XS.iconst X10.here hx rfl (hb hby at_25) (XS.iloadN X10.here hx rfl (hb hby at_26) rfl  k))) ?_
    show own_Go p e below s _ _ (T10.setTop (mkF m 27 #[iv p0, iv p1, iv p2, iv p3, iv p4, iv p5, iv z1, .unset, .unset, .unset, .unset, .unset, .unset, .unset, .unset, .unset] [(.int p1), (.int 1), (.ref b3), (.ref b3)]))
    obtain ⟨_, _, ⟨T14, L14, k14, n14⟩, -, X14, ⟨Lc14, hQ14, l14, y14, z14⟩, st14⟩ := Jvm.LawKit.callS X10 hx (y := (⟨"com/example/tree_to_rows/treetorows/xml/DocumentPlacePassAsciiPinLaw", "draw", "(I)B"⟩ : MethodName)) hown (mvT hZ (hw _ (List.mem_of_getElem? (i := 1) rfl))) (mvT hZ (hw _ (List.mem_of_getElem? (i := 2) rfl))) (mvT hZ (hw _ (List.mem_of_getElem? (i := 3) rfl))) (mvT hZ (hw _ (List.mem_of_getElem? (i := 4) rfl))) (by decide) (backOf (W := 3) (rm1 l Z aw hw [] p1 h10 n0 Z13) hZ (hw _ (List.mem_of_getElem? (i := 4) rfl)) (hw _ (List.mem_of_getElem? (i := 3) rfl)) (by decide) (by decide)) (g := (mkF m 27 #[iv p0, iv p1, iv p2, iv p3, iv p4, iv p5, iv z1, .unset, .unset, .unset, .unset, .unset, .unset, .unset, .unset, .unset] [(.int p1), (.int 1), (.ref b3), (.ref b3)])) rfl (by rw [hml]; rfl) (argsL := [(.int p1)]) (rest := [(.int 1), (.ref b3), (.ref b3)]) (lenOf pd_0 rfl) rfl (by show 2 * 0 + _ ≤ _; exact Nat.le_of_eq rfl) (hb hby at_27) (fun _ _ => ⟨rfl, e10, (by decide : 1 + 0 ≤ _), (by decide : 4 + 0 ≤ _)⟩)
    dsimp only [Pt.U, Pt.locs, Pt.cells, Pt.slots] at X14 l14 y14 z14 st14 hQ14
    subst l14 y14 z14
    obtain ⟨rfl, N14q, eh14⟩ := hQ14
    have N15 := Fr.app N12 N14q
    refine own_via (fun k => st14 _ k) ?_
    show own_Go p e below s _ _ (T14.setTop (mkF m 30 #[iv p0, iv p1, iv p2, iv p3, iv p4, iv p5, iv z1, .unset, .unset, .unset, .unset, .unset, .unset, .unset, .unset, .unset] [(.int (own_f1 p1)), (.int 1), (.ref b3), (.ref b3)]))
    obtain ⟨z16, hz16⟩ : ∃ z : Int32, z = (own_f1 p1) := ⟨_, rfl⟩
    rw [← hz16]
    show own_Go p e below s _ _ (T14.setTop (mkF m 30 #[iv p0, iv p1, iv p2, iv p3, iv p4, iv p5, iv z1, .unset, .unset, .unset, .unset, .unset, .unset, .unset, .unset, .unset] [(.int z16), (.int 1), (.ref b3), (.ref b3)]))
    obtain ⟨cl17, Ar17, q17, S17, NN17, H17, G17⟩ := id B11
    have hin17 : ¬ ((1 : Int32) < 0 ∨ cl17.slots.size ≤ ((1 : Int32)).toNatClampNeg) := inb_of S17 ⟨by decide, by decide⟩
    obtain ⟨T17, h17, X17, e17, W17, st17⟩ := stB X14 hx hZ eh14 Ar17 (j := (1 : Int32)) hin17 (g := (mkF m 30 #[iv p0, iv p1, iv p2, iv p3, iv p4, iv p5, iv z1, .unset, .unset, .unset, .unset, .unset, .unset, .unset, .unset, .unset] [(.int z16), (.int 1), (.ref b3), (.ref b3)])) rfl rfl (hb hby at_30)
    refine own_via (fun k => st17 _ k) ?_
    show own_Go p e below s _ _ (T17.setTop (mkF m 31 #[iv p0, iv p1, iv p2, iv p3, iv p4, iv p5, iv z1, .unset, .unset, .unset, .unset, .unset, .unset, .unset, .unset, .unset] [(.ref b3)]))
    have B18 : Arv Z h17 b3 k3 .byte (4 : Int32) [(.int (nar .byte z9)), (.int (nar .byte z16)), (.int 0), (.int 0)] (.int 0) := Arv.set Ar17 q17 S17 NN17 H17 G17 (fits_nar_byte _) W17 1 rfl (Nat.le_of_ble_eq_true rfl)
    have N19 := Fr.snoc X17 N15 g4
    have Z20 : n0 ≤ h17.size := Nat.le_trans Z13 (Keep.of_wr W17).1
    refine own_via (fun k => XS.dup X17.here hx rfl (hb hby at_31) rfl rfl (XS.iconst X17.here hx rfl (hb hby at_32) (XS.iloadN X17.here hx rfl (hb hby at_33) rfl  k))) ?_
    show own_Go p e below s _ _ (T17.setTop (mkF m 34 #[iv p0, iv p1, iv p2, iv p3, iv p4, iv p5, iv z1, .unset, .unset, .unset, .unset, .unset, .unset, .unset, .unset, .unset] [(.int p2), (.int 2), (.ref b3), (.ref b3)]))
    obtain ⟨_, _, ⟨T21, L21, k21, n21⟩, -, X21, ⟨Lc21, hQ21, l21, y21, z21⟩, st21⟩ := Jvm.LawKit.callS X17 hx (y := (⟨"com/example/tree_to_rows/treetorows/xml/DocumentPlacePassAsciiPinLaw", "draw", "(I)B"⟩ : MethodName)) hown (mvT hZ (hw _ (List.mem_of_getElem? (i := 1) rfl))) (mvT hZ (hw _ (List.mem_of_getElem? (i := 2) rfl))) (mvT hZ (hw _ (List.mem_of_getElem? (i := 3) rfl))) (mvT hZ (hw _ (List.mem_of_getElem? (i := 4) rfl))) (by decide) (backOf (W := 3) (rm1 l Z aw hw [] p2 h17 n0 Z20) hZ (hw _ (List.mem_of_getElem? (i := 4) rfl)) (hw _ (List.mem_of_getElem? (i := 3) rfl)) (by decide) (by decide)) (g := (mkF m 34 #[iv p0, iv p1, iv p2, iv p3, iv p4, iv p5, iv z1, .unset, .unset, .unset, .unset, .unset, .unset, .unset, .unset, .unset] [(.int p2), (.int 2), (.ref b3), (.ref b3)])) rfl (by rw [hml]; rfl) (argsL := [(.int p2)]) (rest := [(.int 2), (.ref b3), (.ref b3)]) (lenOf pd_0 rfl) rfl (by show 2 * 0 + _ ≤ _; exact Nat.le_of_eq rfl) (hb hby at_34) (fun _ _ => ⟨rfl, e17, (by decide : 1 + 0 ≤ _), (by decide : 4 + 0 ≤ _)⟩)
    dsimp only [Pt.U, Pt.locs, Pt.cells, Pt.slots] at X21 l21 y21 z21 st21 hQ21
    subst l21 y21 z21
    obtain ⟨rfl, N21q, eh21⟩ := hQ21
    have N22 := Fr.app N19 N21q
    refine own_via (fun k => st21 _ k) ?_
    show own_Go p e below s _ _ (T21.setTop (mkF m 37 #[iv p0, iv p1, iv p2, iv p3, iv p4, iv p5, iv z1, .unset, .unset, .unset, .unset, .unset, .unset, .unset, .unset, .unset] [(.int (own_f1 p2)), (.int 2), (.ref b3), (.ref b3)]))
    obtain ⟨z23, hz23⟩ : ∃ z : Int32, z = (own_f1 p2) := ⟨_, rfl⟩
    rw [← hz23]
    show own_Go p e below s _ _ (T21.setTop (mkF m 37 #[iv p0, iv p1, iv p2, iv p3, iv p4, iv p5, iv z1, .unset, .unset, .unset, .unset, .unset, .unset, .unset, .unset, .unset] [(.int z23), (.int 2), (.ref b3), (.ref b3)]))
    obtain ⟨cl24, Ar24, q24, S24, NN24, H24, G24⟩ := id B18
    have hin24 : ¬ ((2 : Int32) < 0 ∨ cl24.slots.size ≤ ((2 : Int32)).toNatClampNeg) := inb_of S24 ⟨by decide, by decide⟩
    obtain ⟨T24, h24, X24, e24, W24, st24⟩ := stB X21 hx hZ eh21 Ar24 (j := (2 : Int32)) hin24 (g := (mkF m 37 #[iv p0, iv p1, iv p2, iv p3, iv p4, iv p5, iv z1, .unset, .unset, .unset, .unset, .unset, .unset, .unset, .unset, .unset] [(.int z23), (.int 2), (.ref b3), (.ref b3)])) rfl rfl (hb hby at_37)
    refine own_via (fun k => st24 _ k) ?_
    show own_Go p e below s _ _ (T24.setTop (mkF m 38 #[iv p0, iv p1, iv p2, iv p3, iv p4, iv p5, iv z1, .unset, .unset, .unset, .unset, .unset, .unset, .unset, .unset, .unset] [(.ref b3)]))
    have B25 : Arv Z h24 b3 k3 .byte (4 : Int32) [(.int (nar .byte z9)), (.int (nar .byte z16)), (.int (nar .byte z23)), (.int 0)] (.int 0) := Arv.set Ar24 q24 S24 NN24 H24 G24 (fits_nar_byte _) W24 2 rfl (Nat.le_of_ble_eq_true rfl)
    have N26 := Fr.snoc X24 N22 g4
    have Z27 : n0 ≤ h24.size := Nat.le_trans Z20 (Keep.of_wr W24).1
    refine own_via (fun k => XS.dup X24.here hx rfl (hb hby at_38) rfl rfl (XS.iconst X24.here hx rfl (hb hby at_39) (XS.iloadN X24.here hx rfl (hb hby at_40) rfl  k))) ?_
    show own_Go p e below s _ _ (T24.setTop (mkF m 41 #[iv p0, iv p1, iv p2, iv p3, iv p4, iv p5, iv z1, .unset, .unset, .unset, .unset, .unset, .unset, .unset, .unset, .unset] [(.int p3), (.int 3), (.ref b3), (.ref b3)]))
    obtain ⟨_, _, ⟨T28, L28, k28, n28⟩, -, X28, ⟨Lc28, hQ28, l28, y28, z28⟩, st28⟩ := Jvm.LawKit.callS X24 hx (y := (⟨"com/example/tree_to_rows/treetorows/xml/DocumentPlacePassAsciiPinLaw", "draw", "(I)B"⟩ : MethodName)) hown (mvT hZ (hw _ (List.mem_of_getElem? (i := 1) rfl))) (mvT hZ (hw _ (List.mem_of_getElem? (i := 2) rfl))) (mvT hZ (hw _ (List.mem_of_getElem? (i := 3) rfl))) (mvT hZ (hw _ (List.mem_of_getElem? (i := 4) rfl))) (by decide) (backOf (W := 3) (rm1 l Z aw hw [] p3 h24 n0 Z27) hZ (hw _ (List.mem_of_getElem? (i := 4) rfl)) (hw _ (List.mem_of_getElem? (i := 3) rfl)) (by decide) (by decide)) (g := (mkF m 41 #[iv p0, iv p1, iv p2, iv p3, iv p4, iv p5, iv z1, .unset, .unset, .unset, .unset, .unset, .unset, .unset, .unset, .unset] [(.int p3), (.int 3), (.ref b3), (.ref b3)])) rfl (by rw [hml]; rfl) (argsL := [(.int p3)]) (rest := [(.int 3), (.ref b3), (.ref b3)]) (lenOf pd_0 rfl) rfl (by show 2 * 0 + _ ≤ _; exact Nat.le_of_eq rfl) (hb hby at_41) (fun _ _ => ⟨rfl, e24, (by decide : 1 + 0 ≤ _), (by decide : 4 + 0 ≤ _)⟩)
    dsimp only [Pt.U, Pt.locs, Pt.cells, Pt.slots] at X28 l28 y28 z28 st28 hQ28
    subst l28 y28 z28
    obtain ⟨rfl, N28q, eh28⟩ := hQ28
    have N29 := Fr.app N26 N28q
    refine own_via (fun k => st28 _ k) ?_
    show own_Go p e below s _ _ (T28.setTop (mkF m 44 #[iv p0, iv p1, iv p2, iv p3, iv p4, iv p5, iv z1, .unset, .unset, .unset, .unset, .unset, .unset, .unset, .unset, .unset] [(.int (own_f1 p3)), (.int 3), (.ref b3), (.ref b3)]))
    obtain ⟨z30, hz30⟩ : ∃ z : Int32, z = (own_f1 p3) := ⟨_, rfl⟩
    rw [← hz30]
    show own_Go p e below s _ _ (T28.setTop (mkF m 44 #[iv p0, iv p1, iv p2, iv p3, iv p4, iv p5, iv z1, .unset, .unset, .unset, .unset, .unset, .unset, .unset, .unset, .unset] [(.int z30), (.int 3), (.ref b3), (.ref b3)]))
    obtain ⟨cl31, Ar31, q31, S31, NN31, H31, G31⟩ := id B25
    have hin31 : ¬ ((3 : Int32) < 0 ∨ cl31.slots.size ≤ ((3 : Int32)).toNatClampNeg) := inb_of S31 ⟨by decide, by decide⟩
    obtain ⟨T31, h31, X31, e31, W31, st31⟩ := stB X28 hx hZ eh28 Ar31 (j := (3 : Int32)) hin31 (g := (mkF m 44 #[iv p0, iv p1, iv p2, iv p3, iv p4, iv p5, iv z1, .unset, .unset, .unset, .unset, .unset, .unset, .unset, .unset, .unset] [(.int z30), (.int 3), (.ref b3), (.ref b3)])) rfl rfl (hb hby at_44)
    refine own_via (fun k => st31 _ k) ?_
    show own_Go p e below s _ _ (T31.setTop (mkF m 45 #[iv p0, iv p1, iv p2, iv p3, iv p4, iv p5, iv z1, .unset, .unset, .unset, .unset, .unset, .unset, .unset, .unset, .unset] [(.ref b3)]))
    have B32 : Arv Z h31 b3 k3 .byte (4 : Int32) [(.int (nar .byte z9)), (.int (nar .byte z16)), (.int (nar .byte z23)), (.int (nar .byte z30))] (.int 0) := Arv.set Ar31 q31 S31 NN31 H31 G31 (fits_nar_byte _) W31 3 rfl (Nat.le_of_ble_eq_true rfl)
    have N33 := Fr.snoc X31 N29 g4
    have Z34 : n0 ≤ h31.size := Nat.le_trans Z27 (Keep.of_wr W31).1
    refine own_via (fun k => XS.astore X31.here hx rfl (hb hby at_45) rfl rfl (l' := #[iv p0, iv p1, iv p2, iv p3, iv p4, iv p5, iv z1, rv b3, .unset, .unset, .unset, .unset, .unset, .unset, .unset, .unset]) rfl k) ?_
    show own_Go p e below s _ _ (T31.setTop (mkF m 47 #[iv p0, iv p1, iv p2, iv p3, iv p4, iv p5, iv z1, rv b3, .unset, .unset, .unset, .unset, .unset, .unset, .unset, .unset] []))
    obtain ⟨g, hg, hgr⟩ : ∃ g : Int32 → Int32, (∀ j : Int32, ¬ j < (0 : Int32) ∧ j < (4 : Int32) → ([(.int (nar .byte z9)), (.int (nar .byte z16)), (.int (nar .byte z23)), (.int (nar .byte z30))] : List Value).getD j.toNatClampNeg (.int 0) = .int (g j)) ∧ ∀ j : Int32, ¬ (127 : Int32) < g j := ⟨fun j => own_b (nar .byte z9) (nar .byte z16) (nar .byte z23) (nar .byte z30) j, fun j => own_get (nar .byte z9) (nar .byte z16) (nar .byte z23) (nar .byte z30) j, fun j => own_br _ _ _ _ j⟩
    refine own_via (fun k => XS.iload X31.here hx rfl (hb hby at_47) rfl  (XS.iconst X31.here hx rfl (hb hby at_49) (XS.iushr X31.here hx rfl (hb hby at_50) rfl (XS.bipush X31.here hx rfl (hb hby at_51) k)))) ?_
    show own_Go p e below s _ _ (T31.setTop (mkF m 53 #[iv p0, iv p1, iv p2, iv p3, iv p4, iv p5, iv z1, rv b3, .unset, .unset, .unset, .unset, .unset, .unset, .unset, .unset] [(.int 7), (.int ((p4.toUInt32 >>> ((1 : Int32) &&& 31).toUInt32).toInt32))]))
    refine own_via (fun k => XS.iand X31.here hx rfl (hb hby at_53) rfl (XS.iconst X31.here hx rfl (hb hby at_54) (Jvm.RoadKit.iremM X31 hx rfl (hb hby at_55) rfl (by decide) k))) ?_
    show own_Go p e below s _ _ (T31.setTop (mkF m 56 #[iv p0, iv p1, iv p2, iv p3, iv p4, iv p5, iv z1, rv b3, .unset, .unset, .unset, .unset, .unset, .unset, .unset, .unset] [(.int ((((p4.toUInt32 >>> ((1 : Int32) &&& 31).toUInt32).toInt32) &&& (7 : Int32)) % (5 : Int32)))]))
    obtain ⟨z35, hz35⟩ : ∃ z : Int32, z = ((((p4.toUInt32 >>> ((1 : Int32) &&& 31).toUInt32).toInt32) &&& (7 : Int32)) % (5 : Int32)) := ⟨_, rfl⟩
    rw [← hz35]
    show own_Go p e below s _ _ (T31.setTop (mkF m 56 #[iv p0, iv p1, iv p2, iv p3, iv p4, iv p5, iv z1, rv b3, .unset, .unset, .unset, .unset, .unset, .unset, .unset, .unset] [(.int z35)]))
    refine own_via (fun k => XS.istore X31.here hx rfl (hb hby at_56) rfl (l' := #[iv p0, iv p1, iv p2, iv p3, iv p4, iv p5, iv z1, rv b3, iv z35, .unset, .unset, .unset, .unset, .unset, .unset, .unset]) rfl (XS.iload X31.here hx rfl (hb hby at_58) rfl  (XS.iload X31.here hx rfl (hb hby at_60) rfl  (XS.iconst X31.here hx rfl (hb hby at_62) k)))) ?_
    show own_Go p e below s _ _ (T31.setTop (mkF m 63 #[iv p0, iv p1, iv p2, iv p3, iv p4, iv p5, iv z1, rv b3, iv z35, .unset, .unset, .unset, .unset, .unset, .unset, .unset] [(.int 4), (.int p4), (.int z35)]))
    refine own_via (fun k => XS.iushr X31.here hx rfl (hb hby at_63) rfl (XS.bipush X31.here hx rfl (hb hby at_64) (XS.iand X31.here hx rfl (hb hby at_66) rfl (XS.iconst X31.here hx rfl (hb hby at_67) k)))) ?_
    show own_Go p e below s _ _ (T31.setTop (mkF m 68 #[iv p0, iv p1, iv p2, iv p3, iv p4, iv p5, iv z1, rv b3, iv z35, .unset, .unset, .unset, .unset, .unset, .unset, .unset] [(.int 5), (.int (((p4.toUInt32 >>> ((4 : Int32) &&& 31).toUInt32).toInt32) &&& (7 : Int32))), (.int z35)]))
    refine own_via (fun k => XS.iload X31.here hx rfl (hb hby at_68) rfl  (XS.isub X31.here hx rfl (hb hby at_70) rfl (Jvm.RoadKit.iremM X31 hx rfl (hb hby at_71) rfl (own_nz p4 z35 hz35) (XS.iadd X31.here hx rfl (hb hby at_72) rfl k)))) ?_
    show own_Go p e below s _ _ (T31.setTop (mkF m 73 #[iv p0, iv p1, iv p2, iv p3, iv p4, iv p5, iv z1, rv b3, iv z35, .unset, .unset, .unset, .unset, .unset, .unset, .unset] [(.int (z35 + ((((p4.toUInt32 >>> ((4 : Int32) &&& 31).toUInt32).toInt32) &&& (7 : Int32)) % ((5 : Int32) - z35))))]))
    obtain ⟨z36, hz36⟩ : ∃ z : Int32, z = (z35 + ((((p4.toUInt32 >>> ((4 : Int32) &&& 31).toUInt32).toInt32) &&& (7 : Int32)) % ((5 : Int32) - z35))) := ⟨_, rfl⟩
    rw [← hz36]
    show own_Go p e below s _ _ (T31.setTop (mkF m 73 #[iv p0, iv p1, iv p2, iv p3, iv p4, iv p5, iv z1, rv b3, iv z35, .unset, .unset, .unset, .unset, .unset, .unset, .unset] [(.int z36)]))
    refine own_via (fun k => XS.istore X31.here hx rfl (hb hby at_73) rfl (l' := #[iv p0, iv p1, iv p2, iv p3, iv p4, iv p5, iv z1, rv b3, iv z35, iv z36, .unset, .unset, .unset, .unset, .unset, .unset]) rfl k) ?_
    show own_Go p e below s _ _ (T31.setTop (mkF m 75 #[iv p0, iv p1, iv p2, iv p3, iv p4, iv p5, iv z1, rv b3, iv z35, iv z36, .unset, .unset, .unset, .unset, .unset, .unset] []))
    obtain ⟨T37, h37, X37, e37, E37, A37, D37, -, st37⟩ := newO X31 hx hZ hown (hw _ (List.mem_of_getElem? (i := 5) rfl)) (hw _ (List.mem_of_getElem? (i := 6) rfl)) (hw _ (List.mem_of_getElem? (i := 7) rfl)) e31 (g := (mkF m 75 #[iv p0, iv p1, iv p2, iv p3, iv p4, iv p5, iv z1, rv b3, iv z35, iv z36, .unset, .unset, .unset, .unset, .unset, .unset] [])) rfl (hb hby at_75) (by decide) (by decide)
    obtain ⟨b37, g37⟩ : ∃ z, z = h31.size := ⟨_, rfl⟩
    rw [← g37] at A37 D37 st37
    refine own_via (fun k => st37 _ k) ?_
    show own_Go p e below s _ _ (T37.setTop (mkF m 78 #[iv p0, iv p1, iv p2, iv p3, iv p4, iv p5, iv z1, rv b3, iv z35, iv z36, .unset, .unset, .unset, .unset, .unset, .unset] [(.ref b37)]))
    have g38 : n0 ≤ b37 := Nat.le_trans Z34 (Nat.le_of_eq g37.symm)
    have ne39 : b3 ≠ b37 := Nat.ne_of_lt (Nat.lt_of_lt_of_le B32.lt (Nat.le_of_eq g37.symm))
    have B40 := B32.ext E37
    have Z41 : n0 ≤ h37.size := Nat.le_trans Z34 E37.1
    have B42 : Fld Z h37 b37 "com/example/tree_to_rows/treetorows/xml/DocumentPlace" "xml11" "Z" (.int 0) := D37 (Or.inr (hw _ (List.mem_of_getElem? (i := 15) rfl))) (ty := .boolean) (by decide)
    have B43 : Fld Z h37 b37 "com/example/tree_to_rows/treetorows/xml/DocumentPlace" "firstCharacter" "Z" (.int 0) := D37 (Or.inl (hw _ (List.mem_of_getElem? (i := 17) rfl))) (ty := .boolean) (by decide)
    have B44 : Fld Z h37 b37 "com/example/tree_to_rows/treetorows/xml/DocumentPlace" "afterCarriageReturn" "Z" (.int 0) := D37 (Or.inl (hw _ (List.mem_of_getElem? (i := 19) rfl))) (ty := .boolean) (by decide)
    have B45 : Fld Z h37 b37 "com/example/tree_to_rows/treetorows/xml/DocumentPlace" "line" "I" (.int 0) := D37 (Or.inl (hw _ (List.mem_of_getElem? (i := 21) rfl))) (ty := .int) (by decide)
    have B46 : Fld Z h37 b37 "com/example/tree_to_rows/treetorows/xml/DocumentPlace" "column" "I" (.int 0) := D37 (Or.inl (hw _ (List.mem_of_getElem? (i := 23) rfl))) (ty := .int) (by decide)
    refine own_via (fun k => XS.dup X37.here hx rfl (hb hby at_78) rfl rfl (XS.iload X37.here hx rfl (hb hby at_79) rfl  k)) ?_
    show own_Go p e below s _ _ (T37.setTop (mkF m 81 #[iv p0, iv p1, iv p2, iv p3, iv p4, iv p5, iv z1, rv b3, iv z35, iv z36, .unset, .unset, .unset, .unset, .unset, .unset] [(.int z1), (.ref b37), (.ref b37)]))
    obtain ⟨_, _, ⟨T47, L47, k47, n47⟩, -, X47, ⟨Lc47, hQ47, l47, y47, z47⟩, st47⟩ := X37.specialBack hx (y := (⟨"com/example/tree_to_rows/treetorows/xml/DocumentPlace", "<init>", "(Z)V"⟩ : MethodName)) rfl hown (mvT hZ (hw _ (List.mem_of_getElem? (i := 8) rfl))) (mvT hZ (hw _ (List.mem_of_getElem? (i := 9) rfl))) (mvT hZ (hw _ (List.mem_of_getElem? (i := 10) rfl))) (by decide) (backOf (W := 1) (rm2 l Z aw hw [] b37 z1 h37 n0 Z41 B42 B43 B44 B45 B46 A37 g38 (own_hhbo p4 z1 hz1)) hZ (hw _ (List.mem_of_getElem? (i := 10) rfl)) (hw _ (List.mem_of_getElem? (i := 7) rfl)) (by decide) (by decide)) (g := (mkF m 81 #[iv p0, iv p1, iv p2, iv p3, iv p4, iv p5, iv z1, rv b3, iv z35, iv z36, .unset, .unset, .unset, .unset, .unset, .unset] [(.int z1), (.ref b37), (.ref b37)])) rfl (by rw [hml]; rfl) (Steps.refl _) (a := b37) (argsL := [(.int z1)]) (rest := [(.ref b37)]) (lenOf pd_1 rfl) rfl (by show 2 * 0 + _ ≤ _; exact Nat.le_of_eq rfl) (hb hby at_81) (fun _ _ => ⟨rfl, e37, (by decide : 2 + 0 ≤ _), (by decide : 9 + 0 ≤ _)⟩)
    dsimp only [Pt.U, Pt.locs, Pt.cells, Pt.slots] at X47 l47 y47 z47 st47 hQ47
    subst l47 y47 z47
    obtain ⟨rfl, N47q, K47, B48, B49, B50, B51, B52⟩ := hQ47
    have N53 := Fr.app N33 N47q
    have B54 := B40.keep K47 (ninS ne39 nin0)
    have B55 := A37.keep K47
    have Z56 : n0 ≤ T47.heap.size := Nat.le_trans Z41 K47.1
    refine own_via (fun k => st47.trans k) ?_
    show own_Go p e below s _ _ (T47.setTop (mkF m 84 #[iv p0, iv p1, iv p2, iv p3, iv p4, iv p5, iv z1, rv b3, iv z35, iv z36, .unset, .unset, .unset, .unset, .unset, .unset] [(.ref b37)]))
    refine own_via (fun k => XS.astore X47.here hx rfl (hb hby at_84) rfl rfl (l' := #[iv p0, iv p1, iv p2, iv p3, iv p4, iv p5, iv z1, rv b3, iv z35, iv z36, rv b37, .unset, .unset, .unset, .unset, .unset]) rfl k) ?_
    show own_Go p e below s _ _ (T47.setTop (mkF m 86 #[iv p0, iv p1, iv p2, iv p3, iv p4, iv p5, iv z1, rv b3, iv z35, iv z36, rv b37, .unset, .unset, .unset, .unset, .unset] []))
    obtain ⟨T57, h57, X57, e57, E57, A57, D57, -, st57⟩ := newO X47 hx hZ hown (hw _ (List.mem_of_getElem? (i := 5) rfl)) (hw _ (List.mem_of_getElem? (i := 6) rfl)) (hw _ (List.mem_of_getElem? (i := 7) rfl)) rfl (g := (mkF m 86 #[iv p0, iv p1, iv p2, iv p3, iv p4, iv p5, iv z1, rv b3, iv z35, iv z36, rv b37, .unset, .unset, .unset, .unset, .unset] [])) rfl (hb hby at_86) (by decide) (by decide)
    obtain ⟨b57, g57⟩ : ∃ z, z = T47.heap.size := ⟨_, rfl⟩
    rw [← g57] at A57 D57 st57
    refine own_via (fun k => st57 _ k) ?_
    show own_Go p e below s _ _ (T57.setTop (mkF m 89 #[iv p0, iv p1, iv p2, iv p3, iv p4, iv p5, iv z1, rv b3, iv z35, iv z36, rv b37, .unset, .unset, .unset, .unset, .unset] [(.ref b57)]))
    have g58 : n0 ≤ b57 := Nat.le_trans Z56 (Nat.le_of_eq g57.symm)
    have ne59 : b3 ≠ b57 := Nat.ne_of_lt (Nat.lt_of_lt_of_le B54.lt (Nat.le_of_eq g57.symm))
    have ne60 : b37 ≠ b57 := Nat.ne_of_lt (Nat.lt_of_lt_of_le B55.lt (Nat.le_of_eq g57.symm))
    have B61 := B54.ext E57
    have B62 := B55.ext E57
    have B63 := B48.ext E57
    have B64 := B49.ext E57
    have B65 := B50.ext E57
    have B66 := B51.ext E57
    have B67 := B52.ext E57
    have Z68 : n0 ≤ h57.size := Nat.le_trans Z56 E57.1
    have B69 : Fld Z h57 b57 "com/example/tree_to_rows/treetorows/xml/DocumentPlace" "xml11" "Z" (.int 0) := D57 (Or.inr (hw _ (List.mem_of_getElem? (i := 15) rfl))) (ty := .boolean) (by decide)
    have B70 : Fld Z h57 b57 "com/example/tree_to_rows/treetorows/xml/DocumentPlace" "firstCharacter" "Z" (.int 0) := D57 (Or.inl (hw _ (List.mem_of_getElem? (i := 17) rfl))) (ty := .boolean) (by decide)
    have B71 : Fld Z h57 b57 "com/example/tree_to_rows/treetorows/xml/DocumentPlace" "afterCarriageReturn" "Z" (.int 0) := D57 (Or.inl (hw _ (List.mem_of_getElem? (i := 19) rfl))) (ty := .boolean) (by decide)
    have B72 : Fld Z h57 b57 "com/example/tree_to_rows/treetorows/xml/DocumentPlace" "line" "I" (.int 0) := D57 (Or.inl (hw _ (List.mem_of_getElem? (i := 21) rfl))) (ty := .int) (by decide)
    have B73 : Fld Z h57 b57 "com/example/tree_to_rows/treetorows/xml/DocumentPlace" "column" "I" (.int 0) := D57 (Or.inl (hw _ (List.mem_of_getElem? (i := 23) rfl))) (ty := .int) (by decide)
    refine own_via (fun k => XS.dup X57.here hx rfl (hb hby at_89) rfl rfl (XS.iload X57.here hx rfl (hb hby at_90) rfl  k)) ?_
    show own_Go p e below s _ _ (T57.setTop (mkF m 92 #[iv p0, iv p1, iv p2, iv p3, iv p4, iv p5, iv z1, rv b3, iv z35, iv z36, rv b37, .unset, .unset, .unset, .unset, .unset] [(.int z1), (.ref b57), (.ref b57)]))
    obtain ⟨_, _, ⟨T74, L74, k74, n74⟩, -, X74, ⟨Lc74, hQ74, l74, y74, z74⟩, st74⟩ := X57.specialBack hx (y := (⟨"com/example/tree_to_rows/treetorows/xml/DocumentPlace", "<init>", "(Z)V"⟩ : MethodName)) rfl hown (mvT hZ (hw _ (List.mem_of_getElem? (i := 8) rfl))) (mvT hZ (hw _ (List.mem_of_getElem? (i := 9) rfl))) (mvT hZ (hw _ (List.mem_of_getElem? (i := 10) rfl))) (by decide) (backOf (W := 1) (rm2 l Z aw hw [] b57 z1 h57 n0 Z68 B69 B70 B71 B72 B73 A57 g58 (own_hhbo p4 z1 hz1)) hZ (hw _ (List.mem_of_getElem? (i := 10) rfl)) (hw _ (List.mem_of_getElem? (i := 7) rfl)) (by decide) (by decide)) (g := (mkF m 92 #[iv p0, iv p1, iv p2, iv p3, iv p4, iv p5, iv z1, rv b3, iv z35, iv z36, rv b37, .unset, .unset, .unset, .unset, .unset] [(.int z1), (.ref b57), (.ref b57)])) rfl (by rw [hml]; rfl) (Steps.refl _) (a := b57) (argsL := [(.int z1)]) (rest := [(.ref b57)]) (lenOf pd_1 rfl) rfl (by show 2 * 0 + _ ≤ _; exact Nat.le_of_eq rfl) (hb hby at_92) (fun _ _ => ⟨rfl, e57, (by decide : 3 + 0 ≤ _), (by decide : 14 + 0 ≤ _)⟩)
    dsimp only [Pt.U, Pt.locs, Pt.cells, Pt.slots] at X74 l74 y74 z74 st74 hQ74
    subst l74 y74 z74
    obtain ⟨rfl, N74q, K74, B75, B76, B77, B78, B79⟩ := hQ74
    have N80 := Fr.app N53 N74q
    have B81 := B61.keep K74 (ninS ne59 nin0)
    have B82 := B62.keep K74
    have B83 := B63.keep K74 (ninS ne60 nin0)
    have B84 := B64.keep K74 (ninS ne60 nin0)
    have B85 := B65.keep K74 (ninS ne60 nin0)
    have B86 := B66.keep K74 (ninS ne60 nin0)
    have B87 := B67.keep K74 (ninS ne60 nin0)
    have B88 := A57.keep K74
    have Z89 : n0 ≤ T74.heap.size := Nat.le_trans Z68 K74.1
    refine own_via (fun k => st74.trans k) ?_
    show own_Go p e below s _ _ (T74.setTop (mkF m 95 #[iv p0, iv p1, iv p2, iv p3, iv p4, iv p5, iv z1, rv b3, iv z35, iv z36, rv b37, .unset, .unset, .unset, .unset, .unset] [(.ref b57)]))
    refine own_via (fun k => XS.astore X74.here hx rfl (hb hby at_95) rfl rfl (l' := #[iv p0, iv p1, iv p2, iv p3, iv p4, iv p5, iv z1, rv b3, iv z35, iv z36, rv b37, rv b57, .unset, .unset, .unset, .unset]) rfl (XS.aload X74.here hx rfl (hb hby at_97) rfl rfl  (XS.aload X74.here hx rfl (hb hby at_99) rfl rfl  (XS.iload X74.here hx rfl (hb hby at_101) rfl  k)))) ?_
    show own_Go p e below s _ _ (T74.setTop (mkF m 103 #[iv p0, iv p1, iv p2, iv p3, iv p4, iv p5, iv z1, rv b3, iv z35, iv z36, rv b37, rv b57, .unset, .unset, .unset, .unset] [(.int z35), (.ref b3), (.ref b37)]))
    refine own_via (fun k => XS.iload X74.here hx rfl (hb hby at_103) rfl  k) ?_
    show own_Go p e below s _ _ (T74.setTop (mkF m 105 #[iv p0, iv p1, iv p2, iv p3, iv p4, iv p5, iv z1, rv b3, iv z35, iv z36, rv b37, rv b57, .unset, .unset, .unset, .unset] [(.int z36), (.int z35), (.ref b3), (.ref b37)]))
    obtain ⟨cq90, kq90, q90a, q90b, q90c⟩ := isOf hZ rfl B82
    obtain ⟨_, _, ⟨T90, L90, k90, n90⟩, -, X90, ⟨Lc90, hQ90, l90, y90, z90⟩, st90⟩ := X74.virtualBack hx (y := (⟨"com/example/tree_to_rows/treetorows/xml/DocumentPlace", "passAscii", "([BII)I"⟩ : MethodName)) (z := (⟨"com/example/tree_to_rows/treetorows/xml/DocumentPlace", "passAscii", "([BII)I"⟩ : MethodName)) hown (mvT hZ (hw _ (List.mem_of_getElem? (i := 24) rfl))) (mvT hZ (hw _ (List.mem_of_getElem? (i := 25) rfl))) (notFace_of_selects (args := #[]) (mvT hZ (hw _ (List.mem_of_getElem? (i := 27) rfl)))) (mvT hZ (hw _ (List.mem_of_getElem? (i := 27) rfl))) (mvT hZ (hw _ (List.mem_of_getElem? (i := 26) rfl))) (by decide) (backOf (W := 0) (rm4 l Z aw hw [] b37 b3 z35 z36 z1 k3 [(.int (nar .byte z9)), (.int (nar .byte z16)), (.int (nar .byte z23)), (.int (nar .byte z30))] g T74.heap n0 Z89 B83 B84 B85 B86 B87 B82 B81 g38 ne39 hg (own_hhp2 p4 z35 hz35) (own_hhp3 p4 z35 hz35 z36 hz36)) hZ (hw _ (List.mem_of_getElem? (i := 28) rfl)) (hw _ (List.mem_of_getElem? (i := 7) rfl)) (by decide) (by decide)) q90a q90c (g := (mkF m 105 #[iv p0, iv p1, iv p2, iv p3, iv p4, iv p5, iv z1, rv b3, iv z35, iv z36, rv b37, rv b57, .unset, .unset, .unset, .unset] [(.int z36), (.int z35), (.ref b3), (.ref b37)])) rfl (by rw [hml]; rfl) (Steps.refl _) (argsL := [(.ref b3), (.int z35), (.int z36)]) (rest := []) (lenOf pd_3 rfl) rfl (by show 2 * 0 + _ ≤ _; exact Nat.le_of_eq rfl) (hb hby at_105) (fun _ _ => ⟨rfl, rfl, (by decide : 3 + 0 ≤ _), (by decide : 14 + 0 ≤ _)⟩)
    dsimp only [Pt.U, Pt.locs, Pt.cells, Pt.slots] at X90 l90 y90 z90 st90 hQ90
    subst l90 y90 z90
    obtain ⟨rfl, N90q, K90, B91, B92, B93, B94, B95⟩ := hQ90
    have N96 := Fr.app N80 N90q
    have B97 := B81.keep K90 (ninS ne39 nin0)
    have B98 := B82.keep K90
    have B99 := B88.keep K90
    have B100 := B75.keep K90 (ninS (Ne.symm ne60) nin0)
    have B101 := B76.keep K90 (ninS (Ne.symm ne60) nin0)
    have B102 := B77.keep K90 (ninS (Ne.symm ne60) nin0)
    have B103 := B78.keep K90 (ninS (Ne.symm ne60) nin0)
    have B104 := B79.keep K90 (ninS (Ne.symm ne60) nin0)
    have Z105 : n0 ≤ T90.heap.size := Nat.le_trans Z89 K90.1
    obtain ⟨z106, hz106⟩ : ∃ z : Int32, z = (if (own_rn g z36 z35 (0 : Int32) (1 : Int32) (1 : Int32)).2.2.2 = z35 then (1 : Int32) else (0 : Int32)) := ⟨_, rfl⟩
    rw [← hz106] at B92
    obtain ⟨z107, hz107⟩ : ∃ z : Int32, z = (own_rn g z36 z35 (0 : Int32) (1 : Int32) (1 : Int32)).1 := ⟨_, rfl⟩
    rw [← hz107] at B93
    obtain ⟨z108, hz108⟩ : ∃ z : Int32, z = (own_rn g z36 z35 (0 : Int32) (1 : Int32) (1 : Int32)).2.1 := ⟨_, rfl⟩
    rw [← hz108] at B94
    obtain ⟨z109, hz109⟩ : ∃ z : Int32, z = (own_rn g z36 z35 (0 : Int32) (1 : Int32) (1 : Int32)).2.2.1 := ⟨_, rfl⟩
    rw [← hz109] at B95
    refine own_via (fun k => st90.trans k) ?_
    show own_Go p e below s _ _ (T90.setTop (mkF m 108 #[iv p0, iv p1, iv p2, iv p3, iv p4, iv p5, iv z1, rv b3, iv z35, iv z36, rv b37, rv b57, .unset, .unset, .unset, .unset] [(.int (own_rn g z36 z35 (0 : Int32) (1 : Int32) (1 : Int32)).2.2.2)]))
    obtain ⟨z110, hz110⟩ : ∃ z : Int32, z = (own_rn g z36 z35 (0 : Int32) (1 : Int32) (1 : Int32)).2.2.2 := ⟨_, rfl⟩
    rw [← hz110]
    show own_Go p e below s _ _ (T90.setTop (mkF m 108 #[iv p0, iv p1, iv p2, iv p3, iv p4, iv p5, iv z1, rv b3, iv z35, iv z36, rv b37, rv b57, .unset, .unset, .unset, .unset] [(.int z110)]))
    refine own_via (fun k => XS.istore X90.here hx rfl (hb hby at_108) rfl (l' := #[iv p0, iv p1, iv p2, iv p3, iv p4, iv p5, iv z1, rv b3, iv z35, iv z36, rv b37, rv b57, iv z110, .unset, .unset, .unset]) rfl k) ?_
    show own_Go p e below s _ _ (T90.setTop (mkF m 110 #[iv p0, iv p1, iv p2, iv p3, iv p4, iv p5, iv z1, rv b3, iv z35, iv z36, rv b37, rv b57, iv z110, .unset, .unset, .unset] []))
    have CUT : ∀ (TC : State) (hC : Heap) (loC : List Loc) (v13 : Int32), v13 = z110 → Stand p l e room_1 s m #[(.int p0), (.int p1), (.int p2), (.int p3), (.int p4), (.int p5)] below meth c TC loC 3 14 → Fr n0 loC → TC.heap = hC → n0 ≤ hC.size → Exa Z hC b37 "com/example/tree_to_rows/treetorows/xml/DocumentPlace" → Exa Z hC b57 "com/example/tree_to_rows/treetorows/xml/DocumentPlace" → Fld Z hC b57 "com/example/tree_to_rows/treetorows/xml/DocumentPlace" "xml11" "Z" (.int z1) → Fld Z hC b57 "com/example/tree_to_rows/treetorows/xml/DocumentPlace" "firstCharacter" "Z" (.int z106) → Fld Z hC b57 "com/example/tree_to_rows/treetorows/xml/DocumentPlace" "afterCarriageReturn" "Z" (.int z107) → Fld Z hC b57 "com/example/tree_to_rows/treetorows/xml/DocumentPlace" "line" "I" (.int z108) → Fld Z hC b57 "com/example/tree_to_rows/treetorows/xml/DocumentPlace" "column" "I" (.int z109) → Fld Z hC b37 "com/example/tree_to_rows/treetorows/xml/DocumentPlace" "xml11" "Z" (.int z1) → Fld Z hC b37 "com/example/tree_to_rows/treetorows/xml/DocumentPlace" "firstCharacter" "Z" (.int z106) → Fld Z hC b37 "com/example/tree_to_rows/treetorows/xml/DocumentPlace" "afterCarriageReturn" "Z" (.int z107) → Fld Z hC b37 "com/example/tree_to_rows/treetorows/xml/DocumentPlace" "line" "I" (.int z108) → Fld Z hC b37 "com/example/tree_to_rows/treetorows/xml/DocumentPlace" "column" "I" (.int z109) → own_Go p e below s (Q0 Z p0 p1 p2 p3 p4 p5 h0 n0) (room_1.cells, room_1.slots) (TC.setTop (mkF m 230 #[iv p0, iv p1, iv p2, iv p3, iv p4, iv p5, iv z1, rv b3, iv z35, iv z36, rv b37, rv b57, iv z110, iv v13, .unset, .unset] [])) := by
      intro TC hC loC v13 h13 XC NC eC ZC C0 C1 C2 C3 C4 C5 C6 C7 C8 C9 C10 C11
      rw [h13]
      show own_Go p e below s _ _ (TC.setTop (mkF m 230 #[iv p0, iv p1, iv p2, iv p3, iv p4, iv p5, iv z1, rv b3, iv z35, iv z36, rv b37, rv b57, iv z110, iv z110, .unset, .unset] []))
      refine own_via (fun k => XS.iload XC.here hx rfl (hb hby at_230) rfl  (XS.iload XC.here hx rfl (hb hby at_232) rfl  k)) ?_
      show own_Go p e below s _ _ (TC.setTop (mkF m 234 #[iv p0, iv p1, iv p2, iv p3, iv p4, iv p5, iv z1, rv b3, iv z35, iv z36, rv b37, rv b57, iv z110, iv z110, .unset, .unset] [(.int z110), (.int z110)]))
      refine own_via (fun k => XS.icmpNo XC.here hx rfl (hb hby at_234) rfl (teq (rfl)).2 k) ?_
      show own_Go p e below s _ _ (TC.setTop (mkF m 237 #[iv p0, iv p1, iv p2, iv p3, iv p4, iv p5, iv z1, rv b3, iv z35, iv z36, rv b37, rv b57, iv z110, iv z110, .unset, .unset] []))
      refine own_via (fun k => XS.aload XC.here hx rfl (hb hby at_237) rfl rfl  k) ?_
      show own_Go p e below s _ _ (TC.setTop (mkF m 239 #[iv p0, iv p1, iv p2, iv p3, iv p4, iv p5, iv z1, rv b3, iv z35, iv z36, rv b37, rv b57, iv z110, iv z110, .unset, .unset] [(.ref b37)]))
      obtain ⟨cq111, kq111, q111a, q111b, q111c⟩ := isOf hZ eC C0
      obtain ⟨_, _, ⟨T111, L111, k111, n111⟩, -, X111, ⟨Lc111, hQ111, l111, y111, z111⟩, st111⟩ := XC.virtualBack hx (y := (⟨"com/example/tree_to_rows/treetorows/xml/DocumentPlace", "line", "()I"⟩ : MethodName)) (z := (⟨"com/example/tree_to_rows/treetorows/xml/DocumentPlace", "line", "()I"⟩ : MethodName)) hown (mvT hZ (hw _ (List.mem_of_getElem? (i := 29) rfl))) (mvT hZ (hw _ (List.mem_of_getElem? (i := 30) rfl))) (notFace_of_selects (args := #[]) (mvT hZ (hw _ (List.mem_of_getElem? (i := 32) rfl)))) (mvT hZ (hw _ (List.mem_of_getElem? (i := 32) rfl))) (mvT hZ (hw _ (List.mem_of_getElem? (i := 31) rfl))) (by decide) (backOf (W := 0) (rm5 l Z aw hw [] b37 z108 hC n0 ZC C10) hZ (hw _ (List.mem_of_getElem? (i := 33) rfl)) (hw _ (List.mem_of_getElem? (i := 7) rfl)) (by decide) (by decide)) q111a q111c (g := (mkF m 239 #[iv p0, iv p1, iv p2, iv p3, iv p4, iv p5, iv z1, rv b3, iv z35, iv z36, rv b37, rv b57, iv z110, iv z110, .unset, .unset] [(.ref b37)])) rfl (by rw [hml]; rfl) (Steps.refl _) (argsL := []) (rest := []) (lenOf pd_4 rfl) rfl (by show 2 * 0 + _ ≤ _; exact Nat.le_of_eq rfl) (hb hby at_239) (fun _ _ => ⟨rfl, eC, (by decide : 3 + 0 ≤ _), (by decide : 14 + 0 ≤ _)⟩)
      dsimp only [Pt.U, Pt.locs, Pt.cells, Pt.slots] at X111 l111 y111 z111 st111 hQ111
      subst l111 y111 z111
      obtain ⟨rfl, N111q, eh111⟩ := hQ111
      have N112 := Fr.app NC N111q
      refine own_via (fun k => st111.trans k) ?_
      show own_Go p e below s _ _ (T111.setTop (mkF m 242 #[iv p0, iv p1, iv p2, iv p3, iv p4, iv p5, iv z1, rv b3, iv z35, iv z36, rv b37, rv b57, iv z110, iv z110, .unset, .unset] [(.int z108)]))
      refine own_via (fun k => XS.aload X111.here hx rfl (hb hby at_242) rfl rfl  k) ?_
      show own_Go p e below s _ _ (T111.setTop (mkF m 244 #[iv p0, iv p1, iv p2, iv p3, iv p4, iv p5, iv z1, rv b3, iv z35, iv z36, rv b37, rv b57, iv z110, iv z110, .unset, .unset] [(.ref b57), (.int z108)]))
      obtain ⟨cq113, kq113, q113a, q113b, q113c⟩ := isOf hZ eh111 C1
      obtain ⟨_, _, ⟨T113, L113, k113, n113⟩, -, X113, ⟨Lc113, hQ113, l113, y113, z113⟩, st113⟩ := X111.virtualBack hx (y := (⟨"com/example/tree_to_rows/treetorows/xml/DocumentPlace", "line", "()I"⟩ : MethodName)) (z := (⟨"com/example/tree_to_rows/treetorows/xml/DocumentPlace", "line", "()I"⟩ : MethodName)) hown (mvT hZ (hw _ (List.mem_of_getElem? (i := 29) rfl))) (mvT hZ (hw _ (List.mem_of_getElem? (i := 30) rfl))) (notFace_of_selects (args := #[]) (mvT hZ (hw _ (List.mem_of_getElem? (i := 32) rfl)))) (mvT hZ (hw _ (List.mem_of_getElem? (i := 32) rfl))) (mvT hZ (hw _ (List.mem_of_getElem? (i := 31) rfl))) (by decide) (backOf (W := 1) (rm5 l Z aw hw [] b57 z108 hC n0 ZC C5) hZ (hw _ (List.mem_of_getElem? (i := 33) rfl)) (hw _ (List.mem_of_getElem? (i := 7) rfl)) (by decide) (by decide)) q113a q113c (g := (mkF m 244 #[iv p0, iv p1, iv p2, iv p3, iv p4, iv p5, iv z1, rv b3, iv z35, iv z36, rv b37, rv b57, iv z110, iv z110, .unset, .unset] [(.ref b57), (.int z108)])) rfl (by rw [hml]; rfl) (Steps.refl _) (argsL := []) (rest := [(.int z108)]) (lenOf pd_4 rfl) rfl (by show 2 * 0 + _ ≤ _; exact Nat.le_of_eq rfl) (hb hby at_244) (fun _ _ => ⟨rfl, eh111, (by decide : 3 + 0 ≤ _), (by decide : 14 + 0 ≤ _)⟩)
      dsimp only [Pt.U, Pt.locs, Pt.cells, Pt.slots] at X113 l113 y113 z113 st113 hQ113
      subst l113 y113 z113
      obtain ⟨rfl, N113q, eh113⟩ := hQ113
      have N114 := Fr.app N112 N113q
      refine own_via (fun k => st113.trans k) ?_
      show own_Go p e below s _ _ (T113.setTop (mkF m 247 #[iv p0, iv p1, iv p2, iv p3, iv p4, iv p5, iv z1, rv b3, iv z35, iv z36, rv b37, rv b57, iv z110, iv z110, .unset, .unset] [(.int z108), (.int z108)]))
      refine own_via (fun k => XS.icmpNo X113.here hx rfl (hb hby at_247) rfl (teq (rfl)).2 k) ?_
      show own_Go p e below s _ _ (T113.setTop (mkF m 250 #[iv p0, iv p1, iv p2, iv p3, iv p4, iv p5, iv z1, rv b3, iv z35, iv z36, rv b37, rv b57, iv z110, iv z110, .unset, .unset] []))
      refine own_via (fun k => XS.aload X113.here hx rfl (hb hby at_250) rfl rfl  k) ?_
      show own_Go p e below s _ _ (T113.setTop (mkF m 252 #[iv p0, iv p1, iv p2, iv p3, iv p4, iv p5, iv z1, rv b3, iv z35, iv z36, rv b37, rv b57, iv z110, iv z110, .unset, .unset] [(.ref b37)]))
      obtain ⟨cq115, kq115, q115a, q115b, q115c⟩ := isOf hZ eh113 C0
      obtain ⟨_, _, ⟨T115, L115, k115, n115⟩, -, X115, ⟨Lc115, hQ115, l115, y115, z115⟩, st115⟩ := X113.virtualBack hx (y := (⟨"com/example/tree_to_rows/treetorows/xml/DocumentPlace", "column", "()I"⟩ : MethodName)) (z := (⟨"com/example/tree_to_rows/treetorows/xml/DocumentPlace", "column", "()I"⟩ : MethodName)) hown (mvT hZ (hw _ (List.mem_of_getElem? (i := 34) rfl))) (mvT hZ (hw _ (List.mem_of_getElem? (i := 35) rfl))) (notFace_of_selects (args := #[]) (mvT hZ (hw _ (List.mem_of_getElem? (i := 37) rfl)))) (mvT hZ (hw _ (List.mem_of_getElem? (i := 37) rfl))) (mvT hZ (hw _ (List.mem_of_getElem? (i := 36) rfl))) (by decide) (backOf (W := 0) (rm6 l Z aw hw [] b37 z109 hC n0 ZC C11) hZ (hw _ (List.mem_of_getElem? (i := 38) rfl)) (hw _ (List.mem_of_getElem? (i := 7) rfl)) (by decide) (by decide)) q115a q115c (g := (mkF m 252 #[iv p0, iv p1, iv p2, iv p3, iv p4, iv p5, iv z1, rv b3, iv z35, iv z36, rv b37, rv b57, iv z110, iv z110, .unset, .unset] [(.ref b37)])) rfl (by rw [hml]; rfl) (Steps.refl _) (argsL := []) (rest := []) (lenOf pd_4 rfl) rfl (by show 2 * 0 + _ ≤ _; exact Nat.le_of_eq rfl) (hb hby at_252) (fun _ _ => ⟨rfl, eh113, (by decide : 3 + 0 ≤ _), (by decide : 14 + 0 ≤ _)⟩)
      dsimp only [Pt.U, Pt.locs, Pt.cells, Pt.slots] at X115 l115 y115 z115 st115 hQ115
      subst l115 y115 z115
      obtain ⟨rfl, N115q, eh115⟩ := hQ115
      have N116 := Fr.app N114 N115q
      refine own_via (fun k => st115.trans k) ?_
      show own_Go p e below s _ _ (T115.setTop (mkF m 255 #[iv p0, iv p1, iv p2, iv p3, iv p4, iv p5, iv z1, rv b3, iv z35, iv z36, rv b37, rv b57, iv z110, iv z110, .unset, .unset] [(.int z109)]))
      refine own_via (fun k => XS.aload X115.here hx rfl (hb hby at_255) rfl rfl  k) ?_
      show own_Go p e below s _ _ (T115.setTop (mkF m 257 #[iv p0, iv p1, iv p2, iv p3, iv p4, iv p5, iv z1, rv b3, iv z35, iv z36, rv b37, rv b57, iv z110, iv z110, .unset, .unset] [(.ref b57), (.int z109)]))
      obtain ⟨cq117, kq117, q117a, q117b, q117c⟩ := isOf hZ eh115 C1
      obtain ⟨_, _, ⟨T117, L117, k117, n117⟩, -, X117, ⟨Lc117, hQ117, l117, y117, z117⟩, st117⟩ := X115.virtualBack hx (y := (⟨"com/example/tree_to_rows/treetorows/xml/DocumentPlace", "column", "()I"⟩ : MethodName)) (z := (⟨"com/example/tree_to_rows/treetorows/xml/DocumentPlace", "column", "()I"⟩ : MethodName)) hown (mvT hZ (hw _ (List.mem_of_getElem? (i := 34) rfl))) (mvT hZ (hw _ (List.mem_of_getElem? (i := 35) rfl))) (notFace_of_selects (args := #[]) (mvT hZ (hw _ (List.mem_of_getElem? (i := 37) rfl)))) (mvT hZ (hw _ (List.mem_of_getElem? (i := 37) rfl))) (mvT hZ (hw _ (List.mem_of_getElem? (i := 36) rfl))) (by decide) (backOf (W := 1) (rm6 l Z aw hw [] b57 z109 hC n0 ZC C6) hZ (hw _ (List.mem_of_getElem? (i := 38) rfl)) (hw _ (List.mem_of_getElem? (i := 7) rfl)) (by decide) (by decide)) q117a q117c (g := (mkF m 257 #[iv p0, iv p1, iv p2, iv p3, iv p4, iv p5, iv z1, rv b3, iv z35, iv z36, rv b37, rv b57, iv z110, iv z110, .unset, .unset] [(.ref b57), (.int z109)])) rfl (by rw [hml]; rfl) (Steps.refl _) (argsL := []) (rest := [(.int z109)]) (lenOf pd_4 rfl) rfl (by show 2 * 0 + _ ≤ _; exact Nat.le_of_eq rfl) (hb hby at_257) (fun _ _ => ⟨rfl, eh115, (by decide : 3 + 0 ≤ _), (by decide : 14 + 0 ≤ _)⟩)
      dsimp only [Pt.U, Pt.locs, Pt.cells, Pt.slots] at X117 l117 y117 z117 st117 hQ117
      subst l117 y117 z117
      obtain ⟨rfl, N117q, eh117⟩ := hQ117
      have N118 := Fr.app N116 N117q
      refine own_via (fun k => st117.trans k) ?_
      show own_Go p e below s _ _ (T117.setTop (mkF m 260 #[iv p0, iv p1, iv p2, iv p3, iv p4, iv p5, iv z1, rv b3, iv z35, iv z36, rv b37, rv b57, iv z110, iv z110, .unset, .unset] [(.int z109), (.int z109)]))
      refine own_via (fun k => XS.icmpYes X117.here hx rfl (pc0 := 260) (pc' := 265) rfl (hb hby at_260) rfl (teq (rfl)).1 (by decide) (by decide) k) ?_
      show own_Go p e below s _ _ (T117.setTop (mkF m 265 #[iv p0, iv p1, iv p2, iv p3, iv p4, iv p5, iv z1, rv b3, iv z35, iv z36, rv b37, rv b57, iv z110, iv z110, .unset, .unset] []))
      refine own_via (fun k => XS.iload X117.here hx rfl (hb hby at_265) rfl  (XS.iconst X117.here hx rfl (hb hby at_267) (XS.iand X117.here hx rfl (hb hby at_268) rfl (XS.istore X117.here hx rfl (hb hby at_269) rfl (l' := #[iv p0, iv p1, iv p2, iv p3, iv p4, iv p5, iv z1, rv b3, iv z35, iv z36, rv b37, rv b57, iv z110, iv z110, iv (p5 &&& (3 : Int32)), .unset]) rfl k)))) ?_
      show own_Go p e below s _ _ (T117.setTop (mkF m 271 #[iv p0, iv p1, iv p2, iv p3, iv p4, iv p5, iv z1, rv b3, iv z35, iv z36, rv b37, rv b57, iv z110, iv z110, iv (p5 &&& (3 : Int32)), .unset] []))
      refine own_via (fun k => XS.iload X117.here hx rfl (hb hby at_271) rfl  k) ?_
      show own_Go p e below s _ _ (T117.setTop (mkF m 273 #[iv p0, iv p1, iv p2, iv p3, iv p4, iv p5, iv z1, rv b3, iv z35, iv z36, rv b37, rv b57, iv z110, iv z110, iv (p5 &&& (3 : Int32)), .unset] [(.int (p5 &&& (3 : Int32)))]))
      have J120 : ∀ (z119 : Int32), z119 = (if (p5 &&& (3 : Int32)) = (0 : Int32) then (65279 : Int32) else (if (p5 &&& (3 : Int32)) = (1 : Int32) then (10 : Int32) else (if (p5 &&& (3 : Int32)) = (2 : Int32) then (133 : Int32) else (((p5.toUInt32 >>> ((16 : Int32) &&& 31).toUInt32).toInt32).toUInt32.toUInt16.toUInt32.toInt32)))) → own_Go p e below s (Q0 Z p0 p1 p2 p3 p4 p5 h0 n0) (room_1.cells, room_1.slots) (T117.setTop (mkF m 318 #[iv p0, iv p1, iv p2, iv p3, iv p4, iv p5, iv z1, rv b3, iv z35, iv z36, rv b37, rv b57, iv z110, iv z110, iv (p5 &&& (3 : Int32)), iv z119] [])) := by
        intro z119 hz119
        refine own_via (fun k => XS.aload X117.here hx rfl (hb hby at_318) rfl rfl  (XS.iload X117.here hx rfl (hb hby at_320) rfl  k)) ?_
        show own_Go p e below s _ _ (T117.setTop (mkF m 322 #[iv p0, iv p1, iv p2, iv p3, iv p4, iv p5, iv z1, rv b3, iv z35, iv z36, rv b37, rv b57, iv z110, iv z110, iv (p5 &&& (3 : Int32)), iv z119] [(.int z119), (.ref b37)]))
        obtain ⟨cq121, kq121, q121a, q121b, q121c⟩ := isOf hZ eh117 C0
        obtain ⟨_, _, ⟨T121, L121, k121, n121⟩, -, X121, ⟨Lc121, hQ121, l121, y121, z121⟩, st121⟩ := X117.virtualBack hx (y := (⟨"com/example/tree_to_rows/treetorows/xml/DocumentPlace", "pass", "(C)V"⟩ : MethodName)) (z := (⟨"com/example/tree_to_rows/treetorows/xml/DocumentPlace", "pass", "(C)V"⟩ : MethodName)) hown (mvT hZ (hw _ (List.mem_of_getElem? (i := 39) rfl))) (mvT hZ (hw _ (List.mem_of_getElem? (i := 40) rfl))) (notFace_of_selects (args := #[]) (mvT hZ (hw _ (List.mem_of_getElem? (i := 42) rfl)))) (mvT hZ (hw _ (List.mem_of_getElem? (i := 42) rfl))) (mvT hZ (hw _ (List.mem_of_getElem? (i := 41) rfl))) (by decide) (backOf (W := 0) (rm7 l Z aw hw [] b37 z119 z1 z106 z107 z108 z109 hC n0 ZC C7 C8 C9 C10 C11 C0 g38) hZ (hw _ (List.mem_of_getElem? (i := 43) rfl)) (hw _ (List.mem_of_getElem? (i := 7) rfl)) (by decide) (by decide)) q121a q121c (g := (mkF m 322 #[iv p0, iv p1, iv p2, iv p3, iv p4, iv p5, iv z1, rv b3, iv z35, iv z36, rv b37, rv b57, iv z110, iv z110, iv (p5 &&& (3 : Int32)), iv z119] [(.int z119), (.ref b37)])) rfl (by rw [hml]; rfl) (Steps.refl _) (argsL := [(.int z119)]) (rest := []) (lenOf pd_5 rfl) rfl (by show 2 * 0 + _ ≤ _; exact Nat.le_of_eq rfl) (hb hby at_322) (fun _ _ => ⟨rfl, eh117, (by decide : 3 + 0 ≤ _), (by decide : 14 + 0 ≤ _)⟩)
        dsimp only [Pt.U, Pt.locs, Pt.cells, Pt.slots] at X121 l121 y121 z121 st121 hQ121
        subst l121 y121 z121
        obtain ⟨rfl, N121q, K121, B122, B123, B124, B125, B126⟩ := hQ121
        have N127 := Fr.app N118 N121q
        have B128 := C0.keep K121
        have B129 := C1.keep K121
        have B130 := C2.keep K121 (ninS (Ne.symm ne60) nin0)
        have B131 := C3.keep K121 (ninS (Ne.symm ne60) nin0)
        have B132 := C4.keep K121 (ninS (Ne.symm ne60) nin0)
        have B133 := C5.keep K121 (ninS (Ne.symm ne60) nin0)
        have B134 := C6.keep K121 (ninS (Ne.symm ne60) nin0)
        have Z135 : n0 ≤ T121.heap.size := Nat.le_trans ZC K121.1
        obtain ⟨z136, hz136⟩ : ∃ z : Int32, z = (own_f7a z119 z1 z106 z107) := ⟨_, rfl⟩
        rw [← hz136] at B124
        obtain ⟨z137, hz137⟩ : ∃ z : Int32, z = (own_f7l z119 z1 z106 z107 z108) := ⟨_, rfl⟩
        rw [← hz137] at B125
        obtain ⟨z138, hz138⟩ : ∃ z : Int32, z = (own_f7k z119 z1 z106 z107 z109) := ⟨_, rfl⟩
        rw [← hz138] at B126
        refine own_via (fun k => st121.trans k) ?_
        show own_Go p e below s _ _ (T121.setTop (mkF m 325 #[iv p0, iv p1, iv p2, iv p3, iv p4, iv p5, iv z1, rv b3, iv z35, iv z36, rv b37, rv b57, iv z110, iv z110, iv (p5 &&& (3 : Int32)), iv z119] []))
        refine own_via (fun k => XS.aload X121.here hx rfl (hb hby at_325) rfl rfl  (XS.iload X121.here hx rfl (hb hby at_327) rfl  k)) ?_
        show own_Go p e below s _ _ (T121.setTop (mkF m 329 #[iv p0, iv p1, iv p2, iv p3, iv p4, iv p5, iv z1, rv b3, iv z35, iv z36, rv b37, rv b57, iv z110, iv z110, iv (p5 &&& (3 : Int32)), iv z119] [(.int z119), (.ref b57)]))
        obtain ⟨cq139, kq139, q139a, q139b, q139c⟩ := isOf hZ rfl B129
        obtain ⟨_, _, ⟨T139, L139, k139, n139⟩, -, X139, ⟨Lc139, hQ139, l139, y139, z139⟩, st139⟩ := X121.virtualBack hx (y := (⟨"com/example/tree_to_rows/treetorows/xml/DocumentPlace", "pass", "(C)V"⟩ : MethodName)) (z := (⟨"com/example/tree_to_rows/treetorows/xml/DocumentPlace", "pass", "(C)V"⟩ : MethodName)) hown (mvT hZ (hw _ (List.mem_of_getElem? (i := 39) rfl))) (mvT hZ (hw _ (List.mem_of_getElem? (i := 40) rfl))) (notFace_of_selects (args := #[]) (mvT hZ (hw _ (List.mem_of_getElem? (i := 42) rfl)))) (mvT hZ (hw _ (List.mem_of_getElem? (i := 42) rfl))) (mvT hZ (hw _ (List.mem_of_getElem? (i := 41) rfl))) (by decide) (backOf (W := 0) (rm7 l Z aw hw [] b57 z119 z1 z106 z107 z108 z109 T121.heap n0 Z135 B130 B131 B132 B133 B134 B129 g58) hZ (hw _ (List.mem_of_getElem? (i := 43) rfl)) (hw _ (List.mem_of_getElem? (i := 7) rfl)) (by decide) (by decide)) q139a q139c (g := (mkF m 329 #[iv p0, iv p1, iv p2, iv p3, iv p4, iv p5, iv z1, rv b3, iv z35, iv z36, rv b37, rv b57, iv z110, iv z110, iv (p5 &&& (3 : Int32)), iv z119] [(.int z119), (.ref b57)])) rfl (by rw [hml]; rfl) (Steps.refl _) (argsL := [(.int z119)]) (rest := []) (lenOf pd_5 rfl) rfl (by show 2 * 0 + _ ≤ _; exact Nat.le_of_eq rfl) (hb hby at_329) (fun _ _ => ⟨rfl, rfl, (by decide : 3 + 0 ≤ _), (by decide : 14 + 0 ≤ _)⟩)
        dsimp only [Pt.U, Pt.locs, Pt.cells, Pt.slots] at X139 l139 y139 z139 st139 hQ139
        subst l139 y139 z139
        obtain ⟨rfl, N139q, K139, B140, B141, B142, B143, B144⟩ := hQ139
        have N145 := Fr.app N127 N139q
        have B146 := B128.keep K139
        have B147 := B129.keep K139
        have B148 := B122.keep K139 (ninS ne60 nin0)
        have B149 := B123.keep K139 (ninS ne60 nin0)
        have B150 := B124.keep K139 (ninS ne60 nin0)
        have B151 := B125.keep K139 (ninS ne60 nin0)
        have B152 := B126.keep K139 (ninS ne60 nin0)
        have Z153 : n0 ≤ T139.heap.size := Nat.le_trans Z135 K139.1
        rw [← hz136] at B142
        rw [← hz137] at B143
        rw [← hz138] at B144
        refine own_via (fun k => st139.trans k) ?_
        show own_Go p e below s _ _ (T139.setTop (mkF m 332 #[iv p0, iv p1, iv p2, iv p3, iv p4, iv p5, iv z1, rv b3, iv z35, iv z36, rv b37, rv b57, iv z110, iv z110, iv (p5 &&& (3 : Int32)), iv z119] []))
        refine own_via (fun k => XS.aload X139.here hx rfl (hb hby at_332) rfl rfl  k) ?_
        show own_Go p e below s _ _ (T139.setTop (mkF m 334 #[iv p0, iv p1, iv p2, iv p3, iv p4, iv p5, iv z1, rv b3, iv z35, iv z36, rv b37, rv b57, iv z110, iv z110, iv (p5 &&& (3 : Int32)), iv z119] [(.ref b37)]))
        obtain ⟨cq154, kq154, q154a, q154b, q154c⟩ := isOf hZ rfl B146
        obtain ⟨_, _, ⟨T154, L154, k154, n154⟩, -, X154, ⟨Lc154, hQ154, l154, y154, z154⟩, st154⟩ := X139.virtualBack hx (y := (⟨"com/example/tree_to_rows/treetorows/xml/DocumentPlace", "line", "()I"⟩ : MethodName)) (z := (⟨"com/example/tree_to_rows/treetorows/xml/DocumentPlace", "line", "()I"⟩ : MethodName)) hown (mvT hZ (hw _ (List.mem_of_getElem? (i := 29) rfl))) (mvT hZ (hw _ (List.mem_of_getElem? (i := 30) rfl))) (notFace_of_selects (args := #[]) (mvT hZ (hw _ (List.mem_of_getElem? (i := 32) rfl)))) (mvT hZ (hw _ (List.mem_of_getElem? (i := 32) rfl))) (mvT hZ (hw _ (List.mem_of_getElem? (i := 31) rfl))) (by decide) (backOf (W := 0) (rm5 l Z aw hw [] b37 z137 T139.heap n0 Z153 B151) hZ (hw _ (List.mem_of_getElem? (i := 33) rfl)) (hw _ (List.mem_of_getElem? (i := 7) rfl)) (by decide) (by decide)) q154a q154c (g := (mkF m 334 #[iv p0, iv p1, iv p2, iv p3, iv p4, iv p5, iv z1, rv b3, iv z35, iv z36, rv b37, rv b57, iv z110, iv z110, iv (p5 &&& (3 : Int32)), iv z119] [(.ref b37)])) rfl (by rw [hml]; rfl) (Steps.refl _) (argsL := []) (rest := []) (lenOf pd_4 rfl) rfl (by show 2 * 0 + _ ≤ _; exact Nat.le_of_eq rfl) (hb hby at_334) (fun _ _ => ⟨rfl, rfl, (by decide : 3 + 0 ≤ _), (by decide : 14 + 0 ≤ _)⟩)
        dsimp only [Pt.U, Pt.locs, Pt.cells, Pt.slots] at X154 l154 y154 z154 st154 hQ154
        subst l154 y154 z154
        obtain ⟨rfl, N154q, eh154⟩ := hQ154
        have N155 := Fr.app N145 N154q
        refine own_via (fun k => st154.trans k) ?_
        show own_Go p e below s _ _ (T154.setTop (mkF m 337 #[iv p0, iv p1, iv p2, iv p3, iv p4, iv p5, iv z1, rv b3, iv z35, iv z36, rv b37, rv b57, iv z110, iv z110, iv (p5 &&& (3 : Int32)), iv z119] [(.int z137)]))
        refine own_via (fun k => XS.aload X154.here hx rfl (hb hby at_337) rfl rfl  k) ?_
        show own_Go p e below s _ _ (T154.setTop (mkF m 339 #[iv p0, iv p1, iv p2, iv p3, iv p4, iv p5, iv z1, rv b3, iv z35, iv z36, rv b37, rv b57, iv z110, iv z110, iv (p5 &&& (3 : Int32)), iv z119] [(.ref b57), (.int z137)]))
        obtain ⟨cq156, kq156, q156a, q156b, q156c⟩ := isOf hZ eh154 B147
        obtain ⟨_, _, ⟨T156, L156, k156, n156⟩, -, X156, ⟨Lc156, hQ156, l156, y156, z156⟩, st156⟩ := X154.virtualBack hx (y := (⟨"com/example/tree_to_rows/treetorows/xml/DocumentPlace", "line", "()I"⟩ : MethodName)) (z := (⟨"com/example/tree_to_rows/treetorows/xml/DocumentPlace", "line", "()I"⟩ : MethodName)) hown (mvT hZ (hw _ (List.mem_of_getElem? (i := 29) rfl))) (mvT hZ (hw _ (List.mem_of_getElem? (i := 30) rfl))) (notFace_of_selects (args := #[]) (mvT hZ (hw _ (List.mem_of_getElem? (i := 32) rfl)))) (mvT hZ (hw _ (List.mem_of_getElem? (i := 32) rfl))) (mvT hZ (hw _ (List.mem_of_getElem? (i := 31) rfl))) (by decide) (backOf (W := 1) (rm5 l Z aw hw [] b57 z137 T139.heap n0 Z153 B143) hZ (hw _ (List.mem_of_getElem? (i := 33) rfl)) (hw _ (List.mem_of_getElem? (i := 7) rfl)) (by decide) (by decide)) q156a q156c (g := (mkF m 339 #[iv p0, iv p1, iv p2, iv p3, iv p4, iv p5, iv z1, rv b3, iv z35, iv z36, rv b37, rv b57, iv z110, iv z110, iv (p5 &&& (3 : Int32)), iv z119] [(.ref b57), (.int z137)])) rfl (by rw [hml]; rfl) (Steps.refl _) (argsL := []) (rest := [(.int z137)]) (lenOf pd_4 rfl) rfl (by show 2 * 0 + _ ≤ _; exact Nat.le_of_eq rfl) (hb hby at_339) (fun _ _ => ⟨rfl, eh154, (by decide : 3 + 0 ≤ _), (by decide : 14 + 0 ≤ _)⟩)
        dsimp only [Pt.U, Pt.locs, Pt.cells, Pt.slots] at X156 l156 y156 z156 st156 hQ156
        subst l156 y156 z156
        obtain ⟨rfl, N156q, eh156⟩ := hQ156
        have N157 := Fr.app N155 N156q
        refine own_via (fun k => st156.trans k) ?_
        show own_Go p e below s _ _ (T156.setTop (mkF m 342 #[iv p0, iv p1, iv p2, iv p3, iv p4, iv p5, iv z1, rv b3, iv z35, iv z36, rv b37, rv b57, iv z110, iv z110, iv (p5 &&& (3 : Int32)), iv z119] [(.int z137), (.int z137)]))
        refine own_via (fun k => XS.icmpNo X156.here hx rfl (hb hby at_342) rfl (teq (rfl)).2 k) ?_
        show own_Go p e below s _ _ (T156.setTop (mkF m 345 #[iv p0, iv p1, iv p2, iv p3, iv p4, iv p5, iv z1, rv b3, iv z35, iv z36, rv b37, rv b57, iv z110, iv z110, iv (p5 &&& (3 : Int32)), iv z119] []))
        refine own_via (fun k => XS.aload X156.here hx rfl (hb hby at_345) rfl rfl  k) ?_
        show own_Go p e below s _ _ (T156.setTop (mkF m 347 #[iv p0, iv p1, iv p2, iv p3, iv p4, iv p5, iv z1, rv b3, iv z35, iv z36, rv b37, rv b57, iv z110, iv z110, iv (p5 &&& (3 : Int32)), iv z119] [(.ref b37)]))
        obtain ⟨cq158, kq158, q158a, q158b, q158c⟩ := isOf hZ eh156 B146
        obtain ⟨_, _, ⟨T158, L158, k158, n158⟩, -, X158, ⟨Lc158, hQ158, l158, y158, z158⟩, st158⟩ := X156.virtualBack hx (y := (⟨"com/example/tree_to_rows/treetorows/xml/DocumentPlace", "column", "()I"⟩ : MethodName)) (z := (⟨"com/example/tree_to_rows/treetorows/xml/DocumentPlace", "column", "()I"⟩ : MethodName)) hown (mvT hZ (hw _ (List.mem_of_getElem? (i := 34) rfl))) (mvT hZ (hw _ (List.mem_of_getElem? (i := 35) rfl))) (notFace_of_selects (args := #[]) (mvT hZ (hw _ (List.mem_of_getElem? (i := 37) rfl)))) (mvT hZ (hw _ (List.mem_of_getElem? (i := 37) rfl))) (mvT hZ (hw _ (List.mem_of_getElem? (i := 36) rfl))) (by decide) (backOf (W := 0) (rm6 l Z aw hw [] b37 z138 T139.heap n0 Z153 B152) hZ (hw _ (List.mem_of_getElem? (i := 38) rfl)) (hw _ (List.mem_of_getElem? (i := 7) rfl)) (by decide) (by decide)) q158a q158c (g := (mkF m 347 #[iv p0, iv p1, iv p2, iv p3, iv p4, iv p5, iv z1, rv b3, iv z35, iv z36, rv b37, rv b57, iv z110, iv z110, iv (p5 &&& (3 : Int32)), iv z119] [(.ref b37)])) rfl (by rw [hml]; rfl) (Steps.refl _) (argsL := []) (rest := []) (lenOf pd_4 rfl) rfl (by show 2 * 0 + _ ≤ _; exact Nat.le_of_eq rfl) (hb hby at_347) (fun _ _ => ⟨rfl, eh156, (by decide : 3 + 0 ≤ _), (by decide : 14 + 0 ≤ _)⟩)
        dsimp only [Pt.U, Pt.locs, Pt.cells, Pt.slots] at X158 l158 y158 z158 st158 hQ158
        subst l158 y158 z158
        obtain ⟨rfl, N158q, eh158⟩ := hQ158
        have N159 := Fr.app N157 N158q
        refine own_via (fun k => st158.trans k) ?_
        show own_Go p e below s _ _ (T158.setTop (mkF m 350 #[iv p0, iv p1, iv p2, iv p3, iv p4, iv p5, iv z1, rv b3, iv z35, iv z36, rv b37, rv b57, iv z110, iv z110, iv (p5 &&& (3 : Int32)), iv z119] [(.int z138)]))
        refine own_via (fun k => XS.aload X158.here hx rfl (hb hby at_350) rfl rfl  k) ?_
        show own_Go p e below s _ _ (T158.setTop (mkF m 352 #[iv p0, iv p1, iv p2, iv p3, iv p4, iv p5, iv z1, rv b3, iv z35, iv z36, rv b37, rv b57, iv z110, iv z110, iv (p5 &&& (3 : Int32)), iv z119] [(.ref b57), (.int z138)]))
        obtain ⟨cq160, kq160, q160a, q160b, q160c⟩ := isOf hZ eh158 B147
        obtain ⟨_, _, ⟨T160, L160, k160, n160⟩, -, X160, ⟨Lc160, hQ160, l160, y160, z160⟩, st160⟩ := X158.virtualBack hx (y := (⟨"com/example/tree_to_rows/treetorows/xml/DocumentPlace", "column", "()I"⟩ : MethodName)) (z := (⟨"com/example/tree_to_rows/treetorows/xml/DocumentPlace", "column", "()I"⟩ : MethodName)) hown (mvT hZ (hw _ (List.mem_of_getElem? (i := 34) rfl))) (mvT hZ (hw _ (List.mem_of_getElem? (i := 35) rfl))) (notFace_of_selects (args := #[]) (mvT hZ (hw _ (List.mem_of_getElem? (i := 37) rfl)))) (mvT hZ (hw _ (List.mem_of_getElem? (i := 37) rfl))) (mvT hZ (hw _ (List.mem_of_getElem? (i := 36) rfl))) (by decide) (backOf (W := 1) (rm6 l Z aw hw [] b57 z138 T139.heap n0 Z153 B144) hZ (hw _ (List.mem_of_getElem? (i := 38) rfl)) (hw _ (List.mem_of_getElem? (i := 7) rfl)) (by decide) (by decide)) q160a q160c (g := (mkF m 352 #[iv p0, iv p1, iv p2, iv p3, iv p4, iv p5, iv z1, rv b3, iv z35, iv z36, rv b37, rv b57, iv z110, iv z110, iv (p5 &&& (3 : Int32)), iv z119] [(.ref b57), (.int z138)])) rfl (by rw [hml]; rfl) (Steps.refl _) (argsL := []) (rest := [(.int z138)]) (lenOf pd_4 rfl) rfl (by show 2 * 0 + _ ≤ _; exact Nat.le_of_eq rfl) (hb hby at_352) (fun _ _ => ⟨rfl, eh158, (by decide : 3 + 0 ≤ _), (by decide : 14 + 0 ≤ _)⟩)
        dsimp only [Pt.U, Pt.locs, Pt.cells, Pt.slots] at X160 l160 y160 z160 st160 hQ160
        subst l160 y160 z160
        obtain ⟨rfl, N160q, eh160⟩ := hQ160
        have N161 := Fr.app N159 N160q
        refine own_via (fun k => st160.trans k) ?_
        show own_Go p e below s _ _ (T160.setTop (mkF m 355 #[iv p0, iv p1, iv p2, iv p3, iv p4, iv p5, iv z1, rv b3, iv z35, iv z36, rv b37, rv b57, iv z110, iv z110, iv (p5 &&& (3 : Int32)), iv z119] [(.int z138), (.int z138)]))
        refine own_via (fun k => XS.icmpNo X160.here hx rfl (hb hby at_355) rfl (teq (rfl)).2 k) ?_
        show own_Go p e below s _ _ (T160.setTop (mkF m 358 #[iv p0, iv p1, iv p2, iv p3, iv p4, iv p5, iv z1, rv b3, iv z35, iv z36, rv b37, rv b57, iv z110, iv z110, iv (p5 &&& (3 : Int32)), iv z119] []))
        refine own_via (fun k => XS.iconst X160.here hx rfl (hb hby at_358) (XS.goto X160.here hx rfl (pc0 := 359) (pc' := 363) rfl (hb hby at_359) (by decide) (by decide) k)) ?_
        show own_Go p e below s _ _ (T160.setTop (mkF m 363 #[iv p0, iv p1, iv p2, iv p3, iv p4, iv p5, iv z1, rv b3, iv z35, iv z36, rv b37, rv b57, iv z110, iv z110, iv (p5 &&& (3 : Int32)), iv z119] [(.int 1)]))
        exact own_retN X160 hx hlk (t := .boolean) Bd.returns (by simp) (hb hby at_363) (Q := (Q0 Z p0 p1 p2 p3 p4 p5 h0 n0)) ⟨rfl, N161⟩ (by decide) (by decide)
      by_cases hc162 : (p5 &&& (3 : Int32)) = (0 : Int32)
      · refine own_via (fun k => XS.ifNo X117.here hx rfl (hb hby at_273) rfl ((if0 _ _).trans (teq hc162).2) k) ?_
        show own_Go p e below s _ _ (T117.setTop (mkF m 276 #[iv p0, iv p1, iv p2, iv p3, iv p4, iv p5, iv z1, rv b3, iv z35, iv z36, rv b37, rv b57, iv z110, iv z110, iv (p5 &&& (3 : Int32)), .unset] []))
        refine own_via (fun k => X117.ldcInt hx hown (mvT hZ (hw _ (List.mem_of_getElem? (i := 45) rfl))) (g := (mkF m 276 #[iv p0, iv p1, iv p2, iv p3, iv p4, iv p5, iv z1, rv b3, iv z35, iv z36, rv b37, rv b57, iv z110, iv z110, iv (p5 &&& (3 : Int32)), .unset] [])) rfl (hb hby at_276) _ (XS.istore X117.here hx rfl (hb hby at_278) rfl (l' := #[iv p0, iv p1, iv p2, iv p3, iv p4, iv p5, iv z1, rv b3, iv z35, iv z36, rv b37, rv b57, iv z110, iv z110, iv (p5 &&& (3 : Int32)), iv 65279]) rfl (XS.goto X117.here hx rfl (pc0 := 280) (pc' := 318) rfl (hb hby at_280) (by decide) (by decide) k))) ?_
        show own_Go p e below s _ _ (T117.setTop (mkF m 318 #[iv p0, iv p1, iv p2, iv p3, iv p4, iv p5, iv z1, rv b3, iv z35, iv z36, rv b37, rv b57, iv z110, iv z110, iv (p5 &&& (3 : Int32)), iv 65279] []))
        exact J120 (65279 : Int32) (((if_pos hc162).trans rfl)).symm
      · refine own_via (fun k => XS.ifYes X117.here hx rfl (pc0 := 273) (pc' := 283) rfl (hb hby at_273) rfl ((if0 _ _).trans (feq hc162).2) (by decide) (by decide) k) ?_
        show own_Go p e below s _ _ (T117.setTop (mkF m 283 #[iv p0, iv p1, iv p2, iv p3, iv p4, iv p5, iv z1, rv b3, iv z35, iv z36, rv b37, rv b57, iv z110, iv z110, iv (p5 &&& (3 : Int32)), .unset] []))
        refine own_via (fun k => XS.iload X117.here hx rfl (hb hby at_283) rfl  (XS.iconst X117.here hx rfl (hb hby at_285) k)) ?_
        show own_Go p e below s _ _ (T117.setTop (mkF m 286 #[iv p0, iv p1, iv p2, iv p3, iv p4, iv p5, iv z1, rv b3, iv z35, iv z36, rv b37, rv b57, iv z110, iv z110, iv (p5 &&& (3 : Int32)), .unset] [(.int 1), (.int (p5 &&& (3 : Int32)))]))
        by_cases hc163 : (p5 &&& (3 : Int32)) = (1 : Int32)
        · refine own_via (fun k => XS.icmpNo X117.here hx rfl (hb hby at_286) rfl (teq hc163).2 k) ?_
          show own_Go p e below s _ _ (T117.setTop (mkF m 289 #[iv p0, iv p1, iv p2, iv p3, iv p4, iv p5, iv z1, rv b3, iv z35, iv z36, rv b37, rv b57, iv z110, iv z110, iv (p5 &&& (3 : Int32)), .unset] []))
          refine own_via (fun k => XS.bipush X117.here hx rfl (hb hby at_289) (XS.istore X117.here hx rfl (hb hby at_291) rfl (l' := #[iv p0, iv p1, iv p2, iv p3, iv p4, iv p5, iv z1, rv b3, iv z35, iv z36, rv b37, rv b57, iv z110, iv z110, iv (p5 &&& (3 : Int32)), iv 10]) rfl (XS.goto X117.here hx rfl (pc0 := 293) (pc' := 318) rfl (hb hby at_293) (by decide) (by decide) k))) ?_
          show own_Go p e below s _ _ (T117.setTop (mkF m 318 #[iv p0, iv p1, iv p2, iv p3, iv p4, iv p5, iv z1, rv b3, iv z35, iv z36, rv b37, rv b57, iv z110, iv z110, iv (p5 &&& (3 : Int32)), iv 10] []))
          exact J120 (10 : Int32) (((if_neg hc162).trans ((if_pos hc163).trans rfl))).symm
        · refine own_via (fun k => XS.icmpYes X117.here hx rfl (pc0 := 286) (pc' := 296) rfl (hb hby at_286) rfl (feq hc163).2 (by decide) (by decide) k) ?_
          show own_Go p e below s _ _ (T117.setTop (mkF m 296 #[iv p0, iv p1, iv p2, iv p3, iv p4, iv p5, iv z1, rv b3, iv z35, iv z36, rv b37, rv b57, iv z110, iv z110, iv (p5 &&& (3 : Int32)), .unset] []))
          refine own_via (fun k => XS.iload X117.here hx rfl (hb hby at_296) rfl  (XS.iconst X117.here hx rfl (hb hby at_298) k)) ?_
          show own_Go p e below s _ _ (T117.setTop (mkF m 299 #[iv p0, iv p1, iv p2, iv p3, iv p4, iv p5, iv z1, rv b3, iv z35, iv z36, rv b37, rv b57, iv z110, iv z110, iv (p5 &&& (3 : Int32)), .unset] [(.int 2), (.int (p5 &&& (3 : Int32)))]))
          by_cases hc164 : (p5 &&& (3 : Int32)) = (2 : Int32)
          · refine own_via (fun k => XS.icmpNo X117.here hx rfl (hb hby at_299) rfl (teq hc164).2 k) ?_
            show own_Go p e below s _ _ (T117.setTop (mkF m 302 #[iv p0, iv p1, iv p2, iv p3, iv p4, iv p5, iv z1, rv b3, iv z35, iv z36, rv b37, rv b57, iv z110, iv z110, iv (p5 &&& (3 : Int32)), .unset] []))
            refine own_via (fun k => XS.sipush X117.here hx rfl (hb hby at_302) (XS.istore X117.here hx rfl (hb hby at_305) rfl (l' := #[iv p0, iv p1, iv p2, iv p3, iv p4, iv p5, iv z1, rv b3, iv z35, iv z36, rv b37, rv b57, iv z110, iv z110, iv (p5 &&& (3 : Int32)), iv 133]) rfl (XS.goto X117.here hx rfl (pc0 := 307) (pc' := 318) rfl (hb hby at_307) (by decide) (by decide) k))) ?_
            show own_Go p e below s _ _ (T117.setTop (mkF m 318 #[iv p0, iv p1, iv p2, iv p3, iv p4, iv p5, iv z1, rv b3, iv z35, iv z36, rv b37, rv b57, iv z110, iv z110, iv (p5 &&& (3 : Int32)), iv 133] []))
            exact J120 (133 : Int32) (((if_neg hc162).trans ((if_neg hc163).trans ((if_pos hc164).trans rfl)))).symm
          · refine own_via (fun k => XS.icmpYes X117.here hx rfl (pc0 := 299) (pc' := 310) rfl (hb hby at_299) rfl (feq hc164).2 (by decide) (by decide) k) ?_
            show own_Go p e below s _ _ (T117.setTop (mkF m 310 #[iv p0, iv p1, iv p2, iv p3, iv p4, iv p5, iv z1, rv b3, iv z35, iv z36, rv b37, rv b57, iv z110, iv z110, iv (p5 &&& (3 : Int32)), .unset] []))
            refine own_via (fun k => XS.iload X117.here hx rfl (hb hby at_310) rfl  (XS.bipush X117.here hx rfl (hb hby at_312) (XS.iushr X117.here hx rfl (hb hby at_314) rfl (XS.i2c X117.here hx rfl (hb hby at_315) rfl k)))) ?_
            show own_Go p e below s _ _ (T117.setTop (mkF m 316 #[iv p0, iv p1, iv p2, iv p3, iv p4, iv p5, iv z1, rv b3, iv z35, iv z36, rv b37, rv b57, iv z110, iv z110, iv (p5 &&& (3 : Int32)), .unset] [(.int (((p5.toUInt32 >>> ((16 : Int32) &&& 31).toUInt32).toInt32).toUInt32.toUInt16.toUInt32.toInt32))]))
            refine own_via (fun k => XS.istore X117.here hx rfl (hb hby at_316) rfl (l' := #[iv p0, iv p1, iv p2, iv p3, iv p4, iv p5, iv z1, rv b3, iv z35, iv z36, rv b37, rv b57, iv z110, iv z110, iv (p5 &&& (3 : Int32)), iv (((p5.toUInt32 >>> ((16 : Int32) &&& 31).toUInt32).toInt32).toUInt32.toUInt16.toUInt32.toInt32)]) rfl k) ?_
            show own_Go p e below s _ _ (T117.setTop (mkF m 318 #[iv p0, iv p1, iv p2, iv p3, iv p4, iv p5, iv z1, rv b3, iv z35, iv z36, rv b37, rv b57, iv z110, iv z110, iv (p5 &&& (3 : Int32)), iv (((p5.toUInt32 >>> ((16 : Int32) &&& 31).toUInt32).toInt32).toUInt32.toUInt16.toUInt32.toInt32)] []))
            exact J120 (((p5.toUInt32 >>> ((16 : Int32) &&& 31).toUInt32).toInt32).toUInt32.toUInt16.toUInt32.toInt32) (((if_neg hc162).trans ((if_neg hc163).trans ((if_neg hc164).trans rfl)))).symm
    refine own_via (fun k => XS.iload X90.here hx rfl (hb hby at_110) rfl  (XS.istore X90.here hx rfl (hb hby at_112) rfl (l' := #[iv p0, iv p1, iv p2, iv p3, iv p4, iv p5, iv z1, rv b3, iv z35, iv z36, rv b37, rv b57, iv z110, iv z35, .unset, .unset]) rfl (XS.iload X90.here hx rfl (hb hby at_114) rfl  (XS.iload X90.here hx rfl (hb hby at_116) rfl  k)))) ?_
    show own_Go p e below s _ _ (T90.setTop (mkF m 118 #[iv p0, iv p1, iv p2, iv p3, iv p4, iv p5, iv z1, rv b3, iv z35, iv z36, rv b37, rv b57, iv z110, iv z35, .unset, .unset] [(.int z36), (.int z35)]))
    by_cases hc165 : z35 < z36
    · refine own_via (fun k => XS.icmpNo X90.here hx rfl (hb hby at_118) rfl (tlt hc165).2.1 k) ?_
      show own_Go p e below s _ _ (T90.setTop (mkF m 121 #[iv p0, iv p1, iv p2, iv p3, iv p4, iv p5, iv z1, rv b3, iv z35, iv z36, rv b37, rv b57, iv z110, iv z35, .unset, .unset] []))
      refine own_via (fun k => XS.aload X90.here hx rfl (hb hby at_121) rfl rfl  (XS.iload X90.here hx rfl (hb hby at_123) rfl  k)) ?_
      show own_Go p e below s _ _ (T90.setTop (mkF m 125 #[iv p0, iv p1, iv p2, iv p3, iv p4, iv p5, iv z1, rv b3, iv z35, iv z36, rv b37, rv b57, iv z110, iv z35, .unset, .unset] [(.int z35), (.ref b3)]))
      obtain ⟨cl166, Ar166, q166, S166, NN166, H166, G166⟩ := id B97
      have hin166 : ¬ (z35 < 0 ∨ cl166.slots.size ≤ (z35).toNatClampNeg) := inb_of S166 (own_inb hc165 (own_hhp2 p4 z35 hz35) (own_hhp3 p4 z35 hz35 z36 hz36))
      have hat166 : cl166.slots[(z35).toNatClampNeg]? = some (.int (g z35)) := H166.at hin166 (hg _ (own_inb hc165 (own_hhp2 p4 z35 hz35) (own_hhp3 p4 z35 hz35 z36 hz36)))
      refine own_via (fun k => X90.baloadBytes hx (j := z35) (v := (.int (g z35))) Ar166.1 (State.isArrayOf_alike hZ.alike Ar166.2.1) Ar166.2.2 hin166 hat166 (g := (mkF m 125 #[iv p0, iv p1, iv p2, iv p3, iv p4, iv p5, iv z1, rv b3, iv z35, iv z36, rv b37, rv b57, iv z110, iv z35, .unset, .unset] [(.int z35), (.ref b3)])) rfl rfl (hb hby at_125) _ k) ?_
      show own_Go p e below s _ _ (T90.setTop (mkF m 126 #[iv p0, iv p1, iv p2, iv p3, iv p4, iv p5, iv z1, rv b3, iv z35, iv z36, rv b37, rv b57, iv z110, iv z35, .unset, .unset] [(.int (g z35))]))
      by_cases hc167 : (g z35) < (0 : Int32)
      · refine own_via (fun k => XS.ifYes X90.here hx rfl (pc0 := 126) (pc' := 143) rfl (hb hby at_126) rfl ((if0 _ _).trans (tlt hc167).1) (by decide) (by decide) k) ?_
        show own_Go p e below s _ _ (T90.setTop (mkF m 143 #[iv p0, iv p1, iv p2, iv p3, iv p4, iv p5, iv z1, rv b3, iv z35, iv z36, rv b37, rv b57, iv z110, iv z35, .unset, .unset] []))
        refine own_via (fun k => XS.iload X90.here hx rfl (hb hby at_143) rfl  (XS.iload X90.here hx rfl (hb hby at_145) rfl  k)) ?_
        show own_Go p e below s _ _ (T90.setTop (mkF m 147 #[iv p0, iv p1, iv p2, iv p3, iv p4, iv p5, iv z1, rv b3, iv z35, iv z36, rv b37, rv b57, iv z110, iv z35, .unset, .unset] [(.int z36), (.int z35)]))
        refine own_via (fun k => XS.icmpNo X90.here hx rfl (hb hby at_147) rfl (tlt hc165).2.1 k) ?_
        show own_Go p e below s _ _ (T90.setTop (mkF m 150 #[iv p0, iv p1, iv p2, iv p3, iv p4, iv p5, iv z1, rv b3, iv z35, iv z36, rv b37, rv b57, iv z110, iv z35, .unset, .unset] []))
        refine own_via (fun k => XS.aload X90.here hx rfl (hb hby at_150) rfl rfl  (XS.iload X90.here hx rfl (hb hby at_152) rfl  k)) ?_
        show own_Go p e below s _ _ (T90.setTop (mkF m 154 #[iv p0, iv p1, iv p2, iv p3, iv p4, iv p5, iv z1, rv b3, iv z35, iv z36, rv b37, rv b57, iv z110, iv z35, .unset, .unset] [(.int z35), (.ref b3)]))
        obtain ⟨cl168, Ar168, q168, S168, NN168, H168, G168⟩ := id B97
        have hin168 : ¬ (z35 < 0 ∨ cl168.slots.size ≤ (z35).toNatClampNeg) := inb_of S168 (own_inb hc165 (own_hhp2 p4 z35 hz35) (own_hhp3 p4 z35 hz35 z36 hz36))
        have hat168 : cl168.slots[(z35).toNatClampNeg]? = some (.int (g z35)) := H168.at hin168 (hg _ (own_inb hc165 (own_hhp2 p4 z35 hz35) (own_hhp3 p4 z35 hz35 z36 hz36)))
        refine own_via (fun k => X90.baloadBytes hx (j := z35) (v := (.int (g z35))) Ar168.1 (State.isArrayOf_alike hZ.alike Ar168.2.1) Ar168.2.2 hin168 hat168 (g := (mkF m 154 #[iv p0, iv p1, iv p2, iv p3, iv p4, iv p5, iv z1, rv b3, iv z35, iv z36, rv b37, rv b57, iv z110, iv z35, .unset, .unset] [(.int z35), (.ref b3)])) rfl rfl (hb hby at_154) _ k) ?_
        show own_Go p e below s _ _ (T90.setTop (mkF m 155 #[iv p0, iv p1, iv p2, iv p3, iv p4, iv p5, iv z1, rv b3, iv z35, iv z36, rv b37, rv b57, iv z110, iv z35, .unset, .unset] [(.int (g z35))]))
        refine own_via (fun k => XS.ifYes X90.here hx rfl (pc0 := 155) (pc' := 172) rfl (hb hby at_155) rfl ((if0 _ _).trans (tlt hc167).1) (by decide) (by decide) k) ?_
        show own_Go p e below s _ _ (T90.setTop (mkF m 172 #[iv p0, iv p1, iv p2, iv p3, iv p4, iv p5, iv z1, rv b3, iv z35, iv z36, rv b37, rv b57, iv z110, iv z35, .unset, .unset] []))
        refine own_via (fun k => XS.iload X90.here hx rfl (hb hby at_172) rfl  (XS.iload X90.here hx rfl (hb hby at_174) rfl  k)) ?_
        show own_Go p e below s _ _ (T90.setTop (mkF m 176 #[iv p0, iv p1, iv p2, iv p3, iv p4, iv p5, iv z1, rv b3, iv z35, iv z36, rv b37, rv b57, iv z110, iv z35, .unset, .unset] [(.int z36), (.int z35)]))
        refine own_via (fun k => XS.icmpNo X90.here hx rfl (hb hby at_176) rfl (tlt hc165).2.1 k) ?_
        show own_Go p e below s _ _ (T90.setTop (mkF m 179 #[iv p0, iv p1, iv p2, iv p3, iv p4, iv p5, iv z1, rv b3, iv z35, iv z36, rv b37, rv b57, iv z110, iv z35, .unset, .unset] []))
        refine own_via (fun k => XS.aload X90.here hx rfl (hb hby at_179) rfl rfl  (XS.iload X90.here hx rfl (hb hby at_181) rfl  k)) ?_
        show own_Go p e below s _ _ (T90.setTop (mkF m 183 #[iv p0, iv p1, iv p2, iv p3, iv p4, iv p5, iv z1, rv b3, iv z35, iv z36, rv b37, rv b57, iv z110, iv z35, .unset, .unset] [(.int z35), (.ref b3)]))
        obtain ⟨cl169, Ar169, q169, S169, NN169, H169, G169⟩ := id B97
        have hin169 : ¬ (z35 < 0 ∨ cl169.slots.size ≤ (z35).toNatClampNeg) := inb_of S169 (own_inb hc165 (own_hhp2 p4 z35 hz35) (own_hhp3 p4 z35 hz35 z36 hz36))
        have hat169 : cl169.slots[(z35).toNatClampNeg]? = some (.int (g z35)) := H169.at hin169 (hg _ (own_inb hc165 (own_hhp2 p4 z35 hz35) (own_hhp3 p4 z35 hz35 z36 hz36)))
        refine own_via (fun k => X90.baloadBytes hx (j := z35) (v := (.int (g z35))) Ar169.1 (State.isArrayOf_alike hZ.alike Ar169.2.1) Ar169.2.2 hin169 hat169 (g := (mkF m 183 #[iv p0, iv p1, iv p2, iv p3, iv p4, iv p5, iv z1, rv b3, iv z35, iv z36, rv b37, rv b57, iv z110, iv z35, .unset, .unset] [(.int z35), (.ref b3)])) rfl rfl (hb hby at_183) _ k) ?_
        show own_Go p e below s _ _ (T90.setTop (mkF m 184 #[iv p0, iv p1, iv p2, iv p3, iv p4, iv p5, iv z1, rv b3, iv z35, iv z36, rv b37, rv b57, iv z110, iv z35, .unset, .unset] [(.int (g z35))]))
        refine own_via (fun k => XS.ifYes X90.here hx rfl (pc0 := 184) (pc' := 201) rfl (hb hby at_184) rfl ((if0 _ _).trans (tlt hc167).1) (by decide) (by decide) k) ?_
        show own_Go p e below s _ _ (T90.setTop (mkF m 201 #[iv p0, iv p1, iv p2, iv p3, iv p4, iv p5, iv z1, rv b3, iv z35, iv z36, rv b37, rv b57, iv z110, iv z35, .unset, .unset] []))
        refine own_via (fun k => XS.iload X90.here hx rfl (hb hby at_201) rfl  (XS.iload X90.here hx rfl (hb hby at_203) rfl  k)) ?_
        show own_Go p e below s _ _ (T90.setTop (mkF m 205 #[iv p0, iv p1, iv p2, iv p3, iv p4, iv p5, iv z1, rv b3, iv z35, iv z36, rv b37, rv b57, iv z110, iv z35, .unset, .unset] [(.int z36), (.int z35)]))
        refine own_via (fun k => XS.icmpNo X90.here hx rfl (hb hby at_205) rfl (tlt hc165).2.1 k) ?_
        show own_Go p e below s _ _ (T90.setTop (mkF m 208 #[iv p0, iv p1, iv p2, iv p3, iv p4, iv p5, iv z1, rv b3, iv z35, iv z36, rv b37, rv b57, iv z110, iv z35, .unset, .unset] []))
        refine own_via (fun k => XS.aload X90.here hx rfl (hb hby at_208) rfl rfl  (XS.iload X90.here hx rfl (hb hby at_210) rfl  k)) ?_
        show own_Go p e below s _ _ (T90.setTop (mkF m 212 #[iv p0, iv p1, iv p2, iv p3, iv p4, iv p5, iv z1, rv b3, iv z35, iv z36, rv b37, rv b57, iv z110, iv z35, .unset, .unset] [(.int z35), (.ref b3)]))
        obtain ⟨cl170, Ar170, q170, S170, NN170, H170, G170⟩ := id B97
        have hin170 : ¬ (z35 < 0 ∨ cl170.slots.size ≤ (z35).toNatClampNeg) := inb_of S170 (own_inb hc165 (own_hhp2 p4 z35 hz35) (own_hhp3 p4 z35 hz35 z36 hz36))
        have hat170 : cl170.slots[(z35).toNatClampNeg]? = some (.int (g z35)) := H170.at hin170 (hg _ (own_inb hc165 (own_hhp2 p4 z35 hz35) (own_hhp3 p4 z35 hz35 z36 hz36)))
        refine own_via (fun k => X90.baloadBytes hx (j := z35) (v := (.int (g z35))) Ar170.1 (State.isArrayOf_alike hZ.alike Ar170.2.1) Ar170.2.2 hin170 hat170 (g := (mkF m 212 #[iv p0, iv p1, iv p2, iv p3, iv p4, iv p5, iv z1, rv b3, iv z35, iv z36, rv b37, rv b57, iv z110, iv z35, .unset, .unset] [(.int z35), (.ref b3)])) rfl rfl (hb hby at_212) _ k) ?_
        show own_Go p e below s _ _ (T90.setTop (mkF m 213 #[iv p0, iv p1, iv p2, iv p3, iv p4, iv p5, iv z1, rv b3, iv z35, iv z36, rv b37, rv b57, iv z110, iv z35, .unset, .unset] [(.int (g z35))]))
        refine own_via (fun k => XS.ifYes X90.here hx rfl (pc0 := 213) (pc' := 230) rfl (hb hby at_213) rfl ((if0 _ _).trans (tlt hc167).1) (by decide) (by decide) k) ?_
        show own_Go p e below s _ _ (T90.setTop (mkF m 230 #[iv p0, iv p1, iv p2, iv p3, iv p4, iv p5, iv z1, rv b3, iv z35, iv z36, rv b37, rv b57, iv z110, iv z35, .unset, .unset] []))
        have hE171 : ((0 : Int32), (1 : Int32), (1 : Int32), z35) = (own_rn g z36 z35 (0 : Int32) (1 : Int32) (1 : Int32)) := (own_rn_neg hc165 hc167).symm.trans (rfl : (own_rn g z36 z35 (0 : Int32) (1 : Int32) (1 : Int32)) = (own_rn g z36 z35 (0 : Int32) (1 : Int32) (1 : Int32)))
        have hN172 : z35 = z110 := (congrArg (fun q => q.2.2.2) hE171).trans hz110.symm
        exact CUT T90 _ _ z35 hN172 X90 N96 rfl Z105 B98 B99 B100 (own_fldI ((by rw [hz106]; exact (if_pos (congrArg (fun q => q.2.2.2) hE171).symm).symm)) B101) (own_fldI ((congrArg (fun q => q.1) hE171).trans hz107.symm) B102) (own_fldI ((congrArg (fun q => q.2.1) hE171).trans hz108.symm) B103) (own_fldI ((congrArg (fun q => q.2.2.1) hE171).trans hz109.symm) B104) B91 B92 B93 B94 B95
      · refine own_via (fun k => XS.ifNo X90.here hx rfl (hb hby at_126) rfl ((if0 _ _).trans (flt hc167).1) k) ?_
        show own_Go p e below s _ _ (T90.setTop (mkF m 129 #[iv p0, iv p1, iv p2, iv p3, iv p4, iv p5, iv z1, rv b3, iv z35, iv z36, rv b37, rv b57, iv z110, iv z35, .unset, .unset] []))
        refine own_via (fun k => XS.aload X90.here hx rfl (hb hby at_129) rfl rfl  (XS.aload X90.here hx rfl (hb hby at_131) rfl rfl  (XS.iload X90.here hx rfl (hb hby at_133) rfl  k))) ?_
        show own_Go p e below s _ _ (T90.setTop (mkF m 135 #[iv p0, iv p1, iv p2, iv p3, iv p4, iv p5, iv z1, rv b3, iv z35, iv z36, rv b37, rv b57, iv z110, iv z35, .unset, .unset] [(.int z35), (.ref b3), (.ref b57)]))
        obtain ⟨cl173, Ar173, q173, S173, NN173, H173, G173⟩ := id B97
        have hin173 : ¬ (z35 < 0 ∨ cl173.slots.size ≤ (z35).toNatClampNeg) := inb_of S173 (own_inb hc165 (own_hhp2 p4 z35 hz35) (own_hhp3 p4 z35 hz35 z36 hz36))
        have hat173 : cl173.slots[(z35).toNatClampNeg]? = some (.int (g z35)) := H173.at hin173 (hg _ (own_inb hc165 (own_hhp2 p4 z35 hz35) (own_hhp3 p4 z35 hz35 z36 hz36)))
        refine own_via (fun k => X90.baloadBytes hx (j := z35) (v := (.int (g z35))) Ar173.1 (State.isArrayOf_alike hZ.alike Ar173.2.1) Ar173.2.2 hin173 hat173 (g := (mkF m 135 #[iv p0, iv p1, iv p2, iv p3, iv p4, iv p5, iv z1, rv b3, iv z35, iv z36, rv b37, rv b57, iv z110, iv z35, .unset, .unset] [(.int z35), (.ref b3), (.ref b57)])) rfl rfl (hb hby at_135) _ k) ?_
        show own_Go p e below s _ _ (T90.setTop (mkF m 136 #[iv p0, iv p1, iv p2, iv p3, iv p4, iv p5, iv z1, rv b3, iv z35, iv z36, rv b37, rv b57, iv z110, iv z35, .unset, .unset] [(.int (g z35)), (.ref b57)]))
        refine own_via (fun k => XS.i2c X90.here hx rfl (hb hby at_136) rfl k) ?_
        show own_Go p e below s _ _ (T90.setTop (mkF m 137 #[iv p0, iv p1, iv p2, iv p3, iv p4, iv p5, iv z1, rv b3, iv z35, iv z36, rv b37, rv b57, iv z110, iv z35, .unset, .unset] [(.int ((g z35).toUInt32.toUInt16.toUInt32.toInt32)), (.ref b57)]))
        obtain ⟨cq174, kq174, q174a, q174b, q174c⟩ := isOf hZ rfl B99
        obtain ⟨_, _, ⟨T174, L174, k174, n174⟩, -, X174, ⟨Lc174, hQ174, l174, y174, z174⟩, st174⟩ := X90.virtualBack hx (y := (⟨"com/example/tree_to_rows/treetorows/xml/DocumentPlace", "pass", "(C)V"⟩ : MethodName)) (z := (⟨"com/example/tree_to_rows/treetorows/xml/DocumentPlace", "pass", "(C)V"⟩ : MethodName)) hown (mvT hZ (hw _ (List.mem_of_getElem? (i := 39) rfl))) (mvT hZ (hw _ (List.mem_of_getElem? (i := 40) rfl))) (notFace_of_selects (args := #[]) (mvT hZ (hw _ (List.mem_of_getElem? (i := 42) rfl)))) (mvT hZ (hw _ (List.mem_of_getElem? (i := 42) rfl))) (mvT hZ (hw _ (List.mem_of_getElem? (i := 41) rfl))) (by decide) (backOf (W := 0) (rm7 l Z aw hw [] b57 ((g z35).toUInt32.toUInt16.toUInt32.toInt32) z1 (1 : Int32) (0 : Int32) (1 : Int32) (1 : Int32) T90.heap n0 Z105 B100 B101 B102 B103 B104 B99 g58) hZ (hw _ (List.mem_of_getElem? (i := 43) rfl)) (hw _ (List.mem_of_getElem? (i := 7) rfl)) (by decide) (by decide)) q174a q174c (g := (mkF m 137 #[iv p0, iv p1, iv p2, iv p3, iv p4, iv p5, iv z1, rv b3, iv z35, iv z36, rv b37, rv b57, iv z110, iv z35, .unset, .unset] [(.int ((g z35).toUInt32.toUInt16.toUInt32.toInt32)), (.ref b57)])) rfl (by rw [hml]; rfl) (Steps.refl _) (argsL := [(.int ((g z35).toUInt32.toUInt16.toUInt32.toInt32))]) (rest := []) (lenOf pd_5 rfl) rfl (by show 2 * 0 + _ ≤ _; exact Nat.le_of_eq rfl) (hb hby at_137) (fun _ _ => ⟨rfl, rfl, (by decide : 3 + 0 ≤ _), (by decide : 14 + 0 ≤ _)⟩)
        dsimp only [Pt.U, Pt.locs, Pt.cells, Pt.slots] at X174 l174 y174 z174 st174 hQ174
        subst l174 y174 z174
        obtain ⟨rfl, N174q, K174, B175, B176, B177, B178, B179⟩ := hQ174
        have N180 := Fr.app N96 N174q
        have B181 := B97.keep K174 (ninS ne59 nin0)
        have B182 := B98.keep K174
        have B183 := B99.keep K174
        have B184 := B91.keep K174 (ninS ne60 nin0)
        have B185 := B92.keep K174 (ninS ne60 nin0)
        have B186 := B93.keep K174 (ninS ne60 nin0)
        have B187 := B94.keep K174 (ninS ne60 nin0)
        have B188 := B95.keep K174 (ninS ne60 nin0)
        have Z189 : n0 ≤ T174.heap.size := Nat.le_trans Z105 K174.1
        obtain ⟨z190, hz190⟩ : ∃ z : Int32, z = (own_f7a ((g z35).toUInt32.toUInt16.toUInt32.toInt32) z1 (1 : Int32) (0 : Int32)) := ⟨_, rfl⟩
        rw [← hz190] at B177
        obtain ⟨z191, hz191⟩ : ∃ z : Int32, z = (own_f7l ((g z35).toUInt32.toUInt16.toUInt32.toInt32) z1 (1 : Int32) (0 : Int32) (1 : Int32)) := ⟨_, rfl⟩
        rw [← hz191] at B178
        obtain ⟨z192, hz192⟩ : ∃ z : Int32, z = (own_f7k ((g z35).toUInt32.toUInt16.toUInt32.toInt32) z1 (1 : Int32) (0 : Int32) (1 : Int32)) := ⟨_, rfl⟩
        rw [← hz192] at B179
        refine own_via (fun k => st174.trans k) ?_
        show own_Go p e below s _ _ (T174.setTop (mkF m 140 #[iv p0, iv p1, iv p2, iv p3, iv p4, iv p5, iv z1, rv b3, iv z35, iv z36, rv b37, rv b57, iv z110, iv z35, .unset, .unset] []))
        have hP193 : own_rn g z36 (z35 + (1 : Int32)) z190 z191 z192 = (own_rn g z36 z35 (0 : Int32) (1 : Int32) (1 : Int32)) := by
          rw [hz190, hz191, hz192]; exact (own_pass1 hc165 hc167 (hgr _)).symm.trans (rfl : (own_rn g z36 z35 (0 : Int32) (1 : Int32) (1 : Int32)) = (own_rn g z36 z35 (0 : Int32) (1 : Int32) (1 : Int32)))
        refine own_via (fun k => XS.iinc X174.here hx rfl (hb hby at_140) rfl (l' := #[iv p0, iv p1, iv p2, iv p3, iv p4, iv p5, iv z1, rv b3, iv z35, iv z36, rv b37, rv b57, iv z110, iv (z35 + (1 : Int32)), .unset, .unset]) rfl (XS.iload X174.here hx rfl (hb hby at_143) rfl  (XS.iload X174.here hx rfl (hb hby at_145) rfl  k))) ?_
        show own_Go p e below s _ _ (T174.setTop (mkF m 147 #[iv p0, iv p1, iv p2, iv p3, iv p4, iv p5, iv z1, rv b3, iv z35, iv z36, rv b37, rv b57, iv z110, iv (z35 + (1 : Int32)), .unset, .unset] [(.int z36), (.int (z35 + (1 : Int32)))]))
        by_cases hc194 : (z35 + (1 : Int32)) < z36
        · refine own_via (fun k => XS.icmpNo X174.here hx rfl (hb hby at_147) rfl (tlt hc194).2.1 k) ?_
          show own_Go p e below s _ _ (T174.setTop (mkF m 150 #[iv p0, iv p1, iv p2, iv p3, iv p4, iv p5, iv z1, rv b3, iv z35, iv z36, rv b37, rv b57, iv z110, iv (z35 + (1 : Int32)), .unset, .unset] []))
          refine own_via (fun k => XS.aload X174.here hx rfl (hb hby at_150) rfl rfl  (XS.iload X174.here hx rfl (hb hby at_152) rfl  k)) ?_
          show own_Go p e below s _ _ (T174.setTop (mkF m 154 #[iv p0, iv p1, iv p2, iv p3, iv p4, iv p5, iv z1, rv b3, iv z35, iv z36, rv b37, rv b57, iv z110, iv (z35 + (1 : Int32)), .unset, .unset] [(.int (z35 + (1 : Int32))), (.ref b3)]))
          obtain ⟨cl195, Ar195, q195, S195, NN195, H195, G195⟩ := id B181
          have hin195 : ¬ ((z35 + (1 : Int32)) < 0 ∨ cl195.slots.size ≤ ((z35 + (1 : Int32))).toNatClampNeg) := inb_of S195 (own_inb hc194 (own_nn hc165 (own_hhp2 p4 z35 hz35)) (own_hhp3 p4 z35 hz35 z36 hz36))
          have hat195 : cl195.slots[((z35 + (1 : Int32))).toNatClampNeg]? = some (.int (g (z35 + (1 : Int32)))) := H195.at hin195 (hg _ (own_inb hc194 (own_nn hc165 (own_hhp2 p4 z35 hz35)) (own_hhp3 p4 z35 hz35 z36 hz36)))
          refine own_via (fun k => X174.baloadBytes hx (j := (z35 + (1 : Int32))) (v := (.int (g (z35 + (1 : Int32))))) Ar195.1 (State.isArrayOf_alike hZ.alike Ar195.2.1) Ar195.2.2 hin195 hat195 (g := (mkF m 154 #[iv p0, iv p1, iv p2, iv p3, iv p4, iv p5, iv z1, rv b3, iv z35, iv z36, rv b37, rv b57, iv z110, iv (z35 + (1 : Int32)), .unset, .unset] [(.int (z35 + (1 : Int32))), (.ref b3)])) rfl rfl (hb hby at_154) _ k) ?_
          show own_Go p e below s _ _ (T174.setTop (mkF m 155 #[iv p0, iv p1, iv p2, iv p3, iv p4, iv p5, iv z1, rv b3, iv z35, iv z36, rv b37, rv b57, iv z110, iv (z35 + (1 : Int32)), .unset, .unset] [(.int (g (z35 + (1 : Int32))))]))
          by_cases hc196 : (g (z35 + (1 : Int32))) < (0 : Int32)
          · refine own_via (fun k => XS.ifYes X174.here hx rfl (pc0 := 155) (pc' := 172) rfl (hb hby at_155) rfl ((if0 _ _).trans (tlt hc196).1) (by decide) (by decide) k) ?_
            show own_Go p e below s _ _ (T174.setTop (mkF m 172 #[iv p0, iv p1, iv p2, iv p3, iv p4, iv p5, iv z1, rv b3, iv z35, iv z36, rv b37, rv b57, iv z110, iv (z35 + (1 : Int32)), .unset, .unset] []))
            refine own_via (fun k => XS.iload X174.here hx rfl (hb hby at_172) rfl  (XS.iload X174.here hx rfl (hb hby at_174) rfl  k)) ?_
            show own_Go p e below s _ _ (T174.setTop (mkF m 176 #[iv p0, iv p1, iv p2, iv p3, iv p4, iv p5, iv z1, rv b3, iv z35, iv z36, rv b37, rv b57, iv z110, iv (z35 + (1 : Int32)), .unset, .unset] [(.int z36), (.int (z35 + (1 : Int32)))]))
            refine own_via (fun k => XS.icmpNo X174.here hx rfl (hb hby at_176) rfl (tlt hc194).2.1 k) ?_
            show own_Go p e below s _ _ (T174.setTop (mkF m 179 #[iv p0, iv p1, iv p2, iv p3, iv p4, iv p5, iv z1, rv b3, iv z35, iv z36, rv b37, rv b57, iv z110, iv (z35 + (1 : Int32)), .unset, .unset] []))
            refine own_via (fun k => XS.aload X174.here hx rfl (hb hby at_179) rfl rfl  (XS.iload X174.here hx rfl (hb hby at_181) rfl  k)) ?_
            show own_Go p e below s _ _ (T174.setTop (mkF m 183 #[iv p0, iv p1, iv p2, iv p3, iv p4, iv p5, iv z1, rv b3, iv z35, iv z36, rv b37, rv b57, iv z110, iv (z35 + (1 : Int32)), .unset, .unset] [(.int (z35 + (1 : Int32))), (.ref b3)]))
            obtain ⟨cl197, Ar197, q197, S197, NN197, H197, G197⟩ := id B181
            have hin197 : ¬ ((z35 + (1 : Int32)) < 0 ∨ cl197.slots.size ≤ ((z35 + (1 : Int32))).toNatClampNeg) := inb_of S197 (own_inb hc194 (own_nn hc165 (own_hhp2 p4 z35 hz35)) (own_hhp3 p4 z35 hz35 z36 hz36))
            have hat197 : cl197.slots[((z35 + (1 : Int32))).toNatClampNeg]? = some (.int (g (z35 + (1 : Int32)))) := H197.at hin197 (hg _ (own_inb hc194 (own_nn hc165 (own_hhp2 p4 z35 hz35)) (own_hhp3 p4 z35 hz35 z36 hz36)))
            refine own_via (fun k => X174.baloadBytes hx (j := (z35 + (1 : Int32))) (v := (.int (g (z35 + (1 : Int32))))) Ar197.1 (State.isArrayOf_alike hZ.alike Ar197.2.1) Ar197.2.2 hin197 hat197 (g := (mkF m 183 #[iv p0, iv p1, iv p2, iv p3, iv p4, iv p5, iv z1, rv b3, iv z35, iv z36, rv b37, rv b57, iv z110, iv (z35 + (1 : Int32)), .unset, .unset] [(.int (z35 + (1 : Int32))), (.ref b3)])) rfl rfl (hb hby at_183) _ k) ?_
            show own_Go p e below s _ _ (T174.setTop (mkF m 184 #[iv p0, iv p1, iv p2, iv p3, iv p4, iv p5, iv z1, rv b3, iv z35, iv z36, rv b37, rv b57, iv z110, iv (z35 + (1 : Int32)), .unset, .unset] [(.int (g (z35 + (1 : Int32))))]))
            refine own_via (fun k => XS.ifYes X174.here hx rfl (pc0 := 184) (pc' := 201) rfl (hb hby at_184) rfl ((if0 _ _).trans (tlt hc196).1) (by decide) (by decide) k) ?_
            show own_Go p e below s _ _ (T174.setTop (mkF m 201 #[iv p0, iv p1, iv p2, iv p3, iv p4, iv p5, iv z1, rv b3, iv z35, iv z36, rv b37, rv b57, iv z110, iv (z35 + (1 : Int32)), .unset, .unset] []))
            refine own_via (fun k => XS.iload X174.here hx rfl (hb hby at_201) rfl  (XS.iload X174.here hx rfl (hb hby at_203) rfl  k)) ?_
            show own_Go p e below s _ _ (T174.setTop (mkF m 205 #[iv p0, iv p1, iv p2, iv p3, iv p4, iv p5, iv z1, rv b3, iv z35, iv z36, rv b37, rv b57, iv z110, iv (z35 + (1 : Int32)), .unset, .unset] [(.int z36), (.int (z35 + (1 : Int32)))]))
            refine own_via (fun k => XS.icmpNo X174.here hx rfl (hb hby at_205) rfl (tlt hc194).2.1 k) ?_
            show own_Go p e below s _ _ (T174.setTop (mkF m 208 #[iv p0, iv p1, iv p2, iv p3, iv p4, iv p5, iv z1, rv b3, iv z35, iv z36, rv b37, rv b57, iv z110, iv (z35 + (1 : Int32)), .unset, .unset] []))
            refine own_via (fun k => XS.aload X174.here hx rfl (hb hby at_208) rfl rfl  (XS.iload X174.here hx rfl (hb hby at_210) rfl  k)) ?_
            show own_Go p e below s _ _ (T174.setTop (mkF m 212 #[iv p0, iv p1, iv p2, iv p3, iv p4, iv p5, iv z1, rv b3, iv z35, iv z36, rv b37, rv b57, iv z110, iv (z35 + (1 : Int32)), .unset, .unset] [(.int (z35 + (1 : Int32))), (.ref b3)]))
            obtain ⟨cl198, Ar198, q198, S198, NN198, H198, G198⟩ := id B181
            have hin198 : ¬ ((z35 + (1 : Int32)) < 0 ∨ cl198.slots.size ≤ ((z35 + (1 : Int32))).toNatClampNeg) := inb_of S198 (own_inb hc194 (own_nn hc165 (own_hhp2 p4 z35 hz35)) (own_hhp3 p4 z35 hz35 z36 hz36))
            have hat198 : cl198.slots[((z35 + (1 : Int32))).toNatClampNeg]? = some (.int (g (z35 + (1 : Int32)))) := H198.at hin198 (hg _ (own_inb hc194 (own_nn hc165 (own_hhp2 p4 z35 hz35)) (own_hhp3 p4 z35 hz35 z36 hz36)))
            refine own_via (fun k => X174.baloadBytes hx (j := (z35 + (1 : Int32))) (v := (.int (g (z35 + (1 : Int32))))) Ar198.1 (State.isArrayOf_alike hZ.alike Ar198.2.1) Ar198.2.2 hin198 hat198 (g := (mkF m 212 #[iv p0, iv p1, iv p2, iv p3, iv p4, iv p5, iv z1, rv b3, iv z35, iv z36, rv b37, rv b57, iv z110, iv (z35 + (1 : Int32)), .unset, .unset] [(.int (z35 + (1 : Int32))), (.ref b3)])) rfl rfl (hb hby at_212) _ k) ?_
            show own_Go p e below s _ _ (T174.setTop (mkF m 213 #[iv p0, iv p1, iv p2, iv p3, iv p4, iv p5, iv z1, rv b3, iv z35, iv z36, rv b37, rv b57, iv z110, iv (z35 + (1 : Int32)), .unset, .unset] [(.int (g (z35 + (1 : Int32))))]))
            refine own_via (fun k => XS.ifYes X174.here hx rfl (pc0 := 213) (pc' := 230) rfl (hb hby at_213) rfl ((if0 _ _).trans (tlt hc196).1) (by decide) (by decide) k) ?_
            show own_Go p e below s _ _ (T174.setTop (mkF m 230 #[iv p0, iv p1, iv p2, iv p3, iv p4, iv p5, iv z1, rv b3, iv z35, iv z36, rv b37, rv b57, iv z110, iv (z35 + (1 : Int32)), .unset, .unset] []))
            have hE199 : (z190, z191, z192, (z35 + (1 : Int32))) = (own_rn g z36 z35 (0 : Int32) (1 : Int32) (1 : Int32)) := (own_rn_neg hc194 hc196).symm.trans hP193
            have hN200 : (z35 + (1 : Int32)) = z110 := (congrArg (fun q => q.2.2.2) hE199).trans hz110.symm
            exact CUT T174 _ _ (z35 + (1 : Int32)) hN200 X174 N180 rfl Z189 B182 B183 B175 (own_fldI ((by rw [hz106]; exact (if_neg fun q => own_far1 hc165 ((congrArg (fun q => q.2.2.2) hE199).trans q)).symm)) B176) (own_fldI ((congrArg (fun q => q.1) hE199).trans hz107.symm) B177) (own_fldI ((congrArg (fun q => q.2.1) hE199).trans hz108.symm) B178) (own_fldI ((congrArg (fun q => q.2.2.1) hE199).trans hz109.symm) B179) B184 B185 B186 B187 B188
          · refine own_via (fun k => XS.ifNo X174.here hx rfl (hb hby at_155) rfl ((if0 _ _).trans (flt hc196).1) k) ?_
            show own_Go p e below s _ _ (T174.setTop (mkF m 158 #[iv p0, iv p1, iv p2, iv p3, iv p4, iv p5, iv z1, rv b3, iv z35, iv z36, rv b37, rv b57, iv z110, iv (z35 + (1 : Int32)), .unset, .unset] []))
            refine own_via (fun k => XS.aload X174.here hx rfl (hb hby at_158) rfl rfl  (XS.aload X174.here hx rfl (hb hby at_160) rfl rfl  (XS.iload X174.here hx rfl (hb hby at_162) rfl  k))) ?_
            show own_Go p e below s _ _ (T174.setTop (mkF m 164 #[iv p0, iv p1, iv p2, iv p3, iv p4, iv p5, iv z1, rv b3, iv z35, iv z36, rv b37, rv b57, iv z110, iv (z35 + (1 : Int32)), .unset, .unset] [(.int (z35 + (1 : Int32))), (.ref b3), (.ref b57)]))
            obtain ⟨cl201, Ar201, q201, S201, NN201, H201, G201⟩ := id B181
            have hin201 : ¬ ((z35 + (1 : Int32)) < 0 ∨ cl201.slots.size ≤ ((z35 + (1 : Int32))).toNatClampNeg) := inb_of S201 (own_inb hc194 (own_nn hc165 (own_hhp2 p4 z35 hz35)) (own_hhp3 p4 z35 hz35 z36 hz36))
            have hat201 : cl201.slots[((z35 + (1 : Int32))).toNatClampNeg]? = some (.int (g (z35 + (1 : Int32)))) := H201.at hin201 (hg _ (own_inb hc194 (own_nn hc165 (own_hhp2 p4 z35 hz35)) (own_hhp3 p4 z35 hz35 z36 hz36)))
            refine own_via (fun k => X174.baloadBytes hx (j := (z35 + (1 : Int32))) (v := (.int (g (z35 + (1 : Int32))))) Ar201.1 (State.isArrayOf_alike hZ.alike Ar201.2.1) Ar201.2.2 hin201 hat201 (g := (mkF m 164 #[iv p0, iv p1, iv p2, iv p3, iv p4, iv p5, iv z1, rv b3, iv z35, iv z36, rv b37, rv b57, iv z110, iv (z35 + (1 : Int32)), .unset, .unset] [(.int (z35 + (1 : Int32))), (.ref b3), (.ref b57)])) rfl rfl (hb hby at_164) _ k) ?_
            show own_Go p e below s _ _ (T174.setTop (mkF m 165 #[iv p0, iv p1, iv p2, iv p3, iv p4, iv p5, iv z1, rv b3, iv z35, iv z36, rv b37, rv b57, iv z110, iv (z35 + (1 : Int32)), .unset, .unset] [(.int (g (z35 + (1 : Int32)))), (.ref b57)]))
            refine own_via (fun k => XS.i2c X174.here hx rfl (hb hby at_165) rfl k) ?_
            show own_Go p e below s _ _ (T174.setTop (mkF m 166 #[iv p0, iv p1, iv p2, iv p3, iv p4, iv p5, iv z1, rv b3, iv z35, iv z36, rv b37, rv b57, iv z110, iv (z35 + (1 : Int32)), .unset, .unset] [(.int ((g (z35 + (1 : Int32))).toUInt32.toUInt16.toUInt32.toInt32)), (.ref b57)]))
            obtain ⟨cq202, kq202, q202a, q202b, q202c⟩ := isOf hZ rfl B183
            obtain ⟨_, _, ⟨T202, L202, k202, n202⟩, -, X202, ⟨Lc202, hQ202, l202, y202, z202⟩, st202⟩ := X174.virtualBack hx (y := (⟨"com/example/tree_to_rows/treetorows/xml/DocumentPlace", "pass", "(C)V"⟩ : MethodName)) (z := (⟨"com/example/tree_to_rows/treetorows/xml/DocumentPlace", "pass", "(C)V"⟩ : MethodName)) hown (mvT hZ (hw _ (List.mem_of_getElem? (i := 39) rfl))) (mvT hZ (hw _ (List.mem_of_getElem? (i := 40) rfl))) (notFace_of_selects (args := #[]) (mvT hZ (hw _ (List.mem_of_getElem? (i := 42) rfl)))) (mvT hZ (hw _ (List.mem_of_getElem? (i := 42) rfl))) (mvT hZ (hw _ (List.mem_of_getElem? (i := 41) rfl))) (by decide) (backOf (W := 0) (rm7 l Z aw hw [] b57 ((g (z35 + (1 : Int32))).toUInt32.toUInt16.toUInt32.toInt32) z1 (0 : Int32) z190 z191 z192 T174.heap n0 Z189 B175 B176 B177 B178 B179 B183 g58) hZ (hw _ (List.mem_of_getElem? (i := 43) rfl)) (hw _ (List.mem_of_getElem? (i := 7) rfl)) (by decide) (by decide)) q202a q202c (g := (mkF m 166 #[iv p0, iv p1, iv p2, iv p3, iv p4, iv p5, iv z1, rv b3, iv z35, iv z36, rv b37, rv b57, iv z110, iv (z35 + (1 : Int32)), .unset, .unset] [(.int ((g (z35 + (1 : Int32))).toUInt32.toUInt16.toUInt32.toInt32)), (.ref b57)])) rfl (by rw [hml]; rfl) (Steps.refl _) (argsL := [(.int ((g (z35 + (1 : Int32))).toUInt32.toUInt16.toUInt32.toInt32))]) (rest := []) (lenOf pd_5 rfl) rfl (by show 2 * 0 + _ ≤ _; exact Nat.le_of_eq rfl) (hb hby at_166) (fun _ _ => ⟨rfl, rfl, (by decide : 3 + 0 ≤ _), (by decide : 14 + 0 ≤ _)⟩)
            dsimp only [Pt.U, Pt.locs, Pt.cells, Pt.slots] at X202 l202 y202 z202 st202 hQ202
            subst l202 y202 z202
            obtain ⟨rfl, N202q, K202, B203, B204, B205, B206, B207⟩ := hQ202
            have N208 := Fr.app N180 N202q
            have B209 := B181.keep K202 (ninS ne59 nin0)
            have B210 := B182.keep K202
            have B211 := B183.keep K202
            have B212 := B184.keep K202 (ninS ne60 nin0)
            have B213 := B185.keep K202 (ninS ne60 nin0)
            have B214 := B186.keep K202 (ninS ne60 nin0)
            have B215 := B187.keep K202 (ninS ne60 nin0)
            have B216 := B188.keep K202 (ninS ne60 nin0)
            have Z217 : n0 ≤ T202.heap.size := Nat.le_trans Z189 K202.1
            obtain ⟨z218, hz218⟩ : ∃ z : Int32, z = (own_f7a ((g (z35 + (1 : Int32))).toUInt32.toUInt16.toUInt32.toInt32) z1 (0 : Int32) z190) := ⟨_, rfl⟩
            rw [← hz218] at B205
            obtain ⟨z219, hz219⟩ : ∃ z : Int32, z = (own_f7l ((g (z35 + (1 : Int32))).toUInt32.toUInt16.toUInt32.toInt32) z1 (0 : Int32) z190 z191) := ⟨_, rfl⟩
            rw [← hz219] at B206
            obtain ⟨z220, hz220⟩ : ∃ z : Int32, z = (own_f7k ((g (z35 + (1 : Int32))).toUInt32.toUInt16.toUInt32.toInt32) z1 (0 : Int32) z190 z192) := ⟨_, rfl⟩
            rw [← hz220] at B207
            refine own_via (fun k => st202.trans k) ?_
            show own_Go p e below s _ _ (T202.setTop (mkF m 169 #[iv p0, iv p1, iv p2, iv p3, iv p4, iv p5, iv z1, rv b3, iv z35, iv z36, rv b37, rv b57, iv z110, iv (z35 + (1 : Int32)), .unset, .unset] []))
            have hP221 : own_rn g z36 ((z35 + (1 : Int32)) + (1 : Int32)) z218 z219 z220 = (own_rn g z36 z35 (0 : Int32) (1 : Int32) (1 : Int32)) := by
              rw [hz218, hz219, hz220]; exact (own_pass1 hc194 hc196 (hgr _)).symm.trans hP193
            refine own_via (fun k => XS.iinc X202.here hx rfl (hb hby at_169) rfl (l' := #[iv p0, iv p1, iv p2, iv p3, iv p4, iv p5, iv z1, rv b3, iv z35, iv z36, rv b37, rv b57, iv z110, iv ((z35 + (1 : Int32)) + (1 : Int32)), .unset, .unset]) rfl (XS.iload X202.here hx rfl (hb hby at_172) rfl  (XS.iload X202.here hx rfl (hb hby at_174) rfl  k))) ?_
            show own_Go p e below s _ _ (T202.setTop (mkF m 176 #[iv p0, iv p1, iv p2, iv p3, iv p4, iv p5, iv z1, rv b3, iv z35, iv z36, rv b37, rv b57, iv z110, iv ((z35 + (1 : Int32)) + (1 : Int32)), .unset, .unset] [(.int z36), (.int ((z35 + (1 : Int32)) + (1 : Int32)))]))
            by_cases hc222 : ((z35 + (1 : Int32)) + (1 : Int32)) < z36
            · refine own_via (fun k => XS.icmpNo X202.here hx rfl (hb hby at_176) rfl (tlt hc222).2.1 k) ?_
              show own_Go p e below s _ _ (T202.setTop (mkF m 179 #[iv p0, iv p1, iv p2, iv p3, iv p4, iv p5, iv z1, rv b3, iv z35, iv z36, rv b37, rv b57, iv z110, iv ((z35 + (1 : Int32)) + (1 : Int32)), .unset, .unset] []))
              refine own_via (fun k => XS.aload X202.here hx rfl (hb hby at_179) rfl rfl  (XS.iload X202.here hx rfl (hb hby at_181) rfl  k)) ?_
              show own_Go p e below s _ _ (T202.setTop (mkF m 183 #[iv p0, iv p1, iv p2, iv p3, iv p4, iv p5, iv z1, rv b3, iv z35, iv z36, rv b37, rv b57, iv z110, iv ((z35 + (1 : Int32)) + (1 : Int32)), .unset, .unset] [(.int ((z35 + (1 : Int32)) + (1 : Int32))), (.ref b3)]))
              obtain ⟨cl223, Ar223, q223, S223, NN223, H223, G223⟩ := id B209
              have hin223 : ¬ (((z35 + (1 : Int32)) + (1 : Int32)) < 0 ∨ cl223.slots.size ≤ (((z35 + (1 : Int32)) + (1 : Int32))).toNatClampNeg) := inb_of S223 (own_inb hc222 (own_nn hc194 (own_nn hc165 (own_hhp2 p4 z35 hz35))) (own_hhp3 p4 z35 hz35 z36 hz36))
              have hat223 : cl223.slots[(((z35 + (1 : Int32)) + (1 : Int32))).toNatClampNeg]? = some (.int (g ((z35 + (1 : Int32)) + (1 : Int32)))) := H223.at hin223 (hg _ (own_inb hc222 (own_nn hc194 (own_nn hc165 (own_hhp2 p4 z35 hz35))) (own_hhp3 p4 z35 hz35 z36 hz36)))
              refine own_via (fun k => X202.baloadBytes hx (j := ((z35 + (1 : Int32)) + (1 : Int32))) (v := (.int (g ((z35 + (1 : Int32)) + (1 : Int32))))) Ar223.1 (State.isArrayOf_alike hZ.alike Ar223.2.1) Ar223.2.2 hin223 hat223 (g := (mkF m 183 #[iv p0, iv p1, iv p2, iv p3, iv p4, iv p5, iv z1, rv b3, iv z35, iv z36, rv b37, rv b57, iv z110, iv ((z35 + (1 : Int32)) + (1 : Int32)), .unset, .unset] [(.int ((z35 + (1 : Int32)) + (1 : Int32))), (.ref b3)])) rfl rfl (hb hby at_183) _ k) ?_
              show own_Go p e below s _ _ (T202.setTop (mkF m 184 #[iv p0, iv p1, iv p2, iv p3, iv p4, iv p5, iv z1, rv b3, iv z35, iv z36, rv b37, rv b57, iv z110, iv ((z35 + (1 : Int32)) + (1 : Int32)), .unset, .unset] [(.int (g ((z35 + (1 : Int32)) + (1 : Int32))))]))
              by_cases hc224 : (g ((z35 + (1 : Int32)) + (1 : Int32))) < (0 : Int32)
              · refine own_via (fun k => XS.ifYes X202.here hx rfl (pc0 := 184) (pc' := 201) rfl (hb hby at_184) rfl ((if0 _ _).trans (tlt hc224).1) (by decide) (by decide) k) ?_
                show own_Go p e below s _ _ (T202.setTop (mkF m 201 #[iv p0, iv p1, iv p2, iv p3, iv p4, iv p5, iv z1, rv b3, iv z35, iv z36, rv b37, rv b57, iv z110, iv ((z35 + (1 : Int32)) + (1 : Int32)), .unset, .unset] []))
                refine own_via (fun k => XS.iload X202.here hx rfl (hb hby at_201) rfl  (XS.iload X202.here hx rfl (hb hby at_203) rfl  k)) ?_
                show own_Go p e below s _ _ (T202.setTop (mkF m 205 #[iv p0, iv p1, iv p2, iv p3, iv p4, iv p5, iv z1, rv b3, iv z35, iv z36, rv b37, rv b57, iv z110, iv ((z35 + (1 : Int32)) + (1 : Int32)), .unset, .unset] [(.int z36), (.int ((z35 + (1 : Int32)) + (1 : Int32)))]))
                refine own_via (fun k => XS.icmpNo X202.here hx rfl (hb hby at_205) rfl (tlt hc222).2.1 k) ?_
                show own_Go p e below s _ _ (T202.setTop (mkF m 208 #[iv p0, iv p1, iv p2, iv p3, iv p4, iv p5, iv z1, rv b3, iv z35, iv z36, rv b37, rv b57, iv z110, iv ((z35 + (1 : Int32)) + (1 : Int32)), .unset, .unset] []))
                refine own_via (fun k => XS.aload X202.here hx rfl (hb hby at_208) rfl rfl  (XS.iload X202.here hx rfl (hb hby at_210) rfl  k)) ?_
                show own_Go p e below s _ _ (T202.setTop (mkF m 212 #[iv p0, iv p1, iv p2, iv p3, iv p4, iv p5, iv z1, rv b3, iv z35, iv z36, rv b37, rv b57, iv z110, iv ((z35 + (1 : Int32)) + (1 : Int32)), .unset, .unset] [(.int ((z35 + (1 : Int32)) + (1 : Int32))), (.ref b3)]))
                obtain ⟨cl225, Ar225, q225, S225, NN225, H225, G225⟩ := id B209
                have hin225 : ¬ (((z35 + (1 : Int32)) + (1 : Int32)) < 0 ∨ cl225.slots.size ≤ (((z35 + (1 : Int32)) + (1 : Int32))).toNatClampNeg) := inb_of S225 (own_inb hc222 (own_nn hc194 (own_nn hc165 (own_hhp2 p4 z35 hz35))) (own_hhp3 p4 z35 hz35 z36 hz36))
                have hat225 : cl225.slots[(((z35 + (1 : Int32)) + (1 : Int32))).toNatClampNeg]? = some (.int (g ((z35 + (1 : Int32)) + (1 : Int32)))) := H225.at hin225 (hg _ (own_inb hc222 (own_nn hc194 (own_nn hc165 (own_hhp2 p4 z35 hz35))) (own_hhp3 p4 z35 hz35 z36 hz36)))
                refine own_via (fun k => X202.baloadBytes hx (j := ((z35 + (1 : Int32)) + (1 : Int32))) (v := (.int (g ((z35 + (1 : Int32)) + (1 : Int32))))) Ar225.1 (State.isArrayOf_alike hZ.alike Ar225.2.1) Ar225.2.2 hin225 hat225 (g := (mkF m 212 #[iv p0, iv p1, iv p2, iv p3, iv p4, iv p5, iv z1, rv b3, iv z35, iv z36, rv b37, rv b57, iv z110, iv ((z35 + (1 : Int32)) + (1 : Int32)), .unset, .unset] [(.int ((z35 + (1 : Int32)) + (1 : Int32))), (.ref b3)])) rfl rfl (hb hby at_212) _ k) ?_
                show own_Go p e below s _ _ (T202.setTop (mkF m 213 #[iv p0, iv p1, iv p2, iv p3, iv p4, iv p5, iv z1, rv b3, iv z35, iv z36, rv b37, rv b57, iv z110, iv ((z35 + (1 : Int32)) + (1 : Int32)), .unset, .unset] [(.int (g ((z35 + (1 : Int32)) + (1 : Int32))))]))
                refine own_via (fun k => XS.ifYes X202.here hx rfl (pc0 := 213) (pc' := 230) rfl (hb hby at_213) rfl ((if0 _ _).trans (tlt hc224).1) (by decide) (by decide) k) ?_
                show own_Go p e below s _ _ (T202.setTop (mkF m 230 #[iv p0, iv p1, iv p2, iv p3, iv p4, iv p5, iv z1, rv b3, iv z35, iv z36, rv b37, rv b57, iv z110, iv ((z35 + (1 : Int32)) + (1 : Int32)), .unset, .unset] []))
                have hE226 : (z218, z219, z220, ((z35 + (1 : Int32)) + (1 : Int32))) = (own_rn g z36 z35 (0 : Int32) (1 : Int32) (1 : Int32)) := (own_rn_neg hc222 hc224).symm.trans hP221
                have hN227 : ((z35 + (1 : Int32)) + (1 : Int32)) = z110 := (congrArg (fun q => q.2.2.2) hE226).trans hz110.symm
                exact CUT T202 _ _ ((z35 + (1 : Int32)) + (1 : Int32)) hN227 X202 N208 rfl Z217 B210 B211 B203 (own_fldI ((by rw [hz106]; exact (if_neg fun q => own_far2 hc165 hc194 ((congrArg (fun q => q.2.2.2) hE226).trans q)).symm)) B204) (own_fldI ((congrArg (fun q => q.1) hE226).trans hz107.symm) B205) (own_fldI ((congrArg (fun q => q.2.1) hE226).trans hz108.symm) B206) (own_fldI ((congrArg (fun q => q.2.2.1) hE226).trans hz109.symm) B207) B212 B213 B214 B215 B216
              · refine own_via (fun k => XS.ifNo X202.here hx rfl (hb hby at_184) rfl ((if0 _ _).trans (flt hc224).1) k) ?_
                show own_Go p e below s _ _ (T202.setTop (mkF m 187 #[iv p0, iv p1, iv p2, iv p3, iv p4, iv p5, iv z1, rv b3, iv z35, iv z36, rv b37, rv b57, iv z110, iv ((z35 + (1 : Int32)) + (1 : Int32)), .unset, .unset] []))
                refine own_via (fun k => XS.aload X202.here hx rfl (hb hby at_187) rfl rfl  (XS.aload X202.here hx rfl (hb hby at_189) rfl rfl  (XS.iload X202.here hx rfl (hb hby at_191) rfl  k))) ?_
                show own_Go p e below s _ _ (T202.setTop (mkF m 193 #[iv p0, iv p1, iv p2, iv p3, iv p4, iv p5, iv z1, rv b3, iv z35, iv z36, rv b37, rv b57, iv z110, iv ((z35 + (1 : Int32)) + (1 : Int32)), .unset, .unset] [(.int ((z35 + (1 : Int32)) + (1 : Int32))), (.ref b3), (.ref b57)]))
                obtain ⟨cl228, Ar228, q228, S228, NN228, H228, G228⟩ := id B209
                have hin228 : ¬ (((z35 + (1 : Int32)) + (1 : Int32)) < 0 ∨ cl228.slots.size ≤ (((z35 + (1 : Int32)) + (1 : Int32))).toNatClampNeg) := inb_of S228 (own_inb hc222 (own_nn hc194 (own_nn hc165 (own_hhp2 p4 z35 hz35))) (own_hhp3 p4 z35 hz35 z36 hz36))
                have hat228 : cl228.slots[(((z35 + (1 : Int32)) + (1 : Int32))).toNatClampNeg]? = some (.int (g ((z35 + (1 : Int32)) + (1 : Int32)))) := H228.at hin228 (hg _ (own_inb hc222 (own_nn hc194 (own_nn hc165 (own_hhp2 p4 z35 hz35))) (own_hhp3 p4 z35 hz35 z36 hz36)))
                refine own_via (fun k => X202.baloadBytes hx (j := ((z35 + (1 : Int32)) + (1 : Int32))) (v := (.int (g ((z35 + (1 : Int32)) + (1 : Int32))))) Ar228.1 (State.isArrayOf_alike hZ.alike Ar228.2.1) Ar228.2.2 hin228 hat228 (g := (mkF m 193 #[iv p0, iv p1, iv p2, iv p3, iv p4, iv p5, iv z1, rv b3, iv z35, iv z36, rv b37, rv b57, iv z110, iv ((z35 + (1 : Int32)) + (1 : Int32)), .unset, .unset] [(.int ((z35 + (1 : Int32)) + (1 : Int32))), (.ref b3), (.ref b57)])) rfl rfl (hb hby at_193) _ k) ?_
                show own_Go p e below s _ _ (T202.setTop (mkF m 194 #[iv p0, iv p1, iv p2, iv p3, iv p4, iv p5, iv z1, rv b3, iv z35, iv z36, rv b37, rv b57, iv z110, iv ((z35 + (1 : Int32)) + (1 : Int32)), .unset, .unset] [(.int (g ((z35 + (1 : Int32)) + (1 : Int32)))), (.ref b57)]))
                refine own_via (fun k => XS.i2c X202.here hx rfl (hb hby at_194) rfl k) ?_
                show own_Go p e below s _ _ (T202.setTop (mkF m 195 #[iv p0, iv p1, iv p2, iv p3, iv p4, iv p5, iv z1, rv b3, iv z35, iv z36, rv b37, rv b57, iv z110, iv ((z35 + (1 : Int32)) + (1 : Int32)), .unset, .unset] [(.int ((g ((z35 + (1 : Int32)) + (1 : Int32))).toUInt32.toUInt16.toUInt32.toInt32)), (.ref b57)]))
                obtain ⟨cq229, kq229, q229a, q229b, q229c⟩ := isOf hZ rfl B211
                obtain ⟨_, _, ⟨T229, L229, k229, n229⟩, -, X229, ⟨Lc229, hQ229, l229, y229, z229⟩, st229⟩ := X202.virtualBack hx (y := (⟨"com/example/tree_to_rows/treetorows/xml/DocumentPlace", "pass", "(C)V"⟩ : MethodName)) (z := (⟨"com/example/tree_to_rows/treetorows/xml/DocumentPlace", "pass", "(C)V"⟩ : MethodName)) hown (mvT hZ (hw _ (List.mem_of_getElem? (i := 39) rfl))) (mvT hZ (hw _ (List.mem_of_getElem? (i := 40) rfl))) (notFace_of_selects (args := #[]) (mvT hZ (hw _ (List.mem_of_getElem? (i := 42) rfl)))) (mvT hZ (hw _ (List.mem_of_getElem? (i := 42) rfl))) (mvT hZ (hw _ (List.mem_of_getElem? (i := 41) rfl))) (by decide) (backOf (W := 0) (rm7 l Z aw hw [] b57 ((g ((z35 + (1 : Int32)) + (1 : Int32))).toUInt32.toUInt16.toUInt32.toInt32) z1 (0 : Int32) z218 z219 z220 T202.heap n0 Z217 B203 B204 B205 B206 B207 B211 g58) hZ (hw _ (List.mem_of_getElem? (i := 43) rfl)) (hw _ (List.mem_of_getElem? (i := 7) rfl)) (by decide) (by decide)) q229a q229c (g := (mkF m 195 #[iv p0, iv p1, iv p2, iv p3, iv p4, iv p5, iv z1, rv b3, iv z35, iv z36, rv b37, rv b57, iv z110, iv ((z35 + (1 : Int32)) + (1 : Int32)), .unset, .unset] [(.int ((g ((z35 + (1 : Int32)) + (1 : Int32))).toUInt32.toUInt16.toUInt32.toInt32)), (.ref b57)])) rfl (by rw [hml]; rfl) (Steps.refl _) (argsL := [(.int ((g ((z35 + (1 : Int32)) + (1 : Int32))).toUInt32.toUInt16.toUInt32.toInt32))]) (rest := []) (lenOf pd_5 rfl) rfl (by show 2 * 0 + _ ≤ _; exact Nat.le_of_eq rfl) (hb hby at_195) (fun _ _ => ⟨rfl, rfl, (by decide : 3 + 0 ≤ _), (by decide : 14 + 0 ≤ _)⟩)
                dsimp only [Pt.U, Pt.locs, Pt.cells, Pt.slots] at X229 l229 y229 z229 st229 hQ229
                subst l229 y229 z229
                obtain ⟨rfl, N229q, K229, B230, B231, B232, B233, B234⟩ := hQ229
                have N235 := Fr.app N208 N229q
                have B236 := B209.keep K229 (ninS ne59 nin0)
                have B237 := B210.keep K229
                have B238 := B211.keep K229
                have B239 := B212.keep K229 (ninS ne60 nin0)
                have B240 := B213.keep K229 (ninS ne60 nin0)
                have B241 := B214.keep K229 (ninS ne60 nin0)
                have B242 := B215.keep K229 (ninS ne60 nin0)
                have B243 := B216.keep K229 (ninS ne60 nin0)
                have Z244 : n0 ≤ T229.heap.size := Nat.le_trans Z217 K229.1
                obtain ⟨z245, hz245⟩ : ∃ z : Int32, z = (own_f7a ((g ((z35 + (1 : Int32)) + (1 : Int32))).toUInt32.toUInt16.toUInt32.toInt32) z1 (0 : Int32) z218) := ⟨_, rfl⟩
                rw [← hz245] at B232
                obtain ⟨z246, hz246⟩ : ∃ z : Int32, z = (own_f7l ((g ((z35 + (1 : Int32)) + (1 : Int32))).toUInt32.toUInt16.toUInt32.toInt32) z1 (0 : Int32) z218 z219) := ⟨_, rfl⟩
                rw [← hz246] at B233
                obtain ⟨z247, hz247⟩ : ∃ z : Int32, z = (own_f7k ((g ((z35 + (1 : Int32)) + (1 : Int32))).toUInt32.toUInt16.toUInt32.toInt32) z1 (0 : Int32) z218 z220) := ⟨_, rfl⟩
                rw [← hz247] at B234
                refine own_via (fun k => st229.trans k) ?_
                show own_Go p e below s _ _ (T229.setTop (mkF m 198 #[iv p0, iv p1, iv p2, iv p3, iv p4, iv p5, iv z1, rv b3, iv z35, iv z36, rv b37, rv b57, iv z110, iv ((z35 + (1 : Int32)) + (1 : Int32)), .unset, .unset] []))
                have hP248 : own_rn g z36 (((z35 + (1 : Int32)) + (1 : Int32)) + (1 : Int32)) z245 z246 z247 = (own_rn g z36 z35 (0 : Int32) (1 : Int32) (1 : Int32)) := by
                  rw [hz245, hz246, hz247]; exact (own_pass1 hc222 hc224 (hgr _)).symm.trans hP221
                refine own_via (fun k => XS.iinc X229.here hx rfl (hb hby at_198) rfl (l' := #[iv p0, iv p1, iv p2, iv p3, iv p4, iv p5, iv z1, rv b3, iv z35, iv z36, rv b37, rv b57, iv z110, iv (((z35 + (1 : Int32)) + (1 : Int32)) + (1 : Int32)), .unset, .unset]) rfl (XS.iload X229.here hx rfl (hb hby at_201) rfl  (XS.iload X229.here hx rfl (hb hby at_203) rfl  k))) ?_
                show own_Go p e below s _ _ (T229.setTop (mkF m 205 #[iv p0, iv p1, iv p2, iv p3, iv p4, iv p5, iv z1, rv b3, iv z35, iv z36, rv b37, rv b57, iv z110, iv (((z35 + (1 : Int32)) + (1 : Int32)) + (1 : Int32)), .unset, .unset] [(.int z36), (.int (((z35 + (1 : Int32)) + (1 : Int32)) + (1 : Int32)))]))
                by_cases hc249 : (((z35 + (1 : Int32)) + (1 : Int32)) + (1 : Int32)) < z36
                · refine own_via (fun k => XS.icmpNo X229.here hx rfl (hb hby at_205) rfl (tlt hc249).2.1 k) ?_
                  show own_Go p e below s _ _ (T229.setTop (mkF m 208 #[iv p0, iv p1, iv p2, iv p3, iv p4, iv p5, iv z1, rv b3, iv z35, iv z36, rv b37, rv b57, iv z110, iv (((z35 + (1 : Int32)) + (1 : Int32)) + (1 : Int32)), .unset, .unset] []))
                  refine own_via (fun k => XS.aload X229.here hx rfl (hb hby at_208) rfl rfl  (XS.iload X229.here hx rfl (hb hby at_210) rfl  k)) ?_
                  show own_Go p e below s _ _ (T229.setTop (mkF m 212 #[iv p0, iv p1, iv p2, iv p3, iv p4, iv p5, iv z1, rv b3, iv z35, iv z36, rv b37, rv b57, iv z110, iv (((z35 + (1 : Int32)) + (1 : Int32)) + (1 : Int32)), .unset, .unset] [(.int (((z35 + (1 : Int32)) + (1 : Int32)) + (1 : Int32))), (.ref b3)]))
                  obtain ⟨cl250, Ar250, q250, S250, NN250, H250, G250⟩ := id B236
                  have hin250 : ¬ ((((z35 + (1 : Int32)) + (1 : Int32)) + (1 : Int32)) < 0 ∨ cl250.slots.size ≤ ((((z35 + (1 : Int32)) + (1 : Int32)) + (1 : Int32))).toNatClampNeg) := inb_of S250 (own_inb hc249 (own_nn hc222 (own_nn hc194 (own_nn hc165 (own_hhp2 p4 z35 hz35)))) (own_hhp3 p4 z35 hz35 z36 hz36))
                  have hat250 : cl250.slots[((((z35 + (1 : Int32)) + (1 : Int32)) + (1 : Int32))).toNatClampNeg]? = some (.int (g (((z35 + (1 : Int32)) + (1 : Int32)) + (1 : Int32)))) := H250.at hin250 (hg _ (own_inb hc249 (own_nn hc222 (own_nn hc194 (own_nn hc165 (own_hhp2 p4 z35 hz35)))) (own_hhp3 p4 z35 hz35 z36 hz36)))
                  refine own_via (fun k => X229.baloadBytes hx (j := (((z35 + (1 : Int32)) + (1 : Int32)) + (1 : Int32))) (v := (.int (g (((z35 + (1 : Int32)) + (1 : Int32)) + (1 : Int32))))) Ar250.1 (State.isArrayOf_alike hZ.alike Ar250.2.1) Ar250.2.2 hin250 hat250 (g := (mkF m 212 #[iv p0, iv p1, iv p2, iv p3, iv p4, iv p5, iv z1, rv b3, iv z35, iv z36, rv b37, rv b57, iv z110, iv (((z35 + (1 : Int32)) + (1 : Int32)) + (1 : Int32)), .unset, .unset] [(.int (((z35 + (1 : Int32)) + (1 : Int32)) + (1 : Int32))), (.ref b3)])) rfl rfl (hb hby at_212) _ k) ?_
                  show own_Go p e below s _ _ (T229.setTop (mkF m 213 #[iv p0, iv p1, iv p2, iv p3, iv p4, iv p5, iv z1, rv b3, iv z35, iv z36, rv b37, rv b57, iv z110, iv (((z35 + (1 : Int32)) + (1 : Int32)) + (1 : Int32)), .unset, .unset] [(.int (g (((z35 + (1 : Int32)) + (1 : Int32)) + (1 : Int32))))]))
                  by_cases hc251 : (g (((z35 + (1 : Int32)) + (1 : Int32)) + (1 : Int32))) < (0 : Int32)
                  · refine own_via (fun k => XS.ifYes X229.here hx rfl (pc0 := 213) (pc' := 230) rfl (hb hby at_213) rfl ((if0 _ _).trans (tlt hc251).1) (by decide) (by decide) k) ?_
                    show own_Go p e below s _ _ (T229.setTop (mkF m 230 #[iv p0, iv p1, iv p2, iv p3, iv p4, iv p5, iv z1, rv b3, iv z35, iv z36, rv b37, rv b57, iv z110, iv (((z35 + (1 : Int32)) + (1 : Int32)) + (1 : Int32)), .unset, .unset] []))
                    have hE252 : (z245, z246, z247, (((z35 + (1 : Int32)) + (1 : Int32)) + (1 : Int32))) = (own_rn g z36 z35 (0 : Int32) (1 : Int32) (1 : Int32)) := (own_rn_neg hc249 hc251).symm.trans hP248
                    have hN253 : (((z35 + (1 : Int32)) + (1 : Int32)) + (1 : Int32)) = z110 := (congrArg (fun q => q.2.2.2) hE252).trans hz110.symm
                    exact CUT T229 _ _ (((z35 + (1 : Int32)) + (1 : Int32)) + (1 : Int32)) hN253 X229 N235 rfl Z244 B237 B238 B230 (own_fldI ((by rw [hz106]; exact (if_neg fun q => own_far3 hc165 hc194 hc222 ((congrArg (fun q => q.2.2.2) hE252).trans q)).symm)) B231) (own_fldI ((congrArg (fun q => q.1) hE252).trans hz107.symm) B232) (own_fldI ((congrArg (fun q => q.2.1) hE252).trans hz108.symm) B233) (own_fldI ((congrArg (fun q => q.2.2.1) hE252).trans hz109.symm) B234) B239 B240 B241 B242 B243
                  · refine own_via (fun k => XS.ifNo X229.here hx rfl (hb hby at_213) rfl ((if0 _ _).trans (flt hc251).1) k) ?_
                    show own_Go p e below s _ _ (T229.setTop (mkF m 216 #[iv p0, iv p1, iv p2, iv p3, iv p4, iv p5, iv z1, rv b3, iv z35, iv z36, rv b37, rv b57, iv z110, iv (((z35 + (1 : Int32)) + (1 : Int32)) + (1 : Int32)), .unset, .unset] []))
                    refine own_via (fun k => XS.aload X229.here hx rfl (hb hby at_216) rfl rfl  (XS.aload X229.here hx rfl (hb hby at_218) rfl rfl  (XS.iload X229.here hx rfl (hb hby at_220) rfl  k))) ?_
                    show own_Go p e below s _ _ (T229.setTop (mkF m 222 #[iv p0, iv p1, iv p2, iv p3, iv p4, iv p5, iv z1, rv b3, iv z35, iv z36, rv b37, rv b57, iv z110, iv (((z35 + (1 : Int32)) + (1 : Int32)) + (1 : Int32)), .unset, .unset] [(.int (((z35 + (1 : Int32)) + (1 : Int32)) + (1 : Int32))), (.ref b3), (.ref b57)]))
                    obtain ⟨cl254, Ar254, q254, S254, NN254, H254, G254⟩ := id B236
                    have hin254 : ¬ ((((z35 + (1 : Int32)) + (1 : Int32)) + (1 : Int32)) < 0 ∨ cl254.slots.size ≤ ((((z35 + (1 : Int32)) + (1 : Int32)) + (1 : Int32))).toNatClampNeg) := inb_of S254 (own_inb hc249 (own_nn hc222 (own_nn hc194 (own_nn hc165 (own_hhp2 p4 z35 hz35)))) (own_hhp3 p4 z35 hz35 z36 hz36))
                    have hat254 : cl254.slots[((((z35 + (1 : Int32)) + (1 : Int32)) + (1 : Int32))).toNatClampNeg]? = some (.int (g (((z35 + (1 : Int32)) + (1 : Int32)) + (1 : Int32)))) := H254.at hin254 (hg _ (own_inb hc249 (own_nn hc222 (own_nn hc194 (own_nn hc165 (own_hhp2 p4 z35 hz35)))) (own_hhp3 p4 z35 hz35 z36 hz36)))
                    refine own_via (fun k => X229.baloadBytes hx (j := (((z35 + (1 : Int32)) + (1 : Int32)) + (1 : Int32))) (v := (.int (g (((z35 + (1 : Int32)) + (1 : Int32)) + (1 : Int32))))) Ar254.1 (State.isArrayOf_alike hZ.alike Ar254.2.1) Ar254.2.2 hin254 hat254 (g := (mkF m 222 #[iv p0, iv p1, iv p2, iv p3, iv p4, iv p5, iv z1, rv b3, iv z35, iv z36, rv b37, rv b57, iv z110, iv (((z35 + (1 : Int32)) + (1 : Int32)) + (1 : Int32)), .unset, .unset] [(.int (((z35 + (1 : Int32)) + (1 : Int32)) + (1 : Int32))), (.ref b3), (.ref b57)])) rfl rfl (hb hby at_222) _ k) ?_
                    show own_Go p e below s _ _ (T229.setTop (mkF m 223 #[iv p0, iv p1, iv p2, iv p3, iv p4, iv p5, iv z1, rv b3, iv z35, iv z36, rv b37, rv b57, iv z110, iv (((z35 + (1 : Int32)) + (1 : Int32)) + (1 : Int32)), .unset, .unset] [(.int (g (((z35 + (1 : Int32)) + (1 : Int32)) + (1 : Int32)))), (.ref b57)]))
                    refine own_via (fun k => XS.i2c X229.here hx rfl (hb hby at_223) rfl k) ?_
                    show own_Go p e below s _ _ (T229.setTop (mkF m 224 #[iv p0, iv p1, iv p2, iv p3, iv p4, iv p5, iv z1, rv b3, iv z35, iv z36, rv b37, rv b57, iv z110, iv (((z35 + (1 : Int32)) + (1 : Int32)) + (1 : Int32)), .unset, .unset] [(.int ((g (((z35 + (1 : Int32)) + (1 : Int32)) + (1 : Int32))).toUInt32.toUInt16.toUInt32.toInt32)), (.ref b57)]))
                    obtain ⟨cq255, kq255, q255a, q255b, q255c⟩ := isOf hZ rfl B238
                    obtain ⟨_, _, ⟨T255, L255, k255, n255⟩, -, X255, ⟨Lc255, hQ255, l255, y255, z255⟩, st255⟩ := X229.virtualBack hx (y := (⟨"com/example/tree_to_rows/treetorows/xml/DocumentPlace", "pass", "(C)V"⟩ : MethodName)) (z := (⟨"com/example/tree_to_rows/treetorows/xml/DocumentPlace", "pass", "(C)V"⟩ : MethodName)) hown (mvT hZ (hw _ (List.mem_of_getElem? (i := 39) rfl))) (mvT hZ (hw _ (List.mem_of_getElem? (i := 40) rfl))) (notFace_of_selects (args := #[]) (mvT hZ (hw _ (List.mem_of_getElem? (i := 42) rfl)))) (mvT hZ (hw _ (List.mem_of_getElem? (i := 42) rfl))) (mvT hZ (hw _ (List.mem_of_getElem? (i := 41) rfl))) (by decide) (backOf (W := 0) (rm7 l Z aw hw [] b57 ((g (((z35 + (1 : Int32)) + (1 : Int32)) + (1 : Int32))).toUInt32.toUInt16.toUInt32.toInt32) z1 (0 : Int32) z245 z246 z247 T229.heap n0 Z244 B230 B231 B232 B233 B234 B238 g58) hZ (hw _ (List.mem_of_getElem? (i := 43) rfl)) (hw _ (List.mem_of_getElem? (i := 7) rfl)) (by decide) (by decide)) q255a q255c (g := (mkF m 224 #[iv p0, iv p1, iv p2, iv p3, iv p4, iv p5, iv z1, rv b3, iv z35, iv z36, rv b37, rv b57, iv z110, iv (((z35 + (1 : Int32)) + (1 : Int32)) + (1 : Int32)), .unset, .unset] [(.int ((g (((z35 + (1 : Int32)) + (1 : Int32)) + (1 : Int32))).toUInt32.toUInt16.toUInt32.toInt32)), (.ref b57)])) rfl (by rw [hml]; rfl) (Steps.refl _) (argsL := [(.int ((g (((z35 + (1 : Int32)) + (1 : Int32)) + (1 : Int32))).toUInt32.toUInt16.toUInt32.toInt32))]) (rest := []) (lenOf pd_5 rfl) rfl (by show 2 * 0 + _ ≤ _; exact Nat.le_of_eq rfl) (hb hby at_224) (fun _ _ => ⟨rfl, rfl, (by decide : 3 + 0 ≤ _), (by decide : 14 + 0 ≤ _)⟩)
                    dsimp only [Pt.U, Pt.locs, Pt.cells, Pt.slots] at X255 l255 y255 z255 st255 hQ255
                    subst l255 y255 z255
                    obtain ⟨rfl, N255q, K255, B256, B257, B258, B259, B260⟩ := hQ255
                    have N261 := Fr.app N235 N255q
                    have B262 := B236.keep K255 (ninS ne59 nin0)
                    have B263 := B237.keep K255
                    have B264 := B238.keep K255
                    have B265 := B239.keep K255 (ninS ne60 nin0)
                    have B266 := B240.keep K255 (ninS ne60 nin0)
                    have B267 := B241.keep K255 (ninS ne60 nin0)
                    have B268 := B242.keep K255 (ninS ne60 nin0)
                    have B269 := B243.keep K255 (ninS ne60 nin0)
                    have Z270 : n0 ≤ T255.heap.size := Nat.le_trans Z244 K255.1
                    obtain ⟨z271, hz271⟩ : ∃ z : Int32, z = (own_f7a ((g (((z35 + (1 : Int32)) + (1 : Int32)) + (1 : Int32))).toUInt32.toUInt16.toUInt32.toInt32) z1 (0 : Int32) z245) := ⟨_, rfl⟩
                    rw [← hz271] at B258
                    obtain ⟨z272, hz272⟩ : ∃ z : Int32, z = (own_f7l ((g (((z35 + (1 : Int32)) + (1 : Int32)) + (1 : Int32))).toUInt32.toUInt16.toUInt32.toInt32) z1 (0 : Int32) z245 z246) := ⟨_, rfl⟩
                    rw [← hz272] at B259
                    obtain ⟨z273, hz273⟩ : ∃ z : Int32, z = (own_f7k ((g (((z35 + (1 : Int32)) + (1 : Int32)) + (1 : Int32))).toUInt32.toUInt16.toUInt32.toInt32) z1 (0 : Int32) z245 z247) := ⟨_, rfl⟩
                    rw [← hz273] at B260
                    refine own_via (fun k => st255.trans k) ?_
                    show own_Go p e below s _ _ (T255.setTop (mkF m 227 #[iv p0, iv p1, iv p2, iv p3, iv p4, iv p5, iv z1, rv b3, iv z35, iv z36, rv b37, rv b57, iv z110, iv (((z35 + (1 : Int32)) + (1 : Int32)) + (1 : Int32)), .unset, .unset] []))
                    have hP274 : own_rn g z36 ((((z35 + (1 : Int32)) + (1 : Int32)) + (1 : Int32)) + (1 : Int32)) z271 z272 z273 = (own_rn g z36 z35 (0 : Int32) (1 : Int32) (1 : Int32)) := by
                      rw [hz271, hz272, hz273]; exact (own_pass1 hc249 hc251 (hgr _)).symm.trans hP248
                    refine own_via (fun k => XS.iinc X255.here hx rfl (hb hby at_227) rfl (l' := #[iv p0, iv p1, iv p2, iv p3, iv p4, iv p5, iv z1, rv b3, iv z35, iv z36, rv b37, rv b57, iv z110, iv ((((z35 + (1 : Int32)) + (1 : Int32)) + (1 : Int32)) + (1 : Int32)), .unset, .unset]) rfl k) ?_
                    show own_Go p e below s _ _ (T255.setTop (mkF m 230 #[iv p0, iv p1, iv p2, iv p3, iv p4, iv p5, iv z1, rv b3, iv z35, iv z36, rv b37, rv b57, iv z110, iv ((((z35 + (1 : Int32)) + (1 : Int32)) + (1 : Int32)) + (1 : Int32)), .unset, .unset] []))
                    have hE275 : (z271, z272, z273, ((((z35 + (1 : Int32)) + (1 : Int32)) + (1 : Int32)) + (1 : Int32))) = (own_rn g z36 z35 (0 : Int32) (1 : Int32) (1 : Int32)) := (own_rn_end (own_end4 hc165 hc194 hc222 hc249 (own_hhp2 p4 z35 hz35) (own_hhp3 p4 z35 hz35 z36 hz36))).symm.trans hP274
                    have hN276 : ((((z35 + (1 : Int32)) + (1 : Int32)) + (1 : Int32)) + (1 : Int32)) = z110 := (congrArg (fun q => q.2.2.2) hE275).trans hz110.symm
                    exact CUT T255 _ _ ((((z35 + (1 : Int32)) + (1 : Int32)) + (1 : Int32)) + (1 : Int32)) hN276 X255 N261 rfl Z270 B263 B264 B256 (own_fldI ((by rw [hz106]; exact (if_neg fun q => own_far4 hc165 hc194 hc222 hc249 ((congrArg (fun q => q.2.2.2) hE275).trans q)).symm)) B257) (own_fldI ((congrArg (fun q => q.1) hE275).trans hz107.symm) B258) (own_fldI ((congrArg (fun q => q.2.1) hE275).trans hz108.symm) B259) (own_fldI ((congrArg (fun q => q.2.2.1) hE275).trans hz109.symm) B260) B265 B266 B267 B268 B269
                · refine own_via (fun k => XS.icmpYes X229.here hx rfl (pc0 := 205) (pc' := 230) rfl (hb hby at_205) rfl (flt hc249).2.1 (by decide) (by decide) k) ?_
                  show own_Go p e below s _ _ (T229.setTop (mkF m 230 #[iv p0, iv p1, iv p2, iv p3, iv p4, iv p5, iv z1, rv b3, iv z35, iv z36, rv b37, rv b57, iv z110, iv (((z35 + (1 : Int32)) + (1 : Int32)) + (1 : Int32)), .unset, .unset] []))
                  have hE277 : (z245, z246, z247, (((z35 + (1 : Int32)) + (1 : Int32)) + (1 : Int32))) = (own_rn g z36 z35 (0 : Int32) (1 : Int32) (1 : Int32)) := (own_rn_end hc249).symm.trans hP248
                  have hN278 : (((z35 + (1 : Int32)) + (1 : Int32)) + (1 : Int32)) = z110 := (congrArg (fun q => q.2.2.2) hE277).trans hz110.symm
                  exact CUT T229 _ _ (((z35 + (1 : Int32)) + (1 : Int32)) + (1 : Int32)) hN278 X229 N235 rfl Z244 B237 B238 B230 (own_fldI ((by rw [hz106]; exact (if_neg fun q => own_far3 hc165 hc194 hc222 ((congrArg (fun q => q.2.2.2) hE277).trans q)).symm)) B231) (own_fldI ((congrArg (fun q => q.1) hE277).trans hz107.symm) B232) (own_fldI ((congrArg (fun q => q.2.1) hE277).trans hz108.symm) B233) (own_fldI ((congrArg (fun q => q.2.2.1) hE277).trans hz109.symm) B234) B239 B240 B241 B242 B243
            · refine own_via (fun k => XS.icmpYes X202.here hx rfl (pc0 := 176) (pc' := 201) rfl (hb hby at_176) rfl (flt hc222).2.1 (by decide) (by decide) k) ?_
              show own_Go p e below s _ _ (T202.setTop (mkF m 201 #[iv p0, iv p1, iv p2, iv p3, iv p4, iv p5, iv z1, rv b3, iv z35, iv z36, rv b37, rv b57, iv z110, iv ((z35 + (1 : Int32)) + (1 : Int32)), .unset, .unset] []))
              refine own_via (fun k => XS.iload X202.here hx rfl (hb hby at_201) rfl  (XS.iload X202.here hx rfl (hb hby at_203) rfl  k)) ?_
              show own_Go p e below s _ _ (T202.setTop (mkF m 205 #[iv p0, iv p1, iv p2, iv p3, iv p4, iv p5, iv z1, rv b3, iv z35, iv z36, rv b37, rv b57, iv z110, iv ((z35 + (1 : Int32)) + (1 : Int32)), .unset, .unset] [(.int z36), (.int ((z35 + (1 : Int32)) + (1 : Int32)))]))
              refine own_via (fun k => XS.icmpYes X202.here hx rfl (pc0 := 205) (pc' := 230) rfl (hb hby at_205) rfl (flt hc222).2.1 (by decide) (by decide) k) ?_
              show own_Go p e below s _ _ (T202.setTop (mkF m 230 #[iv p0, iv p1, iv p2, iv p3, iv p4, iv p5, iv z1, rv b3, iv z35, iv z36, rv b37, rv b57, iv z110, iv ((z35 + (1 : Int32)) + (1 : Int32)), .unset, .unset] []))
              have hE279 : (z218, z219, z220, ((z35 + (1 : Int32)) + (1 : Int32))) = (own_rn g z36 z35 (0 : Int32) (1 : Int32) (1 : Int32)) := (own_rn_end hc222).symm.trans hP221
              have hN280 : ((z35 + (1 : Int32)) + (1 : Int32)) = z110 := (congrArg (fun q => q.2.2.2) hE279).trans hz110.symm
              exact CUT T202 _ _ ((z35 + (1 : Int32)) + (1 : Int32)) hN280 X202 N208 rfl Z217 B210 B211 B203 (own_fldI ((by rw [hz106]; exact (if_neg fun q => own_far2 hc165 hc194 ((congrArg (fun q => q.2.2.2) hE279).trans q)).symm)) B204) (own_fldI ((congrArg (fun q => q.1) hE279).trans hz107.symm) B205) (own_fldI ((congrArg (fun q => q.2.1) hE279).trans hz108.symm) B206) (own_fldI ((congrArg (fun q => q.2.2.1) hE279).trans hz109.symm) B207) B212 B213 B214 B215 B216
        · refine own_via (fun k => XS.icmpYes X174.here hx rfl (pc0 := 147) (pc' := 172) rfl (hb hby at_147) rfl (flt hc194).2.1 (by decide) (by decide) k) ?_
          show own_Go p e below s _ _ (T174.setTop (mkF m 172 #[iv p0, iv p1, iv p2, iv p3, iv p4, iv p5, iv z1, rv b3, iv z35, iv z36, rv b37, rv b57, iv z110, iv (z35 + (1 : Int32)), .unset, .unset] []))
          refine own_via (fun k => XS.iload X174.here hx rfl (hb hby at_172) rfl  (XS.iload X174.here hx rfl (hb hby at_174) rfl  k)) ?_
          show own_Go p e below s _ _ (T174.setTop (mkF m 176 #[iv p0, iv p1, iv p2, iv p3, iv p4, iv p5, iv z1, rv b3, iv z35, iv z36, rv b37, rv b57, iv z110, iv (z35 + (1 : Int32)), .unset, .unset] [(.int z36), (.int (z35 + (1 : Int32)))]))
          refine own_via (fun k => XS.icmpYes X174.here hx rfl (pc0 := 176) (pc' := 201) rfl (hb hby at_176) rfl (flt hc194).2.1 (by decide) (by decide) k) ?_
          show own_Go p e below s _ _ (T174.setTop (mkF m 201 #[iv p0, iv p1, iv p2, iv p3, iv p4, iv p5, iv z1, rv b3, iv z35, iv z36, rv b37, rv b57, iv z110, iv (z35 + (1 : Int32)), .unset, .unset] []))
          refine own_via (fun k => XS.iload X174.here hx rfl (hb hby at_201) rfl  (XS.iload X174.here hx rfl (hb hby at_203) rfl  k)) ?_
          show own_Go p e below s _ _ (T174.setTop (mkF m 205 #[iv p0, iv p1, iv p2, iv p3, iv p4, iv p5, iv z1, rv b3, iv z35, iv z36, rv b37, rv b57, iv z110, iv (z35 + (1 : Int32)), .unset, .unset] [(.int z36), (.int (z35 + (1 : Int32)))]))
          refine own_via (fun k => XS.icmpYes X174.here hx rfl (pc0 := 205) (pc' := 230) rfl (hb hby at_205) rfl (flt hc194).2.1 (by decide) (by decide) k) ?_
          show own_Go p e below s _ _ (T174.setTop (mkF m 230 #[iv p0, iv p1, iv p2, iv p3, iv p4, iv p5, iv z1, rv b3, iv z35, iv z36, rv b37, rv b57, iv z110, iv (z35 + (1 : Int32)), .unset, .unset] []))
          have hE281 : (z190, z191, z192, (z35 + (1 : Int32))) = (own_rn g z36 z35 (0 : Int32) (1 : Int32) (1 : Int32)) := (own_rn_end hc194).symm.trans hP193
          have hN282 : (z35 + (1 : Int32)) = z110 := (congrArg (fun q => q.2.2.2) hE281).trans hz110.symm
          exact CUT T174 _ _ (z35 + (1 : Int32)) hN282 X174 N180 rfl Z189 B182 B183 B175 (own_fldI ((by rw [hz106]; exact (if_neg fun q => own_far1 hc165 ((congrArg (fun q => q.2.2.2) hE281).trans q)).symm)) B176) (own_fldI ((congrArg (fun q => q.1) hE281).trans hz107.symm) B177) (own_fldI ((congrArg (fun q => q.2.1) hE281).trans hz108.symm) B178) (own_fldI ((congrArg (fun q => q.2.2.1) hE281).trans hz109.symm) B179) B184 B185 B186 B187 B188
    · refine own_via (fun k => XS.icmpYes X90.here hx rfl (pc0 := 118) (pc' := 143) rfl (hb hby at_118) rfl (flt hc165).2.1 (by decide) (by decide) k) ?_
      show own_Go p e below s _ _ (T90.setTop (mkF m 143 #[iv p0, iv p1, iv p2, iv p3, iv p4, iv p5, iv z1, rv b3, iv z35, iv z36, rv b37, rv b57, iv z110, iv z35, .unset, .unset] []))
      refine own_via (fun k => XS.iload X90.here hx rfl (hb hby at_143) rfl  (XS.iload X90.here hx rfl (hb hby at_145) rfl  k)) ?_
      show own_Go p e below s _ _ (T90.setTop (mkF m 147 #[iv p0, iv p1, iv p2, iv p3, iv p4, iv p5, iv z1, rv b3, iv z35, iv z36, rv b37, rv b57, iv z110, iv z35, .unset, .unset] [(.int z36), (.int z35)]))
      refine own_via (fun k => XS.icmpYes X90.here hx rfl (pc0 := 147) (pc' := 172) rfl (hb hby at_147) rfl (flt hc165).2.1 (by decide) (by decide) k) ?_
      show own_Go p e below s _ _ (T90.setTop (mkF m 172 #[iv p0, iv p1, iv p2, iv p3, iv p4, iv p5, iv z1, rv b3, iv z35, iv z36, rv b37, rv b57, iv z110, iv z35, .unset, .unset] []))
      refine own_via (fun k => XS.iload X90.here hx rfl (hb hby at_172) rfl  (XS.iload X90.here hx rfl (hb hby at_174) rfl  k)) ?_
      show own_Go p e below s _ _ (T90.setTop (mkF m 176 #[iv p0, iv p1, iv p2, iv p3, iv p4, iv p5, iv z1, rv b3, iv z35, iv z36, rv b37, rv b57, iv z110, iv z35, .unset, .unset] [(.int z36), (.int z35)]))
      refine own_via (fun k => XS.icmpYes X90.here hx rfl (pc0 := 176) (pc' := 201) rfl (hb hby at_176) rfl (flt hc165).2.1 (by decide) (by decide) k) ?_
      show own_Go p e below s _ _ (T90.setTop (mkF m 201 #[iv p0, iv p1, iv p2, iv p3, iv p4, iv p5, iv z1, rv b3, iv z35, iv z36, rv b37, rv b57, iv z110, iv z35, .unset, .unset] []))
      refine own_via (fun k => XS.iload X90.here hx rfl (hb hby at_201) rfl  (XS.iload X90.here hx rfl (hb hby at_203) rfl  k)) ?_
      show own_Go p e below s _ _ (T90.setTop (mkF m 205 #[iv p0, iv p1, iv p2, iv p3, iv p4, iv p5, iv z1, rv b3, iv z35, iv z36, rv b37, rv b57, iv z110, iv z35, .unset, .unset] [(.int z36), (.int z35)]))
      refine own_via (fun k => XS.icmpYes X90.here hx rfl (pc0 := 205) (pc' := 230) rfl (hb hby at_205) rfl (flt hc165).2.1 (by decide) (by decide) k) ?_
      show own_Go p e below s _ _ (T90.setTop (mkF m 230 #[iv p0, iv p1, iv p2, iv p3, iv p4, iv p5, iv z1, rv b3, iv z35, iv z36, rv b37, rv b57, iv z110, iv z35, .unset, .unset] []))
      have hE283 : ((0 : Int32), (1 : Int32), (1 : Int32), z35) = (own_rn g z36 z35 (0 : Int32) (1 : Int32) (1 : Int32)) := (own_rn_end hc165).symm.trans (rfl : (own_rn g z36 z35 (0 : Int32) (1 : Int32) (1 : Int32)) = (own_rn g z36 z35 (0 : Int32) (1 : Int32) (1 : Int32)))
      have hN284 : z35 = z110 := (congrArg (fun q => q.2.2.2) hE283).trans hz110.symm
      exact CUT T90 _ _ z35 hN284 X90 N96 rfl Z105 B98 B99 B100 (own_fldI ((by rw [hz106]; exact (if_pos (congrArg (fun q => q.2.2.2) hE283).symm).symm)) B101) (own_fldI ((congrArg (fun q => q.1) hE283).trans hz107.symm) B102) (own_fldI ((congrArg (fun q => q.2.1) hE283).trans hz108.symm) B103) (own_fldI ((congrArg (fun q => q.2.2.1) hE283).trans hz109.symm) B104) B91 B92 B93 B94 B95
  by_cases hc285 : (p4 &&& (1 : Int32)) = (0 : Int32)
  · refine own_via (fun k => XS.ifYes X0.here hx rfl (pc0 := 4) (pc' := 11) rfl (hb hby at_4) rfl ((if0 _ _).trans (teq hc285).1) (by decide) (by decide) k) ?_
    show own_Go p e below s _ _ (s₁.setTop (mkF m 11 #[iv p0, iv p1, iv p2, iv p3, iv p4, iv p5, .unset, .unset, .unset, .unset, .unset, .unset, .unset, .unset, .unset, .unset] []))
    refine own_via (fun k => XS.iconst X0.here hx rfl (hb hby at_11) k) ?_
    show own_Go p e below s _ _ (s₁.setTop (mkF m 12 #[iv p0, iv p1, iv p2, iv p3, iv p4, iv p5, .unset, .unset, .unset, .unset, .unset, .unset, .unset, .unset, .unset, .unset] [(.int 0)]))
    exact J2 (0 : Int32) (((if_pos hc285).trans rfl)).symm
  · refine own_via (fun k => XS.ifNo X0.here hx rfl (hb hby at_4) rfl ((if0 _ _).trans (feq hc285).1) k) ?_
    show own_Go p e below s _ _ (s₁.setTop (mkF m 7 #[iv p0, iv p1, iv p2, iv p3, iv p4, iv p5, .unset, .unset, .unset, .unset, .unset, .unset, .unset, .unset, .unset, .unset] []))
    refine own_via (fun k => XS.iconst X0.here hx rfl (hb hby at_7) (XS.goto X0.here hx rfl (pc0 := 8) (pc' := 12) rfl (hb hby at_8) (by decide) (by decide) k)) ?_
    show own_Go p e below s _ _ (s₁.setTop (mkF m 12 #[iv p0, iv p1, iv p2, iv p3, iv p4, iv p5, .unset, .unset, .unset, .unset, .unset, .unset, .unset, .unset, .unset, .unset] [(.int 1)]))
    exact J2 (1 : Int32) (((if_neg hc285).trans rfl)).symm
set_option maxRecDepth 65536 in
set_option maxHeartbeats 40000000 in
theorem comes_1 {Post : Tables → Env → Array Value → State → Outcome → State → Prop} (hpost : ∀ tb e args s v u, (limb_1_1.after args s (.returned v) u = true ∧ limb_1_2.after args s (.returned v) u = true ∧ True) → FrameEnd s (.returned v) u (Jvm.fieldLocs frame_1_writes args s ++ Jvm.arrayLocs frame_1_arrays args s ++ Jvm.staticLocs frame_1_statics s) 16 128 → Post tb e args s (.returned v) u) :
    ArmFor flags0 classFile x code maxLocals ret World_1 tables_1 room_1 Calls_1 rest_1 Pre_1 Post := by
  intro l hfl _ _ p e ha hc hk s m args below hf hA hF happ hP
  obtain ⟨hcalls, hrest, hpre⟩ := hP
  obtain ⟨-, -, -, hnamed, -, -, -, hat⟩ := (Spec.applies_iff hf).mp happ
  obtain ⟨hg, hn⟩ := and_e (Cond.before_iff.mp (show (Jvm.Cond.and given_1 narrow_1).before args s = true from hpre))
  obtain ⟨g1, g2⟩ := and_e hg
  obtain ⟨g3, g4⟩ := and_e g2
  obtain ⟨g5, g6⟩ := and_e g4
  obtain ⟨g7, g8⟩ := and_e g6
  obtain ⟨g9, g10⟩ := and_e g8
  obtain ⟨g11, g12⟩ := and_e g10
  obtain ⟨w0, w1, w2, w3, w4, w5, rfl⟩ : ∃ w0 w1 w2 w3 w4 w5 : Value, args = #[w0, w1, w2, w3, w4, w5] := by
    have hs : args.size = 6 := by simpa [Cond.value, given_1] using g1
    obtain ⟨L⟩ := args
    match L, hs with
    | [w0, w1, w2, w3, w4, w5], _ => exact ⟨w0, w1, w2, w3, w4, w5, rfl⟩
  have hw := fun d (hd : d ∈ tables_1) => atoms_spec (ws := Jvm.Cond.code x code maxLocals ret :: tables_1) hat d (List.mem_cons_of_mem _ hd)
  obtain ⟨i0, ei0⟩ := is_v g3
  obtain rfl : w0 = (.int i0) := Option.some.inj ei0
  obtain ⟨i1, ei1⟩ := is_v g5
  obtain rfl : w1 = (.int i1) := Option.some.inj ei1
  obtain ⟨i2, ei2⟩ := is_v g7
  obtain rfl : w2 = (.int i2) := Option.some.inj ei2
  obtain ⟨i3, ei3⟩ := is_v g9
  obtain rfl : w3 = (.int i3) := Option.some.inj ei3
  obtain ⟨i4, ei4⟩ := is_v g11
  obtain rfl : w4 = (.int i4) := Option.some.inj ei4
  obtain ⟨i5, ei5⟩ := is_v g12
  obtain rfl : w5 = (.int i5) := Option.some.inj ei5
  obtain ⟨n, o, h1, h2, h3, _, L, rfl, ⟨rfl, N⟩, hq⟩ := rm0 l s _ hw tables_1 i0 i1 i2 i3 i4 i5 s.heap s.heap.size (Nat.le_refl _) p e ha hc hk s m _ below hf ((Spec.applies_iff_loose hf).mp happ).1 ⟨rfl, State.Warmed39.refl s, rfl⟩ trivial
  refine ⟨n, _, h1, h2, h3, hpost _ _ _ _ _ _ ⟨Cond.after_iff.mpr rfl, Cond.after_iff.mpr (eq_i res_at (Term.int_eval (1)) rfl), trivial⟩ ⟨hq.1, hq.2.1, (hq.2.2.sift fun y hy => Or.inr (N y hy)).mono (by decide) (by decide)⟩⟩
theorem main_1_1 : Claimed_1_1 := comes_1 fun _ _ _ _ _ _ h hF => ⟨h.1, hF⟩
theorem main_1_2 : Claimed_1_2 := comes_1 fun _ _ _ _ _ _ h hF => ⟨h.2.1, hF⟩
end Jvm.Pilot.@@N@@
namespace Jvm.Pilot.@@N@@
open Jvm Jvm.ClassFile Sem Op Lib Jvm.Free Jvm.Stand Jvm.Pilot.@@N@@.Jvm.D
/-! MADE BY PROGRAM (witnessworld.py) out of the Statement's table words and the real class files: 9 classes; the members and pool entries that the words name. The judged class is class 1, her method 2. -/
namespace start1
open Jvm.ClassFile
def u (s : String) : CpInfo := .utf8 (stringToUtf16 s)
/-- a pool by its gaps: so many unusable entries, then the entry; so many at the end -/
def gap : Nat → List CpInfo → List CpInfo
  | 0, r => r
  | n + 1, r => .unusable :: gap n r
def poolList (es : List (Nat × CpInfo)) (last : Nat) : List CpInfo := es.foldr (fun e r => gap e.1 (e.2 :: r)) (gap last [])
def pool (es : List (Nat × CpInfo)) (last : Nat) : Array CpInfo := ⟨poolList es last⟩
def fileOf (pool : Array CpInfo) (this : Nat) (attrs : Array Attribute := #[]) (ms : Array MethodInfo := #[]) (fl : Nat := 33) (sup : Nat := 0) (ifs : Array Nat := #[]) (fds : Array FieldInfo := #[]) : ClassFile where
  minorVersion := 0
  majorVersion := 65
  constantPool := pool
  accessFlags := fl
  thisClass := this
  superClass := sup
  interfaces := ifs
  fields := fds
  methods := ms
  attributes := attrs
def plain (name : String) (sup : Option ClassId) : Class where
  name := name
  kind := .ordinary
  loader := none
  accessFlags := 33
  super := sup
  interfaces := #[]
  cf := none
  fields := #[]
  methods := #[]
  instanceTypes := #[]
  staticTypes := #[]
  resolved := #[]
  callSites := []
  init := .initialized
  statics := none
  mirror := none

def pool0 : Array CpInfo := pool [(5, u "<init>"), (0, u "()V"), (1, .class_ 10), (1, u "java/lang/Object")] 113

def k0c0 : Code := { maxStack := 0, maxLocals := 1, code := object_method_1_code, exceptionTable := #[], attributes := #[] }
def k0m0 : Method := { name := "<init>", desc := "()V", sig := { parameters := [], returnType := none }, accessFlags := 1, code := some k0c0 }
/-- java/lang/Object -/
def k0 : Class := { plain "java/lang/Object" none with
  accessFlags := 33
  interfaces := #[]
  cf := some (fileOf pool0 8 #[] #[{ accessFlags := 1, nameIndex := 5, descriptorIndex := 6, attributes := #[] }] 33 0 #[] #[])
  fields := #[]
  methods := #[k0m0]
  instanceTypes := #[]
  staticTypes := #[]
  resolved := Array.replicate 124 none
  statics := none }

def pool1 : Array CpInfo := pool [(2, .class_ 4), (1, u "java/lang/Object"), (0, u "<init>"), (0, u "()V"), (0, .methodref 8 9), (0, .class_ 10), (0, .nameAndType 11 12), (0, u "com/example/tree_to_rows/treetorows/xml/DocumentPlacePassAsciiPinLaw"), (0, u "draw"), (0, u "(I)B"), (0, .class_ 14), (0, u "com/example/tree_to_rows/treetorows/xml/DocumentPlace"), (0, .methodref 13 16), (0, .nameAndType 5 17), (0, u "(Z)V"), (0, .methodref 13 19), (0, .nameAndType 20 21), (0, u "passAscii"), (0, u "([BII)I"), (0, .methodref 13 23), (0, .nameAndType 24 25), (0, u "pass"), (0, u "(C)V"), (0, .methodref 13 27), (0, .nameAndType 28 29), (0, u "line"), (0, u "()I"), (0, .methodref 13 31), (0, .nameAndType 32 29), (0, u "column"), (0, .integer 65279), (3, u "law"), (0, u "(IIIIII)Z")] 4

def k1m0 : Method := { name := "<init>", desc := "()V", sig := { parameters := [], returnType := none }, accessFlags := 2, code := none }
def k1c1 : Code := { maxStack := 2, maxLocals := 2, code := method_2_code, exceptionTable := #[], attributes := #[] }
def k1m1 : Method := { name := "draw", desc := "(I)B", sig := { parameters := [.int], returnType := some .byte }, accessFlags := 10, code := some k1c1 }
def k1c2 : Code := { maxStack := 4, maxLocals := 16, code := code, exceptionTable := #[], attributes := #[] }
def k1m2 : Method := { name := "law", desc := "(IIIIII)Z", sig := { parameters := [.int, .int, .int, .int, .int, .int], returnType := some .boolean }, accessFlags := 9, code := some k1c2 }
/-- com/example/tree_to_rows/treetorows/xml/DocumentPlacePassAsciiPinLaw -/
def k1 : Class := { plain "com/example/tree_to_rows/treetorows/xml/DocumentPlacePassAsciiPinLaw" (some 0) with
  accessFlags := 49
  interfaces := #[]
  cf := some (fileOf pool1 8 #[] #[{ accessFlags := 2, nameIndex := 5, descriptorIndex := 6, attributes := #[] }, { accessFlags := 10, nameIndex := 11, descriptorIndex := 12, attributes := #[] }, { accessFlags := 9, nameIndex := 37, descriptorIndex := 38, attributes := #[] }] 49 2 #[] #[])
  fields := #[]
  methods := #[k1m0, k1m1, k1m2]
  instanceTypes := #[]
  staticTypes := #[]
  resolved := Array.replicate 43 none
  statics := none }

def pool2 : Array CpInfo := pool [(1, .methodref 2 3), (0, .class_ 4), (0, .nameAndType 5 6), (0, u "java/lang/Object"), (0, u "<init>"), (0, u "()V"), (0, .fieldref 8 9), (0, .class_ 10), (0, .nameAndType 11 12), (0, u "com/example/tree_to_rows/treetorows/xml/DocumentPlace"), (0, u "xml11"), (0, u "Z"), (0, .fieldref 8 14), (0, .nameAndType 15 12), (0, u "firstCharacter"), (0, .fieldref 8 17), (0, .nameAndType 18 12), (0, u "afterCarriageReturn"), (0, .fieldref 8 20), (0, .nameAndType 21 22), (0, u "line"), (0, u "I"), (0, .fieldref 8 24), (0, .nameAndType 25 22), (0, u "column"), (0, .integer 65279), (0, u "(Z)V"), (2, u "pass"), (0, u "(C)V"), (1, u "passAscii"), (0, u "([BII)I"), (4, u "()I")] 2

def k2c0 : Code := { maxStack := 2, maxLocals := 2, code := prog_92_method_1_code, exceptionTable := #[], attributes := #[] }
def k2m0 : Method := { name := "<init>", desc := "(Z)V", sig := { parameters := [.boolean], returnType := none }, accessFlags := 0, code := some k2c0 }
def k2c1 : Code := { maxStack := 3, maxLocals := 5, code := prog_92_method_2_code, exceptionTable := #[], attributes := #[] }
def k2m1 : Method := { name := "pass", desc := "(C)V", sig := { parameters := [.char], returnType := none }, accessFlags := 0, code := some k2c1 }
def k2c2 : Code := { maxStack := 4, maxLocals := 11, code := prog_92_method_3_code, exceptionTable := #[], attributes := #[] }
def k2m2 : Method := { name := "passAscii", desc := "([BII)I", sig := { parameters := [(.array .byte), .int, .int], returnType := some .int }, accessFlags := 0, code := some k2c2 }
def k2c3 : Code := { maxStack := 1, maxLocals := 1, code := prog_92_method_5_code, exceptionTable := #[], attributes := #[] }
def k2m3 : Method := { name := "line", desc := "()I", sig := { parameters := [], returnType := some .int }, accessFlags := 0, code := some k2c3 }
def k2c4 : Code := { maxStack := 1, maxLocals := 1, code := prog_92_method_6_code, exceptionTable := #[], attributes := #[] }
def k2m4 : Method := { name := "column", desc := "()I", sig := { parameters := [], returnType := some .int }, accessFlags := 0, code := some k2c4 }
/-- com/example/tree_to_rows/treetorows/xml/DocumentPlace -/
def k2 : Class := { plain "com/example/tree_to_rows/treetorows/xml/DocumentPlace" (some 0) with
  accessFlags := 48
  interfaces := #[]
  cf := some (fileOf pool2 8 #[] #[{ accessFlags := 0, nameIndex := 5, descriptorIndex := 27, attributes := #[] }, { accessFlags := 0, nameIndex := 30, descriptorIndex := 31, attributes := #[] }, { accessFlags := 0, nameIndex := 33, descriptorIndex := 34, attributes := #[] }, { accessFlags := 0, nameIndex := 21, descriptorIndex := 39, attributes := #[] }, { accessFlags := 0, nameIndex := 25, descriptorIndex := 39, attributes := #[] }] 48 2 #[] #[{ accessFlags := 18, nameIndex := 11, descriptorIndex := 12, attributes := #[] }, { accessFlags := 2, nameIndex := 15, descriptorIndex := 12, attributes := #[] }, { accessFlags := 2, nameIndex := 18, descriptorIndex := 12, attributes := #[] }, { accessFlags := 2, nameIndex := 21, descriptorIndex := 22, attributes := #[] }, { accessFlags := 2, nameIndex := 25, descriptorIndex := 22, attributes := #[] }])
  fields := #[{ name := "xml11", type := .boolean, accessFlags := 18, slot := 0, constantValue := 0 }, { name := "firstCharacter", type := .boolean, accessFlags := 2, slot := 1, constantValue := 0 }, { name := "afterCarriageReturn", type := .boolean, accessFlags := 2, slot := 2, constantValue := 0 }, { name := "line", type := .int, accessFlags := 2, slot := 3, constantValue := 0 }, { name := "column", type := .int, accessFlags := 2, slot := 4, constantValue := 0 }]
  methods := #[k2m0, k2m1, k2m2, k2m3, k2m4]
  instanceTypes := #[.boolean, .boolean, .boolean, .int, .int]
  staticTypes := #[]
  resolved := Array.replicate 42 none
  statics := none }

def pool3 : Array CpInfo := pool [(1, u "java/lang/Cloneable"), (0, .class_ 1), (0, u "java/lang/Object"), (0, .class_ 3)] 3

/-- java/lang/Cloneable -/
def k3 : Class := { plain "java/lang/Cloneable" (some 0) with
  accessFlags := 1537
  interfaces := #[]
  cf := some (fileOf pool3 2 #[] #[] 1537 4 #[] #[])
  fields := #[]
  methods := #[]
  instanceTypes := #[]
  staticTypes := #[]
  resolved := Array.replicate 8 none
  statics := none }

def pool4 : Array CpInfo := pool [(1, u "java/io/Serializable"), (0, .class_ 1), (0, u "java/lang/Object"), (0, .class_ 3)] 3

/-- java/io/Serializable -/
def k4 : Class := { plain "java/io/Serializable" (some 0) with
  accessFlags := 1537
  interfaces := #[]
  cf := some (fileOf pool4 2 #[] #[] 1537 4 #[] #[])
  fields := #[]
  methods := #[]
  instanceTypes := #[]
  staticTypes := #[]
  resolved := Array.replicate 8 none
  statics := none }

/-- the primitive byte -/
def k5 : Class := { plain "byte" none with kind := .primitive 'B', accessFlags := 0x411 }
/-- [B -/
def k6 : Class := { plain "[B" (some 0) with kind := .array 5 .byte, interfaces := #[3, 4], accessFlags := 1041 }

/-- the primitive int -/
def k7 : Class := { plain "int" none with kind := .primitive 'I', accessFlags := 0x411 }
/-- [I -/
def k8 : Class := { plain "[I" (some 0) with kind := .array 7 .int, interfaces := #[3, 4], accessFlags := 1041 }

def heap : Heap := #[]
def classes : Array Class := #[k0, k1, k2, k3, k4, k5, k6, k7, k8]
def interned : List (Array UInt16 × Addr) := []
def slotsUsed : Nat := 0
def theMethod : MethodId := ⟨1, 2⟩
def args0 : Array Value := #[.int 1, .int 2, .int 3, .int 4, .int 5, .int 6]
def aboutOver (below : List Frame) : State where
  vm := { classes := classes, interned := interned.toArray }
  heap := heap
  slotsUsed := slotsUsed
  threads := #[{ frames := .invoking theMethod args0 :: below }]
def below0 : List Frame := [.native { method := ⟨0, 0⟩, args := #[] }]
def about1 : State := aboutOver below0
def p0 : Program := .bare "" "" ""
def e0 : Env := launch0.env 0 0 0
theorem w_frames : about1.frames = Frame.invoking theMethod args0 :: below0 := rfl
set_option maxRecDepth 65536 in
theorem w_args : argsFit about1.vm theMethod args0 = true := by decide +kernel
set_option maxRecDepth 65536 in
theorem w_heap : heapFits about1 = true := by decide +kernel
set_option maxRecDepth 65536 in
theorem w_runnable : about1.curStatus? = some .runnable := by decide +kernel
set_option maxRecDepth 65536 in
theorem w_alone : about1.alone = true := by decide +kernel
set_option maxRecDepth 65536 in
theorem w_named : about1.methodNamed? x = some theMethod := by decide +kernel
set_option maxRecDepth 65536 in
theorem w_hears : about1.hears theMethod below0 = true := by decide +kernel
set_option maxRecDepth 65536 in
theorem w_ripe : about1.ripe theMethod args0 below0 = true := by decide +kernel
theorem w_running : about1.status = .running := rfl
set_option maxRecDepth 65536 in
theorem w_room : about1.hasRoom e0.platform room_1 = true :=
  launch0.hasRoom_least _ room_1 (by decide +kernel) (by decide +kernel) (by decide +kernel) (by decide +kernel) (by decide +kernel) (by decide +kernel)
theorem allAtoms_all (ts : List Jvm.Cond) (a : Array Jvm.Value) (st : Jvm.State) : (allAtoms ts).before a st = ts.all (fun c => c.before a st) := by
  induction ts with
  | nil => rfl
  | cons c t ih =>
    show (Jvm.Cond.and c (allAtoms t)).before a st = _
    rw [Jvm.Cond.before_and, ih, List.all_cons]
def words1 : List Jvm.Cond := Jvm.Cond.code x code maxLocals ret :: tables_1
/-- a 'code' word, met by the world's own term for the bytes: nothing is compared byte by byte -/
theorem code_word {y : MethodName} {bytes : ByteArray} {mx : Nat} {rt : Option FieldType} {a : Array Value} {s : State} {m : MethodId} {meth : Method} {c : Code} (h1 : s.methodNamed? y = some m) (h2 : s.vm.method? m = some meth) (h3 : meth.code = some c) (h4 : c.code = bytes)
    (h5 : (c.maxLocals == mx && c.exceptionTable.isEmpty && decide (c.maxStack ≤ mostOperands) && decide (meth.sig.returnType = rt) && !meth.locks && decide (parseMethodDescriptor y.desc = some meth.sig)) = true) : (Jvm.Cond.code y bytes mx rt).before a s = true := by
  simp only [Bool.and_eq_true, beq_iff_eq, Bool.not_eq_true', decide_eq_true_eq] at h5
  obtain ⟨⟨⟨⟨⟨g1, g2⟩, g3⟩, g4⟩, g5⟩, g6⟩ := h5
  simp [Cond.before, Cond.holds, Cond.value, h1, h2, h3, h4, g1, g2, g3, g4, g5, g6]
def isCode : Jvm.Cond → Bool
  | .code _ _ _ _ => true
  | _ => false
theorem all_split {L : List Jvm.Cond} {P : Jvm.Cond → Bool} (h1 : L.all (fun c => isCode c || P c) = true) (h2 : ∀ c ∈ L.filter isCode, P c = true) : L.all P = true := by
  refine List.all_eq_true.mpr fun c hc => ?_
  have h := List.all_eq_true.mp h1 c hc
  rcases Bool.eq_false_or_eq_true (isCode c) with hi | hi
  · exact h2 c (List.mem_filter.mpr ⟨hc, hi⟩)
  · simpa [hi] using h
set_option maxRecDepth 65536 in
theorem w_c0 : (Jvm.Cond.code x code maxLocals ret).before args0 about1 = true := code_word (m := ⟨1, 2⟩) (meth := k1m2) (c := k1c2) (by decide +kernel) rfl rfl rfl (by decide +kernel)
set_option maxRecDepth 65536 in
theorem w_c1 : (Jvm.Cond.code ({ cls := "com/example/tree_to_rows/treetorows/xml/DocumentPlacePassAsciiPinLaw", name := "draw", desc := "(I)B" } : Jvm.MethodName) method_2_code (2 : Nat) (Option.some Jvm.ClassFile.FieldType.byte)).before args0 about1 = true := code_word (m := ⟨1, 1⟩) (meth := k1m1) (c := k1c1) (by decide +kernel) rfl rfl rfl (by decide +kernel)
set_option maxRecDepth 65536 in
theorem w_c2 : (Jvm.Cond.code ({ cls := "com/example/tree_to_rows/treetorows/xml/DocumentPlace", name := "<init>", desc := "(Z)V" } : Jvm.MethodName) prog_92_method_1_code (2 : Nat) (Option.none : Option Jvm.ClassFile.FieldType)).before args0 about1 = true := code_word (m := ⟨2, 0⟩) (meth := k2m0) (c := k2c0) (by decide +kernel) rfl rfl rfl (by decide +kernel)
set_option maxRecDepth 65536 in
theorem w_c3 : (Jvm.Cond.code ({ cls := "java/lang/Object", name := "<init>", desc := "()V" } : Jvm.MethodName) object_method_1_code (1 : Nat) (Option.none : Option Jvm.ClassFile.FieldType)).before args0 about1 = true := code_word (m := ⟨0, 0⟩) (meth := k0m0) (c := k0c0) (by decide +kernel) rfl rfl rfl (by decide +kernel)
set_option maxRecDepth 65536 in
theorem w_c4 : (Jvm.Cond.code ({ cls := "com/example/tree_to_rows/treetorows/xml/DocumentPlace", name := "passAscii", desc := "([BII)I" } : Jvm.MethodName) prog_92_method_3_code (11 : Nat) (Option.some Jvm.ClassFile.FieldType.int)).before args0 about1 = true := code_word (m := ⟨2, 2⟩) (meth := k2m2) (c := k2c2) (by decide +kernel) rfl rfl rfl (by decide +kernel)
set_option maxRecDepth 65536 in
theorem w_c5 : (Jvm.Cond.code ({ cls := "com/example/tree_to_rows/treetorows/xml/DocumentPlace", name := "line", desc := "()I" } : Jvm.MethodName) prog_92_method_5_code (1 : Nat) (Option.some Jvm.ClassFile.FieldType.int)).before args0 about1 = true := code_word (m := ⟨2, 3⟩) (meth := k2m3) (c := k2c3) (by decide +kernel) rfl rfl rfl (by decide +kernel)
set_option maxRecDepth 65536 in
theorem w_c6 : (Jvm.Cond.code ({ cls := "com/example/tree_to_rows/treetorows/xml/DocumentPlace", name := "column", desc := "()I" } : Jvm.MethodName) prog_92_method_6_code (1 : Nat) (Option.some Jvm.ClassFile.FieldType.int)).before args0 about1 = true := code_word (m := ⟨2, 4⟩) (meth := k2m4) (c := k2c4) (by decide +kernel) rfl rfl rfl (by decide +kernel)
set_option maxRecDepth 65536 in
theorem w_c7 : (Jvm.Cond.code ({ cls := "com/example/tree_to_rows/treetorows/xml/DocumentPlace", name := "pass", desc := "(C)V" } : Jvm.MethodName) prog_92_method_2_code (5 : Nat) (Option.none : Option Jvm.ClassFile.FieldType)).before args0 about1 = true := code_word (m := ⟨2, 1⟩) (meth := k2m1) (c := k2c1) (by decide +kernel) rfl rfl rfl (by decide +kernel)
def codes1 : List Jvm.Cond := [Jvm.Cond.code x code maxLocals ret, Jvm.Cond.code ({ cls := "com/example/tree_to_rows/treetorows/xml/DocumentPlacePassAsciiPinLaw", name := "draw", desc := "(I)B" } : Jvm.MethodName) method_2_code (2 : Nat) (Option.some Jvm.ClassFile.FieldType.byte), Jvm.Cond.code ({ cls := "com/example/tree_to_rows/treetorows/xml/DocumentPlace", name := "<init>", desc := "(Z)V" } : Jvm.MethodName) prog_92_method_1_code (2 : Nat) (Option.none : Option Jvm.ClassFile.FieldType), Jvm.Cond.code ({ cls := "java/lang/Object", name := "<init>", desc := "()V" } : Jvm.MethodName) object_method_1_code (1 : Nat) (Option.none : Option Jvm.ClassFile.FieldType), Jvm.Cond.code ({ cls := "com/example/tree_to_rows/treetorows/xml/DocumentPlace", name := "passAscii", desc := "([BII)I" } : Jvm.MethodName) prog_92_method_3_code (11 : Nat) (Option.some Jvm.ClassFile.FieldType.int), Jvm.Cond.code ({ cls := "com/example/tree_to_rows/treetorows/xml/DocumentPlace", name := "line", desc := "()I" } : Jvm.MethodName) prog_92_method_5_code (1 : Nat) (Option.some Jvm.ClassFile.FieldType.int), Jvm.Cond.code ({ cls := "com/example/tree_to_rows/treetorows/xml/DocumentPlace", name := "column", desc := "()I" } : Jvm.MethodName) prog_92_method_6_code (1 : Nat) (Option.some Jvm.ClassFile.FieldType.int), Jvm.Cond.code ({ cls := "com/example/tree_to_rows/treetorows/xml/DocumentPlace", name := "pass", desc := "(C)V" } : Jvm.MethodName) prog_92_method_2_code (5 : Nat) (Option.none : Option Jvm.ClassFile.FieldType)]
set_option maxRecDepth 65536 in
theorem codes_eq : words1.filter isCode = codes1 := rfl
theorem w_codes : ∀ c ∈ words1.filter isCode, c.before args0 about1 = true := by
  rw [codes_eq]
  intro c hc
  simp only [codes1, List.mem_cons, List.not_mem_nil, or_false] at hc
  rcases hc with rfl | rfl | rfl | rfl | rfl | rfl | rfl | rfl
  · exact w_c0
  · exact w_c1
  · exact w_c2
  · exact w_c3
  · exact w_c4
  · exact w_c5
  · exact w_c6
  · exact w_c7
set_option maxRecDepth 65536 in
theorem w_t1 : (words1.take 24).all (fun c => isCode c || c.before args0 about1) = true := by decide +kernel
set_option maxRecDepth 65536 in
theorem w_t2 : (words1.drop 24).all (fun c => isCode c || c.before args0 about1) = true := by decide +kernel
theorem w_tables : (allAtoms (Jvm.Cond.code x code maxLocals ret :: tables_1)).before args0 about1 = true := by
  rw [allAtoms_all]
  show words1.all (fun c => c.before args0 about1) = true
  refine all_split ?_ w_codes
  rw [← List.take_append_drop 24 words1, List.all_append, w_t1, w_t2]
  rfl
set_option maxRecDepth 65536 in
theorem w_case : (Jvm.Cond.and given_1 narrow_1).before args0 about1 = true := by decide +kernel
theorem w_applies : (headSpec (Jvm.Cond.code x code maxLocals ret :: tables_1) room_1).applies x e0.platform about1 = true :=
  (Spec.applies_iff w_frames).mpr ⟨w_running, w_runnable, w_alone, w_named, w_hears, w_ripe, w_room, w_tables⟩
theorem atStart : AtStart classFile x code maxLocals ret World_1 tables_1 room_1 Calls_1 rest_1 Pre_1 launch0 p0 e0 about1 theMethod args0 below0 :=
  ⟨lists_1, trivial, launch0.admits_env _ _ _, launch0.least_env, fairChoices_fair.cas, fairChoices_fair.clock, w_frames, w_args, w_heap, w_applies, trivial, trivial, w_case⟩
end start1
theorem witness_1 : WitnessClaimed_1 := ⟨start1.p0, start1.e0, start1.about1, start1.theMethod, start1.args0, start1.below0, start1.atStart⟩
end Jvm.Pilot.@@N@@
