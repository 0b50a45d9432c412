import JvmDerived
import JvmDerived.Pilot.@@N@@Statement
import JvmDerived.Pilot.@@N@@Code
set_option linter.unusedVariables false
set_option linter.unusedSimpArgs false
namespace Jvm.RoadKit
open Sem ClassFile Op Lib Jvm.Stand Jvm.Free Jvm.LawKit
section New
variable {p : Program} {l : Launch} {e : Env} {R : Room} {s : State} {m : MethodId} {args : Array Value} {below : List Frame} {meth : Method} {c : Code} {T : State} {locs : List Loc} {cells slots : Nat}
theorem retI (X : Stand p l e R s m args below meth c T locs cells slots) (hx : p.tables.exec = Jvm.exec) {pc : Nat} {Ls : Array Slot} {z : Int32} {rest : List Value} (hret : meth.sig.returnType = some .int) (hd : decode c.code pc = .ok (.ireturn, 1)) {fs : List Frame}
    (hl : ∀ (f : JFrame) (acts : List Action), f.method = m → f.locked = none → f.entered = [] → (doReturn e (T.setTop f) acts (some (.int z))).1 = T.setFrames fs) : Steps p.tables e below (T.setTop (mkF m pc Ls (.int z :: rest))) (T.setFrames fs) := by
  have hm' : T.vm.method? m = some meth := X.method'
  have hn : narrow .int (.int z) = .int z := rfl
  show Steps p.tables e below (T.setTop { method := m, pc := pc, locals := Ls, stack := _ :: rest, locked := none }) _
  jvm_step X.here [X.here.top, hx, hd, hm', hret, hn]
  first | (intro acts; rw [hl _ acts rfl rfl rfl]) | rw [hl _ _ rfl rfl rfl]
  exact Steps.refl _
theorem retL (X : Stand p l e R s m args below meth c T locs cells slots) (hx : p.tables.exec = Jvm.exec) {pc : Nat} {Ls : Array Slot} {z : Int64} {rest : List Value} (hret : meth.sig.returnType = some .long) (hd : decode c.code pc = .ok (.lreturn, 1)) {fs : List Frame}
    (hl : ∀ (f : JFrame) (acts : List Action), f.method = m → f.locked = none → f.entered = [] → (doReturn e (T.setTop f) acts (some (.long z))).1 = T.setFrames fs) : Steps p.tables e below (T.setTop (mkF m pc Ls (.long z :: rest))) (T.setFrames fs) := by
  have hm' : T.vm.method? m = some meth := X.method'
  show Steps p.tables e below (T.setTop { method := m, pc := pc, locals := Ls, stack := _ :: rest, locked := none }) _
  jvm_step X.here [X.here.top, hx, hd, hm', hret, narrow]
  first | (intro acts; rw [hl _ acts rfl rfl rfl]) | rw [hl _ _ rfl rfl rfl]
  exact Steps.refl _
theorem retD (X : Stand p l e R s m args below meth c T locs cells slots) (hx : p.tables.exec = Jvm.exec) {pc : Nat} {Ls : Array Slot} {z : UInt64} {rest : List Value} (hret : meth.sig.returnType = some .double) (hd : decode c.code pc = .ok (.dreturn, 1)) {fs : List Frame}
    (hl : ∀ (f : JFrame) (acts : List Action), f.method = m → f.locked = none → f.entered = [] → (doReturn e (T.setTop f) acts (some (.double z))).1 = T.setFrames fs) : Steps p.tables e below (T.setTop (mkF m pc Ls (.double z :: rest))) (T.setFrames fs) := by
  have hm' : T.vm.method? m = some meth := X.method'
  show Steps p.tables e below (T.setTop { method := m, pc := pc, locals := Ls, stack := _ :: rest, locked := none }) _
  jvm_step X.here [X.here.top, hx, hd, hm', hret, narrow]
  first | (intro acts; rw [hl _ acts rfl rfl rfl]) | rw [hl _ _ rfl rfl rfl]
  exact Steps.refl _
theorem retR (X : Stand p l e R s m args below meth c T locs cells slots) (hx : p.tables.exec = Jvm.exec) {pc : Nat} {Ls : Array Slot} {z : Value} {rest : List Value} {ty : FieldType} (hz : z.isRef = true) (hty : ty.isReference = true) (hret : meth.sig.returnType = some ty) (hd : decode c.code pc = .ok (.areturn, 1)) {fs : List Frame}
    (hl : ∀ (f : JFrame) (acts : List Action), f.method = m → f.locked = none → f.entered = [] → (doReturn e (T.setTop f) acts (some z)).1 = T.setFrames fs) : Steps p.tables e below (T.setTop (mkF m pc Ls (z :: rest))) (T.setFrames fs) := by
  have hm' : T.vm.method? m = some meth := X.method'
  show Steps p.tables e below (T.setTop { method := m, pc := pc, locals := Ls, stack := _ :: rest, locked := none }) _
  jvm_step X.here [X.here.top, hx, hd, hm', hret, hz, hty]
  first | (intro acts; rw [hl _ acts rfl rfl rfl]) | rw [hl _ _ rfl rfl rfl]
  exact Steps.refl _
end New
abbrev lv (x : Int64) : Slot := .val (.long x)
abbrev un : Slot := .unset
abbrev sd : Slot := .second
/-- where the run stands, it comes to an end that G likes -/
def Go (tb : Tables) (e : Env) (below : List Frame) (G : Outcome → State → Prop) (F : State) : Prop := ∃ t o, Steps tb e below F t ∧ t.status = .running ∧ Ended t below o ∧ G o t
theorem Go.stp {tb : Tables} {e : Env} {below : List Frame} {G : Outcome → State → Prop} {F F' : State} (h : ∀ t, Steps tb e below F' t → Steps tb e below F t) (g : Go tb e below G F') : Go tb e below G F := by
  obtain ⟨t, o, h1, r⟩ := g
  exact ⟨t, o, h _ h1, r⟩
end Jvm.RoadKit
namespace Jvm.Pilot.@@N@@
open Jvm Jvm.ClassFile Sem Op Lib Jvm.Free Jvm.Stand Jvm.LawKit Jvm.RoadKit Bundle Jvm.Pilot.@@N@@.Jvm.D
def own_L (a : Int32) : UInt64 := FP.ddiv (FP.i2d a) (4625196817309499392 : UInt64)
theorem own_16 : FP.Core.val64 (4625196817309499392 : UInt64) = .fin false 4503599627370496 (-48) := by decide +kernel
theorem own_0 : FP.Core.val64 (0 : UInt64) = .fin false 0 (-1074) := by decide +kernel
open FP.Core in
theorem own_val (a : Int32) : ∃ s c q, val64 (FP.i2d a) = .fin s c q ∧ s = decide (a.toInt < 0) ∧ (a.toInt ≠ 0 → 2 ^ 1074 ≤ inUnits c q b64.qmin) ∧ b64.qmin ≤ q := by
  have hv : val64 (FP.i2d a) = roundRatio b64 (decide (a.toInt < 0)) a.toInt.natAbs 1 0 := val64_i2d a
  have hfit := val64_fits (FP.i2d a)
  rcases roundRatio_cases b64 (decide (a.toInt < 0)) a.toInt.natAbs 1 0 with ⟨c, q, h⟩ | h
  · rw [h] at hv
    rw [hv] at hfit
    refine ⟨_, c, q, hv, rfl, fun hn => ?_, hfit.2.1⟩
    have hb : Big64 1023 (FP.i2d a) := by rw [i2d_w]; exact l2d_big (fun z => hn (by rw [← c_i2l, z]; decide))
    have hz := zmag_bits (a := FP.i2d a) (by rw [hv]; exact Datum.noConfusion)
    rw [hv] at hz
    have hs := unitsOf_start (f := b64) (K := 1023) (by decide)
    have hm : unitsOf b64 (1023 * b64.tails) ≤ unitsOf b64 ((FP.i2d a).toNat % 2 ^ 63) := unitsOf_le_iff.mpr (by rw [tails_b64]; exact hb.1)
    rw [hs, tails_b64, ← hz] at hm
    refine Nat.le_trans ?_ hm
    decide +kernel
  · exfalso
    by_cases hn : a.toInt = 0
    · rw [hn] at h
      simp [roundRatio] at h
    · rw [h] at hv
      have hb : Big64 1023 (FP.i2d a) := by rw [i2d_w]; exact l2d_big (fun z => hn (by rw [← c_i2l, z]; decide))
      obtain ⟨s, c, q, hf⟩ := (fin_bits (FP.i2d a)).mpr (by have := hb.2; omega)
      rw [hv] at hf
      cases hf
open FP.Core in
theorem own_q (a : Int32) : ∃ s c q, b64.qmin ≤ q ∧ s = decide (a.toInt < 0) ∧ (a.toInt ≠ 0 → 2 ^ 1074 ≤ inUnits c q b64.qmin) ∧ val64 (own_L a) = roundRatio b64 s c 4503599627370496 (q - (-48)) := by
  obtain ⟨s, c, q, h1, h2, h3, h4⟩ := own_val a
  refine ⟨s, c, q, h4, h2, h3, ?_⟩
  have e : val64 (own_L a) = quotient b64 (val64 (FP.i2d a)) (val64 (4625196817309499392 : UInt64)) := val64_ddiv _ _
  rw [h1, own_16] at e
  rw [e]
  simp [quotient]
theorem own_nn (a : Int32) : Jvm.Free.Fl.NoNaN64 (own_L a) := by
  rw [Jvm.Free.Fl.val64_no]
  obtain ⟨s, c, q, h4, h2, h3, e⟩ := own_q a
  rw [e]
  exact FP.Core.roundRatio_ne_nan _ _ _ _ _
open FP.Core in
theorem own_cmp (a : Int32) : FP.dcmp (own_L a) 0 = some (compare (zval b64 (val64 (own_L a))) 0) := by
  have h : FP.dcmp (own_L a) 0 = order (val64 (own_L a)) (val64 0) := rfl
  rw [h, order_zval good_b64 (val64_fits _) (val64_fits _) (Jvm.Free.Fl.val64_no.mp (own_nn a)) (by rw [own_0]; exact Datum.noConfusion), show zval b64 (val64 0) = 0 by rw [own_0]; decide +kernel]
open FP.Core in
theorem own_pos (a : Int32) (h : 0 < a.toInt) : FP.dcmp (own_L a) 0 = some .gt := by
  rw [own_cmp]
  obtain ⟨s, c, q, h4, h2, h3, e⟩ := own_q a
  have hs : s = false := by rw [h2]; simp; omega
  subst hs
  have ge := zmag_roundRatio_ge good_b64 (s := false) (A := c) (B := 4503599627370496) (e := q - (-48)) (e0 := b64.qmin) (V := .fin false 1 b64.qmin) (by decide) ⟨by decide +kernel, Int.le_refl _, by decide +kernel, Or.inl rfl⟩ (Int.le_refl _) (by omega) (by
    have k := h3 (by omega)
    have e1 : (q - (-48) - b64.qmin).toNat = (q - b64.qmin).toNat + 48 := by omega
    unfold inUnits at k ⊢
    rw [e1, Nat.pow_add, ← Nat.mul_assoc]
    have z : zmag b64 (Datum.fin false 1 b64.qmin) = 1 := by decide +kernel
    rw [z, show (b64.qmin - b64.qmin).toNat = 0 by omega]
    refine Nat.le_trans ?_ (Nat.mul_le_mul_right _ k)
    decide +kernel)
  rw [← e] at ge
  have z : zmag b64 (Datum.fin false 1 b64.qmin) = 1 := by decide +kernel
  rw [z] at ge
  have sg : sgn (val64 (own_L a)) = false := by rw [e]; exact sgn_roundRatio _ _ _ _ _
  have zp : 0 < zval b64 (val64 (own_L a)) := by unfold zval signed; rw [sg]; simp; omega
  rw [Int.compare_eq_gt.mpr zp]
open FP.Core in
theorem own_neg (a : Int32) (h : ¬ 0 < a.toInt) : FP.dcmp (own_L a) 0 ≠ some .gt := by
  by_cases h0 : a.toInt = 0
  · have : a = 0 := Int32.toInt_inj.mp (by rw [h0]; decide)
    subst this
    decide +kernel
  · rw [own_cmp]
    obtain ⟨s, c, q, h4, h2, h3, e⟩ := own_q a
    have hs : s = true := by rw [h2]; simp; omega
    have sg : sgn (val64 (own_L a)) = true := by rw [e, hs]; exact sgn_roundRatio _ _ _ _ _
    have zp : zval b64 (val64 (own_L a)) ≤ 0 := by unfold zval signed; rw [sg]; simp
    intro q
    have := Int.compare_eq_gt.mp (Option.some.inj q)
    omega
theorem own_cp (a : Int32) (h : 0 < a.toInt) : cmpValue (FP.dcmp (own_L a) FP.dconst0) .l = 1 := by
  rw [show FP.dconst0 = 0 from rfl, own_pos a h, cmpV_l]; rfl
theorem own_cn (a : Int32) (h : ¬ 0 < a.toInt) : ¬ ((0 : Int32) < cmpValue (FP.dcmp (own_L a) FP.dconst0) .l) := by
  have q := own_neg a h
  rw [show FP.dconst0 = 0 from rfl, cmpV_l]
  rcases hd : FP.dcmp (own_L a) 0 with _ | (_ | _ | _)
  · decide
  · decide
  · decide
  · exact absurd hd q
theorem own_c1 : cmpValue (FP.dcmp FP.dconst1 FP.dconst1) .l = 0 := dcmpV_self (by decide +kernel) _
def own_sc (r w : Addr) (x : UInt64) : UInt64 := if r = w then (if (0 : Int32) < cmpValue (FP.dcmp x FP.dconst0) .l then x else FP.dconst1) else FP.dconst1
theorem own_scp (w : Addr) (a : Int32) (h : (0 : Int32) < a) : own_sc w w (own_L a) = own_L a := by
  have h' : 0 < a.toInt := by rw [Int32.lt_iff_toInt_lt] at h; exact h
  unfold own_sc
  rw [if_pos rfl, if_pos (by rw [own_cp a h']; decide)]
theorem own_scn (w : Addr) (a : Int32) (h : ¬ (0 : Int32) < a) : own_sc w w (own_L a) = FP.dconst1 := by
  have h' : ¬ 0 < a.toInt := by rw [Int32.lt_iff_toInt_lt] at h; exact h
  unfold own_sc
  rw [if_pos rfl, if_neg (own_cn a h')]
theorem own_scu (r w : Addr) (x : UInt64) (h : r ≠ w) : own_sc r w x = FP.dconst1 := by
  unfold own_sc
  rw [if_neg h]
theorem own_ord {t : Term} {args : Array Value} {s : State} {a : Addr} {k : Int32} (ev : t.eval args s none [] s = some (.ref a)) (h : (Jvm.Cond.eq (Term.field t "java/lang/Enum" "ordinal" "I") (Term.int k)).value args s none s [] = some true) : s.fieldOf? a "java/lang/Enum" "ordinal" "I" = some (.int k) := by
  have e := fld_at (C := "java/lang/Enum") (n := "ordinal") (dd := "I") ev
  simp only [Jvm.Cond.value, e] at h
  cases hf : s.fieldOf? a "java/lang/Enum" "ordinal" "I" with
  | none => simp [hf] at h
  | some v => cases v <;> simp [hf, Term.eval] at h ⊢ <;> exact h
theorem own_apart {s : State} {a b : Addr} {j k : Int32} (h1 : s.fieldOf? a "java/lang/Enum" "ordinal" "I" = some (.int j)) (h2 : s.fieldOf? b "java/lang/Enum" "ordinal" "I" = some (.int k)) (h : j ≠ k) : a ≠ b := fun q => by
  rw [q, h2] at h1
  exact h (Value.int.inj (Option.some.inj h1)).symm
theorem pd_0 : parseMethodDescriptor "(D)D" = some ⟨[.double], some .double⟩ := by decide +kernel
theorem pn_1 : plainName "com/example/federated_text_search/federatedtextsearch/lsi/Columns" = true := by first | (simp [plainName, overriddenIn]; done) | decide +kernel
theorem d1_0 : decode prog_32_method_4_code 0 = .ok (.aload_n 0, 1) := by decide +kernel
theorem d1_1 : decode prog_32_method_4_code 1 = .ok (.getstatic 3, 3) := by decide +kernel
theorem d1_4 : decode prog_32_method_4_code 4 = .ok (.if_acmp .ne 13, 3) := by decide +kernel
theorem d1_7 : decode prog_32_method_4_code 7 = .ok (.dload_n 1, 1) := by decide +kernel
theorem d1_8 : decode prog_32_method_4_code 8 = .ok (.dconst 0, 1) := by decide +kernel
theorem d1_9 : decode prog_32_method_4_code 9 = .ok (.dcmp .l, 1) := by decide +kernel
theorem d1_10 : decode prog_32_method_4_code 10 = .ok (.ifCond .le 7, 3) := by decide +kernel
theorem d1_13 : decode prog_32_method_4_code 13 = .ok (.dload_n 1, 1) := by decide +kernel
theorem d1_14 : decode prog_32_method_4_code 14 = .ok (.goto 4, 3) := by decide +kernel
theorem d1_17 : decode prog_32_method_4_code 17 = .ok (.dconst 1, 1) := by decide +kernel
theorem d1_18 : decode prog_32_method_4_code 18 = .ok (.dreturn, 1) := by decide +kernel
theorem ef_1 (m : MethodId) (r0 : Addr) (d1 : UInt64) : entryFrame m #[(.ref r0), (.double d1)] 3 = mkF m 0 #[rv r0, .val (.double d1), sd] [] := by first | (simp [entryFrame, mkF, argsToLocals, Value.category, iv, rv, lv, un, sd]; done) | rfl
def Q1 (Z : State) (r0 : Addr) (d1 : UInt64) (aW : Addr) (h0 : Heap) (n0 : Nat) (v : Option Value) (h : Heap) (L : List Loc) : Prop := v = some (.double (own_sc r0 aW d1)) ∧ Fr n0 L ∧ h = h0
set_option maxRecDepth 65536 in
set_option maxHeartbeats 40000000 in
theorem rm1 (l : Launch) (Z : State) (a0 : Array Value) (hw : ∀ d ∈ tables_1, d.before a0 Z = true) (ws : List Jvm.Cond) (r0 : Addr) (d1 : UInt64) (aW : Addr) (h0 : Heap) (n0 : Nat) (Z0 : n0 ≤ h0.size) (S_aW : Sta Z h0 "com/example/federated_text_search/federatedtextsearch/lsi/Columns" "WEIGHTED" "Lcom/example/federated_text_search/federatedtextsearch/lsi/Columns;" (.ref aW)) :
    MetFree l (⟨"com/example/federated_text_search/federatedtextsearch/lsi/Columns", "scale", "(D)D"⟩ : MethodName) (head1 (Jvm.Cond.code (⟨"com/example/federated_text_search/federatedtextsearch/lsi/Columns", "scale", "(D)D"⟩ : MethodName) prog_32_method_4_code 3 (some .double) :: ws) ({ frames := 0, cells := 0, slots := 0, locals := 0 } : Room)) (fun a U => a = #[(.ref r0), (.double d1)] ∧ Z.Warmed39 U.vm ∧ U.heap = h0) (fun _ _ _ _ _ => True) (fun _ U o U' => ∃ v L, o = .returned v ∧ Q1 Z r0 d1 aW h0 n0 v U'.heap L ∧ FrameEnd U o U' L ({ frames := 0, cells := 0, slots := 0, locals := 0 } : Room).cells ({ frames := 0, cells := 0, slots := 0, locals := 0 } : Room).slots) := by
  refine MetFree.of_bodySF (plainFor_of_name pn_1) hisR ?_
  intro p e s m args below meth c s₁ Bd hml0 hP hK
  obtain ⟨rfl, hZ, hh⟩ := hP
  have hx := Bd.exec
  have hby := Bd.bytes
  have hml : c.maxLocals = 3 := hml0
  have hown : s.vm.findClass "com/example/federated_text_search/federatedtextsearch/lsi/Columns" = some m.cls := findClass_of_methodNamed Bd.named
  have hnm := (name_of_methodNamed Bd.named Bd.method).1
  have X0 : Stand p l e ({ frames := 0, cells := 0, slots := 0, locals := 0 } : Room) s m #[(.ref r0), (.double d1)] below meth c s₁ [] 0 0 := Stand.of_body Bd
  have e0 : s₁.heap = h0 := by rw [← hh, Bd.state]; rfl
  have N0 := Fr.nil n0
  suffices HH : ∀ G : Outcome → State → Prop, (∀ v L U', Q1 Z r0 d1 aW h0 n0 v U'.heap L → FrameEnd s (.returned v) U' L ({ frames := 0, cells := 0, slots := 0, locals := 0 } : Room).cells ({ frames := 0, cells := 0, slots := 0, locals := 0 } : Room).slots → G (.returned v) U') → Go p.tables e below G (s₁.setTop (mkF m 0 #[rv r0, .val (.double d1), sd] [])) by
    obtain ⟨s2, o, h1, h2, h3, h4⟩ := HH (fun o U' => ∃ v L, o = .returned v ∧ Q1 Z r0 d1 aW h0 n0 v U'.heap L ∧ FrameEnd s o U' L ({ frames := 0, cells := 0, slots := 0, locals := 0 } : Room).cells ({ frames := 0, cells := 0, slots := 0, locals := 0 } : Room).slots) (fun v L U' q f => ⟨v, L, rfl, q, f⟩)
    exact ⟨s2, o, castTop (ef_1 m r0 d1) h1, h2, h3, h4⟩
  intro G hG
  show Go p.tables e below G (s₁.setTop (mkF m 0 #[rv r0, .val (.double d1), sd] []))
  refine Go.stp (fun t_ k_ => XS.aloadN X0.here hx rfl (hb hby d1_0) rfl rfl k_) ?_
  show Go p.tables e below G (s₁.setTop (mkF m 1 #[rv r0, .val (.double d1), sd] [(.ref r0)]))
  obtain ⟨T1, X1, e1, st1⟩ := getS2 X0 hx hZ hown (host := "") (Or.inl (hw _ (List.mem_of_getElem? (i := 9) rfl))) Via.refl e0 S_aW (g := (mkF m 1 #[rv r0, .val (.double d1), sd] [(.ref r0)])) rfl (hb hby d1_1)
  refine Go.stp (fun t_ k_ => st1 t_ k_) ?_
  show Go p.tables e below G (T1.setTop (mkF m 4 #[rv r0, .val (.double d1), sd] [(.ref aW), (.ref r0)]))
  by_cases hc4 : r0 = aW
  · refine Go.stp (fun t_ k_ => Jvm.RoadKit.acmp (g := (mkF m 4 #[rv r0, .val (.double d1), sd] [(.ref aW), (.ref r0)])) X1 hx rfl rfl rfl (pc0 := 4) (pc' := 7) (same := true) rfl (hb hby d1_4) rfl (decide_eq_true (congrArg Value.ref hc4)) (by decide) (by decide) k_) ?_
    show Go p.tables e below G (T1.setTop (mkF m 7 #[rv r0, .val (.double d1), sd] []))
    refine Go.stp (fun t_ k_ => XS.dloadN X1.here hx rfl (hb hby d1_7) rfl k_) ?_
    show Go p.tables e below G (T1.setTop (mkF m 8 #[rv r0, .val (.double d1), sd] [(.double d1)]))
    refine Go.stp (fun t_ k_ => XS.dconst0 X1.here hx rfl (hb hby d1_8) rfl k_) ?_
    show Go p.tables e below G (T1.setTop (mkF m 9 #[rv r0, .val (.double d1), sd] [(.double FP.dconst0), (.double d1)]))
    refine Go.stp (fun t_ k_ => XS.dcmpS X1.here hx rfl (hb hby d1_9) rfl rfl k_) ?_
    show Go p.tables e below G (T1.setTop (mkF m 10 #[rv r0, .val (.double d1), sd] [(.int (cmpValue (FP.dcmp d1 FP.dconst0) .l))]))
    by_cases hc10 : (0 : Int32) < (cmpValue (FP.dcmp d1 FP.dconst0) .l)
    · refine Go.stp (fun t_ k_ => XS.ifNo X1.here hx rfl (hb hby d1_10) rfl ((if0 _ _).trans (tlt hc10).2.2.2) k_) ?_
      show Go p.tables e below G (T1.setTop (mkF m 13 #[rv r0, .val (.double d1), sd] []))
      refine Go.stp (fun t_ k_ => XS.dloadN X1.here hx rfl (hb hby d1_13) rfl k_) ?_
      show Go p.tables e below G (T1.setTop (mkF m 14 #[rv r0, .val (.double d1), sd] [(.double d1)]))
      refine Go.stp (fun t_ k_ => XS.goto X1.here hx rfl (pc0 := 14) (pc' := 18) rfl (hb hby d1_14) (by decide) (by decide) k_) ?_
      show Go p.tables e below G (T1.setTop (mkF m 18 #[rv r0, .val (.double d1), sd] [(.double d1)]))
      obtain ⟨fs, hr, hrun, hended, hW, hsame⟩ := X1.leave (v := some (.double d1)) (fun h => by rw [Bd.returns] at h; cases h)
      refine ⟨_, _, retD X1 hx Bd.returns (hb hby d1_18) hr, hrun, hended, hG _ _ _ ?_ ⟨⟨_, rfl⟩, hW, hsame.mono (by decide) (by decide)⟩⟩
      show Q1 Z r0 d1 aW h0 n0 _ T1.heap _
      rw [e1]
      exact ⟨by simp [own_sc, hc4, hc10], N0, rfl⟩
    · refine Go.stp (fun t_ k_ => XS.ifYes X1.here hx rfl (pc0 := 10) (pc' := 17) rfl (hb hby d1_10) rfl ((if0 _ _).trans (flt hc10).2.2.2) (by decide) (by decide) k_) ?_
      show Go p.tables e below G (T1.setTop (mkF m 17 #[rv r0, .val (.double d1), sd] []))
      refine Go.stp (fun t_ k_ => XS.dconst1 X1.here hx rfl (hb hby d1_17) rfl k_) ?_
      show Go p.tables e below G (T1.setTop (mkF m 18 #[rv r0, .val (.double d1), sd] [(.double FP.dconst1)]))
      obtain ⟨fs, hr, hrun, hended, hW, hsame⟩ := X1.leave (v := some (.double FP.dconst1)) (fun h => by rw [Bd.returns] at h; cases h)
      refine ⟨_, _, retD X1 hx Bd.returns (hb hby d1_18) hr, hrun, hended, hG _ _ _ ?_ ⟨⟨_, rfl⟩, hW, hsame.mono (by decide) (by decide)⟩⟩
      show Q1 Z r0 d1 aW h0 n0 _ T1.heap _
      rw [e1]
      exact ⟨by simp [own_sc, hc4, hc10], N0, rfl⟩
  · refine Go.stp (fun t_ k_ => Jvm.RoadKit.acmp (g := (mkF m 4 #[rv r0, .val (.double d1), sd] [(.ref aW), (.ref r0)])) X1 hx rfl rfl rfl (pc0 := 4) (pc' := 17) (same := false) rfl (hb hby d1_4) rfl (decide_eq_false (fun q => hc4 (Value.ref.inj q))) (by decide) (by decide) k_) ?_
    show Go p.tables e below G (T1.setTop (mkF m 17 #[rv r0, .val (.double d1), sd] []))
    refine Go.stp (fun t_ k_ => XS.dconst1 X1.here hx rfl (hb hby d1_17) rfl k_) ?_
    show Go p.tables e below G (T1.setTop (mkF m 18 #[rv r0, .val (.double d1), sd] [(.double FP.dconst1)]))
    obtain ⟨fs, hr, hrun, hended, hW, hsame⟩ := X1.leave (v := some (.double FP.dconst1)) (fun h => by rw [Bd.returns] at h; cases h)
    refine ⟨_, _, retD X1 hx Bd.returns (hb hby d1_18) hr, hrun, hended, hG _ _ _ ?_ ⟨⟨_, rfl⟩, hW, hsame.mono (by decide) (by decide)⟩⟩
    show Q1 Z r0 d1 aW h0 n0 _ T1.heap _
    rw [e1]
    exact ⟨by simp [own_sc, hc4], N0, rfl⟩
theorem pn_0 : plainName "com/example/federated_text_search/federatedtextsearch/lsi/ColumnsScalePinLaw" = true := by first | (simp [plainName, overriddenIn]; done) | decide +kernel
theorem ef_0 (m : MethodId) (p0 : Int32) (p1 : Int32) : entryFrame m #[(.int p0), (.int p1)] maxLocals = mkF m 0 #[iv p0, iv p1, un, un, un, un, un, un] [] := by first | (simp [entryFrame, mkF, argsToLocals, Value.category, iv, rv, lv, un, sd, maxLocals]; done) | rfl
def Q0 (Z : State) (p0 : Int32) (p1 : Int32) (aU : Addr) (aW : Addr) (h0 : Heap) (n0 : Nat) (v : Option Value) (h : Heap) (L : List Loc) : Prop := v = some (.int (1 : Int32)) ∧ Fr n0 L
set_option maxRecDepth 65536 in
set_option maxHeartbeats 40000000 in
theorem rm0 (l : Launch) (Z : State) (a0 : Array Value) (hw : ∀ d ∈ tables_1, d.before a0 Z = true) (ws : List Jvm.Cond) (p0 : Int32) (p1 : Int32) (aU : Addr) (aW : Addr) (h0 : Heap) (n0 : Nat) (Z0 : n0 ≤ h0.size) (S_aU : Sta Z h0 "com/example/federated_text_search/federatedtextsearch/lsi/Columns" "UNIT" "Lcom/example/federated_text_search/federatedtextsearch/lsi/Columns;" (.ref aU)) (S_aW : Sta Z h0 "com/example/federated_text_search/federatedtextsearch/lsi/Columns" "WEIGHTED" "Lcom/example/federated_text_search/federatedtextsearch/lsi/Columns;" (.ref aW)) (E_aU : Exa Z h0 aU "com/example/federated_text_search/federatedtextsearch/lsi/Columns") (E_aW : Exa Z h0 aW "com/example/federated_text_search/federatedtextsearch/lsi/Columns") (ne_aU_aW : aU ≠ aW) :
    MetFree l x (head1 (Jvm.Cond.code x code maxLocals ret :: ws) room_1) (fun a U => a = #[(.int p0), (.int p1)] ∧ Z.Warmed39 U.vm ∧ U.heap = h0) (fun _ _ _ _ _ => True) (fun _ U o U' => ∃ v L, o = .returned v ∧ Q0 Z p0 p1 aU aW h0 n0 v U'.heap L ∧ FrameEnd U o U' L room_1.cells room_1.slots) := by
  refine MetFree.of_bodySF (plainFor_of_name pn_0) hisR ?_
  intro p e s m args below meth c s₁ Bd hml0 hP hK
  obtain ⟨rfl, hZ, hh⟩ := hP
  have hx := Bd.exec
  have hby := Bd.bytes
  have hml : c.maxLocals = 8 := hml0
  have hown : s.vm.findClass "com/example/federated_text_search/federatedtextsearch/lsi/ColumnsScalePinLaw" = some m.cls := findClass_of_methodNamed Bd.named
  have hnm := (name_of_methodNamed Bd.named Bd.method).1
  have X0 : Stand p l e room_1 s m #[(.int p0), (.int p1)] below meth c s₁ [] 0 0 := Stand.of_body Bd
  have e0 : s₁.heap = h0 := by rw [← hh, Bd.state]; rfl
  have N0 := Fr.nil n0
  suffices HH : ∀ G : Outcome → State → Prop, (∀ v L U', Q0 Z p0 p1 aU aW h0 n0 v U'.heap L → FrameEnd s (.returned v) U' L room_1.cells room_1.slots → G (.returned v) U') → Go p.tables e below G (s₁.setTop (mkF m 0 #[iv p0, iv p1, un, un, un, un, un, un] [])) by
    obtain ⟨s2, o, h1, h2, h3, h4⟩ := HH (fun o U' => ∃ v L, o = .returned v ∧ Q0 Z p0 p1 aU aW h0 n0 v U'.heap L ∧ FrameEnd s o U' L room_1.cells room_1.slots) (fun v L U' q f => ⟨v, L, rfl, q, f⟩)
    exact ⟨s2, o, castTop (ef_0 m p0 p1) h1, h2, h3, h4⟩
  intro G hG
  show Go p.tables e below G (s₁.setTop (mkF m 0 #[iv p0, iv p1, un, un, un, un, un, un] []))
  refine Go.stp (fun t_ k_ => XS.iloadN X0.here hx rfl (hb hby at_0) rfl k_) ?_
  show Go p.tables e below G (s₁.setTop (mkF m 1 #[iv p0, iv p1, un, un, un, un, un, un] [(.int p0)]))
  refine Go.stp (fun t_ k_ => XS.iconst X0.here hx rfl (hb hby at_1) k_) ?_
  show Go p.tables e below G (s₁.setTop (mkF m 2 #[iv p0, iv p1, un, un, un, un, un, un] [(.int (1 : Int32)), (.int p0)]))
  refine Go.stp (fun t_ k_ => XS.iand X0.here hx rfl (hb hby at_2) rfl k_) ?_
  show Go p.tables e below G (s₁.setTop (mkF m 3 #[iv p0, iv p1, un, un, un, un, un, un] [(.int (p0 &&& (1 : Int32)))]))
  by_cases hc3 : (p0 &&& (1 : Int32)) = (0 : Int32)
  · refine Go.stp (fun t_ k_ => XS.ifYes X0.here hx rfl (pc0 := 3) (pc' := 10) rfl (hb hby at_3) rfl ((if0 _ _).trans (teq hc3).1) (by decide) (by decide) k_) ?_
    show Go p.tables e below G (s₁.setTop (mkF m 10 #[iv p0, iv p1, un, un, un, un, un, un] []))
    refine Go.stp (fun t_ k_ => XS.iconst X0.here hx rfl (hb hby at_10) k_) ?_
    show Go p.tables e below G (s₁.setTop (mkF m 11 #[iv p0, iv p1, un, un, un, un, un, un] [(.int (0 : Int32))]))
    refine Go.stp (fun t_ k_ => XS.istoreN X0.here hx rfl (hb hby at_11) rfl (l' := #[iv p0, iv p1, iv (0 : Int32), un, un, un, un, un]) rfl k_) ?_
    show Go p.tables e below G (s₁.setTop (mkF m 12 #[iv p0, iv p1, iv (0 : Int32), un, un, un, un, un] []))
    refine Go.stp (fun t_ k_ => XS.iloadN X0.here hx rfl (hb hby at_12) rfl k_) ?_
    show Go p.tables e below G (s₁.setTop (mkF m 13 #[iv p0, iv p1, iv (0 : Int32), un, un, un, un, un] [(.int (0 : Int32))]))
    refine Go.stp (fun t_ k_ => XS.ifYes X0.here hx rfl (pc0 := 13) (pc' := 22) rfl (hb hby at_13) rfl ((if0 _ _).trans (teq (by decide : (0 : Int32) = (0 : Int32))).1) (by decide) (by decide) k_) ?_
    show Go p.tables e below G (s₁.setTop (mkF m 22 #[iv p0, iv p1, iv (0 : Int32), un, un, un, un, un] []))
    obtain ⟨T1, X1, e1, st1⟩ := getS2 X0 hx hZ hown (host := "") (Or.inl (hw _ (List.mem_of_getElem? (i := 0) rfl))) Via.refl e0 S_aU (g := (mkF m 22 #[iv p0, iv p1, iv (0 : Int32), un, un, un, un, un] [])) rfl (hb hby at_22)
    refine Go.stp (fun t_ k_ => st1 t_ k_) ?_
    show Go p.tables e below G (T1.setTop (mkF m 25 #[iv p0, iv p1, iv (0 : Int32), un, un, un, un, un] [(.ref aU)]))
    refine Go.stp (fun t_ k_ => XS.astoreN X1.here hx rfl (hb hby at_25) rfl rfl (l' := #[iv p0, iv p1, iv (0 : Int32), rv aU, un, un, un, un]) rfl k_) ?_
    show Go p.tables e below G (T1.setTop (mkF m 26 #[iv p0, iv p1, iv (0 : Int32), rv aU, un, un, un, un] []))
    refine Go.stp (fun t_ k_ => XS.iloadN X1.here hx rfl (hb hby at_26) rfl k_) ?_
    show Go p.tables e below G (T1.setTop (mkF m 27 #[iv p0, iv p1, iv (0 : Int32), rv aU, un, un, un, un] [(.int p1)]))
    refine Go.stp (fun t_ k_ => XS.i2dS X1.here hx rfl (hb hby at_27) rfl rfl k_) ?_
    show Go p.tables e below G (T1.setTop (mkF m 28 #[iv p0, iv p1, iv (0 : Int32), rv aU, un, un, un, un] [(.double (FP.i2d p1))]))
    refine Go.stp (fun t_ k_ => X1.ldc2DoubleC hx hown (mvT hZ (hw _ (List.mem_of_getElem? (i := 3) rfl))) (g := (mkF m 28 #[iv p0, iv p1, iv (0 : Int32), rv aU, un, un, un, un] [(.double (FP.i2d p1))])) rfl (hb hby at_28) t_ k_) ?_
    show Go p.tables e below G (T1.setTop (mkF m 31 #[iv p0, iv p1, iv (0 : Int32), rv aU, un, un, un, un] [(.double (4625196817309499392 : UInt64)), (.double (FP.i2d p1))]))
    refine Go.stp (fun t_ k_ => XS.ddivS X1.here hx rfl (hb hby at_31) rfl (own_nn p1) rfl k_) ?_
    show Go p.tables e below G (T1.setTop (mkF m 32 #[iv p0, iv p1, iv (0 : Int32), rv aU, un, un, un, un] [(.double (FP.ddiv (FP.i2d p1) (4625196817309499392 : UInt64)))]))
    refine Go.stp (fun t_ k_ => XS.dstore X1.here hx rfl (hb hby at_32) rfl (l' := #[iv p0, iv p1, iv (0 : Int32), rv aU, .val (.double (FP.ddiv (FP.i2d p1) (4625196817309499392 : UInt64))), sd, un, un]) rfl k_) ?_
    show Go p.tables e below G (T1.setTop (mkF m 34 #[iv p0, iv p1, iv (0 : Int32), rv aU, .val (.double (FP.ddiv (FP.i2d p1) (4625196817309499392 : UInt64))), sd, un, un] []))
    suffices K2 : ∀ len : UInt64, len = (FP.ddiv (FP.i2d p1) (4625196817309499392 : UInt64)) → Go p.tables e below G (T1.setTop (mkF m 34 #[iv p0, iv p1, iv (0 : Int32), rv aU, .val (.double len), sd, un, un] [])) from K2 _ rfl
    intro len hlen
    refine Go.stp (fun t_ k_ => XS.aloadN X1.here hx rfl (hb hby at_34) rfl rfl k_) ?_
    show Go p.tables e below G (T1.setTop (mkF m 35 #[iv p0, iv p1, iv (0 : Int32), rv aU, .val (.double len), sd, un, un] [(.ref aU)]))
    refine Go.stp (fun t_ k_ => XS.dload X1.here hx rfl (hb hby at_35) rfl k_) ?_
    show Go p.tables e below G (T1.setTop (mkF m 37 #[iv p0, iv p1, iv (0 : Int32), rv aU, .val (.double len), sd, un, un] [(.double len), (.ref aU)]))
    obtain ⟨cq3, kq3, q3a, q3b, q3c⟩ := isOf hZ e1 E_aU
    obtain ⟨_, _, ⟨T3, L3, k3, n3⟩, -, X3, ⟨Lc3, hQ3, l3, y3, z3⟩, st3⟩ := X1.virtualBack hx (y := (⟨"com/example/federated_text_search/federatedtextsearch/lsi/Columns", "scale", "(D)D"⟩ : MethodName)) (z := (⟨"com/example/federated_text_search/federatedtextsearch/lsi/Columns", "scale", "(D)D"⟩ : MethodName)) hown (mvT hZ (hw _ (List.mem_of_getElem? (i := 4) rfl))) (mvT hZ (hw _ (List.mem_of_getElem? (i := 5) rfl))) (notFace_of_selects (args := #[]) (mvT hZ (hw _ (List.mem_of_getElem? (i := 7) rfl)))) (mvT hZ (hw _ (List.mem_of_getElem? (i := 7) rfl))) (mvT hZ (hw _ (List.mem_of_getElem? (i := 6) rfl))) (by decide) (backOf (W := 0) (rm1 l Z a0 hw [] aU len aW h0 n0 Z0 S_aW) hZ (hw _ (List.mem_of_getElem? (i := 8) rfl)) (hw _ (List.mem_of_getElem? (i := 1) rfl)) (by decide) (by decide)) q3a q3c (g := (mkF m 37 #[iv p0, iv p1, iv (0 : Int32), rv aU, .val (.double len), sd, un, un] [(.double len), (.ref aU)])) rfl (by rw [hml]; rfl) (Steps.refl _) (argsL := [(.double len)]) (rest := []) (lenOf pd_0 rfl) rfl (by show 2 * 0 + _ ≤ _; exact Nat.le_of_eq rfl) (hb hby at_37) (fun _ _ => ⟨rfl, e1, (by decide : 0 + 0 ≤ _), (by decide : 0 + 0 ≤ _)⟩)
    dsimp only [Pt.U, Pt.locs, Pt.cells, Pt.slots] at X3 l3 y3 z3 st3 hQ3
    subst l3 y3 z3
    obtain ⟨rfl, Nq3, e3⟩ := hQ3
    have N3 := Fr.app N0 Nq3
    refine Go.stp (fun t_ k_ => st3.trans k_) ?_
    show Go p.tables e below G (T3.setTop (mkF m 40 #[iv p0, iv p1, iv (0 : Int32), rv aU, .val (.double len), sd, un, un] [(.double (own_sc aU aW len))]))
    refine Go.stp (fun t_ k_ => XS.dstore X3.here hx rfl (hb hby at_40) rfl (l' := #[iv p0, iv p1, iv (0 : Int32), rv aU, .val (.double len), sd, .val (.double (own_sc aU aW len)), sd]) rfl k_) ?_
    show Go p.tables e below G (T3.setTop (mkF m 42 #[iv p0, iv p1, iv (0 : Int32), rv aU, .val (.double len), sd, .val (.double (own_sc aU aW len)), sd] []))
    refine Go.stp (fun t_ k_ => XS.iloadN X3.here hx rfl (hb hby at_42) rfl k_) ?_
    show Go p.tables e below G (T3.setTop (mkF m 43 #[iv p0, iv p1, iv (0 : Int32), rv aU, .val (.double len), sd, .val (.double (own_sc aU aW len)), sd] [(.int (0 : Int32))]))
    refine Go.stp (fun t_ k_ => XS.ifNo X3.here hx rfl (hb hby at_43) rfl ((if0 _ _).trans (teq (by decide : (0 : Int32) = (0 : Int32))).2) k_) ?_
    show Go p.tables e below G (T3.setTop (mkF m 46 #[iv p0, iv p1, iv (0 : Int32), rv aU, .val (.double len), sd, .val (.double (own_sc aU aW len)), sd] []))
    refine Go.stp (fun t_ k_ => XS.dload X3.here hx rfl (hb hby at_46) rfl k_) ?_
    show Go p.tables e below G (T3.setTop (mkF m 48 #[iv p0, iv p1, iv (0 : Int32), rv aU, .val (.double len), sd, .val (.double (own_sc aU aW len)), sd] [(.double (own_sc aU aW len))]))
    refine Go.stp (fun t_ k_ => XS.dconst1 X3.here hx rfl (hb hby at_48) rfl k_) ?_
    show Go p.tables e below G (T3.setTop (mkF m 49 #[iv p0, iv p1, iv (0 : Int32), rv aU, .val (.double len), sd, .val (.double (own_sc aU aW len)), sd] [(.double FP.dconst1), (.double (own_sc aU aW len))]))
    refine Go.stp (fun t_ k_ => XS.dcmpS X3.here hx rfl (hb hby at_49) rfl rfl k_) ?_
    show Go p.tables e below G (T3.setTop (mkF m 50 #[iv p0, iv p1, iv (0 : Int32), rv aU, .val (.double len), sd, .val (.double (own_sc aU aW len)), sd] [(.int (cmpValue (FP.dcmp (own_sc aU aW len) FP.dconst1) .l))]))
    have hd50 : (cmpValue (FP.dcmp (own_sc aU aW len) FP.dconst1) .l) = (0 : Int32) := (by rw [own_scu aU aW len ne_aU_aW]; exact own_c1)
    refine Go.stp (fun t_ k_ => XS.ifNo X3.here hx rfl (hb hby at_50) rfl ((if0 _ _).trans (teq hd50).2) k_) ?_
    show Go p.tables e below G (T3.setTop (mkF m 53 #[iv p0, iv p1, iv (0 : Int32), rv aU, .val (.double len), sd, .val (.double (own_sc aU aW len)), sd] []))
    refine Go.stp (fun t_ k_ => XS.iconst X3.here hx rfl (hb hby at_53) k_) ?_
    show Go p.tables e below G (T3.setTop (mkF m 54 #[iv p0, iv p1, iv (0 : Int32), rv aU, .val (.double len), sd, .val (.double (own_sc aU aW len)), sd] [(.int (1 : Int32))]))
    refine Go.stp (fun t_ k_ => XS.goto X3.here hx rfl (pc0 := 54) (pc' := 58) rfl (hb hby at_54) (by decide) (by decide) k_) ?_
    show Go p.tables e below G (T3.setTop (mkF m 58 #[iv p0, iv p1, iv (0 : Int32), rv aU, .val (.double len), sd, .val (.double (own_sc aU aW len)), sd] [(.int (1 : Int32))]))
    obtain ⟨fs, hr, hrun, hended, hW, hsame⟩ := X3.leave (v := some (.int (1 : Int32))) (fun h => by rw [Bd.returns] at h; cases h)
    refine ⟨_, _, retN X3 hx (t := .boolean) Bd.returns (by simp) (hb hby at_58) hr, hrun, hended, hG _ _ _ ?_ ⟨⟨_, rfl⟩, hW, hsame.mono (by decide) (by decide)⟩⟩
    show Q0 Z p0 p1 aU aW h0 n0 _ T3.heap _
    rw [e3]
    exact ⟨rfl, N3⟩
  · refine Go.stp (fun t_ k_ => XS.ifNo X0.here hx rfl (hb hby at_3) rfl ((if0 _ _).trans (feq hc3).1) k_) ?_
    show Go p.tables e below G (s₁.setTop (mkF m 6 #[iv p0, iv p1, un, un, un, un, un, un] []))
    refine Go.stp (fun t_ k_ => XS.iconst X0.here hx rfl (hb hby at_6) k_) ?_
    show Go p.tables e below G (s₁.setTop (mkF m 7 #[iv p0, iv p1, un, un, un, un, un, un] [(.int (1 : Int32))]))
    refine Go.stp (fun t_ k_ => XS.goto X0.here hx rfl (pc0 := 7) (pc' := 11) rfl (hb hby at_7) (by decide) (by decide) k_) ?_
    show Go p.tables e below G (s₁.setTop (mkF m 11 #[iv p0, iv p1, un, un, un, un, un, un] [(.int (1 : Int32))]))
    refine Go.stp (fun t_ k_ => XS.istoreN X0.here hx rfl (hb hby at_11) rfl (l' := #[iv p0, iv p1, iv (1 : Int32), un, un, un, un, un]) rfl k_) ?_
    show Go p.tables e below G (s₁.setTop (mkF m 12 #[iv p0, iv p1, iv (1 : Int32), un, un, un, un, un] []))
    refine Go.stp (fun t_ k_ => XS.iloadN X0.here hx rfl (hb hby at_12) rfl k_) ?_
    show Go p.tables e below G (s₁.setTop (mkF m 13 #[iv p0, iv p1, iv (1 : Int32), un, un, un, un, un] [(.int (1 : Int32))]))
    refine Go.stp (fun t_ k_ => XS.ifNo X0.here hx rfl (hb hby at_13) rfl ((if0 _ _).trans (feq (by decide : ¬ ((1 : Int32) = (0 : Int32)))).1) k_) ?_
    show Go p.tables e below G (s₁.setTop (mkF m 16 #[iv p0, iv p1, iv (1 : Int32), un, un, un, un, un] []))
    obtain ⟨T4, X4, e4, st4⟩ := getS2 X0 hx hZ hown (host := "") (Or.inl (hw _ (List.mem_of_getElem? (i := 11) rfl))) Via.refl e0 S_aW (g := (mkF m 16 #[iv p0, iv p1, iv (1 : Int32), un, un, un, un, un] [])) rfl (hb hby at_16)
    refine Go.stp (fun t_ k_ => st4 t_ k_) ?_
    show Go p.tables e below G (T4.setTop (mkF m 19 #[iv p0, iv p1, iv (1 : Int32), un, un, un, un, un] [(.ref aW)]))
    refine Go.stp (fun t_ k_ => XS.goto X4.here hx rfl (pc0 := 19) (pc' := 25) rfl (hb hby at_19) (by decide) (by decide) k_) ?_
    show Go p.tables e below G (T4.setTop (mkF m 25 #[iv p0, iv p1, iv (1 : Int32), un, un, un, un, un] [(.ref aW)]))
    refine Go.stp (fun t_ k_ => XS.astoreN X4.here hx rfl (hb hby at_25) rfl rfl (l' := #[iv p0, iv p1, iv (1 : Int32), rv aW, un, un, un, un]) rfl k_) ?_
    show Go p.tables e below G (T4.setTop (mkF m 26 #[iv p0, iv p1, iv (1 : Int32), rv aW, un, un, un, un] []))
    refine Go.stp (fun t_ k_ => XS.iloadN X4.here hx rfl (hb hby at_26) rfl k_) ?_
    show Go p.tables e below G (T4.setTop (mkF m 27 #[iv p0, iv p1, iv (1 : Int32), rv aW, un, un, un, un] [(.int p1)]))
    refine Go.stp (fun t_ k_ => XS.i2dS X4.here hx rfl (hb hby at_27) rfl rfl k_) ?_
    show Go p.tables e below G (T4.setTop (mkF m 28 #[iv p0, iv p1, iv (1 : Int32), rv aW, un, un, un, un] [(.double (FP.i2d p1))]))
    refine Go.stp (fun t_ k_ => X4.ldc2DoubleC hx hown (mvT hZ (hw _ (List.mem_of_getElem? (i := 3) rfl))) (g := (mkF m 28 #[iv p0, iv p1, iv (1 : Int32), rv aW, un, un, un, un] [(.double (FP.i2d p1))])) rfl (hb hby at_28) t_ k_) ?_
    show Go p.tables e below G (T4.setTop (mkF m 31 #[iv p0, iv p1, iv (1 : Int32), rv aW, un, un, un, un] [(.double (4625196817309499392 : UInt64)), (.double (FP.i2d p1))]))
    refine Go.stp (fun t_ k_ => XS.ddivS X4.here hx rfl (hb hby at_31) rfl (own_nn p1) rfl k_) ?_
    show Go p.tables e below G (T4.setTop (mkF m 32 #[iv p0, iv p1, iv (1 : Int32), rv aW, un, un, un, un] [(.double (FP.ddiv (FP.i2d p1) (4625196817309499392 : UInt64)))]))
    refine Go.stp (fun t_ k_ => XS.dstore X4.here hx rfl (hb hby at_32) rfl (l' := #[iv p0, iv p1, iv (1 : Int32), rv aW, .val (.double (FP.ddiv (FP.i2d p1) (4625196817309499392 : UInt64))), sd, un, un]) rfl k_) ?_
    show Go p.tables e below G (T4.setTop (mkF m 34 #[iv p0, iv p1, iv (1 : Int32), rv aW, .val (.double (FP.ddiv (FP.i2d p1) (4625196817309499392 : UInt64))), sd, un, un] []))
    suffices K5 : ∀ len : UInt64, len = (FP.ddiv (FP.i2d p1) (4625196817309499392 : UInt64)) → Go p.tables e below G (T4.setTop (mkF m 34 #[iv p0, iv p1, iv (1 : Int32), rv aW, .val (.double len), sd, un, un] [])) from K5 _ rfl
    intro len hlen
    refine Go.stp (fun t_ k_ => XS.aloadN X4.here hx rfl (hb hby at_34) rfl rfl k_) ?_
    show Go p.tables e below G (T4.setTop (mkF m 35 #[iv p0, iv p1, iv (1 : Int32), rv aW, .val (.double len), sd, un, un] [(.ref aW)]))
    refine Go.stp (fun t_ k_ => XS.dload X4.here hx rfl (hb hby at_35) rfl k_) ?_
    show Go p.tables e below G (T4.setTop (mkF m 37 #[iv p0, iv p1, iv (1 : Int32), rv aW, .val (.double len), sd, un, un] [(.double len), (.ref aW)]))
    obtain ⟨cq6, kq6, q6a, q6b, q6c⟩ := isOf hZ e4 E_aW
    obtain ⟨_, _, ⟨T6, L6, k6, n6⟩, -, X6, ⟨Lc6, hQ6, l6, y6, z6⟩, st6⟩ := X4.virtualBack hx (y := (⟨"com/example/federated_text_search/federatedtextsearch/lsi/Columns", "scale", "(D)D"⟩ : MethodName)) (z := (⟨"com/example/federated_text_search/federatedtextsearch/lsi/Columns", "scale", "(D)D"⟩ : MethodName)) hown (mvT hZ (hw _ (List.mem_of_getElem? (i := 4) rfl))) (mvT hZ (hw _ (List.mem_of_getElem? (i := 5) rfl))) (notFace_of_selects (args := #[]) (mvT hZ (hw _ (List.mem_of_getElem? (i := 7) rfl)))) (mvT hZ (hw _ (List.mem_of_getElem? (i := 7) rfl))) (mvT hZ (hw _ (List.mem_of_getElem? (i := 6) rfl))) (by decide) (backOf (W := 0) (rm1 l Z a0 hw [] aW len aW h0 n0 Z0 S_aW) hZ (hw _ (List.mem_of_getElem? (i := 8) rfl)) (hw _ (List.mem_of_getElem? (i := 1) rfl)) (by decide) (by decide)) q6a q6c (g := (mkF m 37 #[iv p0, iv p1, iv (1 : Int32), rv aW, .val (.double len), sd, un, un] [(.double len), (.ref aW)])) rfl (by rw [hml]; rfl) (Steps.refl _) (argsL := [(.double len)]) (rest := []) (lenOf pd_0 rfl) rfl (by show 2 * 0 + _ ≤ _; exact Nat.le_of_eq rfl) (hb hby at_37) (fun _ _ => ⟨rfl, e4, (by decide : 0 + 0 ≤ _), (by decide : 0 + 0 ≤ _)⟩)
    dsimp only [Pt.U, Pt.locs, Pt.cells, Pt.slots] at X6 l6 y6 z6 st6 hQ6
    subst l6 y6 z6
    obtain ⟨rfl, Nq6, e6⟩ := hQ6
    have N6 := Fr.app N0 Nq6
    refine Go.stp (fun t_ k_ => st6.trans k_) ?_
    show Go p.tables e below G (T6.setTop (mkF m 40 #[iv p0, iv p1, iv (1 : Int32), rv aW, .val (.double len), sd, un, un] [(.double (own_sc aW aW len))]))
    refine Go.stp (fun t_ k_ => XS.dstore X6.here hx rfl (hb hby at_40) rfl (l' := #[iv p0, iv p1, iv (1 : Int32), rv aW, .val (.double len), sd, .val (.double (own_sc aW aW len)), sd]) rfl k_) ?_
    show Go p.tables e below G (T6.setTop (mkF m 42 #[iv p0, iv p1, iv (1 : Int32), rv aW, .val (.double len), sd, .val (.double (own_sc aW aW len)), sd] []))
    refine Go.stp (fun t_ k_ => XS.iloadN X6.here hx rfl (hb hby at_42) rfl k_) ?_
    show Go p.tables e below G (T6.setTop (mkF m 43 #[iv p0, iv p1, iv (1 : Int32), rv aW, .val (.double len), sd, .val (.double (own_sc aW aW len)), sd] [(.int (1 : Int32))]))
    refine Go.stp (fun t_ k_ => XS.ifYes X6.here hx rfl (pc0 := 43) (pc' := 59) rfl (hb hby at_43) rfl ((if0 _ _).trans (feq (by decide : ¬ ((1 : Int32) = (0 : Int32)))).2) (by decide) (by decide) k_) ?_
    show Go p.tables e below G (T6.setTop (mkF m 59 #[iv p0, iv p1, iv (1 : Int32), rv aW, .val (.double len), sd, .val (.double (own_sc aW aW len)), sd] []))
    refine Go.stp (fun t_ k_ => XS.iloadN X6.here hx rfl (hb hby at_59) rfl k_) ?_
    show Go p.tables e below G (T6.setTop (mkF m 60 #[iv p0, iv p1, iv (1 : Int32), rv aW, .val (.double len), sd, .val (.double (own_sc aW aW len)), sd] [(.int p1)]))
    by_cases hc60 : (0 : Int32) < p1
    · refine Go.stp (fun t_ k_ => XS.ifNo X6.here hx rfl (hb hby at_60) rfl ((if0 _ _).trans (tlt hc60).2.2.2) k_) ?_
      show Go p.tables e below G (T6.setTop (mkF m 63 #[iv p0, iv p1, iv (1 : Int32), rv aW, .val (.double len), sd, .val (.double (own_sc aW aW len)), sd] []))
      refine Go.stp (fun t_ k_ => XS.dload X6.here hx rfl (hb hby at_63) rfl k_) ?_
      show Go p.tables e below G (T6.setTop (mkF m 65 #[iv p0, iv p1, iv (1 : Int32), rv aW, .val (.double len), sd, .val (.double (own_sc aW aW len)), sd] [(.double (own_sc aW aW len))]))
      refine Go.stp (fun t_ k_ => XS.dload X6.here hx rfl (hb hby at_65) rfl k_) ?_
      show Go p.tables e below G (T6.setTop (mkF m 67 #[iv p0, iv p1, iv (1 : Int32), rv aW, .val (.double len), sd, .val (.double (own_sc aW aW len)), sd] [(.double len), (.double (own_sc aW aW len))]))
      refine Go.stp (fun t_ k_ => XS.dcmpS X6.here hx rfl (hb hby at_67) rfl rfl k_) ?_
      show Go p.tables e below G (T6.setTop (mkF m 68 #[iv p0, iv p1, iv (1 : Int32), rv aW, .val (.double len), sd, .val (.double (own_sc aW aW len)), sd] [(.int (cmpValue (FP.dcmp (own_sc aW aW len) len) .l))]))
      have hd68 : (cmpValue (FP.dcmp (own_sc aW aW len) len) .l) = (0 : Int32) := (by rw [hlen, show FP.ddiv (FP.i2d p1) (4625196817309499392 : UInt64) = own_L p1 from rfl, own_scp aW p1 hc60]; exact dcmpV_self (own_nn p1) _)
      refine Go.stp (fun t_ k_ => XS.ifNo X6.here hx rfl (hb hby at_68) rfl ((if0 _ _).trans (teq hd68).2) k_) ?_
      show Go p.tables e below G (T6.setTop (mkF m 71 #[iv p0, iv p1, iv (1 : Int32), rv aW, .val (.double len), sd, .val (.double (own_sc aW aW len)), sd] []))
      refine Go.stp (fun t_ k_ => XS.iconst X6.here hx rfl (hb hby at_71) k_) ?_
      show Go p.tables e below G (T6.setTop (mkF m 72 #[iv p0, iv p1, iv (1 : Int32), rv aW, .val (.double len), sd, .val (.double (own_sc aW aW len)), sd] [(.int (1 : Int32))]))
      refine Go.stp (fun t_ k_ => XS.goto X6.here hx rfl (pc0 := 72) (pc' := 76) rfl (hb hby at_72) (by decide) (by decide) k_) ?_
      show Go p.tables e below G (T6.setTop (mkF m 76 #[iv p0, iv p1, iv (1 : Int32), rv aW, .val (.double len), sd, .val (.double (own_sc aW aW len)), sd] [(.int (1 : Int32))]))
      obtain ⟨fs, hr, hrun, hended, hW, hsame⟩ := X6.leave (v := some (.int (1 : Int32))) (fun h => by rw [Bd.returns] at h; cases h)
      refine ⟨_, _, retN X6 hx (t := .boolean) Bd.returns (by simp) (hb hby at_76) hr, hrun, hended, hG _ _ _ ?_ ⟨⟨_, rfl⟩, hW, hsame.mono (by decide) (by decide)⟩⟩
      show Q0 Z p0 p1 aU aW h0 n0 _ T6.heap _
      rw [e6]
      exact ⟨rfl, N6⟩
    · refine Go.stp (fun t_ k_ => XS.ifYes X6.here hx rfl (pc0 := 60) (pc' := 77) rfl (hb hby at_60) rfl ((if0 _ _).trans (flt hc60).2.2.2) (by decide) (by decide) k_) ?_
      show Go p.tables e below G (T6.setTop (mkF m 77 #[iv p0, iv p1, iv (1 : Int32), rv aW, .val (.double len), sd, .val (.double (own_sc aW aW len)), sd] []))
      refine Go.stp (fun t_ k_ => XS.dload X6.here hx rfl (hb hby at_77) rfl k_) ?_
      show Go p.tables e below G (T6.setTop (mkF m 79 #[iv p0, iv p1, iv (1 : Int32), rv aW, .val (.double len), sd, .val (.double (own_sc aW aW len)), sd] [(.double (own_sc aW aW len))]))
      refine Go.stp (fun t_ k_ => XS.dconst1 X6.here hx rfl (hb hby at_79) rfl k_) ?_
      show Go p.tables e below G (T6.setTop (mkF m 80 #[iv p0, iv p1, iv (1 : Int32), rv aW, .val (.double len), sd, .val (.double (own_sc aW aW len)), sd] [(.double FP.dconst1), (.double (own_sc aW aW len))]))
      refine Go.stp (fun t_ k_ => XS.dcmpS X6.here hx rfl (hb hby at_80) rfl rfl k_) ?_
      show Go p.tables e below G (T6.setTop (mkF m 81 #[iv p0, iv p1, iv (1 : Int32), rv aW, .val (.double len), sd, .val (.double (own_sc aW aW len)), sd] [(.int (cmpValue (FP.dcmp (own_sc aW aW len) FP.dconst1) .l))]))
      have hd81 : (cmpValue (FP.dcmp (own_sc aW aW len) FP.dconst1) .l) = (0 : Int32) := (by rw [hlen, show FP.ddiv (FP.i2d p1) (4625196817309499392 : UInt64) = own_L p1 from rfl, own_scn aW p1 hc60]; exact own_c1)
      refine Go.stp (fun t_ k_ => XS.ifNo X6.here hx rfl (hb hby at_81) rfl ((if0 _ _).trans (teq hd81).2) k_) ?_
      show Go p.tables e below G (T6.setTop (mkF m 84 #[iv p0, iv p1, iv (1 : Int32), rv aW, .val (.double len), sd, .val (.double (own_sc aW aW len)), sd] []))
      refine Go.stp (fun t_ k_ => XS.iconst X6.here hx rfl (hb hby at_84) k_) ?_
      show Go p.tables e below G (T6.setTop (mkF m 85 #[iv p0, iv p1, iv (1 : Int32), rv aW, .val (.double len), sd, .val (.double (own_sc aW aW len)), sd] [(.int (1 : Int32))]))
      refine Go.stp (fun t_ k_ => XS.goto X6.here hx rfl (pc0 := 85) (pc' := 89) rfl (hb hby at_85) (by decide) (by decide) k_) ?_
      show Go p.tables e below G (T6.setTop (mkF m 89 #[iv p0, iv p1, iv (1 : Int32), rv aW, .val (.double len), sd, .val (.double (own_sc aW aW len)), sd] [(.int (1 : Int32))]))
      obtain ⟨fs, hr, hrun, hended, hW, hsame⟩ := X6.leave (v := some (.int (1 : Int32))) (fun h => by rw [Bd.returns] at h; cases h)
      refine ⟨_, _, retN X6 hx (t := .boolean) Bd.returns (by simp) (hb hby at_89) hr, hrun, hended, hG _ _ _ ?_ ⟨⟨_, rfl⟩, hW, hsame.mono (by decide) (by decide)⟩⟩
      show Q0 Z p0 p1 aU aW h0 n0 _ T6.heap _
      rw [e6]
      exact ⟨rfl, N6⟩
set_option maxRecDepth 65536 in
set_option maxHeartbeats 40000000 in
theorem comes_1 {Post : Tables → Env → Array Value → State → Outcome → State → Prop} (hpost : ∀ tb e args s v u, (limb_1_1.after args s (.returned v) u = true ∧ limb_1_2.after args s (.returned v) u = true ∧ True) → FrameEnd s (.returned v) u (Jvm.fieldLocs frame_1_writes args s ++ Jvm.arrayLocs frame_1_arrays args s ++ Jvm.staticLocs frame_1_statics s) 0 0 → Post tb e args s (.returned v) u) :
    ArmFor flags0 classFile x code maxLocals ret World_1 tables_1 room_1 Calls_1 rest_1 Pre_1 Post := by
  intro l hfl _ _ p e ha hc hk s m args below hf hA hF happ hP
  obtain ⟨hcalls, hrest, hpre⟩ := hP
  obtain ⟨-, -, -, hnamed, -, -, -, hat⟩ := (Spec.applies_iff hf).mp happ
  obtain ⟨hg, hn⟩ := and_e (Cond.before_iff.mp (show (Jvm.Cond.and given_1 narrow_1).before args s = true from hpre))
  obtain ⟨g1a, g1b⟩ := and_e hg
  obtain ⟨g2a, g2b⟩ := and_e g1b
  obtain ⟨w0, w1, rfl⟩ : ∃ w0 w1 : Value, args = #[w0, w1] := by
    have hs : args.size = 2 := by simpa [Cond.value, given_1] using g1a
    obtain ⟨L⟩ := args
    match L, hs with
    | [w0, w1], _ => exact ⟨w0, w1, rfl⟩
  have hw := fun d (hd : d ∈ tables_1) => atoms_spec (ws := Jvm.Cond.code x code maxLocals ret :: tables_1) hat d (List.mem_cons_of_mem _ hd)
  have hfit : Fit s := fun {y c} hc i hi => by
    obtain ⟨ha, rfl⟩ := Array.getElem?_eq_some_iff.mp hc
    have q := List.all_eq_true.mp ((Array.all_eq_true_iff_forall_mem.mp hF) _ (Array.getElem_mem ha)) i (List.mem_range.mpr hi)
    simpa [Array.getElem?_eq_getElem hi] using q
  obtain ⟨i0, ei0⟩ := is_v g2a
  obtain rfl : w0 = (.int i0) := Option.some.inj ei0
  obtain ⟨i1, ei1⟩ := is_v g2b
  obtain rfl : w1 = (.int i1) := Option.some.inj ei1
  obtain ⟨nr1a, nr1b⟩ := and_e hn
  obtain ⟨nr2a, nr2b⟩ := and_e nr1b
  obtain ⟨nr3a, nr3b⟩ := and_e nr2b
  obtain ⟨aU, ev_aU⟩ := exa_v nr1a
  have S_aU : Sta s s.heap "com/example/federated_text_search/federatedtextsearch/lsi/Columns" "UNIT" "Lcom/example/federated_text_search/federatedtextsearch/lsi/Columns;" (.ref aU) := Sta.start ev_aU (Or.inr ⟨(hw _ (List.mem_of_getElem? (i := 1) rfl)), (hw _ (List.mem_of_getElem? (i := 2) rfl))⟩)
  have E_aU : Exa s s.heap aU "com/example/federated_text_search/federatedtextsearch/lsi/Columns" := Exa.start ev_aU nr1a
  have o_aU := own_ord ev_aU nr3a
  obtain ⟨aW, ev_aW⟩ := exa_v nr2a
  have S_aW : Sta s s.heap "com/example/federated_text_search/federatedtextsearch/lsi/Columns" "WEIGHTED" "Lcom/example/federated_text_search/federatedtextsearch/lsi/Columns;" (.ref aW) := Sta.start ev_aW (Or.inr ⟨(hw _ (List.mem_of_getElem? (i := 1) rfl)), (hw _ (List.mem_of_getElem? (i := 10) rfl))⟩)
  have E_aW : Exa s s.heap aW "com/example/federated_text_search/federatedtextsearch/lsi/Columns" := Exa.start ev_aW nr2a
  have o_aW := own_ord ev_aW nr3b
  have ne_aU_aW : aU ≠ aW := own_apart o_aU o_aW (by decide)
  obtain ⟨n, o, h1, h2, h3, _, L, rfl, ⟨rfl, N⟩, hq⟩ := rm0 l s _ hw tables_1 i0 i1 aU aW s.heap s.heap.size (Nat.le_refl _) S_aU S_aW E_aU E_aW ne_aU_aW p e ha hc hk s m _ below hf ((Spec.applies_iff_loose hf).mp happ).1 ⟨rfl, State.Warmed39.refl s, rfl⟩ trivial
  refine ⟨n, _, h1, h2, h3, hpost _ _ _ _ _ _ ⟨Cond.after_iff.mpr rfl, Cond.after_iff.mpr (eq_i res_at (Term.int_eval (1)) rfl), trivial⟩ ⟨hq.1, hq.2.1, (hq.2.2.sift fun y hy => Or.inr (N y hy)).mono (by decide) (by decide)⟩⟩
theorem main_1_1 : Claimed_1_1 := comes_1 fun _ _ _ _ _ _ h hF => ⟨h.1, hF⟩
theorem main_1_2 : Claimed_1_2 := comes_1 fun _ _ _ _ _ _ h hF => ⟨h.2.1, hF⟩
end Jvm.Pilot.@@N@@
namespace Jvm.Pilot.@@N@@
open Jvm Jvm.ClassFile Sem Op Lib Jvm.Free Jvm.Stand Jvm.Pilot.@@N@@.Jvm.D
/-! MADE BY PROGRAM (witnessworld.py) out of the Statement's table words and the real class files: 12 classes; the members and pool entries that the words name. The judged class is class 1, her method 1. -/
namespace start1
open Jvm.ClassFile
def u (s : String) : CpInfo := .utf8 (stringToUtf16 s)
/-- a pool by its gaps: so many unusable entries, then the entry; so many at the end -/
def gap : Nat → List CpInfo → List CpInfo
  | 0, r => r
  | n + 1, r => .unusable :: gap n r
def poolList (es : List (Nat × CpInfo)) (last : Nat) : List CpInfo := es.foldr (fun e r => gap e.1 (e.2 :: r)) (gap last [])
def pool (es : List (Nat × CpInfo)) (last : Nat) : Array CpInfo := ⟨poolList es last⟩
def fileOf (pool : Array CpInfo) (this : Nat) (attrs : Array Attribute := #[]) (ms : Array MethodInfo := #[]) (fl : Nat := 33) (sup : Nat := 0) (ifs : Array Nat := #[]) (fds : Array FieldInfo := #[]) : ClassFile where
  minorVersion := 0
  majorVersion := 65
  constantPool := pool
  accessFlags := fl
  thisClass := this
  superClass := sup
  interfaces := ifs
  fields := fds
  methods := ms
  attributes := attrs
def plain (name : String) (sup : Option ClassId) : Class where
  name := name
  kind := .ordinary
  loader := none
  accessFlags := 33
  super := sup
  interfaces := #[]
  cf := none
  fields := #[]
  methods := #[]
  instanceTypes := #[]
  staticTypes := #[]
  resolved := #[]
  callSites := []
  init := .initialized
  statics := none
  mirror := none

def pool0 : Array CpInfo := pool [(5, u "<init>"), (0, u "()V"), (1, .class_ 10), (1, u "java/lang/Object")] 113

def k0m0 : Method := { name := "<init>", desc := "()V", sig := { parameters := [], returnType := none }, accessFlags := 1, code := none }
/-- java/lang/Object -/
def k0 : Class := { plain "java/lang/Object" none with
  accessFlags := 33
  interfaces := #[]
  cf := some (fileOf pool0 8 #[] #[{ accessFlags := 1, nameIndex := 5, descriptorIndex := 6, attributes := #[] }] 33 0 #[] #[])
  fields := #[]
  methods := #[k0m0]
  instanceTypes := #[]
  staticTypes := #[]
  resolved := Array.replicate 124 none
  statics := none }

def pool1 : Array CpInfo := pool [(2, .class_ 4), (1, u "java/lang/Object"), (0, u "<init>"), (0, u "()V"), (0, .fieldref 8 9), (0, .class_ 10), (0, .nameAndType 11 12), (0, u "com/example/federated_text_search/federatedtextsearch/lsi/Columns"), (0, u "WEIGHTED"), (0, u "Lcom/example/federated_text_search/federatedtextsearch/lsi/Columns;"), (0, .fieldref 8 14), (0, .nameAndType 15 12), (0, u "UNIT"), (0, .double 4625196817309499392), (1, .methodref 8 19), (0, .nameAndType 20 21), (0, u "scale"), (0, u "(D)D"), (0, .class_ 23), (0, u "com/example/federated_text_search/federatedtextsearch/lsi/ColumnsScalePinLaw"), (2, u "law"), (0, u "(II)Z")] 3

def k1m0 : Method := { name := "<init>", desc := "()V", sig := { parameters := [], returnType := none }, accessFlags := 1, code := none }
def k1c1 : Code := { maxStack := 4, maxLocals := 8, code := code, exceptionTable := #[], attributes := #[] }
def k1m1 : Method := { name := "law", desc := "(II)Z", sig := { parameters := [.int, .int], returnType := some .boolean }, accessFlags := 9, code := some k1c1 }
/-- com/example/federated_text_search/federatedtextsearch/lsi/ColumnsScalePinLaw -/
def k1 : Class := { plain "com/example/federated_text_search/federatedtextsearch/lsi/ColumnsScalePinLaw" (some 0) with
  accessFlags := 49
  interfaces := #[]
  cf := some (fileOf pool1 22 #[] #[{ accessFlags := 1, nameIndex := 5, descriptorIndex := 6, attributes := #[] }, { accessFlags := 9, nameIndex := 26, descriptorIndex := 27, attributes := #[] }] 49 2 #[] #[])
  fields := #[]
  methods := #[k1m0, k1m1]
  instanceTypes := #[]
  staticTypes := #[]
  resolved := Array.replicate 31 none
  statics := none }

def pool2 : Array CpInfo := pool [(1, .class_ 2), (0, u "java/lang/constant/Constable"), (0, .class_ 4), (0, u "java/lang/Object")] 6

/-- java/lang/constant/Constable -/
def k2 : Class := { plain "java/lang/constant/Constable" (some 0) with
  accessFlags := 1537
  interfaces := #[]
  cf := some (fileOf pool2 1 #[] #[] 1537 3 #[] #[])
  fields := #[]
  methods := #[]
  instanceTypes := #[]
  staticTypes := #[]
  resolved := Array.replicate 11 none
  statics := none }

def pool3 : Array CpInfo := pool [(1, .class_ 2), (0, u "java/lang/Comparable"), (0, .class_ 4), (0, u "java/lang/Object")] 7

/-- java/lang/Comparable -/
def k3 : Class := { plain "java/lang/Comparable" (some 0) with
  accessFlags := 1537
  interfaces := #[]
  cf := some (fileOf pool3 1 #[] #[] 1537 3 #[] #[])
  fields := #[]
  methods := #[]
  instanceTypes := #[]
  staticTypes := #[]
  resolved := Array.replicate 12 none
  statics := none }

def pool4 : Array CpInfo := pool [(1, .class_ 2), (0, u "java/io/Serializable"), (0, .class_ 4), (0, u "java/lang/Object")] 2

/-- java/io/Serializable -/
def k4 : Class := { plain "java/io/Serializable" (some 0) with
  accessFlags := 1537
  interfaces := #[]
  cf := some (fileOf pool4 1 #[] #[] 1537 3 #[] #[])
  fields := #[]
  methods := #[]
  instanceTypes := #[]
  staticTypes := #[]
  resolved := Array.replicate 7 none
  statics := none }

def pool5 : Array CpInfo := pool [(2, .class_ 4), (1, u "java/lang/Enum"), (0, u "name"), (0, u "Ljava/lang/String;"), (2, u "ordinal"), (0, u "I"), (1, .class_ 14), (1, u "java/lang/Object"), (4, u "hash"), (86, .class_ 108), (1, u "java/lang/Enum$EnumDesc"), (2, .class_ 112), (0, u "java/lang/constant/Constable"), (0, .class_ 114), (0, u "java/lang/Comparable"), (0, .class_ 116), (0, u "java/io/Serializable")] 87

/-- java/lang/Enum -/
def k5 : Class := { plain "java/lang/Enum" (some 0) with
  accessFlags := 1057
  interfaces := #[2, 3, 4]
  cf := some (fileOf pool5 2 #[.nestMembers #[106]] #[] 1057 12 #[111, 113, 115] #[{ accessFlags := 18, nameIndex := 5, descriptorIndex := 6, attributes := #[] }, { accessFlags := 18, nameIndex := 9, descriptorIndex := 10, attributes := #[] }, { accessFlags := 2, nameIndex := 19, descriptorIndex := 10, attributes := #[] }])
  fields := #[{ name := "name", type := (.object "java/lang/String"), accessFlags := 18, slot := 0, constantValue := 0 }, { name := "ordinal", type := .int, accessFlags := 18, slot := 1, constantValue := 0 }, { name := "hash", type := .int, accessFlags := 2, slot := 2, constantValue := 0 }]
  methods := #[]
  instanceTypes := #[(.object "java/lang/String"), .int, .int]
  staticTypes := #[]
  resolved := Array.replicate 204 none
  statics := none }

def pool6 : Array CpInfo := pool [(1, .class_ 2), (0, u "com/example/federated_text_search/federatedtextsearch/lsi/Columns"), (0, .fieldref 1 4), (0, .nameAndType 5 6), (0, u "WEIGHTED"), (0, u "Lcom/example/federated_text_search/federatedtextsearch/lsi/Columns;"), (2, u "UNIT"), (2, u "$VALUES"), (0, u "[Lcom/example/federated_text_search/federatedtextsearch/lsi/Columns;"), (6, .class_ 22), (1, u "java/lang/Enum"), (20, u "scale"), (0, u "(D)D")] 5

def k6c0 : Code := { maxStack := 4, maxLocals := 3, code := prog_32_method_4_code, exceptionTable := #[], attributes := #[] }
def k6m0 : Method := { name := "scale", desc := "(D)D", sig := { parameters := [.double], returnType := some .double }, accessFlags := 1, code := some k6c0 }
/-- com/example/federated_text_search/federatedtextsearch/lsi/Columns -/
def k6 : Class := { plain "com/example/federated_text_search/federatedtextsearch/lsi/Columns" (some 5) with
  accessFlags := 16433
  interfaces := #[]
  cf := some (fileOf pool6 1 #[] #[{ accessFlags := 1, nameIndex := 43, descriptorIndex := 44, attributes := #[] }] 16433 20 #[] #[{ accessFlags := 16409, nameIndex := 5, descriptorIndex := 6, attributes := #[] }, { accessFlags := 16409, nameIndex := 9, descriptorIndex := 6, attributes := #[] }, { accessFlags := 4122, nameIndex := 12, descriptorIndex := 13, attributes := #[] }])
  fields := #[{ name := "WEIGHTED", type := (.object "com/example/federated_text_search/federatedtextsearch/lsi/Columns"), accessFlags := 16409, slot := 0, constantValue := 0 }, { name := "UNIT", type := (.object "com/example/federated_text_search/federatedtextsearch/lsi/Columns"), accessFlags := 16409, slot := 1, constantValue := 0 }, { name := "$VALUES", type := (.array (.object "com/example/federated_text_search/federatedtextsearch/lsi/Columns")), accessFlags := 4122, slot := 2, constantValue := 0 }]
  methods := #[k6m0]
  instanceTypes := #[(.object "java/lang/String"), .int, .int]
  staticTypes := #[(.object "com/example/federated_text_search/federatedtextsearch/lsi/Columns"), (.object "com/example/federated_text_search/federatedtextsearch/lsi/Columns"), (.array (.object "com/example/federated_text_search/federatedtextsearch/lsi/Columns"))]
  resolved := Array.replicate 50 none
  statics := some 0 }

def pool7 : Array CpInfo := pool [(1, u "java/lang/Cloneable"), (0, .class_ 1), (0, u "java/lang/Object"), (0, .class_ 3)] 3

/-- java/lang/Cloneable -/
def k7 : Class := { plain "java/lang/Cloneable" (some 0) with
  accessFlags := 1537
  interfaces := #[]
  cf := some (fileOf pool7 2 #[] #[] 1537 4 #[] #[])
  fields := #[]
  methods := #[]
  instanceTypes := #[]
  staticTypes := #[]
  resolved := Array.replicate 8 none
  statics := none }

/-- the primitive byte -/
def k8 : Class := { plain "byte" none with kind := .primitive 'B', accessFlags := 0x411 }
/-- [B -/
def k9 : Class := { plain "[B" (some 0) with kind := .array 8 .byte, interfaces := #[7, 4], accessFlags := 1041 }

/-- the primitive int -/
def k10 : Class := { plain "int" none with kind := .primitive 'I', accessFlags := 0x411 }
/-- [I -/
def k11 : Class := { plain "[I" (some 0) with kind := .array 10 .int, interfaces := #[7, 4], accessFlags := 1041 }

def heap : Heap := #[{ cls := 6, slots := #[.ref 1, .ref 2, .null], vm := .statics 6 },
  { cls := 6, slots := #[.null, .int 0, .int 0], vm := .none },
  { cls := 6, slots := #[.null, .int 1, .int 0], vm := .none }]
def classes : Array Class := #[k0, k1, k2, k3, k4, k5, k6, k7, k8, k9, k10, k11]
def interned : List (Array UInt16 × Addr) := []
def slotsUsed : Nat := 9
def theMethod : MethodId := ⟨1, 1⟩
def args0 : Array Value := #[.int 5, .int 9]
def aboutOver (below : List Frame) : State where
  vm := { classes := classes, interned := interned.toArray }
  heap := heap
  slotsUsed := slotsUsed
  threads := #[{ frames := .invoking theMethod args0 :: below }]
def below0 : List Frame := [.native { method := ⟨0, 0⟩, args := #[] }]
def about1 : State := aboutOver below0
def p0 : Program := .bare "" "" ""
def e0 : Env := launch0.env 0 0 0
theorem w_frames : about1.frames = Frame.invoking theMethod args0 :: below0 := rfl
set_option maxRecDepth 65536 in
theorem w_args : argsFit about1.vm theMethod args0 = true := by decide +kernel
set_option maxRecDepth 65536 in
theorem w_heap : heapFits about1 = true := by decide +kernel
set_option maxRecDepth 65536 in
theorem w_runnable : about1.curStatus? = some .runnable := by decide +kernel
set_option maxRecDepth 65536 in
theorem w_alone : about1.alone = true := by decide +kernel
set_option maxRecDepth 65536 in
theorem w_named : about1.methodNamed? x = some theMethod := by decide +kernel
set_option maxRecDepth 65536 in
theorem w_hears : about1.hears theMethod below0 = true := by decide +kernel
set_option maxRecDepth 65536 in
theorem w_ripe : about1.ripe theMethod args0 below0 = true := by decide +kernel
theorem w_running : about1.status = .running := rfl
set_option maxRecDepth 65536 in
theorem w_room : about1.hasRoom e0.platform room_1 = true :=
  launch0.hasRoom_least _ room_1 (by decide +kernel) (by decide +kernel) (by decide +kernel) (by decide +kernel) (by decide +kernel) (by decide +kernel)
theorem allAtoms_all (ts : List Jvm.Cond) (a : Array Jvm.Value) (st : Jvm.State) : (allAtoms ts).before a st = ts.all (fun c => c.before a st) := by
  induction ts with
  | nil => rfl
  | cons c t ih =>
    show (Jvm.Cond.and c (allAtoms t)).before a st = _
    rw [Jvm.Cond.before_and, ih, List.all_cons]
def words1 : List Jvm.Cond := Jvm.Cond.code x code maxLocals ret :: tables_1
/-- a 'code' word, met by the world's own term for the bytes: nothing is compared byte by byte -/
theorem code_word {y : MethodName} {bytes : ByteArray} {mx : Nat} {rt : Option FieldType} {a : Array Value} {s : State} {m : MethodId} {meth : Method} {c : Code} (h1 : s.methodNamed? y = some m) (h2 : s.vm.method? m = some meth) (h3 : meth.code = some c) (h4 : c.code = bytes)
    (h5 : (c.maxLocals == mx && c.exceptionTable.isEmpty && decide (c.maxStack ≤ mostOperands) && decide (meth.sig.returnType = rt) && !meth.locks && decide (parseMethodDescriptor y.desc = some meth.sig)) = true) : (Jvm.Cond.code y bytes mx rt).before a s = true := by
  simp only [Bool.and_eq_true, beq_iff_eq, Bool.not_eq_true', decide_eq_true_eq] at h5
  obtain ⟨⟨⟨⟨⟨g1, g2⟩, g3⟩, g4⟩, g5⟩, g6⟩ := h5
  simp [Cond.before, Cond.holds, Cond.value, h1, h2, h3, h4, g1, g2, g3, g4, g5, g6]
def isCode : Jvm.Cond → Bool
  | .code _ _ _ _ => true
  | _ => false
theorem all_split {L : List Jvm.Cond} {P : Jvm.Cond → Bool} (h1 : L.all (fun c => isCode c || P c) = true) (h2 : ∀ c ∈ L.filter isCode, P c = true) : L.all P = true := by
  refine List.all_eq_true.mpr fun c hc => ?_
  have h := List.all_eq_true.mp h1 c hc
  rcases Bool.eq_false_or_eq_true (isCode c) with hi | hi
  · exact h2 c (List.mem_filter.mpr ⟨hc, hi⟩)
  · simpa [hi] using h
set_option maxRecDepth 65536 in
theorem w_c0 : (Jvm.Cond.code x code maxLocals ret).before args0 about1 = true := code_word (m := ⟨1, 1⟩) (meth := k1m1) (c := k1c1) (by decide +kernel) rfl rfl rfl (by decide +kernel)
set_option maxRecDepth 65536 in
theorem w_c1 : (Jvm.Cond.code ({ cls := "com/example/federated_text_search/federatedtextsearch/lsi/Columns", name := "scale", desc := "(D)D" } : Jvm.MethodName) prog_32_method_4_code (3 : Nat) (Option.some Jvm.ClassFile.FieldType.double)).before args0 about1 = true := code_word (m := ⟨6, 0⟩) (meth := k6m0) (c := k6c0) (by decide +kernel) rfl rfl rfl (by decide +kernel)
def codes1 : List Jvm.Cond := [Jvm.Cond.code x code maxLocals ret, Jvm.Cond.code ({ cls := "com/example/federated_text_search/federatedtextsearch/lsi/Columns", name := "scale", desc := "(D)D" } : Jvm.MethodName) prog_32_method_4_code (3 : Nat) (Option.some Jvm.ClassFile.FieldType.double)]
set_option maxRecDepth 65536 in
theorem codes_eq : words1.filter isCode = codes1 := rfl
theorem w_codes : ∀ c ∈ words1.filter isCode, c.before args0 about1 = true := by
  rw [codes_eq]
  intro c hc
  simp only [codes1, List.mem_cons, List.not_mem_nil, or_false] at hc
  rcases hc with rfl | rfl
  · exact w_c0
  · exact w_c1
set_option maxRecDepth 65536 in
theorem w_t1 : words1.all (fun c => isCode c || c.before args0 about1) = true := by decide +kernel
theorem w_tables : (allAtoms (Jvm.Cond.code x code maxLocals ret :: tables_1)).before args0 about1 = true := by
  rw [allAtoms_all]
  show words1.all (fun c => c.before args0 about1) = true
  refine all_split ?_ w_codes
  rw [w_t1]
set_option maxRecDepth 65536 in
theorem w_case : (Jvm.Cond.and given_1 narrow_1).before args0 about1 = true := by decide +kernel
theorem w_applies : (headSpec (Jvm.Cond.code x code maxLocals ret :: tables_1) room_1).applies x e0.platform about1 = true :=
  (Spec.applies_iff w_frames).mpr ⟨w_running, w_runnable, w_alone, w_named, w_hears, w_ripe, w_room, w_tables⟩
theorem atStart : AtStart classFile x code maxLocals ret World_1 tables_1 room_1 Calls_1 rest_1 Pre_1 launch0 p0 e0 about1 theMethod args0 below0 :=
  ⟨lists_1, trivial, launch0.admits_env _ _ _, launch0.least_env, fairChoices_fair.cas, fairChoices_fair.clock, w_frames, w_args, w_heap, w_applies, trivial, trivial, w_case⟩
end start1
theorem witness_1 : WitnessClaimed_1 := ⟨start1.p0, start1.e0, start1.about1, start1.theMethod, start1.args0, start1.below0, start1.atStart⟩
end Jvm.Pilot.@@N@@
