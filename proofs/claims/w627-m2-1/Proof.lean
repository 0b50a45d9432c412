import JvmDerived
import JvmDerived.Pilot.@@N@@Statement
import JvmDerived.Pilot.@@N@@Code
set_option linter.unusedVariables false
set_option linter.unusedSimpArgs false
namespace Jvm.RoadKit
open Sem ClassFile Op Lib Jvm.Stand Jvm.Free Jvm.LawKit
section New
variable {p : Program} {l : Launch} {e : Env} {R : Room} {s : State} {m : MethodId} {args : Array Value} {below : List Frame} {meth : Method} {c : Code} {T : State} {locs : List Loc} {cells slots : Nat}
theorem retI (X : Stand p l e R s m args below meth c T locs cells slots) (hx : p.tables.exec = Jvm.exec) {pc : Nat} {Ls : Array Slot} {z : Int32} {rest : List Value} (hret : meth.sig.returnType = some .int) (hd : decode c.code pc = .ok (.ireturn, 1)) {fs : List Frame}
    (hl : ∀ (f : JFrame) (acts : List Action), f.method = m → f.locked = none → f.entered = [] → (doReturn e (T.setTop f) acts (some (.int z))).1 = T.setFrames fs) : Steps p.tables e below (T.setTop (mkF m pc Ls (.int z :: rest))) (T.setFrames fs) := by
  have hm' : T.vm.method? m = some meth := X.method'
  have hn : narrow .int (.int z) = .int z := rfl
  show Steps p.tables e below (T.setTop { method := m, pc := pc, locals := Ls, stack := _ :: rest, locked := none }) _
  jvm_step X.here [X.here.top, hx, hd, hm', hret, hn]
  first | (intro acts; rw [hl _ acts rfl rfl rfl]) | rw [hl _ _ rfl rfl rfl]
  exact Steps.refl _
theorem retL (X : Stand p l e R s m args below meth c T locs cells slots) (hx : p.tables.exec = Jvm.exec) {pc : Nat} {Ls : Array Slot} {z : Int64} {rest : List Value} (hret : meth.sig.returnType = some .long) (hd : decode c.code pc = .ok (.lreturn, 1)) {fs : List Frame}
    (hl : ∀ (f : JFrame) (acts : List Action), f.method = m → f.locked = none → f.entered = [] → (doReturn e (T.setTop f) acts (some (.long z))).1 = T.setFrames fs) : Steps p.tables e below (T.setTop (mkF m pc Ls (.long z :: rest))) (T.setFrames fs) := by
  have hm' : T.vm.method? m = some meth := X.method'
  show Steps p.tables e below (T.setTop { method := m, pc := pc, locals := Ls, stack := _ :: rest, locked := none }) _
  jvm_step X.here [X.here.top, hx, hd, hm', hret, narrow]
  first | (intro acts; rw [hl _ acts rfl rfl rfl]) | rw [hl _ _ rfl rfl rfl]
  exact Steps.refl _
theorem retR (X : Stand p l e R s m args below meth c T locs cells slots) (hx : p.tables.exec = Jvm.exec) {pc : Nat} {Ls : Array Slot} {z : Value} {rest : List Value} {ty : FieldType} (hz : z.isRef = true) (hty : ty.isReference = true) (hret : meth.sig.returnType = some ty) (hd : decode c.code pc = .ok (.areturn, 1)) {fs : List Frame}
    (hl : ∀ (f : JFrame) (acts : List Action), f.method = m → f.locked = none → f.entered = [] → (doReturn e (T.setTop f) acts (some z)).1 = T.setFrames fs) : Steps p.tables e below (T.setTop (mkF m pc Ls (z :: rest))) (T.setFrames fs) := by
  have hm' : T.vm.method? m = some meth := X.method'
  show Steps p.tables e below (T.setTop { method := m, pc := pc, locals := Ls, stack := _ :: rest, locked := none }) _
  jvm_step X.here [X.here.top, hx, hd, hm', hret, hz, hty]
  first | (intro acts; rw [hl _ acts rfl rfl rfl]) | rw [hl _ _ rfl rfl rfl]
  exact Steps.refl _
end New
abbrev lv (x : Int64) : Slot := .val (.long x)
abbrev un : Slot := .unset
abbrev sd : Slot := .second
/-- where the run stands, it comes to an end that G likes -/
def Go (tb : Tables) (e : Env) (below : List Frame) (G : Outcome → State → Prop) (F : State) : Prop := ∃ t o, Steps tb e below F t ∧ t.status = .running ∧ Ended t below o ∧ G o t
theorem Go.stp {tb : Tables} {e : Env} {below : List Frame} {G : Outcome → State → Prop} {F F' : State} (h : ∀ t, Steps tb e below F' t → Steps tb e below F t) (g : Go tb e below G F') : Go tb e below G F := by
  obtain ⟨t, o, h1, r⟩ := g
  exact ⟨t, o, h _ h1, r⟩
end Jvm.RoadKit
namespace Jvm.Pilot.@@N@@
open Jvm Jvm.ClassFile Sem Op Lib Jvm.Free Jvm.Stand Jvm.LawKit Jvm.RoadKit Bundle Jvm.Pilot.@@N@@.Jvm.D
def own_cc (r f l : Addr) : Int32 := if r = f then 1 else if r = l then 1 else 0
def own_de (r k : Addr) : Int32 := if r = k then 1 else 0
theorem own_ord {t : Term} {args : Array Value} {s : State} {a : Addr} {k : Int32} (ev : t.eval args s none [] s = some (.ref a)) (h : (Jvm.Cond.eq (Term.field t "java/lang/Enum" "ordinal" "I") (Term.int k)).value args s none s [] = some true) : s.fieldOf? a "java/lang/Enum" "ordinal" "I" = some (.int k) := by
  have e := fld_at (C := "java/lang/Enum") (n := "ordinal") (dd := "I") ev
  simp only [Jvm.Cond.value, e] at h
  cases hf : s.fieldOf? a "java/lang/Enum" "ordinal" "I" with
  | none => simp [hf] at h
  | some v => cases v <;> simp [hf, Term.eval] at h ⊢ <;> exact h
theorem own_apart {s : State} {a b : Addr} {j k : Int32} (h1 : s.fieldOf? a "java/lang/Enum" "ordinal" "I" = some (.int j)) (h2 : s.fieldOf? b "java/lang/Enum" "ordinal" "I" = some (.int k)) (h : j ≠ k) : a ≠ b := fun q => by
  rw [q, h2] at h1
  exact h (Value.int.inj (Option.some.inj h1)).symm
theorem pd_0 : parseMethodDescriptor "()Z" = some ⟨[], some .boolean⟩ := by decide +kernel
theorem pn_1 : plainName "com/example/sluicegate/sluicegate/policy/Algorithm" = true := by first | (simp [plainName, overriddenIn]; done) | decide +kernel
theorem d1_0 : decode prog_33_method_6_code 0 = .ok (.aload_n 0, 1) := by decide +kernel
theorem d1_1 : decode prog_33_method_6_code 1 = .ok (.getstatic 3, 3) := by decide +kernel
theorem d1_4 : decode prog_33_method_6_code 4 = .ok (.if_acmp .eq 10, 3) := by decide +kernel
theorem d1_7 : decode prog_33_method_6_code 7 = .ok (.aload_n 0, 1) := by decide +kernel
theorem d1_8 : decode prog_33_method_6_code 8 = .ok (.getstatic 7, 3) := by decide +kernel
theorem d1_11 : decode prog_33_method_6_code 11 = .ok (.if_acmp .ne 7, 3) := by decide +kernel
theorem d1_14 : decode prog_33_method_6_code 14 = .ok (.iconst 1, 1) := by decide +kernel
theorem d1_15 : decode prog_33_method_6_code 15 = .ok (.goto 4, 3) := by decide +kernel
theorem d1_18 : decode prog_33_method_6_code 18 = .ok (.iconst 0, 1) := by decide +kernel
theorem d1_19 : decode prog_33_method_6_code 19 = .ok (.ireturn, 1) := by decide +kernel
theorem ef_1 (m : MethodId) (r0 : Addr) : entryFrame m #[(.ref r0)] 1 = mkF m 0 #[rv r0] [] := by first | (simp [entryFrame, mkF, argsToLocals, Value.category, iv, rv, lv, un, sd]; done) | rfl
def Q1 (Z : State) (r0 : Addr) (aF : Addr) (aL : Addr) (h0 : Heap) (n0 : Nat) (v : Option Value) (h : Heap) (L : List Loc) : Prop := v = some (.int (own_cc r0 aF aL)) ∧ Fr n0 L ∧ h = h0
set_option maxRecDepth 65536 in
set_option maxHeartbeats 40000000 in
theorem rm1 (l : Launch) (Z : State) (a0 : Array Value) (hw : ∀ d ∈ tables_1, d.before a0 Z = true) (ws : List Jvm.Cond) (r0 : Addr) (aF : Addr) (aL : Addr) (h0 : Heap) (n0 : Nat) (Z0 : n0 ≤ h0.size) (S_aF : Sta Z h0 "com/example/sluicegate/sluicegate/policy/Algorithm" "FIXED_WINDOW" "Lcom/example/sluicegate/sluicegate/policy/Algorithm;" (.ref aF)) (S_aL : Sta Z h0 "com/example/sluicegate/sluicegate/policy/Algorithm" "SLIDING_LOG" "Lcom/example/sluicegate/sluicegate/policy/Algorithm;" (.ref aL)) :
    MetFree l (⟨"com/example/sluicegate/sluicegate/policy/Algorithm", "countsCosts", "()Z"⟩ : MethodName) (head1 (Jvm.Cond.code (⟨"com/example/sluicegate/sluicegate/policy/Algorithm", "countsCosts", "()Z"⟩ : MethodName) prog_33_method_6_code 1 (some .boolean) :: ws) ({ frames := 0, cells := 0, slots := 0, locals := 0 } : Room)) (fun a U => a = #[(.ref r0)] ∧ Z.Warmed39 U.vm ∧ U.heap = h0) (fun _ _ _ _ _ => True) (fun _ U o U' => ∃ v L, o = .returned v ∧ Q1 Z r0 aF aL h0 n0 v U'.heap L ∧ FrameEnd U o U' L ({ frames := 0, cells := 0, slots := 0, locals := 0 } : Room).cells ({ frames := 0, cells := 0, slots := 0, locals := 0 } : Room).slots) := by
  refine MetFree.of_bodySF (plainFor_of_name pn_1) hisR ?_
  intro p e s m args below meth c s₁ Bd hml0 hP hK
  obtain ⟨rfl, hZ, hh⟩ := hP
  have hx := Bd.exec
  have hby := Bd.bytes
  have hml : c.maxLocals = 1 := hml0
  have hown : s.vm.findClass "com/example/sluicegate/sluicegate/policy/Algorithm" = some m.cls := findClass_of_methodNamed Bd.named
  have hnm := (name_of_methodNamed Bd.named Bd.method).1
  have X0 : Stand p l e ({ frames := 0, cells := 0, slots := 0, locals := 0 } : Room) s m #[(.ref r0)] below meth c s₁ [] 0 0 := Stand.of_body Bd
  have e0 : s₁.heap = h0 := by rw [← hh, Bd.state]; rfl
  have N0 := Fr.nil n0
  suffices HH : ∀ G : Outcome → State → Prop, (∀ v L U', Q1 Z r0 aF aL h0 n0 v U'.heap L → FrameEnd s (.returned v) U' L ({ frames := 0, cells := 0, slots := 0, locals := 0 } : Room).cells ({ frames := 0, cells := 0, slots := 0, locals := 0 } : Room).slots → G (.returned v) U') → Go p.tables e below G (s₁.setTop (mkF m 0 #[rv r0] [])) by
    obtain ⟨s2, o, h1, h2, h3, h4⟩ := HH (fun o U' => ∃ v L, o = .returned v ∧ Q1 Z r0 aF aL h0 n0 v U'.heap L ∧ FrameEnd s o U' L ({ frames := 0, cells := 0, slots := 0, locals := 0 } : Room).cells ({ frames := 0, cells := 0, slots := 0, locals := 0 } : Room).slots) (fun v L U' q f => ⟨v, L, rfl, q, f⟩)
    exact ⟨s2, o, castTop (ef_1 m r0) h1, h2, h3, h4⟩
  intro G hG
  show Go p.tables e below G (s₁.setTop (mkF m 0 #[rv r0] []))
  refine Go.stp (fun t k => XS.aloadN X0.here hx rfl (hb hby d1_0) rfl rfl k) ?_
  show Go p.tables e below G (s₁.setTop (mkF m 1 #[rv r0] [(.ref r0)]))
  obtain ⟨T1, X1, e1, st1⟩ := getS2 X0 hx hZ hown (host := "") (Or.inl (hw _ (List.mem_of_getElem? (i := 9) rfl))) Via.refl e0 S_aF (g := (mkF m 1 #[rv r0] [(.ref r0)])) rfl (hb hby d1_1)
  refine Go.stp (fun t k => st1 t k) ?_
  show Go p.tables e below G (T1.setTop (mkF m 4 #[rv r0] [(.ref aF), (.ref r0)]))
  by_cases hc4 : r0 = aF
  · refine Go.stp (fun t k => Jvm.RoadKit.acmp (g := (mkF m 4 #[rv r0] [(.ref aF), (.ref r0)])) X1 hx rfl rfl rfl (pc0 := 4) (pc' := 14) (same := true) rfl (hb hby d1_4) rfl (decide_eq_true (congrArg Value.ref hc4)) (by decide) (by decide) k) ?_
    show Go p.tables e below G (T1.setTop (mkF m 14 #[rv r0] []))
    refine Go.stp (fun t k => XS.iconst X1.here hx rfl (hb hby d1_14) k) ?_
    show Go p.tables e below G (T1.setTop (mkF m 15 #[rv r0] [(.int (1 : Int32))]))
    refine Go.stp (fun t k => XS.goto X1.here hx rfl (pc0 := 15) (pc' := 19) rfl (hb hby d1_15) (by decide) (by decide) k) ?_
    show Go p.tables e below G (T1.setTop (mkF m 19 #[rv r0] [(.int (1 : Int32))]))
    obtain ⟨fs, hr, hrun, hended, hW, hsame⟩ := X1.leave (v := some (.int (1 : Int32))) (fun h => by rw [Bd.returns] at h; cases h)
    refine ⟨_, _, retN X1 hx (t := .boolean) Bd.returns (by simp) (hb hby d1_19) hr, hrun, hended, hG _ _ _ ?_ ⟨⟨_, rfl⟩, hW, hsame.mono (by decide) (by decide)⟩⟩
    show Q1 Z r0 aF aL h0 n0 _ T1.heap _
    rw [e1]
    exact ⟨by simp [own_cc, hc4], N0, rfl⟩
  · refine Go.stp (fun t k => Jvm.RoadKit.acmp (g := (mkF m 4 #[rv r0] [(.ref aF), (.ref r0)])) X1 hx rfl rfl rfl (pc0 := 4) (pc' := 7) (same := false) rfl (hb hby d1_4) rfl (decide_eq_false (fun q => hc4 (Value.ref.inj q))) (by decide) (by decide) k) ?_
    show Go p.tables e below G (T1.setTop (mkF m 7 #[rv r0] []))
    refine Go.stp (fun t k => XS.aloadN X1.here hx rfl (hb hby d1_7) rfl rfl k) ?_
    show Go p.tables e below G (T1.setTop (mkF m 8 #[rv r0] [(.ref r0)]))
    obtain ⟨T2, X2, e2, st2⟩ := getS2 X1 hx hZ hown (host := "") (Or.inl (hw _ (List.mem_of_getElem? (i := 19) rfl))) Via.refl e1 S_aL (g := (mkF m 8 #[rv r0] [(.ref r0)])) rfl (hb hby d1_8)
    refine Go.stp (fun t k => st2 t k) ?_
    show Go p.tables e below G (T2.setTop (mkF m 11 #[rv r0] [(.ref aL), (.ref r0)]))
    by_cases hc11 : r0 = aL
    · refine Go.stp (fun t k => Jvm.RoadKit.acmp (g := (mkF m 11 #[rv r0] [(.ref aL), (.ref r0)])) X2 hx rfl rfl rfl (pc0 := 11) (pc' := 14) (same := true) rfl (hb hby d1_11) rfl (decide_eq_true (congrArg Value.ref hc11)) (by decide) (by decide) k) ?_
      show Go p.tables e below G (T2.setTop (mkF m 14 #[rv r0] []))
      refine Go.stp (fun t k => XS.iconst X2.here hx rfl (hb hby d1_14) k) ?_
      show Go p.tables e below G (T2.setTop (mkF m 15 #[rv r0] [(.int (1 : Int32))]))
      refine Go.stp (fun t k => XS.goto X2.here hx rfl (pc0 := 15) (pc' := 19) rfl (hb hby d1_15) (by decide) (by decide) k) ?_
      show Go p.tables e below G (T2.setTop (mkF m 19 #[rv r0] [(.int (1 : Int32))]))
      obtain ⟨fs, hr, hrun, hended, hW, hsame⟩ := X2.leave (v := some (.int (1 : Int32))) (fun h => by rw [Bd.returns] at h; cases h)
      refine ⟨_, _, retN X2 hx (t := .boolean) Bd.returns (by simp) (hb hby d1_19) hr, hrun, hended, hG _ _ _ ?_ ⟨⟨_, rfl⟩, hW, hsame.mono (by decide) (by decide)⟩⟩
      show Q1 Z r0 aF aL h0 n0 _ T2.heap _
      rw [e2]
      exact ⟨by simp [own_cc, hc4, hc11], N0, rfl⟩
    · refine Go.stp (fun t k => Jvm.RoadKit.acmp (g := (mkF m 11 #[rv r0] [(.ref aL), (.ref r0)])) X2 hx rfl rfl rfl (pc0 := 11) (pc' := 18) (same := false) rfl (hb hby d1_11) rfl (decide_eq_false (fun q => hc11 (Value.ref.inj q))) (by decide) (by decide) k) ?_
      show Go p.tables e below G (T2.setTop (mkF m 18 #[rv r0] []))
      refine Go.stp (fun t k => XS.iconst X2.here hx rfl (hb hby d1_18) k) ?_
      show Go p.tables e below G (T2.setTop (mkF m 19 #[rv r0] [(.int (0 : Int32))]))
      obtain ⟨fs, hr, hrun, hended, hW, hsame⟩ := X2.leave (v := some (.int (0 : Int32))) (fun h => by rw [Bd.returns] at h; cases h)
      refine ⟨_, _, retN X2 hx (t := .boolean) Bd.returns (by simp) (hb hby d1_19) hr, hrun, hended, hG _ _ _ ?_ ⟨⟨_, rfl⟩, hW, hsame.mono (by decide) (by decide)⟩⟩
      show Q1 Z r0 aF aL h0 n0 _ T2.heap _
      rw [e2]
      exact ⟨by simp [own_cc, hc4, hc11], N0, rfl⟩
theorem d2_0 : decode prog_33_method_5_code 0 = .ok (.aload_n 0, 1) := by decide +kernel
theorem d2_1 : decode prog_33_method_5_code 1 = .ok (.getstatic 16, 3) := by decide +kernel
theorem d2_4 : decode prog_33_method_5_code 4 = .ok (.if_acmp .ne 7, 3) := by decide +kernel
theorem d2_7 : decode prog_33_method_5_code 7 = .ok (.iconst 1, 1) := by decide +kernel
theorem d2_8 : decode prog_33_method_5_code 8 = .ok (.goto 4, 3) := by decide +kernel
theorem d2_11 : decode prog_33_method_5_code 11 = .ok (.iconst 0, 1) := by decide +kernel
theorem d2_12 : decode prog_33_method_5_code 12 = .ok (.ireturn, 1) := by decide +kernel
theorem ef_2 (m : MethodId) (r0 : Addr) : entryFrame m #[(.ref r0)] 1 = mkF m 0 #[rv r0] [] := by first | (simp [entryFrame, mkF, argsToLocals, Value.category, iv, rv, lv, un, sd]; done) | rfl
def Q2 (Z : State) (r0 : Addr) (aK : Addr) (h0 : Heap) (n0 : Nat) (v : Option Value) (h : Heap) (L : List Loc) : Prop := v = some (.int (own_de r0 aK)) ∧ Fr n0 L ∧ h = h0
set_option maxRecDepth 65536 in
set_option maxHeartbeats 40000000 in
theorem rm2 (l : Launch) (Z : State) (a0 : Array Value) (hw : ∀ d ∈ tables_1, d.before a0 Z = true) (ws : List Jvm.Cond) (r0 : Addr) (aK : Addr) (h0 : Heap) (n0 : Nat) (Z0 : n0 ≤ h0.size) (S_aK : Sta Z h0 "com/example/sluicegate/sluicegate/policy/Algorithm" "LEAKY_BUCKET" "Lcom/example/sluicegate/sluicegate/policy/Algorithm;" (.ref aK)) :
    MetFree l (⟨"com/example/sluicegate/sluicegate/policy/Algorithm", "delays", "()Z"⟩ : MethodName) (head1 (Jvm.Cond.code (⟨"com/example/sluicegate/sluicegate/policy/Algorithm", "delays", "()Z"⟩ : MethodName) prog_33_method_5_code 1 (some .boolean) :: ws) ({ frames := 0, cells := 0, slots := 0, locals := 0 } : Room)) (fun a U => a = #[(.ref r0)] ∧ Z.Warmed39 U.vm ∧ U.heap = h0) (fun _ _ _ _ _ => True) (fun _ U o U' => ∃ v L, o = .returned v ∧ Q2 Z r0 aK h0 n0 v U'.heap L ∧ FrameEnd U o U' L ({ frames := 0, cells := 0, slots := 0, locals := 0 } : Room).cells ({ frames := 0, cells := 0, slots := 0, locals := 0 } : Room).slots) := by
  refine MetFree.of_bodySF (plainFor_of_name pn_1) hisR ?_
  intro p e s m args below meth c s₁ Bd hml0 hP hK
  obtain ⟨rfl, hZ, hh⟩ := hP
  have hx := Bd.exec
  have hby := Bd.bytes
  have hml : c.maxLocals = 1 := hml0
  have hown : s.vm.findClass "com/example/sluicegate/sluicegate/policy/Algorithm" = some m.cls := findClass_of_methodNamed Bd.named
  have hnm := (name_of_methodNamed Bd.named Bd.method).1
  have X0 : Stand p l e ({ frames := 0, cells := 0, slots := 0, locals := 0 } : Room) s m #[(.ref r0)] below meth c s₁ [] 0 0 := Stand.of_body Bd
  have e0 : s₁.heap = h0 := by rw [← hh, Bd.state]; rfl
  have N0 := Fr.nil n0
  suffices HH : ∀ G : Outcome → State → Prop, (∀ v L U', Q2 Z r0 aK h0 n0 v U'.heap L → FrameEnd s (.returned v) U' L ({ frames := 0, cells := 0, slots := 0, locals := 0 } : Room).cells ({ frames := 0, cells := 0, slots := 0, locals := 0 } : Room).slots → G (.returned v) U') → Go p.tables e below G (s₁.setTop (mkF m 0 #[rv r0] [])) by
    obtain ⟨s2, o, h1, h2, h3, h4⟩ := HH (fun o U' => ∃ v L, o = .returned v ∧ Q2 Z r0 aK h0 n0 v U'.heap L ∧ FrameEnd s o U' L ({ frames := 0, cells := 0, slots := 0, locals := 0 } : Room).cells ({ frames := 0, cells := 0, slots := 0, locals := 0 } : Room).slots) (fun v L U' q f => ⟨v, L, rfl, q, f⟩)
    exact ⟨s2, o, castTop (ef_2 m r0) h1, h2, h3, h4⟩
  intro G hG
  show Go p.tables e below G (s₁.setTop (mkF m 0 #[rv r0] []))
  refine Go.stp (fun t k => XS.aloadN X0.here hx rfl (hb hby d2_0) rfl rfl k) ?_
  show Go p.tables e below G (s₁.setTop (mkF m 1 #[rv r0] [(.ref r0)]))
  obtain ⟨T1, X1, e1, st1⟩ := getS2 X0 hx hZ hown (host := "") (Or.inl (hw _ (List.mem_of_getElem? (i := 15) rfl))) Via.refl e0 S_aK (g := (mkF m 1 #[rv r0] [(.ref r0)])) rfl (hb hby d2_1)
  refine Go.stp (fun t k => st1 t k) ?_
  show Go p.tables e below G (T1.setTop (mkF m 4 #[rv r0] [(.ref aK), (.ref r0)]))
  by_cases hc4 : r0 = aK
  · refine Go.stp (fun t k => Jvm.RoadKit.acmp (g := (mkF m 4 #[rv r0] [(.ref aK), (.ref r0)])) X1 hx rfl rfl rfl (pc0 := 4) (pc' := 7) (same := true) rfl (hb hby d2_4) rfl (decide_eq_true (congrArg Value.ref hc4)) (by decide) (by decide) k) ?_
    show Go p.tables e below G (T1.setTop (mkF m 7 #[rv r0] []))
    refine Go.stp (fun t k => XS.iconst X1.here hx rfl (hb hby d2_7) k) ?_
    show Go p.tables e below G (T1.setTop (mkF m 8 #[rv r0] [(.int (1 : Int32))]))
    refine Go.stp (fun t k => XS.goto X1.here hx rfl (pc0 := 8) (pc' := 12) rfl (hb hby d2_8) (by decide) (by decide) k) ?_
    show Go p.tables e below G (T1.setTop (mkF m 12 #[rv r0] [(.int (1 : Int32))]))
    obtain ⟨fs, hr, hrun, hended, hW, hsame⟩ := X1.leave (v := some (.int (1 : Int32))) (fun h => by rw [Bd.returns] at h; cases h)
    refine ⟨_, _, retN X1 hx (t := .boolean) Bd.returns (by simp) (hb hby d2_12) hr, hrun, hended, hG _ _ _ ?_ ⟨⟨_, rfl⟩, hW, hsame.mono (by decide) (by decide)⟩⟩
    show Q2 Z r0 aK h0 n0 _ T1.heap _
    rw [e1]
    exact ⟨by simp [own_de, hc4], N0, rfl⟩
  · refine Go.stp (fun t k => Jvm.RoadKit.acmp (g := (mkF m 4 #[rv r0] [(.ref aK), (.ref r0)])) X1 hx rfl rfl rfl (pc0 := 4) (pc' := 11) (same := false) rfl (hb hby d2_4) rfl (decide_eq_false (fun q => hc4 (Value.ref.inj q))) (by decide) (by decide) k) ?_
    show Go p.tables e below G (T1.setTop (mkF m 11 #[rv r0] []))
    refine Go.stp (fun t k => XS.iconst X1.here hx rfl (hb hby d2_11) k) ?_
    show Go p.tables e below G (T1.setTop (mkF m 12 #[rv r0] [(.int (0 : Int32))]))
    obtain ⟨fs, hr, hrun, hended, hW, hsame⟩ := X1.leave (v := some (.int (0 : Int32))) (fun h => by rw [Bd.returns] at h; cases h)
    refine ⟨_, _, retN X1 hx (t := .boolean) Bd.returns (by simp) (hb hby d2_12) hr, hrun, hended, hG _ _ _ ?_ ⟨⟨_, rfl⟩, hW, hsame.mono (by decide) (by decide)⟩⟩
    show Q2 Z r0 aK h0 n0 _ T1.heap _
    rw [e1]
    exact ⟨by simp [own_de, hc4], N0, rfl⟩
theorem pn_0 : plainName "com/example/sluicegate/sluicegate/policy/AlgorithmCountsCostsPinLaw" = true := by first | (simp [plainName, overriddenIn]; done) | decide +kernel
theorem ef_0 (m : MethodId) (p0 : Int32) : entryFrame m #[(.int p0)] maxLocals = mkF m 0 #[iv p0, un, un, un, un] [] := by first | (simp [entryFrame, mkF, argsToLocals, Value.category, iv, rv, lv, un, sd, maxLocals]; done) | rfl
def Q0 (Z : State) (p0 : Int32) (aF : Addr) (aL : Addr) (aC : Addr) (aT : Addr) (aK : Addr) (h0 : Heap) (n0 : Nat) (v : Option Value) (h : Heap) (L : List Loc) : Prop := v = some (.int (1 : Int32)) ∧ Fr n0 L
set_option maxRecDepth 65536 in
set_option maxHeartbeats 40000000 in
theorem rm0 (l : Launch) (Z : State) (a0 : Array Value) (hw : ∀ d ∈ tables_1, d.before a0 Z = true) (ws : List Jvm.Cond) (p0 : Int32) (aF : Addr) (aL : Addr) (aC : Addr) (aT : Addr) (aK : Addr) (h0 : Heap) (n0 : Nat) (Z0 : n0 ≤ h0.size) (S_aF : Sta Z h0 "com/example/sluicegate/sluicegate/policy/Algorithm" "FIXED_WINDOW" "Lcom/example/sluicegate/sluicegate/policy/Algorithm;" (.ref aF)) (S_aL : Sta Z h0 "com/example/sluicegate/sluicegate/policy/Algorithm" "SLIDING_LOG" "Lcom/example/sluicegate/sluicegate/policy/Algorithm;" (.ref aL)) (S_aC : Sta Z h0 "com/example/sluicegate/sluicegate/policy/Algorithm" "SLIDING_COUNTER" "Lcom/example/sluicegate/sluicegate/policy/Algorithm;" (.ref aC)) (S_aT : Sta Z h0 "com/example/sluicegate/sluicegate/policy/Algorithm" "TOKEN_BUCKET" "Lcom/example/sluicegate/sluicegate/policy/Algorithm;" (.ref aT)) (S_aK : Sta Z h0 "com/example/sluicegate/sluicegate/policy/Algorithm" "LEAKY_BUCKET" "Lcom/example/sluicegate/sluicegate/policy/Algorithm;" (.ref aK)) (E_aF : Exa Z h0 aF "com/example/sluicegate/sluicegate/policy/Algorithm") (E_aL : Exa Z h0 aL "com/example/sluicegate/sluicegate/policy/Algorithm") (E_aC : Exa Z h0 aC "com/example/sluicegate/sluicegate/policy/Algorithm") (E_aT : Exa Z h0 aT "com/example/sluicegate/sluicegate/policy/Algorithm") (E_aK : Exa Z h0 aK "com/example/sluicegate/sluicegate/policy/Algorithm") (ne_aC_aF : aC ≠ aF) (ne_aC_aL : aC ≠ aL) (ne_aT_aF : aT ≠ aF) (ne_aT_aL : aT ≠ aL) (ne_aK_aF : aK ≠ aF) (ne_aK_aL : aK ≠ aL) (ne_aF_aK : aF ≠ aK) (ne_aL_aK : aL ≠ aK) :
    MetFree l x (head1 (Jvm.Cond.code x code maxLocals ret :: ws) room_1) (fun a U => a = #[(.int p0)] ∧ Z.Warmed39 U.vm ∧ U.heap = h0) (fun _ _ _ _ _ => True) (fun _ U o U' => ∃ v L, o = .returned v ∧ Q0 Z p0 aF aL aC aT aK h0 n0 v U'.heap L ∧ FrameEnd U o U' L room_1.cells room_1.slots) := by
  refine MetFree.of_bodySF (plainFor_of_name pn_0) hisR ?_
  intro p e s m args below meth c s₁ Bd hml0 hP hK
  obtain ⟨rfl, hZ, hh⟩ := hP
  have hx := Bd.exec
  have hby := Bd.bytes
  have hml : c.maxLocals = 5 := hml0
  have hown : s.vm.findClass "com/example/sluicegate/sluicegate/policy/AlgorithmCountsCostsPinLaw" = some m.cls := findClass_of_methodNamed Bd.named
  have hnm := (name_of_methodNamed Bd.named Bd.method).1
  have X0 : Stand p l e room_1 s m #[(.int p0)] below meth c s₁ [] 0 0 := Stand.of_body Bd
  have e0 : s₁.heap = h0 := by rw [← hh, Bd.state]; rfl
  have N0 := Fr.nil n0
  suffices HH : ∀ G : Outcome → State → Prop, (∀ v L U', Q0 Z p0 aF aL aC aT aK h0 n0 v U'.heap L → FrameEnd s (.returned v) U' L room_1.cells room_1.slots → G (.returned v) U') → Go p.tables e below G (s₁.setTop (mkF m 0 #[iv p0, un, un, un, un] [])) by
    obtain ⟨s2, o, h1, h2, h3, h4⟩ := HH (fun o U' => ∃ v L, o = .returned v ∧ Q0 Z p0 aF aL aC aT aK h0 n0 v U'.heap L ∧ FrameEnd s o U' L room_1.cells room_1.slots) (fun v L U' q f => ⟨v, L, rfl, q, f⟩)
    exact ⟨s2, o, castTop (ef_0 m p0) h1, h2, h3, h4⟩
  intro G hG
  show Go p.tables e below G (s₁.setTop (mkF m 0 #[iv p0, un, un, un, un] []))
  refine Go.stp (fun t k => XS.iloadN X0.here hx rfl (hb hby at_0) rfl k) ?_
  show Go p.tables e below G (s₁.setTop (mkF m 1 #[iv p0, un, un, un, un] [(.int p0)]))
  refine Go.stp (fun t k => X0.ldcInt hx hown (mvT hZ (hw _ (List.mem_of_getElem? (i := 0) rfl))) (g := (mkF m 1 #[iv p0, un, un, un, un] [(.int p0)])) rfl (hb hby at_1) t k) ?_
  show Go p.tables e below G (s₁.setTop (mkF m 3 #[iv p0, un, un, un, un] [(.int (2147483647 : Int32)), (.int p0)]))
  refine Go.stp (fun t k => XS.iand X0.here hx rfl (hb hby at_3) rfl k) ?_
  show Go p.tables e below G (s₁.setTop (mkF m 4 #[iv p0, un, un, un, un] [(.int (p0 &&& (2147483647 : Int32)))]))
  refine Go.stp (fun t k => XS.iconst X0.here hx rfl (hb hby at_4) k) ?_
  show Go p.tables e below G (s₁.setTop (mkF m 5 #[iv p0, un, un, un, un] [(.int (5 : Int32)), (.int (p0 &&& (2147483647 : Int32)))]))
  refine Go.stp (fun t k => XS.irem X0.here hx rfl (hb hby at_5) rfl (by decide) k) ?_
  show Go p.tables e below G (s₁.setTop (mkF m 6 #[iv p0, un, un, un, un] [(.int ((p0 &&& (2147483647 : Int32)) - ((p0 &&& (2147483647 : Int32)) / (5 : Int32)) * (5 : Int32)))]))
  refine Go.stp (fun t k => XS.istoreN X0.here hx rfl (hb hby at_6) rfl (l' := #[iv p0, iv ((p0 &&& (2147483647 : Int32)) - ((p0 &&& (2147483647 : Int32)) / (5 : Int32)) * (5 : Int32)), un, un, un]) rfl k) ?_
  show Go p.tables e below G (s₁.setTop (mkF m 7 #[iv p0, iv ((p0 &&& (2147483647 : Int32)) - ((p0 &&& (2147483647 : Int32)) / (5 : Int32)) * (5 : Int32)), un, un, un] []))
  refine Go.stp (fun t k => XS.iloadN X0.here hx rfl (hb hby at_7) rfl k) ?_
  show Go p.tables e below G (s₁.setTop (mkF m 8 #[iv p0, iv ((p0 &&& (2147483647 : Int32)) - ((p0 &&& (2147483647 : Int32)) / (5 : Int32)) * (5 : Int32)), un, un, un] [(.int ((p0 &&& (2147483647 : Int32)) - ((p0 &&& (2147483647 : Int32)) / (5 : Int32)) * (5 : Int32)))]))
  by_cases hc8 : ((p0 &&& (2147483647 : Int32)) - ((p0 &&& (2147483647 : Int32)) / (5 : Int32)) * (5 : Int32)) = (0 : Int32)
  · refine Go.stp (fun t k => XS.ifNo X0.here hx rfl (hb hby at_8) rfl ((if0 _ _).trans (teq hc8).2) k) ?_
    show Go p.tables e below G (s₁.setTop (mkF m 11 #[iv p0, iv ((p0 &&& (2147483647 : Int32)) - ((p0 &&& (2147483647 : Int32)) / (5 : Int32)) * (5 : Int32)), un, un, un] []))
    obtain ⟨T1, X1, e1, st1⟩ := getS2 X0 hx hZ hown (host := "") (Or.inl (hw _ (List.mem_of_getElem? (i := 1) rfl))) Via.refl e0 S_aF (g := (mkF m 11 #[iv p0, iv ((p0 &&& (2147483647 : Int32)) - ((p0 &&& (2147483647 : Int32)) / (5 : Int32)) * (5 : Int32)), un, un, un] [])) rfl (hb hby at_11)
    refine Go.stp (fun t k => st1 t k) ?_
    show Go p.tables e below G (T1.setTop (mkF m 14 #[iv p0, iv ((p0 &&& (2147483647 : Int32)) - ((p0 &&& (2147483647 : Int32)) / (5 : Int32)) * (5 : Int32)), un, un, un] [(.ref aF)]))
    refine Go.stp (fun t k => XS.astoreN X1.here hx rfl (hb hby at_14) rfl rfl (l' := #[iv p0, iv ((p0 &&& (2147483647 : Int32)) - ((p0 &&& (2147483647 : Int32)) / (5 : Int32)) * (5 : Int32)), rv aF, un, un]) rfl k) ?_
    show Go p.tables e below G (T1.setTop (mkF m 15 #[iv p0, iv ((p0 &&& (2147483647 : Int32)) - ((p0 &&& (2147483647 : Int32)) / (5 : Int32)) * (5 : Int32)), rv aF, un, un] []))
    refine Go.stp (fun t k => XS.iconst X1.here hx rfl (hb hby at_15) k) ?_
    show Go p.tables e below G (T1.setTop (mkF m 16 #[iv p0, iv ((p0 &&& (2147483647 : Int32)) - ((p0 &&& (2147483647 : Int32)) / (5 : Int32)) * (5 : Int32)), rv aF, un, un] [(.int (1 : Int32))]))
    refine Go.stp (fun t k => XS.istoreN X1.here hx rfl (hb hby at_16) rfl (l' := #[iv p0, iv ((p0 &&& (2147483647 : Int32)) - ((p0 &&& (2147483647 : Int32)) / (5 : Int32)) * (5 : Int32)), rv aF, iv (1 : Int32), un]) rfl k) ?_
    show Go p.tables e below G (T1.setTop (mkF m 17 #[iv p0, iv ((p0 &&& (2147483647 : Int32)) - ((p0 &&& (2147483647 : Int32)) / (5 : Int32)) * (5 : Int32)), rv aF, iv (1 : Int32), un] []))
    refine Go.stp (fun t k => XS.goto X1.here hx rfl (pc0 := 17) (pc' := 68) rfl (hb hby at_17) (by decide) (by decide) k) ?_
    show Go p.tables e below G (T1.setTop (mkF m 68 #[iv p0, iv ((p0 &&& (2147483647 : Int32)) - ((p0 &&& (2147483647 : Int32)) / (5 : Int32)) * (5 : Int32)), rv aF, iv (1 : Int32), un] []))
    refine Go.stp (fun t k => XS.aloadN X1.here hx rfl (hb hby at_68) rfl rfl k) ?_
    show Go p.tables e below G (T1.setTop (mkF m 69 #[iv p0, iv ((p0 &&& (2147483647 : Int32)) - ((p0 &&& (2147483647 : Int32)) / (5 : Int32)) * (5 : Int32)), rv aF, iv (1 : Int32), un] [(.ref aF)]))
    obtain ⟨cq2, kq2, q2a, q2b, q2c⟩ := isOf hZ e1 E_aF
    obtain ⟨_, _, ⟨T2, L2, k2, n2⟩, -, X2, ⟨Lc2, hQ2, l2, y2, z2⟩, st2⟩ := X1.virtualBack hx (y := (⟨"com/example/sluicegate/sluicegate/policy/Algorithm", "countsCosts", "()Z"⟩ : MethodName)) (z := (⟨"com/example/sluicegate/sluicegate/policy/Algorithm", "countsCosts", "()Z"⟩ : MethodName)) hown (mvT hZ (hw _ (List.mem_of_getElem? (i := 4) rfl))) (mvT hZ (hw _ (List.mem_of_getElem? (i := 5) rfl))) (notFace_of_selects (args := #[]) (mvT hZ (hw _ (List.mem_of_getElem? (i := 7) rfl)))) (mvT hZ (hw _ (List.mem_of_getElem? (i := 7) rfl))) (mvT hZ (hw _ (List.mem_of_getElem? (i := 6) rfl))) (by decide) (backOf (W := 0) (rm1 l Z a0 hw [] aF aF aL h0 n0 Z0 S_aF S_aL) hZ (hw _ (List.mem_of_getElem? (i := 8) rfl)) (hw _ (List.mem_of_getElem? (i := 2) rfl)) (by decide) (by decide)) q2a q2c (g := (mkF m 69 #[iv p0, iv ((p0 &&& (2147483647 : Int32)) - ((p0 &&& (2147483647 : Int32)) / (5 : Int32)) * (5 : Int32)), rv aF, iv (1 : Int32), un] [(.ref aF)])) rfl (by rw [hml]; rfl) (Steps.refl _) (argsL := []) (rest := []) (lenOf pd_0 rfl) rfl (by show 2 * 0 + _ ≤ _; exact Nat.le_of_eq rfl) (hb hby at_69) (fun _ _ => ⟨rfl, e1, (by decide : 0 + 0 ≤ _), (by decide : 0 + 0 ≤ _)⟩)
    dsimp only [Pt.U, Pt.locs, Pt.cells, Pt.slots] at X2 l2 y2 z2 st2 hQ2
    subst l2 y2 z2
    obtain ⟨rfl, Nq2, e2⟩ := hQ2
    have N2 := Fr.app N0 Nq2
    refine Go.stp (fun t k => st2.trans k) ?_
    show Go p.tables e below G (T2.setTop (mkF m 72 #[iv p0, iv ((p0 &&& (2147483647 : Int32)) - ((p0 &&& (2147483647 : Int32)) / (5 : Int32)) * (5 : Int32)), rv aF, iv (1 : Int32), un] [(.int (own_cc aF aF aL))]))
    refine Go.stp (fun t k => XS.istore X2.here hx rfl (hb hby at_72) rfl (l' := #[iv p0, iv ((p0 &&& (2147483647 : Int32)) - ((p0 &&& (2147483647 : Int32)) / (5 : Int32)) * (5 : Int32)), rv aF, iv (1 : Int32), iv (own_cc aF aF aL)]) rfl k) ?_
    show Go p.tables e below G (T2.setTop (mkF m 74 #[iv p0, iv ((p0 &&& (2147483647 : Int32)) - ((p0 &&& (2147483647 : Int32)) / (5 : Int32)) * (5 : Int32)), rv aF, iv (1 : Int32), iv (own_cc aF aF aL)] []))
    refine Go.stp (fun t k => XS.iload X2.here hx rfl (hb hby at_74) rfl k) ?_
    show Go p.tables e below G (T2.setTop (mkF m 76 #[iv p0, iv ((p0 &&& (2147483647 : Int32)) - ((p0 &&& (2147483647 : Int32)) / (5 : Int32)) * (5 : Int32)), rv aF, iv (1 : Int32), iv (own_cc aF aF aL)] [(.int (own_cc aF aF aL))]))
    refine Go.stp (fun t k => XS.iloadN X2.here hx rfl (hb hby at_76) rfl k) ?_
    show Go p.tables e below G (T2.setTop (mkF m 77 #[iv p0, iv ((p0 &&& (2147483647 : Int32)) - ((p0 &&& (2147483647 : Int32)) / (5 : Int32)) * (5 : Int32)), rv aF, iv (1 : Int32), iv (own_cc aF aF aL)] [(.int (1 : Int32)), (.int (own_cc aF aF aL))]))
    have hd77 : (own_cc aF aF aL) = (1 : Int32) := by simp [own_cc]
    refine Go.stp (fun t k => XS.icmpYes X2.here hx rfl (pc0 := 77) (pc' := 82) rfl (hb hby at_77) rfl (teq hd77).1 (by decide) (by decide) k) ?_
    show Go p.tables e below G (T2.setTop (mkF m 82 #[iv p0, iv ((p0 &&& (2147483647 : Int32)) - ((p0 &&& (2147483647 : Int32)) / (5 : Int32)) * (5 : Int32)), rv aF, iv (1 : Int32), iv (own_cc aF aF aL)] []))
    refine Go.stp (fun t k => XS.iload X2.here hx rfl (hb hby at_82) rfl k) ?_
    show Go p.tables e below G (T2.setTop (mkF m 84 #[iv p0, iv ((p0 &&& (2147483647 : Int32)) - ((p0 &&& (2147483647 : Int32)) / (5 : Int32)) * (5 : Int32)), rv aF, iv (1 : Int32), iv (own_cc aF aF aL)] [(.int (own_cc aF aF aL))]))
    have hd84 : ¬ ((own_cc aF aF aL) = (0 : Int32)) := by simp [own_cc]
    refine Go.stp (fun t k => XS.ifNo X2.here hx rfl (hb hby at_84) rfl ((if0 _ _).trans (feq hd84).1) k) ?_
    show Go p.tables e below G (T2.setTop (mkF m 87 #[iv p0, iv ((p0 &&& (2147483647 : Int32)) - ((p0 &&& (2147483647 : Int32)) / (5 : Int32)) * (5 : Int32)), rv aF, iv (1 : Int32), iv (own_cc aF aF aL)] []))
    refine Go.stp (fun t k => XS.aloadN X2.here hx rfl (hb hby at_87) rfl rfl k) ?_
    show Go p.tables e below G (T2.setTop (mkF m 88 #[iv p0, iv ((p0 &&& (2147483647 : Int32)) - ((p0 &&& (2147483647 : Int32)) / (5 : Int32)) * (5 : Int32)), rv aF, iv (1 : Int32), iv (own_cc aF aF aL)] [(.ref aF)]))
    obtain ⟨cq3, kq3, q3a, q3b, q3c⟩ := isOf hZ e2 E_aF
    obtain ⟨_, _, ⟨T3, L3, k3, n3⟩, -, X3, ⟨Lc3, hQ3, l3, y3, z3⟩, st3⟩ := X2.virtualBack hx (y := (⟨"com/example/sluicegate/sluicegate/policy/Algorithm", "delays", "()Z"⟩ : MethodName)) (z := (⟨"com/example/sluicegate/sluicegate/policy/Algorithm", "delays", "()Z"⟩ : MethodName)) hown (mvT hZ (hw _ (List.mem_of_getElem? (i := 10) rfl))) (mvT hZ (hw _ (List.mem_of_getElem? (i := 11) rfl))) (notFace_of_selects (args := #[]) (mvT hZ (hw _ (List.mem_of_getElem? (i := 13) rfl)))) (mvT hZ (hw _ (List.mem_of_getElem? (i := 13) rfl))) (mvT hZ (hw _ (List.mem_of_getElem? (i := 12) rfl))) (by decide) (backOf (W := 0) (rm2 l Z a0 hw [] aF aK h0 n0 Z0 S_aK) hZ (hw _ (List.mem_of_getElem? (i := 14) rfl)) (hw _ (List.mem_of_getElem? (i := 2) rfl)) (by decide) (by decide)) q3a q3c (g := (mkF m 88 #[iv p0, iv ((p0 &&& (2147483647 : Int32)) - ((p0 &&& (2147483647 : Int32)) / (5 : Int32)) * (5 : Int32)), rv aF, iv (1 : Int32), iv (own_cc aF aF aL)] [(.ref aF)])) rfl (by rw [hml]; rfl) (Steps.refl _) (argsL := []) (rest := []) (lenOf pd_0 rfl) rfl (by show 2 * 0 + _ ≤ _; exact Nat.le_of_eq rfl) (hb hby at_88) (fun _ _ => ⟨rfl, e2, (by decide : 0 + 0 ≤ _), (by decide : 0 + 0 ≤ _)⟩)
    dsimp only [Pt.U, Pt.locs, Pt.cells, Pt.slots] at X3 l3 y3 z3 st3 hQ3
    subst l3 y3 z3
    obtain ⟨rfl, Nq3, e3⟩ := hQ3
    have N3 := Fr.app N2 Nq3
    refine Go.stp (fun t k => st3.trans k) ?_
    show Go p.tables e below G (T3.setTop (mkF m 91 #[iv p0, iv ((p0 &&& (2147483647 : Int32)) - ((p0 &&& (2147483647 : Int32)) / (5 : Int32)) * (5 : Int32)), rv aF, iv (1 : Int32), iv (own_cc aF aF aL)] [(.int (own_de aF aK))]))
    have hd91 : (own_de aF aK) = (0 : Int32) := by simp [own_de, ne_aF_aK]
    refine Go.stp (fun t k => XS.ifYes X3.here hx rfl (pc0 := 91) (pc' := 96) rfl (hb hby at_91) rfl ((if0 _ _).trans (teq hd91).1) (by decide) (by decide) k) ?_
    show Go p.tables e below G (T3.setTop (mkF m 96 #[iv p0, iv ((p0 &&& (2147483647 : Int32)) - ((p0 &&& (2147483647 : Int32)) / (5 : Int32)) * (5 : Int32)), rv aF, iv (1 : Int32), iv (own_cc aF aF aL)] []))
    refine Go.stp (fun t k => XS.iconst X3.here hx rfl (hb hby at_96) k) ?_
    show Go p.tables e below G (T3.setTop (mkF m 97 #[iv p0, iv ((p0 &&& (2147483647 : Int32)) - ((p0 &&& (2147483647 : Int32)) / (5 : Int32)) * (5 : Int32)), rv aF, iv (1 : Int32), iv (own_cc aF aF aL)] [(.int (1 : Int32))]))
    obtain ⟨fs, hr, hrun, hended, hW, hsame⟩ := X3.leave (v := some (.int (1 : Int32))) (fun h => by rw [Bd.returns] at h; cases h)
    refine ⟨_, _, retN X3 hx (t := .boolean) Bd.returns (by simp) (hb hby at_97) hr, hrun, hended, hG _ _ _ ?_ ⟨⟨_, rfl⟩, hW, hsame.mono (by decide) (by decide)⟩⟩
    show Q0 Z p0 aF aL aC aT aK h0 n0 _ T3.heap _
    rw [e3]
    exact ⟨rfl, N3⟩
  · refine Go.stp (fun t k => XS.ifYes X0.here hx rfl (pc0 := 8) (pc' := 20) rfl (hb hby at_8) rfl ((if0 _ _).trans (feq hc8).2) (by decide) (by decide) k) ?_
    show Go p.tables e below G (s₁.setTop (mkF m 20 #[iv p0, iv ((p0 &&& (2147483647 : Int32)) - ((p0 &&& (2147483647 : Int32)) / (5 : Int32)) * (5 : Int32)), un, un, un] []))
    refine Go.stp (fun t k => XS.iloadN X0.here hx rfl (hb hby at_20) rfl k) ?_
    show Go p.tables e below G (s₁.setTop (mkF m 21 #[iv p0, iv ((p0 &&& (2147483647 : Int32)) - ((p0 &&& (2147483647 : Int32)) / (5 : Int32)) * (5 : Int32)), un, un, un] [(.int ((p0 &&& (2147483647 : Int32)) - ((p0 &&& (2147483647 : Int32)) / (5 : Int32)) * (5 : Int32)))]))
    refine Go.stp (fun t k => XS.iconst X0.here hx rfl (hb hby at_21) k) ?_
    show Go p.tables e below G (s₁.setTop (mkF m 22 #[iv p0, iv ((p0 &&& (2147483647 : Int32)) - ((p0 &&& (2147483647 : Int32)) / (5 : Int32)) * (5 : Int32)), un, un, un] [(.int (1 : Int32)), (.int ((p0 &&& (2147483647 : Int32)) - ((p0 &&& (2147483647 : Int32)) / (5 : Int32)) * (5 : Int32)))]))
    by_cases hc22 : ((p0 &&& (2147483647 : Int32)) - ((p0 &&& (2147483647 : Int32)) / (5 : Int32)) * (5 : Int32)) = (1 : Int32)
    · refine Go.stp (fun t k => XS.icmpNo X0.here hx rfl (hb hby at_22) rfl (teq hc22).2 k) ?_
      show Go p.tables e below G (s₁.setTop (mkF m 25 #[iv p0, iv ((p0 &&& (2147483647 : Int32)) - ((p0 &&& (2147483647 : Int32)) / (5 : Int32)) * (5 : Int32)), un, un, un] []))
      obtain ⟨T4, X4, e4, st4⟩ := getS2 X0 hx hZ hown (host := "") (Or.inl (hw _ (List.mem_of_getElem? (i := 21) rfl))) Via.refl e0 S_aL (g := (mkF m 25 #[iv p0, iv ((p0 &&& (2147483647 : Int32)) - ((p0 &&& (2147483647 : Int32)) / (5 : Int32)) * (5 : Int32)), un, un, un] [])) rfl (hb hby at_25)
      refine Go.stp (fun t k => st4 t k) ?_
      show Go p.tables e below G (T4.setTop (mkF m 28 #[iv p0, iv ((p0 &&& (2147483647 : Int32)) - ((p0 &&& (2147483647 : Int32)) / (5 : Int32)) * (5 : Int32)), un, un, un] [(.ref aL)]))
      refine Go.stp (fun t k => XS.astoreN X4.here hx rfl (hb hby at_28) rfl rfl (l' := #[iv p0, iv ((p0 &&& (2147483647 : Int32)) - ((p0 &&& (2147483647 : Int32)) / (5 : Int32)) * (5 : Int32)), rv aL, un, un]) rfl k) ?_
      show Go p.tables e below G (T4.setTop (mkF m 29 #[iv p0, iv ((p0 &&& (2147483647 : Int32)) - ((p0 &&& (2147483647 : Int32)) / (5 : Int32)) * (5 : Int32)), rv aL, un, un] []))
      refine Go.stp (fun t k => XS.iconst X4.here hx rfl (hb hby at_29) k) ?_
      show Go p.tables e below G (T4.setTop (mkF m 30 #[iv p0, iv ((p0 &&& (2147483647 : Int32)) - ((p0 &&& (2147483647 : Int32)) / (5 : Int32)) * (5 : Int32)), rv aL, un, un] [(.int (1 : Int32))]))
      refine Go.stp (fun t k => XS.istoreN X4.here hx rfl (hb hby at_30) rfl (l' := #[iv p0, iv ((p0 &&& (2147483647 : Int32)) - ((p0 &&& (2147483647 : Int32)) / (5 : Int32)) * (5 : Int32)), rv aL, iv (1 : Int32), un]) rfl k) ?_
      show Go p.tables e below G (T4.setTop (mkF m 31 #[iv p0, iv ((p0 &&& (2147483647 : Int32)) - ((p0 &&& (2147483647 : Int32)) / (5 : Int32)) * (5 : Int32)), rv aL, iv (1 : Int32), un] []))
      refine Go.stp (fun t k => XS.goto X4.here hx rfl (pc0 := 31) (pc' := 68) rfl (hb hby at_31) (by decide) (by decide) k) ?_
      show Go p.tables e below G (T4.setTop (mkF m 68 #[iv p0, iv ((p0 &&& (2147483647 : Int32)) - ((p0 &&& (2147483647 : Int32)) / (5 : Int32)) * (5 : Int32)), rv aL, iv (1 : Int32), un] []))
      refine Go.stp (fun t k => XS.aloadN X4.here hx rfl (hb hby at_68) rfl rfl k) ?_
      show Go p.tables e below G (T4.setTop (mkF m 69 #[iv p0, iv ((p0 &&& (2147483647 : Int32)) - ((p0 &&& (2147483647 : Int32)) / (5 : Int32)) * (5 : Int32)), rv aL, iv (1 : Int32), un] [(.ref aL)]))
      obtain ⟨cq5, kq5, q5a, q5b, q5c⟩ := isOf hZ e4 E_aL
      obtain ⟨_, _, ⟨T5, L5, k5, n5⟩, -, X5, ⟨Lc5, hQ5, l5, y5, z5⟩, st5⟩ := X4.virtualBack hx (y := (⟨"com/example/sluicegate/sluicegate/policy/Algorithm", "countsCosts", "()Z"⟩ : MethodName)) (z := (⟨"com/example/sluicegate/sluicegate/policy/Algorithm", "countsCosts", "()Z"⟩ : MethodName)) hown (mvT hZ (hw _ (List.mem_of_getElem? (i := 4) rfl))) (mvT hZ (hw _ (List.mem_of_getElem? (i := 5) rfl))) (notFace_of_selects (args := #[]) (mvT hZ (hw _ (List.mem_of_getElem? (i := 7) rfl)))) (mvT hZ (hw _ (List.mem_of_getElem? (i := 7) rfl))) (mvT hZ (hw _ (List.mem_of_getElem? (i := 6) rfl))) (by decide) (backOf (W := 0) (rm1 l Z a0 hw [] aL aF aL h0 n0 Z0 S_aF S_aL) hZ (hw _ (List.mem_of_getElem? (i := 8) rfl)) (hw _ (List.mem_of_getElem? (i := 2) rfl)) (by decide) (by decide)) q5a q5c (g := (mkF m 69 #[iv p0, iv ((p0 &&& (2147483647 : Int32)) - ((p0 &&& (2147483647 : Int32)) / (5 : Int32)) * (5 : Int32)), rv aL, iv (1 : Int32), un] [(.ref aL)])) rfl (by rw [hml]; rfl) (Steps.refl _) (argsL := []) (rest := []) (lenOf pd_0 rfl) rfl (by show 2 * 0 + _ ≤ _; exact Nat.le_of_eq rfl) (hb hby at_69) (fun _ _ => ⟨rfl, e4, (by decide : 0 + 0 ≤ _), (by decide : 0 + 0 ≤ _)⟩)
      dsimp only [Pt.U, Pt.locs, Pt.cells, Pt.slots] at X5 l5 y5 z5 st5 hQ5
      subst l5 y5 z5
      obtain ⟨rfl, Nq5, e5⟩ := hQ5
      have N5 := Fr.app N0 Nq5
      refine Go.stp (fun t k => st5.trans k) ?_
      show Go p.tables e below G (T5.setTop (mkF m 72 #[iv p0, iv ((p0 &&& (2147483647 : Int32)) - ((p0 &&& (2147483647 : Int32)) / (5 : Int32)) * (5 : Int32)), rv aL, iv (1 : Int32), un] [(.int (own_cc aL aF aL))]))
      refine Go.stp (fun t k => XS.istore X5.here hx rfl (hb hby at_72) rfl (l' := #[iv p0, iv ((p0 &&& (2147483647 : Int32)) - ((p0 &&& (2147483647 : Int32)) / (5 : Int32)) * (5 : Int32)), rv aL, iv (1 : Int32), iv (own_cc aL aF aL)]) rfl k) ?_
      show Go p.tables e below G (T5.setTop (mkF m 74 #[iv p0, iv ((p0 &&& (2147483647 : Int32)) - ((p0 &&& (2147483647 : Int32)) / (5 : Int32)) * (5 : Int32)), rv aL, iv (1 : Int32), iv (own_cc aL aF aL)] []))
      refine Go.stp (fun t k => XS.iload X5.here hx rfl (hb hby at_74) rfl k) ?_
      show Go p.tables e below G (T5.setTop (mkF m 76 #[iv p0, iv ((p0 &&& (2147483647 : Int32)) - ((p0 &&& (2147483647 : Int32)) / (5 : Int32)) * (5 : Int32)), rv aL, iv (1 : Int32), iv (own_cc aL aF aL)] [(.int (own_cc aL aF aL))]))
      refine Go.stp (fun t k => XS.iloadN X5.here hx rfl (hb hby at_76) rfl k) ?_
      show Go p.tables e below G (T5.setTop (mkF m 77 #[iv p0, iv ((p0 &&& (2147483647 : Int32)) - ((p0 &&& (2147483647 : Int32)) / (5 : Int32)) * (5 : Int32)), rv aL, iv (1 : Int32), iv (own_cc aL aF aL)] [(.int (1 : Int32)), (.int (own_cc aL aF aL))]))
      have hd77 : (own_cc aL aF aL) = (1 : Int32) := by simp [own_cc]
      refine Go.stp (fun t k => XS.icmpYes X5.here hx rfl (pc0 := 77) (pc' := 82) rfl (hb hby at_77) rfl (teq hd77).1 (by decide) (by decide) k) ?_
      show Go p.tables e below G (T5.setTop (mkF m 82 #[iv p0, iv ((p0 &&& (2147483647 : Int32)) - ((p0 &&& (2147483647 : Int32)) / (5 : Int32)) * (5 : Int32)), rv aL, iv (1 : Int32), iv (own_cc aL aF aL)] []))
      refine Go.stp (fun t k => XS.iload X5.here hx rfl (hb hby at_82) rfl k) ?_
      show Go p.tables e below G (T5.setTop (mkF m 84 #[iv p0, iv ((p0 &&& (2147483647 : Int32)) - ((p0 &&& (2147483647 : Int32)) / (5 : Int32)) * (5 : Int32)), rv aL, iv (1 : Int32), iv (own_cc aL aF aL)] [(.int (own_cc aL aF aL))]))
      have hd84 : ¬ ((own_cc aL aF aL) = (0 : Int32)) := by simp [own_cc]
      refine Go.stp (fun t k => XS.ifNo X5.here hx rfl (hb hby at_84) rfl ((if0 _ _).trans (feq hd84).1) k) ?_
      show Go p.tables e below G (T5.setTop (mkF m 87 #[iv p0, iv ((p0 &&& (2147483647 : Int32)) - ((p0 &&& (2147483647 : Int32)) / (5 : Int32)) * (5 : Int32)), rv aL, iv (1 : Int32), iv (own_cc aL aF aL)] []))
      refine Go.stp (fun t k => XS.aloadN X5.here hx rfl (hb hby at_87) rfl rfl k) ?_
      show Go p.tables e below G (T5.setTop (mkF m 88 #[iv p0, iv ((p0 &&& (2147483647 : Int32)) - ((p0 &&& (2147483647 : Int32)) / (5 : Int32)) * (5 : Int32)), rv aL, iv (1 : Int32), iv (own_cc aL aF aL)] [(.ref aL)]))
      obtain ⟨cq6, kq6, q6a, q6b, q6c⟩ := isOf hZ e5 E_aL
      obtain ⟨_, _, ⟨T6, L6, k6, n6⟩, -, X6, ⟨Lc6, hQ6, l6, y6, z6⟩, st6⟩ := X5.virtualBack hx (y := (⟨"com/example/sluicegate/sluicegate/policy/Algorithm", "delays", "()Z"⟩ : MethodName)) (z := (⟨"com/example/sluicegate/sluicegate/policy/Algorithm", "delays", "()Z"⟩ : MethodName)) hown (mvT hZ (hw _ (List.mem_of_getElem? (i := 10) rfl))) (mvT hZ (hw _ (List.mem_of_getElem? (i := 11) rfl))) (notFace_of_selects (args := #[]) (mvT hZ (hw _ (List.mem_of_getElem? (i := 13) rfl)))) (mvT hZ (hw _ (List.mem_of_getElem? (i := 13) rfl))) (mvT hZ (hw _ (List.mem_of_getElem? (i := 12) rfl))) (by decide) (backOf (W := 0) (rm2 l Z a0 hw [] aL aK h0 n0 Z0 S_aK) hZ (hw _ (List.mem_of_getElem? (i := 14) rfl)) (hw _ (List.mem_of_getElem? (i := 2) rfl)) (by decide) (by decide)) q6a q6c (g := (mkF m 88 #[iv p0, iv ((p0 &&& (2147483647 : Int32)) - ((p0 &&& (2147483647 : Int32)) / (5 : Int32)) * (5 : Int32)), rv aL, iv (1 : Int32), iv (own_cc aL aF aL)] [(.ref aL)])) rfl (by rw [hml]; rfl) (Steps.refl _) (argsL := []) (rest := []) (lenOf pd_0 rfl) rfl (by show 2 * 0 + _ ≤ _; exact Nat.le_of_eq rfl) (hb hby at_88) (fun _ _ => ⟨rfl, e5, (by decide : 0 + 0 ≤ _), (by decide : 0 + 0 ≤ _)⟩)
      dsimp only [Pt.U, Pt.locs, Pt.cells, Pt.slots] at X6 l6 y6 z6 st6 hQ6
      subst l6 y6 z6
      obtain ⟨rfl, Nq6, e6⟩ := hQ6
      have N6 := Fr.app N5 Nq6
      refine Go.stp (fun t k => st6.trans k) ?_
      show Go p.tables e below G (T6.setTop (mkF m 91 #[iv p0, iv ((p0 &&& (2147483647 : Int32)) - ((p0 &&& (2147483647 : Int32)) / (5 : Int32)) * (5 : Int32)), rv aL, iv (1 : Int32), iv (own_cc aL aF aL)] [(.int (own_de aL aK))]))
      have hd91 : (own_de aL aK) = (0 : Int32) := by simp [own_de, ne_aL_aK]
      refine Go.stp (fun t k => XS.ifYes X6.here hx rfl (pc0 := 91) (pc' := 96) rfl (hb hby at_91) rfl ((if0 _ _).trans (teq hd91).1) (by decide) (by decide) k) ?_
      show Go p.tables e below G (T6.setTop (mkF m 96 #[iv p0, iv ((p0 &&& (2147483647 : Int32)) - ((p0 &&& (2147483647 : Int32)) / (5 : Int32)) * (5 : Int32)), rv aL, iv (1 : Int32), iv (own_cc aL aF aL)] []))
      refine Go.stp (fun t k => XS.iconst X6.here hx rfl (hb hby at_96) k) ?_
      show Go p.tables e below G (T6.setTop (mkF m 97 #[iv p0, iv ((p0 &&& (2147483647 : Int32)) - ((p0 &&& (2147483647 : Int32)) / (5 : Int32)) * (5 : Int32)), rv aL, iv (1 : Int32), iv (own_cc aL aF aL)] [(.int (1 : Int32))]))
      obtain ⟨fs, hr, hrun, hended, hW, hsame⟩ := X6.leave (v := some (.int (1 : Int32))) (fun h => by rw [Bd.returns] at h; cases h)
      refine ⟨_, _, retN X6 hx (t := .boolean) Bd.returns (by simp) (hb hby at_97) hr, hrun, hended, hG _ _ _ ?_ ⟨⟨_, rfl⟩, hW, hsame.mono (by decide) (by decide)⟩⟩
      show Q0 Z p0 aF aL aC aT aK h0 n0 _ T6.heap _
      rw [e6]
      exact ⟨rfl, N6⟩
    · refine Go.stp (fun t k => XS.icmpYes X0.here hx rfl (pc0 := 22) (pc' := 34) rfl (hb hby at_22) rfl (feq hc22).2 (by decide) (by decide) k) ?_
      show Go p.tables e below G (s₁.setTop (mkF m 34 #[iv p0, iv ((p0 &&& (2147483647 : Int32)) - ((p0 &&& (2147483647 : Int32)) / (5 : Int32)) * (5 : Int32)), un, un, un] []))
      refine Go.stp (fun t k => XS.iloadN X0.here hx rfl (hb hby at_34) rfl k) ?_
      show Go p.tables e below G (s₁.setTop (mkF m 35 #[iv p0, iv ((p0 &&& (2147483647 : Int32)) - ((p0 &&& (2147483647 : Int32)) / (5 : Int32)) * (5 : Int32)), un, un, un] [(.int ((p0 &&& (2147483647 : Int32)) - ((p0 &&& (2147483647 : Int32)) / (5 : Int32)) * (5 : Int32)))]))
      refine Go.stp (fun t k => XS.iconst X0.here hx rfl (hb hby at_35) k) ?_
      show Go p.tables e below G (s₁.setTop (mkF m 36 #[iv p0, iv ((p0 &&& (2147483647 : Int32)) - ((p0 &&& (2147483647 : Int32)) / (5 : Int32)) * (5 : Int32)), un, un, un] [(.int (2 : Int32)), (.int ((p0 &&& (2147483647 : Int32)) - ((p0 &&& (2147483647 : Int32)) / (5 : Int32)) * (5 : Int32)))]))
      by_cases hc36 : ((p0 &&& (2147483647 : Int32)) - ((p0 &&& (2147483647 : Int32)) / (5 : Int32)) * (5 : Int32)) = (2 : Int32)
      · refine Go.stp (fun t k => XS.icmpNo X0.here hx rfl (hb hby at_36) rfl (teq hc36).2 k) ?_
        show Go p.tables e below G (s₁.setTop (mkF m 39 #[iv p0, iv ((p0 &&& (2147483647 : Int32)) - ((p0 &&& (2147483647 : Int32)) / (5 : Int32)) * (5 : Int32)), un, un, un] []))
        obtain ⟨T7, X7, e7, st7⟩ := getS2 X0 hx hZ hown (host := "") (Or.inl (hw _ (List.mem_of_getElem? (i := 23) rfl))) Via.refl e0 S_aC (g := (mkF m 39 #[iv p0, iv ((p0 &&& (2147483647 : Int32)) - ((p0 &&& (2147483647 : Int32)) / (5 : Int32)) * (5 : Int32)), un, un, un] [])) rfl (hb hby at_39)
        refine Go.stp (fun t k => st7 t k) ?_
        show Go p.tables e below G (T7.setTop (mkF m 42 #[iv p0, iv ((p0 &&& (2147483647 : Int32)) - ((p0 &&& (2147483647 : Int32)) / (5 : Int32)) * (5 : Int32)), un, un, un] [(.ref aC)]))
        refine Go.stp (fun t k => XS.astoreN X7.here hx rfl (hb hby at_42) rfl rfl (l' := #[iv p0, iv ((p0 &&& (2147483647 : Int32)) - ((p0 &&& (2147483647 : Int32)) / (5 : Int32)) * (5 : Int32)), rv aC, un, un]) rfl k) ?_
        show Go p.tables e below G (T7.setTop (mkF m 43 #[iv p0, iv ((p0 &&& (2147483647 : Int32)) - ((p0 &&& (2147483647 : Int32)) / (5 : Int32)) * (5 : Int32)), rv aC, un, un] []))
        refine Go.stp (fun t k => XS.iconst X7.here hx rfl (hb hby at_43) k) ?_
        show Go p.tables e below G (T7.setTop (mkF m 44 #[iv p0, iv ((p0 &&& (2147483647 : Int32)) - ((p0 &&& (2147483647 : Int32)) / (5 : Int32)) * (5 : Int32)), rv aC, un, un] [(.int (0 : Int32))]))
        refine Go.stp (fun t k => XS.istoreN X7.here hx rfl (hb hby at_44) rfl (l' := #[iv p0, iv ((p0 &&& (2147483647 : Int32)) - ((p0 &&& (2147483647 : Int32)) / (5 : Int32)) * (5 : Int32)), rv aC, iv (0 : Int32), un]) rfl k) ?_
        show Go p.tables e below G (T7.setTop (mkF m 45 #[iv p0, iv ((p0 &&& (2147483647 : Int32)) - ((p0 &&& (2147483647 : Int32)) / (5 : Int32)) * (5 : Int32)), rv aC, iv (0 : Int32), un] []))
        refine Go.stp (fun t k => XS.goto X7.here hx rfl (pc0 := 45) (pc' := 68) rfl (hb hby at_45) (by decide) (by decide) k) ?_
        show Go p.tables e below G (T7.setTop (mkF m 68 #[iv p0, iv ((p0 &&& (2147483647 : Int32)) - ((p0 &&& (2147483647 : Int32)) / (5 : Int32)) * (5 : Int32)), rv aC, iv (0 : Int32), un] []))
        refine Go.stp (fun t k => XS.aloadN X7.here hx rfl (hb hby at_68) rfl rfl k) ?_
        show Go p.tables e below G (T7.setTop (mkF m 69 #[iv p0, iv ((p0 &&& (2147483647 : Int32)) - ((p0 &&& (2147483647 : Int32)) / (5 : Int32)) * (5 : Int32)), rv aC, iv (0 : Int32), un] [(.ref aC)]))
        obtain ⟨cq8, kq8, q8a, q8b, q8c⟩ := isOf hZ e7 E_aC
        obtain ⟨_, _, ⟨T8, L8, k8, n8⟩, -, X8, ⟨Lc8, hQ8, l8, y8, z8⟩, st8⟩ := X7.virtualBack hx (y := (⟨"com/example/sluicegate/sluicegate/policy/Algorithm", "countsCosts", "()Z"⟩ : MethodName)) (z := (⟨"com/example/sluicegate/sluicegate/policy/Algorithm", "countsCosts", "()Z"⟩ : MethodName)) hown (mvT hZ (hw _ (List.mem_of_getElem? (i := 4) rfl))) (mvT hZ (hw _ (List.mem_of_getElem? (i := 5) rfl))) (notFace_of_selects (args := #[]) (mvT hZ (hw _ (List.mem_of_getElem? (i := 7) rfl)))) (mvT hZ (hw _ (List.mem_of_getElem? (i := 7) rfl))) (mvT hZ (hw _ (List.mem_of_getElem? (i := 6) rfl))) (by decide) (backOf (W := 0) (rm1 l Z a0 hw [] aC aF aL h0 n0 Z0 S_aF S_aL) hZ (hw _ (List.mem_of_getElem? (i := 8) rfl)) (hw _ (List.mem_of_getElem? (i := 2) rfl)) (by decide) (by decide)) q8a q8c (g := (mkF m 69 #[iv p0, iv ((p0 &&& (2147483647 : Int32)) - ((p0 &&& (2147483647 : Int32)) / (5 : Int32)) * (5 : Int32)), rv aC, iv (0 : Int32), un] [(.ref aC)])) rfl (by rw [hml]; rfl) (Steps.refl _) (argsL := []) (rest := []) (lenOf pd_0 rfl) rfl (by show 2 * 0 + _ ≤ _; exact Nat.le_of_eq rfl) (hb hby at_69) (fun _ _ => ⟨rfl, e7, (by decide : 0 + 0 ≤ _), (by decide : 0 + 0 ≤ _)⟩)
        dsimp only [Pt.U, Pt.locs, Pt.cells, Pt.slots] at X8 l8 y8 z8 st8 hQ8
        subst l8 y8 z8
        obtain ⟨rfl, Nq8, e8⟩ := hQ8
        have N8 := Fr.app N0 Nq8
        refine Go.stp (fun t k => st8.trans k) ?_
        show Go p.tables e below G (T8.setTop (mkF m 72 #[iv p0, iv ((p0 &&& (2147483647 : Int32)) - ((p0 &&& (2147483647 : Int32)) / (5 : Int32)) * (5 : Int32)), rv aC, iv (0 : Int32), un] [(.int (own_cc aC aF aL))]))
        refine Go.stp (fun t k => XS.istore X8.here hx rfl (hb hby at_72) rfl (l' := #[iv p0, iv ((p0 &&& (2147483647 : Int32)) - ((p0 &&& (2147483647 : Int32)) / (5 : Int32)) * (5 : Int32)), rv aC, iv (0 : Int32), iv (own_cc aC aF aL)]) rfl k) ?_
        show Go p.tables e below G (T8.setTop (mkF m 74 #[iv p0, iv ((p0 &&& (2147483647 : Int32)) - ((p0 &&& (2147483647 : Int32)) / (5 : Int32)) * (5 : Int32)), rv aC, iv (0 : Int32), iv (own_cc aC aF aL)] []))
        refine Go.stp (fun t k => XS.iload X8.here hx rfl (hb hby at_74) rfl k) ?_
        show Go p.tables e below G (T8.setTop (mkF m 76 #[iv p0, iv ((p0 &&& (2147483647 : Int32)) - ((p0 &&& (2147483647 : Int32)) / (5 : Int32)) * (5 : Int32)), rv aC, iv (0 : Int32), iv (own_cc aC aF aL)] [(.int (own_cc aC aF aL))]))
        refine Go.stp (fun t k => XS.iloadN X8.here hx rfl (hb hby at_76) rfl k) ?_
        show Go p.tables e below G (T8.setTop (mkF m 77 #[iv p0, iv ((p0 &&& (2147483647 : Int32)) - ((p0 &&& (2147483647 : Int32)) / (5 : Int32)) * (5 : Int32)), rv aC, iv (0 : Int32), iv (own_cc aC aF aL)] [(.int (0 : Int32)), (.int (own_cc aC aF aL))]))
        have hd77 : (own_cc aC aF aL) = (0 : Int32) := by simp [own_cc, ne_aC_aF, ne_aC_aL]
        refine Go.stp (fun t k => XS.icmpYes X8.here hx rfl (pc0 := 77) (pc' := 82) rfl (hb hby at_77) rfl (teq hd77).1 (by decide) (by decide) k) ?_
        show Go p.tables e below G (T8.setTop (mkF m 82 #[iv p0, iv ((p0 &&& (2147483647 : Int32)) - ((p0 &&& (2147483647 : Int32)) / (5 : Int32)) * (5 : Int32)), rv aC, iv (0 : Int32), iv (own_cc aC aF aL)] []))
        refine Go.stp (fun t k => XS.iload X8.here hx rfl (hb hby at_82) rfl k) ?_
        show Go p.tables e below G (T8.setTop (mkF m 84 #[iv p0, iv ((p0 &&& (2147483647 : Int32)) - ((p0 &&& (2147483647 : Int32)) / (5 : Int32)) * (5 : Int32)), rv aC, iv (0 : Int32), iv (own_cc aC aF aL)] [(.int (own_cc aC aF aL))]))
        have hd84 : (own_cc aC aF aL) = (0 : Int32) := by simp [own_cc, ne_aC_aF, ne_aC_aL]
        refine Go.stp (fun t k => XS.ifYes X8.here hx rfl (pc0 := 84) (pc' := 96) rfl (hb hby at_84) rfl ((if0 _ _).trans (teq hd84).1) (by decide) (by decide) k) ?_
        show Go p.tables e below G (T8.setTop (mkF m 96 #[iv p0, iv ((p0 &&& (2147483647 : Int32)) - ((p0 &&& (2147483647 : Int32)) / (5 : Int32)) * (5 : Int32)), rv aC, iv (0 : Int32), iv (own_cc aC aF aL)] []))
        refine Go.stp (fun t k => XS.iconst X8.here hx rfl (hb hby at_96) k) ?_
        show Go p.tables e below G (T8.setTop (mkF m 97 #[iv p0, iv ((p0 &&& (2147483647 : Int32)) - ((p0 &&& (2147483647 : Int32)) / (5 : Int32)) * (5 : Int32)), rv aC, iv (0 : Int32), iv (own_cc aC aF aL)] [(.int (1 : Int32))]))
        obtain ⟨fs, hr, hrun, hended, hW, hsame⟩ := X8.leave (v := some (.int (1 : Int32))) (fun h => by rw [Bd.returns] at h; cases h)
        refine ⟨_, _, retN X8 hx (t := .boolean) Bd.returns (by simp) (hb hby at_97) hr, hrun, hended, hG _ _ _ ?_ ⟨⟨_, rfl⟩, hW, hsame.mono (by decide) (by decide)⟩⟩
        show Q0 Z p0 aF aL aC aT aK h0 n0 _ T8.heap _
        rw [e8]
        exact ⟨rfl, N8⟩
      · refine Go.stp (fun t k => XS.icmpYes X0.here hx rfl (pc0 := 36) (pc' := 48) rfl (hb hby at_36) rfl (feq hc36).2 (by decide) (by decide) k) ?_
        show Go p.tables e below G (s₁.setTop (mkF m 48 #[iv p0, iv ((p0 &&& (2147483647 : Int32)) - ((p0 &&& (2147483647 : Int32)) / (5 : Int32)) * (5 : Int32)), un, un, un] []))
        refine Go.stp (fun t k => XS.iloadN X0.here hx rfl (hb hby at_48) rfl k) ?_
        show Go p.tables e below G (s₁.setTop (mkF m 49 #[iv p0, iv ((p0 &&& (2147483647 : Int32)) - ((p0 &&& (2147483647 : Int32)) / (5 : Int32)) * (5 : Int32)), un, un, un] [(.int ((p0 &&& (2147483647 : Int32)) - ((p0 &&& (2147483647 : Int32)) / (5 : Int32)) * (5 : Int32)))]))
        refine Go.stp (fun t k => XS.iconst X0.here hx rfl (hb hby at_49) k) ?_
        show Go p.tables e below G (s₁.setTop (mkF m 50 #[iv p0, iv ((p0 &&& (2147483647 : Int32)) - ((p0 &&& (2147483647 : Int32)) / (5 : Int32)) * (5 : Int32)), un, un, un] [(.int (3 : Int32)), (.int ((p0 &&& (2147483647 : Int32)) - ((p0 &&& (2147483647 : Int32)) / (5 : Int32)) * (5 : Int32)))]))
        by_cases hc50 : ((p0 &&& (2147483647 : Int32)) - ((p0 &&& (2147483647 : Int32)) / (5 : Int32)) * (5 : Int32)) = (3 : Int32)
        · refine Go.stp (fun t k => XS.icmpNo X0.here hx rfl (hb hby at_50) rfl (teq hc50).2 k) ?_
          show Go p.tables e below G (s₁.setTop (mkF m 53 #[iv p0, iv ((p0 &&& (2147483647 : Int32)) - ((p0 &&& (2147483647 : Int32)) / (5 : Int32)) * (5 : Int32)), un, un, un] []))
          obtain ⟨T9, X9, e9, st9⟩ := getS2 X0 hx hZ hown (host := "") (Or.inl (hw _ (List.mem_of_getElem? (i := 17) rfl))) Via.refl e0 S_aT (g := (mkF m 53 #[iv p0, iv ((p0 &&& (2147483647 : Int32)) - ((p0 &&& (2147483647 : Int32)) / (5 : Int32)) * (5 : Int32)), un, un, un] [])) rfl (hb hby at_53)
          refine Go.stp (fun t k => st9 t k) ?_
          show Go p.tables e below G (T9.setTop (mkF m 56 #[iv p0, iv ((p0 &&& (2147483647 : Int32)) - ((p0 &&& (2147483647 : Int32)) / (5 : Int32)) * (5 : Int32)), un, un, un] [(.ref aT)]))
          refine Go.stp (fun t k => XS.astoreN X9.here hx rfl (hb hby at_56) rfl rfl (l' := #[iv p0, iv ((p0 &&& (2147483647 : Int32)) - ((p0 &&& (2147483647 : Int32)) / (5 : Int32)) * (5 : Int32)), rv aT, un, un]) rfl k) ?_
          show Go p.tables e below G (T9.setTop (mkF m 57 #[iv p0, iv ((p0 &&& (2147483647 : Int32)) - ((p0 &&& (2147483647 : Int32)) / (5 : Int32)) * (5 : Int32)), rv aT, un, un] []))
          refine Go.stp (fun t k => XS.iconst X9.here hx rfl (hb hby at_57) k) ?_
          show Go p.tables e below G (T9.setTop (mkF m 58 #[iv p0, iv ((p0 &&& (2147483647 : Int32)) - ((p0 &&& (2147483647 : Int32)) / (5 : Int32)) * (5 : Int32)), rv aT, un, un] [(.int (0 : Int32))]))
          refine Go.stp (fun t k => XS.istoreN X9.here hx rfl (hb hby at_58) rfl (l' := #[iv p0, iv ((p0 &&& (2147483647 : Int32)) - ((p0 &&& (2147483647 : Int32)) / (5 : Int32)) * (5 : Int32)), rv aT, iv (0 : Int32), un]) rfl k) ?_
          show Go p.tables e below G (T9.setTop (mkF m 59 #[iv p0, iv ((p0 &&& (2147483647 : Int32)) - ((p0 &&& (2147483647 : Int32)) / (5 : Int32)) * (5 : Int32)), rv aT, iv (0 : Int32), un] []))
          refine Go.stp (fun t k => XS.goto X9.here hx rfl (pc0 := 59) (pc' := 68) rfl (hb hby at_59) (by decide) (by decide) k) ?_
          show Go p.tables e below G (T9.setTop (mkF m 68 #[iv p0, iv ((p0 &&& (2147483647 : Int32)) - ((p0 &&& (2147483647 : Int32)) / (5 : Int32)) * (5 : Int32)), rv aT, iv (0 : Int32), un] []))
          refine Go.stp (fun t k => XS.aloadN X9.here hx rfl (hb hby at_68) rfl rfl k) ?_
          show Go p.tables e below G (T9.setTop (mkF m 69 #[iv p0, iv ((p0 &&& (2147483647 : Int32)) - ((p0 &&& (2147483647 : Int32)) / (5 : Int32)) * (5 : Int32)), rv aT, iv (0 : Int32), un] [(.ref aT)]))
          obtain ⟨cq10, kq10, q10a, q10b, q10c⟩ := isOf hZ e9 E_aT
          obtain ⟨_, _, ⟨T10, L10, k10, n10⟩, -, X10, ⟨Lc10, hQ10, l10, y10, z10⟩, st10⟩ := X9.virtualBack hx (y := (⟨"com/example/sluicegate/sluicegate/policy/Algorithm", "countsCosts", "()Z"⟩ : MethodName)) (z := (⟨"com/example/sluicegate/sluicegate/policy/Algorithm", "countsCosts", "()Z"⟩ : MethodName)) hown (mvT hZ (hw _ (List.mem_of_getElem? (i := 4) rfl))) (mvT hZ (hw _ (List.mem_of_getElem? (i := 5) rfl))) (notFace_of_selects (args := #[]) (mvT hZ (hw _ (List.mem_of_getElem? (i := 7) rfl)))) (mvT hZ (hw _ (List.mem_of_getElem? (i := 7) rfl))) (mvT hZ (hw _ (List.mem_of_getElem? (i := 6) rfl))) (by decide) (backOf (W := 0) (rm1 l Z a0 hw [] aT aF aL h0 n0 Z0 S_aF S_aL) hZ (hw _ (List.mem_of_getElem? (i := 8) rfl)) (hw _ (List.mem_of_getElem? (i := 2) rfl)) (by decide) (by decide)) q10a q10c (g := (mkF m 69 #[iv p0, iv ((p0 &&& (2147483647 : Int32)) - ((p0 &&& (2147483647 : Int32)) / (5 : Int32)) * (5 : Int32)), rv aT, iv (0 : Int32), un] [(.ref aT)])) rfl (by rw [hml]; rfl) (Steps.refl _) (argsL := []) (rest := []) (lenOf pd_0 rfl) rfl (by show 2 * 0 + _ ≤ _; exact Nat.le_of_eq rfl) (hb hby at_69) (fun _ _ => ⟨rfl, e9, (by decide : 0 + 0 ≤ _), (by decide : 0 + 0 ≤ _)⟩)
          dsimp only [Pt.U, Pt.locs, Pt.cells, Pt.slots] at X10 l10 y10 z10 st10 hQ10
          subst l10 y10 z10
          obtain ⟨rfl, Nq10, e10⟩ := hQ10
          have N10 := Fr.app N0 Nq10
          refine Go.stp (fun t k => st10.trans k) ?_
          show Go p.tables e below G (T10.setTop (mkF m 72 #[iv p0, iv ((p0 &&& (2147483647 : Int32)) - ((p0 &&& (2147483647 : Int32)) / (5 : Int32)) * (5 : Int32)), rv aT, iv (0 : Int32), un] [(.int (own_cc aT aF aL))]))
          refine Go.stp (fun t k => XS.istore X10.here hx rfl (hb hby at_72) rfl (l' := #[iv p0, iv ((p0 &&& (2147483647 : Int32)) - ((p0 &&& (2147483647 : Int32)) / (5 : Int32)) * (5 : Int32)), rv aT, iv (0 : Int32), iv (own_cc aT aF aL)]) rfl k) ?_
          show Go p.tables e below G (T10.setTop (mkF m 74 #[iv p0, iv ((p0 &&& (2147483647 : Int32)) - ((p0 &&& (2147483647 : Int32)) / (5 : Int32)) * (5 : Int32)), rv aT, iv (0 : Int32), iv (own_cc aT aF aL)] []))
          refine Go.stp (fun t k => XS.iload X10.here hx rfl (hb hby at_74) rfl k) ?_
          show Go p.tables e below G (T10.setTop (mkF m 76 #[iv p0, iv ((p0 &&& (2147483647 : Int32)) - ((p0 &&& (2147483647 : Int32)) / (5 : Int32)) * (5 : Int32)), rv aT, iv (0 : Int32), iv (own_cc aT aF aL)] [(.int (own_cc aT aF aL))]))
          refine Go.stp (fun t k => XS.iloadN X10.here hx rfl (hb hby at_76) rfl k) ?_
          show Go p.tables e below G (T10.setTop (mkF m 77 #[iv p0, iv ((p0 &&& (2147483647 : Int32)) - ((p0 &&& (2147483647 : Int32)) / (5 : Int32)) * (5 : Int32)), rv aT, iv (0 : Int32), iv (own_cc aT aF aL)] [(.int (0 : Int32)), (.int (own_cc aT aF aL))]))
          have hd77 : (own_cc aT aF aL) = (0 : Int32) := by simp [own_cc, ne_aT_aF, ne_aT_aL]
          refine Go.stp (fun t k => XS.icmpYes X10.here hx rfl (pc0 := 77) (pc' := 82) rfl (hb hby at_77) rfl (teq hd77).1 (by decide) (by decide) k) ?_
          show Go p.tables e below G (T10.setTop (mkF m 82 #[iv p0, iv ((p0 &&& (2147483647 : Int32)) - ((p0 &&& (2147483647 : Int32)) / (5 : Int32)) * (5 : Int32)), rv aT, iv (0 : Int32), iv (own_cc aT aF aL)] []))
          refine Go.stp (fun t k => XS.iload X10.here hx rfl (hb hby at_82) rfl k) ?_
          show Go p.tables e below G (T10.setTop (mkF m 84 #[iv p0, iv ((p0 &&& (2147483647 : Int32)) - ((p0 &&& (2147483647 : Int32)) / (5 : Int32)) * (5 : Int32)), rv aT, iv (0 : Int32), iv (own_cc aT aF aL)] [(.int (own_cc aT aF aL))]))
          have hd84 : (own_cc aT aF aL) = (0 : Int32) := by simp [own_cc, ne_aT_aF, ne_aT_aL]
          refine Go.stp (fun t k => XS.ifYes X10.here hx rfl (pc0 := 84) (pc' := 96) rfl (hb hby at_84) rfl ((if0 _ _).trans (teq hd84).1) (by decide) (by decide) k) ?_
          show Go p.tables e below G (T10.setTop (mkF m 96 #[iv p0, iv ((p0 &&& (2147483647 : Int32)) - ((p0 &&& (2147483647 : Int32)) / (5 : Int32)) * (5 : Int32)), rv aT, iv (0 : Int32), iv (own_cc aT aF aL)] []))
          refine Go.stp (fun t k => XS.iconst X10.here hx rfl (hb hby at_96) k) ?_
          show Go p.tables e below G (T10.setTop (mkF m 97 #[iv p0, iv ((p0 &&& (2147483647 : Int32)) - ((p0 &&& (2147483647 : Int32)) / (5 : Int32)) * (5 : Int32)), rv aT, iv (0 : Int32), iv (own_cc aT aF aL)] [(.int (1 : Int32))]))
          obtain ⟨fs, hr, hrun, hended, hW, hsame⟩ := X10.leave (v := some (.int (1 : Int32))) (fun h => by rw [Bd.returns] at h; cases h)
          refine ⟨_, _, retN X10 hx (t := .boolean) Bd.returns (by simp) (hb hby at_97) hr, hrun, hended, hG _ _ _ ?_ ⟨⟨_, rfl⟩, hW, hsame.mono (by decide) (by decide)⟩⟩
          show Q0 Z p0 aF aL aC aT aK h0 n0 _ T10.heap _
          rw [e10]
          exact ⟨rfl, N10⟩
        · refine Go.stp (fun t k => XS.icmpYes X0.here hx rfl (pc0 := 50) (pc' := 62) rfl (hb hby at_50) rfl (feq hc50).2 (by decide) (by decide) k) ?_
          show Go p.tables e below G (s₁.setTop (mkF m 62 #[iv p0, iv ((p0 &&& (2147483647 : Int32)) - ((p0 &&& (2147483647 : Int32)) / (5 : Int32)) * (5 : Int32)), un, un, un] []))
          obtain ⟨T11, X11, e11, st11⟩ := getS2 X0 hx hZ hown (host := "") (Or.inl (hw _ (List.mem_of_getElem? (i := 22) rfl))) Via.refl e0 S_aK (g := (mkF m 62 #[iv p0, iv ((p0 &&& (2147483647 : Int32)) - ((p0 &&& (2147483647 : Int32)) / (5 : Int32)) * (5 : Int32)), un, un, un] [])) rfl (hb hby at_62)
          refine Go.stp (fun t k => st11 t k) ?_
          show Go p.tables e below G (T11.setTop (mkF m 65 #[iv p0, iv ((p0 &&& (2147483647 : Int32)) - ((p0 &&& (2147483647 : Int32)) / (5 : Int32)) * (5 : Int32)), un, un, un] [(.ref aK)]))
          refine Go.stp (fun t k => XS.astoreN X11.here hx rfl (hb hby at_65) rfl rfl (l' := #[iv p0, iv ((p0 &&& (2147483647 : Int32)) - ((p0 &&& (2147483647 : Int32)) / (5 : Int32)) * (5 : Int32)), rv aK, un, un]) rfl k) ?_
          show Go p.tables e below G (T11.setTop (mkF m 66 #[iv p0, iv ((p0 &&& (2147483647 : Int32)) - ((p0 &&& (2147483647 : Int32)) / (5 : Int32)) * (5 : Int32)), rv aK, un, un] []))
          refine Go.stp (fun t k => XS.iconst X11.here hx rfl (hb hby at_66) k) ?_
          show Go p.tables e below G (T11.setTop (mkF m 67 #[iv p0, iv ((p0 &&& (2147483647 : Int32)) - ((p0 &&& (2147483647 : Int32)) / (5 : Int32)) * (5 : Int32)), rv aK, un, un] [(.int (0 : Int32))]))
          refine Go.stp (fun t k => XS.istoreN X11.here hx rfl (hb hby at_67) rfl (l' := #[iv p0, iv ((p0 &&& (2147483647 : Int32)) - ((p0 &&& (2147483647 : Int32)) / (5 : Int32)) * (5 : Int32)), rv aK, iv (0 : Int32), un]) rfl k) ?_
          show Go p.tables e below G (T11.setTop (mkF m 68 #[iv p0, iv ((p0 &&& (2147483647 : Int32)) - ((p0 &&& (2147483647 : Int32)) / (5 : Int32)) * (5 : Int32)), rv aK, iv (0 : Int32), un] []))
          refine Go.stp (fun t k => XS.aloadN X11.here hx rfl (hb hby at_68) rfl rfl k) ?_
          show Go p.tables e below G (T11.setTop (mkF m 69 #[iv p0, iv ((p0 &&& (2147483647 : Int32)) - ((p0 &&& (2147483647 : Int32)) / (5 : Int32)) * (5 : Int32)), rv aK, iv (0 : Int32), un] [(.ref aK)]))
          obtain ⟨cq12, kq12, q12a, q12b, q12c⟩ := isOf hZ e11 E_aK
          obtain ⟨_, _, ⟨T12, L12, k12, n12⟩, -, X12, ⟨Lc12, hQ12, l12, y12, z12⟩, st12⟩ := X11.virtualBack hx (y := (⟨"com/example/sluicegate/sluicegate/policy/Algorithm", "countsCosts", "()Z"⟩ : MethodName)) (z := (⟨"com/example/sluicegate/sluicegate/policy/Algorithm", "countsCosts", "()Z"⟩ : MethodName)) hown (mvT hZ (hw _ (List.mem_of_getElem? (i := 4) rfl))) (mvT hZ (hw _ (List.mem_of_getElem? (i := 5) rfl))) (notFace_of_selects (args := #[]) (mvT hZ (hw _ (List.mem_of_getElem? (i := 7) rfl)))) (mvT hZ (hw _ (List.mem_of_getElem? (i := 7) rfl))) (mvT hZ (hw _ (List.mem_of_getElem? (i := 6) rfl))) (by decide) (backOf (W := 0) (rm1 l Z a0 hw [] aK aF aL h0 n0 Z0 S_aF S_aL) hZ (hw _ (List.mem_of_getElem? (i := 8) rfl)) (hw _ (List.mem_of_getElem? (i := 2) rfl)) (by decide) (by decide)) q12a q12c (g := (mkF m 69 #[iv p0, iv ((p0 &&& (2147483647 : Int32)) - ((p0 &&& (2147483647 : Int32)) / (5 : Int32)) * (5 : Int32)), rv aK, iv (0 : Int32), un] [(.ref aK)])) rfl (by rw [hml]; rfl) (Steps.refl _) (argsL := []) (rest := []) (lenOf pd_0 rfl) rfl (by show 2 * 0 + _ ≤ _; exact Nat.le_of_eq rfl) (hb hby at_69) (fun _ _ => ⟨rfl, e11, (by decide : 0 + 0 ≤ _), (by decide : 0 + 0 ≤ _)⟩)
          dsimp only [Pt.U, Pt.locs, Pt.cells, Pt.slots] at X12 l12 y12 z12 st12 hQ12
          subst l12 y12 z12
          obtain ⟨rfl, Nq12, e12⟩ := hQ12
          have N12 := Fr.app N0 Nq12
          refine Go.stp (fun t k => st12.trans k) ?_
          show Go p.tables e below G (T12.setTop (mkF m 72 #[iv p0, iv ((p0 &&& (2147483647 : Int32)) - ((p0 &&& (2147483647 : Int32)) / (5 : Int32)) * (5 : Int32)), rv aK, iv (0 : Int32), un] [(.int (own_cc aK aF aL))]))
          refine Go.stp (fun t k => XS.istore X12.here hx rfl (hb hby at_72) rfl (l' := #[iv p0, iv ((p0 &&& (2147483647 : Int32)) - ((p0 &&& (2147483647 : Int32)) / (5 : Int32)) * (5 : Int32)), rv aK, iv (0 : Int32), iv (own_cc aK aF aL)]) rfl k) ?_
          show Go p.tables e below G (T12.setTop (mkF m 74 #[iv p0, iv ((p0 &&& (2147483647 : Int32)) - ((p0 &&& (2147483647 : Int32)) / (5 : Int32)) * (5 : Int32)), rv aK, iv (0 : Int32), iv (own_cc aK aF aL)] []))
          refine Go.stp (fun t k => XS.iload X12.here hx rfl (hb hby at_74) rfl k) ?_
          show Go p.tables e below G (T12.setTop (mkF m 76 #[iv p0, iv ((p0 &&& (2147483647 : Int32)) - ((p0 &&& (2147483647 : Int32)) / (5 : Int32)) * (5 : Int32)), rv aK, iv (0 : Int32), iv (own_cc aK aF aL)] [(.int (own_cc aK aF aL))]))
          refine Go.stp (fun t k => XS.iloadN X12.here hx rfl (hb hby at_76) rfl k) ?_
          show Go p.tables e below G (T12.setTop (mkF m 77 #[iv p0, iv ((p0 &&& (2147483647 : Int32)) - ((p0 &&& (2147483647 : Int32)) / (5 : Int32)) * (5 : Int32)), rv aK, iv (0 : Int32), iv (own_cc aK aF aL)] [(.int (0 : Int32)), (.int (own_cc aK aF aL))]))
          have hd77 : (own_cc aK aF aL) = (0 : Int32) := by simp [own_cc, ne_aK_aF, ne_aK_aL]
          refine Go.stp (fun t k => XS.icmpYes X12.here hx rfl (pc0 := 77) (pc' := 82) rfl (hb hby at_77) rfl (teq hd77).1 (by decide) (by decide) k) ?_
          show Go p.tables e below G (T12.setTop (mkF m 82 #[iv p0, iv ((p0 &&& (2147483647 : Int32)) - ((p0 &&& (2147483647 : Int32)) / (5 : Int32)) * (5 : Int32)), rv aK, iv (0 : Int32), iv (own_cc aK aF aL)] []))
          refine Go.stp (fun t k => XS.iload X12.here hx rfl (hb hby at_82) rfl k) ?_
          show Go p.tables e below G (T12.setTop (mkF m 84 #[iv p0, iv ((p0 &&& (2147483647 : Int32)) - ((p0 &&& (2147483647 : Int32)) / (5 : Int32)) * (5 : Int32)), rv aK, iv (0 : Int32), iv (own_cc aK aF aL)] [(.int (own_cc aK aF aL))]))
          have hd84 : (own_cc aK aF aL) = (0 : Int32) := by simp [own_cc, ne_aK_aF, ne_aK_aL]
          refine Go.stp (fun t k => XS.ifYes X12.here hx rfl (pc0 := 84) (pc' := 96) rfl (hb hby at_84) rfl ((if0 _ _).trans (teq hd84).1) (by decide) (by decide) k) ?_
          show Go p.tables e below G (T12.setTop (mkF m 96 #[iv p0, iv ((p0 &&& (2147483647 : Int32)) - ((p0 &&& (2147483647 : Int32)) / (5 : Int32)) * (5 : Int32)), rv aK, iv (0 : Int32), iv (own_cc aK aF aL)] []))
          refine Go.stp (fun t k => XS.iconst X12.here hx rfl (hb hby at_96) k) ?_
          show Go p.tables e below G (T12.setTop (mkF m 97 #[iv p0, iv ((p0 &&& (2147483647 : Int32)) - ((p0 &&& (2147483647 : Int32)) / (5 : Int32)) * (5 : Int32)), rv aK, iv (0 : Int32), iv (own_cc aK aF aL)] [(.int (1 : Int32))]))
          obtain ⟨fs, hr, hrun, hended, hW, hsame⟩ := X12.leave (v := some (.int (1 : Int32))) (fun h => by rw [Bd.returns] at h; cases h)
          refine ⟨_, _, retN X12 hx (t := .boolean) Bd.returns (by simp) (hb hby at_97) hr, hrun, hended, hG _ _ _ ?_ ⟨⟨_, rfl⟩, hW, hsame.mono (by decide) (by decide)⟩⟩
          show Q0 Z p0 aF aL aC aT aK h0 n0 _ T12.heap _
          rw [e12]
          exact ⟨rfl, N12⟩
set_option maxRecDepth 65536 in
set_option maxHeartbeats 40000000 in
theorem comes_1 {Post : Tables → Env → Array Value → State → Outcome → State → Prop} (hpost : ∀ tb e args s v u, (limb_1_1.after args s (.returned v) u = true ∧ limb_1_2.after args s (.returned v) u = true ∧ True) → FrameEnd s (.returned v) u (Jvm.fieldLocs frame_1_writes args s ++ Jvm.arrayLocs frame_1_arrays args s ++ Jvm.staticLocs frame_1_statics s) 0 0 → Post tb e args s (.returned v) u) :
    ArmFor flags0 classFile x code maxLocals ret World_1 tables_1 room_1 Calls_1 rest_1 Pre_1 Post := by
  intro l hfl _ _ p e ha hc hk s m args below hf hA hF happ hP
  obtain ⟨hcalls, hrest, hpre⟩ := hP
  obtain ⟨-, -, -, hnamed, -, -, -, hat⟩ := (Spec.applies_iff hf).mp happ
  obtain ⟨hg, hn⟩ := and_e (Cond.before_iff.mp (show (Jvm.Cond.and given_1 narrow_1).before args s = true from hpre))
  obtain ⟨g1a, g1b⟩ := and_e hg
  obtain ⟨w0, rfl⟩ : ∃ w0 : Value, args = #[w0] := by
    have hs : args.size = 1 := by simpa [Cond.value, given_1] using g1a
    obtain ⟨L⟩ := args
    match L, hs with
    | [w0], _ => exact ⟨w0, rfl⟩
  have hw := fun d (hd : d ∈ tables_1) => atoms_spec (ws := Jvm.Cond.code x code maxLocals ret :: tables_1) hat d (List.mem_cons_of_mem _ hd)
  have hfit : Fit s := fun {y c} hc i hi => by
    obtain ⟨ha, rfl⟩ := Array.getElem?_eq_some_iff.mp hc
    have q := List.all_eq_true.mp ((Array.all_eq_true_iff_forall_mem.mp hF) _ (Array.getElem_mem ha)) i (List.mem_range.mpr hi)
    simpa [Array.getElem?_eq_getElem hi] using q
  obtain ⟨i0, ei0⟩ := is_v g1b
  obtain rfl : w0 = (.int i0) := Option.some.inj ei0
  obtain ⟨nr1a, nr1b⟩ := and_e hn
  obtain ⟨nr2a, nr2b⟩ := and_e nr1b
  obtain ⟨nr3a, nr3b⟩ := and_e nr2b
  obtain ⟨nr4a, nr4b⟩ := and_e nr3b
  obtain ⟨nr5a, nr5b⟩ := and_e nr4b
  obtain ⟨nr6a, nr6b⟩ := and_e nr5b
  obtain ⟨nr7a, nr7b⟩ := and_e nr6b
  obtain ⟨nr8a, nr8b⟩ := and_e nr7b
  obtain ⟨nr9a, nr9b⟩ := and_e nr8b
  obtain ⟨aF, ev_aF⟩ := exa_v nr1a
  have S_aF : Sta s s.heap "com/example/sluicegate/sluicegate/policy/Algorithm" "FIXED_WINDOW" "Lcom/example/sluicegate/sluicegate/policy/Algorithm;" (.ref aF) := Sta.start ev_aF (Or.inr ⟨(hw _ (List.mem_of_getElem? (i := 2) rfl)), (hw _ (List.mem_of_getElem? (i := 3) rfl))⟩)
  have E_aF : Exa s s.heap aF "com/example/sluicegate/sluicegate/policy/Algorithm" := Exa.start ev_aF nr1a
  have o_aF := own_ord ev_aF nr3a
  obtain ⟨aL, ev_aL⟩ := exa_v nr7a
  have S_aL : Sta s s.heap "com/example/sluicegate/sluicegate/policy/Algorithm" "SLIDING_LOG" "Lcom/example/sluicegate/sluicegate/policy/Algorithm;" (.ref aL) := Sta.start ev_aL (Or.inr ⟨(hw _ (List.mem_of_getElem? (i := 2) rfl)), (hw _ (List.mem_of_getElem? (i := 20) rfl))⟩)
  have E_aL : Exa s s.heap aL "com/example/sluicegate/sluicegate/policy/Algorithm" := Exa.start ev_aL nr7a
  have o_aL := own_ord ev_aL nr8a
  obtain ⟨aC, ev_aC⟩ := exa_v nr9a
  have S_aC : Sta s s.heap "com/example/sluicegate/sluicegate/policy/Algorithm" "SLIDING_COUNTER" "Lcom/example/sluicegate/sluicegate/policy/Algorithm;" (.ref aC) := Sta.start ev_aC (Or.inr ⟨(hw _ (List.mem_of_getElem? (i := 2) rfl)), (hw _ (List.mem_of_getElem? (i := 24) rfl))⟩)
  have E_aC : Exa s s.heap aC "com/example/sluicegate/sluicegate/policy/Algorithm" := Exa.start ev_aC nr9a
  have o_aC := own_ord ev_aC nr9b
  obtain ⟨aT, ev_aT⟩ := exa_v nr5a
  have S_aT : Sta s s.heap "com/example/sluicegate/sluicegate/policy/Algorithm" "TOKEN_BUCKET" "Lcom/example/sluicegate/sluicegate/policy/Algorithm;" (.ref aT) := Sta.start ev_aT (Or.inr ⟨(hw _ (List.mem_of_getElem? (i := 2) rfl)), (hw _ (List.mem_of_getElem? (i := 18) rfl))⟩)
  have E_aT : Exa s s.heap aT "com/example/sluicegate/sluicegate/policy/Algorithm" := Exa.start ev_aT nr5a
  have o_aT := own_ord ev_aT nr6a
  obtain ⟨aK, ev_aK⟩ := exa_v nr2a
  have S_aK : Sta s s.heap "com/example/sluicegate/sluicegate/policy/Algorithm" "LEAKY_BUCKET" "Lcom/example/sluicegate/sluicegate/policy/Algorithm;" (.ref aK) := Sta.start ev_aK (Or.inr ⟨(hw _ (List.mem_of_getElem? (i := 2) rfl)), (hw _ (List.mem_of_getElem? (i := 16) rfl))⟩)
  have E_aK : Exa s s.heap aK "com/example/sluicegate/sluicegate/policy/Algorithm" := Exa.start ev_aK nr2a
  have o_aK := own_ord ev_aK nr4a
  have ne_aC_aF : aC ≠ aF := own_apart o_aC o_aF (by decide)
  have ne_aC_aL : aC ≠ aL := own_apart o_aC o_aL (by decide)
  have ne_aT_aF : aT ≠ aF := own_apart o_aT o_aF (by decide)
  have ne_aT_aL : aT ≠ aL := own_apart o_aT o_aL (by decide)
  have ne_aK_aF : aK ≠ aF := own_apart o_aK o_aF (by decide)
  have ne_aK_aL : aK ≠ aL := own_apart o_aK o_aL (by decide)
  have ne_aF_aK : aF ≠ aK := own_apart o_aF o_aK (by decide)
  have ne_aL_aK : aL ≠ aK := own_apart o_aL o_aK (by decide)
  obtain ⟨n, o, h1, h2, h3, _, L, rfl, ⟨rfl, N⟩, hq⟩ := rm0 l s _ hw tables_1 i0 aF aL aC aT aK s.heap s.heap.size (Nat.le_refl _) S_aF S_aL S_aC S_aT S_aK E_aF E_aL E_aC E_aT E_aK ne_aC_aF ne_aC_aL ne_aT_aF ne_aT_aL ne_aK_aF ne_aK_aL ne_aF_aK ne_aL_aK p e ha hc hk s m _ below hf ((Spec.applies_iff_loose hf).mp happ).1 ⟨rfl, State.Warmed39.refl s, rfl⟩ trivial
  refine ⟨n, _, h1, h2, h3, hpost _ _ _ _ _ _ ⟨Cond.after_iff.mpr rfl, Cond.after_iff.mpr (eq_i res_at (Term.int_eval (1)) rfl), trivial⟩ ⟨hq.1, hq.2.1, (hq.2.2.sift fun y hy => Or.inr (N y hy)).mono (by decide) (by decide)⟩⟩
theorem main_1_1 : Claimed_1_1 := comes_1 fun _ _ _ _ _ _ h hF => ⟨h.1, hF⟩
theorem main_1_2 : Claimed_1_2 := comes_1 fun _ _ _ _ _ _ h hF => ⟨h.2.1, hF⟩
end Jvm.Pilot.@@N@@
namespace Jvm.Pilot.@@N@@
open Jvm Jvm.ClassFile Sem Op Lib Jvm.Free Jvm.Stand Jvm.Pilot.@@N@@.Jvm.D
/-! MADE BY PROGRAM (witnessworld.py) out of the Statement's table words and the real class files: 13 classes; the members and pool entries that the words name. The judged class is class 1, her method 1. -/
namespace start1
open Jvm.ClassFile
def u (s : String) : CpInfo := .utf8 (stringToUtf16 s)
/-- a pool by its gaps: so many unusable entries, then the entry; so many at the end -/
def gap : Nat → List CpInfo → List CpInfo
  | 0, r => r
  | n + 1, r => .unusable :: gap n r
def poolList (es : List (Nat × CpInfo)) (last : Nat) : List CpInfo := es.foldr (fun e r => gap e.1 (e.2 :: r)) (gap last [])
def pool (es : List (Nat × CpInfo)) (last : Nat) : Array CpInfo := ⟨poolList es last⟩
def fileOf (pool : Array CpInfo) (this : Nat) (attrs : Array Attribute := #[]) (ms : Array MethodInfo := #[]) (fl : Nat := 33) (sup : Nat := 0) (ifs : Array Nat := #[]) (fds : Array FieldInfo := #[]) : ClassFile where
  minorVersion := 0
  majorVersion := 65
  constantPool := pool
  accessFlags := fl
  thisClass := this
  superClass := sup
  interfaces := ifs
  fields := fds
  methods := ms
  attributes := attrs
def plain (name : String) (sup : Option ClassId) : Class where
  name := name
  kind := .ordinary
  loader := none
  accessFlags := 33
  super := sup
  interfaces := #[]
  cf := none
  fields := #[]
  methods := #[]
  instanceTypes := #[]
  staticTypes := #[]
  resolved := #[]
  callSites := []
  init := .initialized
  statics := none
  mirror := none

def pool0 : Array CpInfo := pool [(5, u "<init>"), (0, u "()V"), (1, .class_ 10), (1, u "java/lang/Object")] 113

def k0m0 : Method := { name := "<init>", desc := "()V", sig := { parameters := [], returnType := none }, accessFlags := 1, code := none }
/-- java/lang/Object -/
def k0 : Class := { plain "java/lang/Object" none with
  accessFlags := 33
  interfaces := #[]
  cf := some (fileOf pool0 8 #[] #[{ accessFlags := 1, nameIndex := 5, descriptorIndex := 6, attributes := #[] }] 33 0 #[] #[])
  fields := #[]
  methods := #[k0m0]
  instanceTypes := #[]
  staticTypes := #[]
  resolved := Array.replicate 124 none
  statics := none }

def pool1 : Array CpInfo := pool [(2, .class_ 4), (1, u "java/lang/Object"), (0, u "<init>"), (0, u "()V"), (0, .integer 2147483647), (0, .fieldref 9 10), (0, .class_ 11), (0, .nameAndType 12 13), (0, u "com/example/sluicegate/sluicegate/policy/Algorithm"), (0, u "FIXED_WINDOW"), (0, u "Lcom/example/sluicegate/sluicegate/policy/Algorithm;"), (0, .fieldref 9 15), (0, .nameAndType 16 13), (0, u "SLIDING_LOG"), (0, .fieldref 9 18), (0, .nameAndType 19 13), (0, u "SLIDING_COUNTER"), (0, .fieldref 9 21), (0, .nameAndType 22 13), (0, u "TOKEN_BUCKET"), (0, .fieldref 9 24), (0, .nameAndType 25 13), (0, u "LEAKY_BUCKET"), (0, .methodref 9 27), (0, .nameAndType 28 29), (0, u "countsCosts"), (0, u "()Z"), (0, .methodref 9 31), (0, .nameAndType 32 29), (0, u "delays"), (0, .class_ 34), (0, u "com/example/sluicegate/sluicegate/policy/AlgorithmCountsCostsPinLaw"), (2, u "law"), (0, u "(I)Z")] 3

def k1m0 : Method := { name := "<init>", desc := "()V", sig := { parameters := [], returnType := none }, accessFlags := 1, code := none }
def k1c1 : Code := { maxStack := 2, maxLocals := 5, code := code, exceptionTable := #[], attributes := #[] }
def k1m1 : Method := { name := "law", desc := "(I)Z", sig := { parameters := [.int], returnType := some .boolean }, accessFlags := 9, code := some k1c1 }
/-- com/example/sluicegate/sluicegate/policy/AlgorithmCountsCostsPinLaw -/
def k1 : Class := { plain "com/example/sluicegate/sluicegate/policy/AlgorithmCountsCostsPinLaw" (some 0) with
  accessFlags := 49
  interfaces := #[]
  cf := some (fileOf pool1 33 #[] #[{ accessFlags := 1, nameIndex := 5, descriptorIndex := 6, attributes := #[] }, { accessFlags := 9, nameIndex := 37, descriptorIndex := 38, attributes := #[] }] 49 2 #[] #[])
  fields := #[]
  methods := #[k1m0, k1m1]
  instanceTypes := #[]
  staticTypes := #[]
  resolved := Array.replicate 42 none
  statics := none }

def pool2 : Array CpInfo := pool [(1, .class_ 2), (0, u "java/lang/constant/Constable"), (0, .class_ 4), (0, u "java/lang/Object")] 6

/-- java/lang/constant/Constable -/
def k2 : Class := { plain "java/lang/constant/Constable" (some 0) with
  accessFlags := 1537
  interfaces := #[]
  cf := some (fileOf pool2 1 #[] #[] 1537 3 #[] #[])
  fields := #[]
  methods := #[]
  instanceTypes := #[]
  staticTypes := #[]
  resolved := Array.replicate 11 none
  statics := none }

def pool3 : Array CpInfo := pool [(1, .class_ 2), (0, u "java/lang/Comparable"), (0, .class_ 4), (0, u "java/lang/Object")] 7

/-- java/lang/Comparable -/
def k3 : Class := { plain "java/lang/Comparable" (some 0) with
  accessFlags := 1537
  interfaces := #[]
  cf := some (fileOf pool3 1 #[] #[] 1537 3 #[] #[])
  fields := #[]
  methods := #[]
  instanceTypes := #[]
  staticTypes := #[]
  resolved := Array.replicate 12 none
  statics := none }

def pool4 : Array CpInfo := pool [(1, .class_ 2), (0, u "java/io/Serializable"), (0, .class_ 4), (0, u "java/lang/Object")] 2

/-- java/io/Serializable -/
def k4 : Class := { plain "java/io/Serializable" (some 0) with
  accessFlags := 1537
  interfaces := #[]
  cf := some (fileOf pool4 1 #[] #[] 1537 3 #[] #[])
  fields := #[]
  methods := #[]
  instanceTypes := #[]
  staticTypes := #[]
  resolved := Array.replicate 7 none
  statics := none }

def pool5 : Array CpInfo := pool [(2, .class_ 4), (1, u "java/lang/Enum"), (0, u "name"), (0, u "Ljava/lang/String;"), (2, u "ordinal"), (0, u "I"), (1, .class_ 14), (1, u "java/lang/Object"), (4, u "hash"), (86, .class_ 108), (1, u "java/lang/Enum$EnumDesc"), (2, .class_ 112), (0, u "java/lang/constant/Constable"), (0, .class_ 114), (0, u "java/lang/Comparable"), (0, .class_ 116), (0, u "java/io/Serializable")] 87

/-- java/lang/Enum -/
def k5 : Class := { plain "java/lang/Enum" (some 0) with
  accessFlags := 1057
  interfaces := #[2, 3, 4]
  cf := some (fileOf pool5 2 #[.nestMembers #[106]] #[] 1057 12 #[111, 113, 115] #[{ accessFlags := 18, nameIndex := 5, descriptorIndex := 6, attributes := #[] }, { accessFlags := 18, nameIndex := 9, descriptorIndex := 10, attributes := #[] }, { accessFlags := 2, nameIndex := 19, descriptorIndex := 10, attributes := #[] }])
  fields := #[{ name := "name", type := (.object "java/lang/String"), accessFlags := 18, slot := 0, constantValue := 0 }, { name := "ordinal", type := .int, accessFlags := 18, slot := 1, constantValue := 0 }, { name := "hash", type := .int, accessFlags := 2, slot := 2, constantValue := 0 }]
  methods := #[]
  instanceTypes := #[(.object "java/lang/String"), .int, .int]
  staticTypes := #[]
  resolved := Array.replicate 204 none
  statics := none }

def pool6 : Array CpInfo := pool [(51, .class_ 52), (0, u "com/example/sluicegate/sluicegate/policy/Worded"), (8, .class_ 62), (0, u "java/lang/Object")] 42

/-- com/example/sluicegate/sluicegate/policy/Worded -/
def k6 : Class := { plain "com/example/sluicegate/sluicegate/policy/Worded" (some 0) with
  accessFlags := 1536
  interfaces := #[]
  cf := some (fileOf pool6 51 #[] #[] 1536 61 #[] #[])
  fields := #[]
  methods := #[]
  instanceTypes := #[]
  staticTypes := #[]
  resolved := Array.replicate 105 none
  statics := none }

def pool7 : Array CpInfo := pool [(1, .class_ 2), (0, u "com/example/sluicegate/sluicegate/policy/Algorithm"), (0, .fieldref 1 4), (0, .nameAndType 5 6), (0, u "FIXED_WINDOW"), (0, u "Lcom/example/sluicegate/sluicegate/policy/Algorithm;"), (0, .fieldref 1 8), (0, .nameAndType 9 6), (0, u "SLIDING_LOG"), (2, u "SLIDING_COUNTER"), (2, u "TOKEN_BUCKET"), (0, .fieldref 1 17), (0, .nameAndType 18 6), (0, u "LEAKY_BUCKET"), (2, u "$VALUES"), (0, u "[Lcom/example/sluicegate/sluicegate/policy/Algorithm;"), (6, .class_ 31), (1, u "java/lang/Enum"), (8, u "word"), (0, u "Ljava/lang/String;"), (63, .class_ 106), (0, u "com/example/sluicegate/sluicegate/policy/Worded"), (7, u "delays"), (0, u "()Z"), (1, u "countsCosts")] 34

def k7c0 : Code := { maxStack := 2, maxLocals := 1, code := prog_33_method_5_code, exceptionTable := #[], attributes := #[] }
def k7m0 : Method := { name := "delays", desc := "()Z", sig := { parameters := [], returnType := some .boolean }, accessFlags := 1, code := some k7c0 }
def k7c1 : Code := { maxStack := 2, maxLocals := 1, code := prog_33_method_6_code, exceptionTable := #[], attributes := #[] }
def k7m1 : Method := { name := "countsCosts", desc := "()Z", sig := { parameters := [], returnType := some .boolean }, accessFlags := 1, code := some k7c1 }
/-- com/example/sluicegate/sluicegate/policy/Algorithm -/
def k7 : Class := { plain "com/example/sluicegate/sluicegate/policy/Algorithm" (some 5) with
  accessFlags := 16433
  interfaces := #[6]
  cf := some (fileOf pool7 1 #[] #[{ accessFlags := 1, nameIndex := 114, descriptorIndex := 115, attributes := #[] }, { accessFlags := 1, nameIndex := 117, descriptorIndex := 115, attributes := #[] }] 16433 29 #[105] #[{ accessFlags := 16409, nameIndex := 5, descriptorIndex := 6, attributes := #[] }, { accessFlags := 16409, nameIndex := 9, descriptorIndex := 6, attributes := #[] }, { accessFlags := 16409, nameIndex := 12, descriptorIndex := 6, attributes := #[] }, { accessFlags := 16409, nameIndex := 15, descriptorIndex := 6, attributes := #[] }, { accessFlags := 16409, nameIndex := 18, descriptorIndex := 6, attributes := #[] }, { accessFlags := 18, nameIndex := 40, descriptorIndex := 41, attributes := #[] }, { accessFlags := 4122, nameIndex := 21, descriptorIndex := 22, attributes := #[] }])
  fields := #[{ name := "FIXED_WINDOW", type := (.object "com/example/sluicegate/sluicegate/policy/Algorithm"), accessFlags := 16409, slot := 0, constantValue := 0 }, { name := "SLIDING_LOG", type := (.object "com/example/sluicegate/sluicegate/policy/Algorithm"), accessFlags := 16409, slot := 1, constantValue := 0 }, { name := "SLIDING_COUNTER", type := (.object "com/example/sluicegate/sluicegate/policy/Algorithm"), accessFlags := 16409, slot := 2, constantValue := 0 }, { name := "TOKEN_BUCKET", type := (.object "com/example/sluicegate/sluicegate/policy/Algorithm"), accessFlags := 16409, slot := 3, constantValue := 0 }, { name := "LEAKY_BUCKET", type := (.object "com/example/sluicegate/sluicegate/policy/Algorithm"), accessFlags := 16409, slot := 4, constantValue := 0 }, { name := "word", type := (.object "java/lang/String"), accessFlags := 18, slot := 3, constantValue := 0 }, { name := "$VALUES", type := (.array (.object "com/example/sluicegate/sluicegate/policy/Algorithm")), accessFlags := 4122, slot := 5, constantValue := 0 }]
  methods := #[k7m0, k7m1]
  instanceTypes := #[(.object "java/lang/String"), .int, .int, (.object "java/lang/String")]
  staticTypes := #[(.object "com/example/sluicegate/sluicegate/policy/Algorithm"), (.object "com/example/sluicegate/sluicegate/policy/Algorithm"), (.object "com/example/sluicegate/sluicegate/policy/Algorithm"), (.object "com/example/sluicegate/sluicegate/policy/Algorithm"), (.object "com/example/sluicegate/sluicegate/policy/Algorithm"), (.array (.object "com/example/sluicegate/sluicegate/policy/Algorithm"))]
  resolved := Array.replicate 152 none
  statics := some 0 }

def pool8 : Array CpInfo := pool [(1, u "java/lang/Cloneable"), (0, .class_ 1), (0, u "java/lang/Object"), (0, .class_ 3)] 3

/-- java/lang/Cloneable -/
def k8 : Class := { plain "java/lang/Cloneable" (some 0) with
  accessFlags := 1537
  interfaces := #[]
  cf := some (fileOf pool8 2 #[] #[] 1537 4 #[] #[])
  fields := #[]
  methods := #[]
  instanceTypes := #[]
  staticTypes := #[]
  resolved := Array.replicate 8 none
  statics := none }

/-- the primitive byte -/
def k9 : Class := { plain "byte" none with kind := .primitive 'B', accessFlags := 0x411 }
/-- [B -/
def k10 : Class := { plain "[B" (some 0) with kind := .array 9 .byte, interfaces := #[8, 4], accessFlags := 1041 }

/-- the primitive int -/
def k11 : Class := { plain "int" none with kind := .primitive 'I', accessFlags := 0x411 }
/-- [I -/
def k12 : Class := { plain "[I" (some 0) with kind := .array 11 .int, interfaces := #[8, 4], accessFlags := 1041 }

def heap : Heap := #[{ cls := 7, slots := #[.ref 1, .ref 2, .ref 3, .ref 4, .ref 5, .null], vm := .statics 7 },
  { cls := 7, slots := #[.null, .int 0, .int 0, .null], vm := .none },
  { cls := 7, slots := #[.null, .int 1, .int 0, .null], vm := .none },
  { cls := 7, slots := #[.null, .int 2, .int 0, .null], vm := .none },
  { cls := 7, slots := #[.null, .int 3, .int 0, .null], vm := .none },
  { cls := 7, slots := #[.null, .int 4, .int 0, .null], vm := .none }]
def classes : Array Class := #[k0, k1, k2, k3, k4, k5, k6, k7, k8, k9, k10, k11, k12]
def interned : List (Array UInt16 × Addr) := []
def slotsUsed : Nat := 26
def theMethod : MethodId := ⟨1, 1⟩
def args0 : Array Value := #[.int 5]
def aboutOver (below : List Frame) : State where
  vm := { classes := classes, interned := interned.toArray }
  heap := heap
  slotsUsed := slotsUsed
  threads := #[{ frames := .invoking theMethod args0 :: below }]
def below0 : List Frame := [.native { method := ⟨0, 0⟩, args := #[] }]
def about1 : State := aboutOver below0
def p0 : Program := .bare "" "" ""
def e0 : Env := launch0.env 0 0 0
theorem w_frames : about1.frames = Frame.invoking theMethod args0 :: below0 := rfl
set_option maxRecDepth 65536 in
theorem w_args : argsFit about1.vm theMethod args0 = true := by decide +kernel
set_option maxRecDepth 65536 in
theorem w_heap : heapFits about1 = true := by decide +kernel
set_option maxRecDepth 65536 in
theorem w_runnable : about1.curStatus? = some .runnable := by decide +kernel
set_option maxRecDepth 65536 in
theorem w_alone : about1.alone = true := by decide +kernel
set_option maxRecDepth 65536 in
theorem w_named : about1.methodNamed? x = some theMethod := by decide +kernel
set_option maxRecDepth 65536 in
theorem w_hears : about1.hears theMethod below0 = true := by decide +kernel
set_option maxRecDepth 65536 in
theorem w_ripe : about1.ripe theMethod args0 below0 = true := by decide +kernel
theorem w_running : about1.status = .running := rfl
set_option maxRecDepth 65536 in
theorem w_room : about1.hasRoom e0.platform room_1 = true :=
  launch0.hasRoom_least _ room_1 (by decide +kernel) (by decide +kernel) (by decide +kernel) (by decide +kernel) (by decide +kernel) (by decide +kernel)
theorem allAtoms_all (ts : List Jvm.Cond) (a : Array Jvm.Value) (st : Jvm.State) : (allAtoms ts).before a st = ts.all (fun c => c.before a st) := by
  induction ts with
  | nil => rfl
  | cons c t ih =>
    show (Jvm.Cond.and c (allAtoms t)).before a st = _
    rw [Jvm.Cond.before_and, ih, List.all_cons]
def words1 : List Jvm.Cond := Jvm.Cond.code x code maxLocals ret :: tables_1
/-- a 'code' word, met by the world's own term for the bytes: nothing is compared byte by byte -/
theorem code_word {y : MethodName} {bytes : ByteArray} {mx : Nat} {rt : Option FieldType} {a : Array Value} {s : State} {m : MethodId} {meth : Method} {c : Code} (h1 : s.methodNamed? y = some m) (h2 : s.vm.method? m = some meth) (h3 : meth.code = some c) (h4 : c.code = bytes)
    (h5 : (c.maxLocals == mx && c.exceptionTable.isEmpty && decide (c.maxStack ≤ mostOperands) && decide (meth.sig.returnType = rt) && !meth.locks && decide (parseMethodDescriptor y.desc = some meth.sig)) = true) : (Jvm.Cond.code y bytes mx rt).before a s = true := by
  simp only [Bool.and_eq_true, beq_iff_eq, Bool.not_eq_true', decide_eq_true_eq] at h5
  obtain ⟨⟨⟨⟨⟨g1, g2⟩, g3⟩, g4⟩, g5⟩, g6⟩ := h5
  simp [Cond.before, Cond.holds, Cond.value, h1, h2, h3, h4, g1, g2, g3, g4, g5, g6]
def isCode : Jvm.Cond → Bool
  | .code _ _ _ _ => true
  | _ => false
theorem all_split {L : List Jvm.Cond} {P : Jvm.Cond → Bool} (h1 : L.all (fun c => isCode c || P c) = true) (h2 : ∀ c ∈ L.filter isCode, P c = true) : L.all P = true := by
  refine List.all_eq_true.mpr fun c hc => ?_
  have h := List.all_eq_true.mp h1 c hc
  rcases Bool.eq_false_or_eq_true (isCode c) with hi | hi
  · exact h2 c (List.mem_filter.mpr ⟨hc, hi⟩)
  · simpa [hi] using h
set_option maxRecDepth 65536 in
theorem w_c0 : (Jvm.Cond.code x code maxLocals ret).before args0 about1 = true := code_word (m := ⟨1, 1⟩) (meth := k1m1) (c := k1c1) (by decide +kernel) rfl rfl rfl (by decide +kernel)
set_option maxRecDepth 65536 in
theorem w_c1 : (Jvm.Cond.code ({ cls := "com/example/sluicegate/sluicegate/policy/Algorithm", name := "countsCosts", desc := "()Z" } : Jvm.MethodName) prog_33_method_6_code (1 : Nat) (Option.some Jvm.ClassFile.FieldType.boolean)).before args0 about1 = true := code_word (m := ⟨7, 1⟩) (meth := k7m1) (c := k7c1) (by decide +kernel) rfl rfl rfl (by decide +kernel)
set_option maxRecDepth 65536 in
theorem w_c2 : (Jvm.Cond.code ({ cls := "com/example/sluicegate/sluicegate/policy/Algorithm", name := "delays", desc := "()Z" } : Jvm.MethodName) prog_33_method_5_code (1 : Nat) (Option.some Jvm.ClassFile.FieldType.boolean)).before args0 about1 = true := code_word (m := ⟨7, 0⟩) (meth := k7m0) (c := k7c0) (by decide +kernel) rfl rfl rfl (by decide +kernel)
def codes1 : List Jvm.Cond := [Jvm.Cond.code x code maxLocals ret, Jvm.Cond.code ({ cls := "com/example/sluicegate/sluicegate/policy/Algorithm", name := "countsCosts", desc := "()Z" } : Jvm.MethodName) prog_33_method_6_code (1 : Nat) (Option.some Jvm.ClassFile.FieldType.boolean), Jvm.Cond.code ({ cls := "com/example/sluicegate/sluicegate/policy/Algorithm", name := "delays", desc := "()Z" } : Jvm.MethodName) prog_33_method_5_code (1 : Nat) (Option.some Jvm.ClassFile.FieldType.boolean)]
set_option maxRecDepth 65536 in
theorem codes_eq : words1.filter isCode = codes1 := rfl
theorem w_codes : ∀ c ∈ words1.filter isCode, c.before args0 about1 = true := by
  rw [codes_eq]
  intro c hc
  simp only [codes1, List.mem_cons, List.not_mem_nil, or_false] at hc
  rcases hc with rfl | rfl | rfl
  · exact w_c0
  · exact w_c1
  · exact w_c2
set_option maxRecDepth 65536 in
theorem w_t1 : (words1.take 24).all (fun c => isCode c || c.before args0 about1) = true := by decide +kernel
set_option maxRecDepth 65536 in
theorem w_t2 : (words1.drop 24).all (fun c => isCode c || c.before args0 about1) = true := by decide +kernel
theorem w_tables : (allAtoms (Jvm.Cond.code x code maxLocals ret :: tables_1)).before args0 about1 = true := by
  rw [allAtoms_all]
  show words1.all (fun c => c.before args0 about1) = true
  refine all_split ?_ w_codes
  rw [← List.take_append_drop 24 words1, List.all_append, w_t1, w_t2]
  rfl
set_option maxRecDepth 65536 in
theorem w_case : (Jvm.Cond.and given_1 narrow_1).before args0 about1 = true := by decide +kernel
theorem w_applies : (headSpec (Jvm.Cond.code x code maxLocals ret :: tables_1) room_1).applies x e0.platform about1 = true :=
  (Spec.applies_iff w_frames).mpr ⟨w_running, w_runnable, w_alone, w_named, w_hears, w_ripe, w_room, w_tables⟩
theorem atStart : AtStart classFile x code maxLocals ret World_1 tables_1 room_1 Calls_1 rest_1 Pre_1 launch0 p0 e0 about1 theMethod args0 below0 :=
  ⟨lists_1, trivial, launch0.admits_env _ _ _, launch0.least_env, fairChoices_fair.cas, fairChoices_fair.clock, w_frames, w_args, w_heap, w_applies, trivial, trivial, w_case⟩
end start1
theorem witness_1 : WitnessClaimed_1 := ⟨start1.p0, start1.e0, start1.about1, start1.theMethod, start1.args0, start1.below0, start1.atStart⟩
end Jvm.Pilot.@@N@@
