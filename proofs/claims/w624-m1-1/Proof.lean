import JvmDerived
import JvmDerived.Pilot.@@N@@Statement
import JvmDerived.Pilot.@@N@@Code
set_option linter.unusedVariables false
set_option linter.unusedSimpArgs false
namespace Jvm.RoadKit
open Sem ClassFile Op Lib Jvm.Stand Jvm.Free Jvm.LawKit
section New
variable {p : Program} {l : Launch} {e : Env} {R : Room} {s : State} {m : MethodId} {args : Array Value} {below : List Frame} {meth : Method} {c : Code} {T : State} {locs : List Loc} {cells slots : Nat}
theorem retI (X : Stand p l e R s m args below meth c T locs cells slots) (hx : p.tables.exec = Jvm.exec) {pc : Nat} {Ls : Array Slot} {z : Int32} {rest : List Value} (hret : meth.sig.returnType = some .int) (hd : decode c.code pc = .ok (.ireturn, 1)) {fs : List Frame}
    (hl : ∀ (f : JFrame) (acts : List Action), f.method = m → f.locked = none → f.entered = [] → (doReturn e (T.setTop f) acts (some (.int z))).1 = T.setFrames fs) : Steps p.tables e below (T.setTop (mkF m pc Ls (.int z :: rest))) (T.setFrames fs) := by
  have hm' : T.vm.method? m = some meth := X.method'
  have hn : narrow .int (.int z) = .int z := rfl
  show Steps p.tables e below (T.setTop { method := m, pc := pc, locals := Ls, stack := _ :: rest, locked := none }) _
  jvm_step X.here [X.here.top, hx, hd, hm', hret, hn]
  first | (intro acts; rw [hl _ acts rfl rfl rfl]) | rw [hl _ _ rfl rfl rfl]
  exact Steps.refl _
theorem retL (X : Stand p l e R s m args below meth c T locs cells slots) (hx : p.tables.exec = Jvm.exec) {pc : Nat} {Ls : Array Slot} {z : Int64} {rest : List Value} (hret : meth.sig.returnType = some .long) (hd : decode c.code pc = .ok (.lreturn, 1)) {fs : List Frame}
    (hl : ∀ (f : JFrame) (acts : List Action), f.method = m → f.locked = none → f.entered = [] → (doReturn e (T.setTop f) acts (some (.long z))).1 = T.setFrames fs) : Steps p.tables e below (T.setTop (mkF m pc Ls (.long z :: rest))) (T.setFrames fs) := by
  have hm' : T.vm.method? m = some meth := X.method'
  show Steps p.tables e below (T.setTop { method := m, pc := pc, locals := Ls, stack := _ :: rest, locked := none }) _
  jvm_step X.here [X.here.top, hx, hd, hm', hret, narrow]
  first | (intro acts; rw [hl _ acts rfl rfl rfl]) | rw [hl _ _ rfl rfl rfl]
  exact Steps.refl _
theorem retR (X : Stand p l e R s m args below meth c T locs cells slots) (hx : p.tables.exec = Jvm.exec) {pc : Nat} {Ls : Array Slot} {z : Value} {rest : List Value} {ty : FieldType} (hz : z.isRef = true) (hty : ty.isReference = true) (hret : meth.sig.returnType = some ty) (hd : decode c.code pc = .ok (.areturn, 1)) {fs : List Frame}
    (hl : ∀ (f : JFrame) (acts : List Action), f.method = m → f.locked = none → f.entered = [] → (doReturn e (T.setTop f) acts (some z)).1 = T.setFrames fs) : Steps p.tables e below (T.setTop (mkF m pc Ls (z :: rest))) (T.setFrames fs) := by
  have hm' : T.vm.method? m = some meth := X.method'
  show Steps p.tables e below (T.setTop { method := m, pc := pc, locals := Ls, stack := _ :: rest, locked := none }) _
  jvm_step X.here [X.here.top, hx, hd, hm', hret, hz, hty]
  first | (intro acts; rw [hl _ acts rfl rfl rfl]) | rw [hl _ _ rfl rfl rfl]
  exact Steps.refl _
end New
abbrev lv (x : Int64) : Slot := .val (.long x)
abbrev un : Slot := .unset
abbrev sd : Slot := .second
/-- where the run stands, it comes to an end that G likes -/
def Go (tb : Tables) (e : Env) (below : List Frame) (G : Outcome → State → Prop) (F : State) : Prop := ∃ t o, Steps tb e below F t ∧ t.status = .running ∧ Ended t below o ∧ G o t
theorem Go.stp {tb : Tables} {e : Env} {below : List Frame} {G : Outcome → State → Prop} {F F' : State} (h : ∀ t, Steps tb e below F' t → Steps tb e below F t) (g : Go tb e below G F') : Go tb e below G F := by
  obtain ⟨t, o, h1, r⟩ := g
  exact ⟨t, o, h _ h1, r⟩
end Jvm.RoadKit
namespace Jvm.Pilot.@@N@@
open Jvm Jvm.ClassFile Sem Op Lib Jvm.Free Jvm.Stand Jvm.LawKit Jvm.RoadKit Bundle Jvm.Pilot.@@N@@.Jvm.D
def own_max (a b : Int32) : Int32 := if a < b then b else a
def own_min (a b : Int32) : Int32 := if b < a then b else a
def own_con (s e x : Int32) : Int32 := if x < s then 0 else if e < x then 0 else 1
def own_ref (s e x : Int32) : Int32 := if own_max s (own_min x e) = x then 1 else 0
theorem own_law (s e x : Int32) (h : ¬ e < s) : own_con s e x = own_ref s e x := by
  unfold own_con own_ref own_max own_min
  simp only [Int32.lt_iff_toInt_lt, ← Int32.toInt_inj] at *
  repeat' split
  all_goals first | rfl | (exfalso; omega)
theorem own_bd (a b : Int32) : ¬ own_min (a &&& (65535 : Int32)) (b &&& (65535 : Int32)) < (0 : Int32) ∧ own_max (a &&& (65535 : Int32)) (b &&& (65535 : Int32)) < (65536 : Int32) ∧ ¬ own_max (a &&& (65535 : Int32)) (b &&& (65535 : Int32)) < own_min (a &&& (65535 : Int32)) (b &&& (65535 : Int32)) := by
  have h1 := c_mask a 65535 16 (by decide) (by decide)
  have h2 := c_mask b 65535 16 (by decide) (by decide)
  have e0 : (0 : Int32).toInt = 0 := by decide
  have e1 : (65536 : Int32).toInt = 65536 := by decide
  generalize (a &&& (65535 : Int32)) = p at *
  generalize (b &&& (65535 : Int32)) = q at *
  unfold own_max own_min
  simp only [Int32.lt_iff_toInt_lt] at *
  refine ⟨?_, ?_, ?_⟩ <;> (repeat' split) <;> omega
theorem own_nz (s e : Int32) (h0 : ¬ s < (0 : Int32)) (h1 : e < (65536 : Int32)) (h2 : ¬ e < s) : (e - s) + (1 : Int32) ≠ (0 : Int32) := fun q => by
  have e0 : (0 : Int32).toInt = 0 := by decide
  have e1 : (65536 : Int32).toInt = 65536 := by decide
  have e2 : (1 : Int32).toInt = 1 := by decide
  rw [Int32.lt_iff_toInt_lt] at h0 h1 h2
  have a := c_isub e s
  have b := c_iadd (e - s) 1
  have r := rng32 (e - s)
  rw [q] at b
  omega
theorem pd_0 : parseMethodDescriptor "()V" = some ⟨[], none⟩ := by decide +kernel
theorem pd_1 : parseMethodDescriptor "(II)I" = some ⟨[.int, .int], some .int⟩ := by decide +kernel
theorem pd_2 : parseMethodDescriptor "(II)V" = some ⟨[.int, .int], none⟩ := by decide +kernel
theorem pd_3 : parseMethodDescriptor "(IIII)I" = some ⟨[.int, .int, .int, .int], some .int⟩ := by decide +kernel
theorem pd_4 : parseMethodDescriptor "(I)Z" = some ⟨[.int], some .boolean⟩ := by decide +kernel
theorem pd_5 : parseMethodDescriptor "(III)Z" = some ⟨[.int, .int, .int], some .boolean⟩ := by decide +kernel
theorem d1_0 : decode jdk_29_method_69_code 0 = .ok (.iload_n 0, 1) := by decide +kernel
theorem d1_1 : decode jdk_29_method_69_code 1 = .ok (.iload_n 1, 1) := by decide +kernel
theorem d1_2 : decode jdk_29_method_69_code 2 = .ok (.if_icmp .gt 7, 3) := by decide +kernel
theorem d1_5 : decode jdk_29_method_69_code 5 = .ok (.iload_n 0, 1) := by decide +kernel
theorem d1_6 : decode jdk_29_method_69_code 6 = .ok (.goto 4, 3) := by decide +kernel
theorem d1_9 : decode jdk_29_method_69_code 9 = .ok (.iload_n 1, 1) := by decide +kernel
theorem d1_10 : decode jdk_29_method_69_code 10 = .ok (.ireturn, 1) := by decide +kernel
theorem ef_1 (m : MethodId) (p0 : Int32) (p1 : Int32) : entryFrame m #[(.int p0), (.int p1)] 2 = mkF m 0 #[iv p0, iv p1] [] := by first | (simp [entryFrame, mkF, argsToLocals, Value.category, iv, rv, lv, un, sd]; done) | rfl
def Q1 (Z : State) (p0 : Int32) (p1 : Int32) (h0 : Heap) (n0 : Nat) (v : Option Value) (h : Heap) (L : List Loc) : Prop := v = some (.int (own_min p0 p1)) ∧ Fr n0 L ∧ h = h0
set_option maxRecDepth 65536 in
set_option maxHeartbeats 40000000 in
theorem rm1 (l : Launch) (Z : State) (a0 : Array Value) (hw : ∀ d ∈ tables_1, d.before a0 Z = true) (ws : List Jvm.Cond) (p0 : Int32) (p1 : Int32) (h0 : Heap) (n0 : Nat) (Z0 : n0 ≤ h0.size) :
    MetFree l (⟨"java/lang/Math", "min", "(II)I"⟩ : MethodName) (head1 (Jvm.Cond.code (⟨"java/lang/Math", "min", "(II)I"⟩ : MethodName) jdk_29_method_69_code 2 (some .int) :: ws) ({ frames := 0, cells := 0, slots := 0, locals := 0 } : Room)) (fun a U => a = #[(.int p0), (.int p1)] ∧ Z.Warmed39 U.vm ∧ U.heap = h0) (fun _ _ _ _ _ => True) (fun _ U o U' => ∃ v L, o = .returned v ∧ Q1 Z p0 p1 h0 n0 v U'.heap L ∧ FrameEnd U o U' L ({ frames := 0, cells := 0, slots := 0, locals := 0 } : Room).cells ({ frames := 0, cells := 0, slots := 0, locals := 0 } : Room).slots) := by
  refine MetFree.of_bodySF (Jvm.Free.JP.mathPlain rfl (by decide +kernel)) hisR ?_
  intro p e s m args below meth c s₁ Bd hml0 hP hK
  obtain ⟨rfl, hZ, hh⟩ := hP
  have hx := Bd.exec
  have hby := Bd.bytes
  have hml : c.maxLocals = 2 := hml0
  have hown : s.vm.findClass "java/lang/Math" = some m.cls := findClass_of_methodNamed Bd.named
  have hnm := (name_of_methodNamed Bd.named Bd.method).1
  have X0 : Stand p l e ({ frames := 0, cells := 0, slots := 0, locals := 0 } : Room) s m #[(.int p0), (.int p1)] below meth c s₁ [] 0 0 := Stand.of_body Bd
  have e0 : s₁.heap = h0 := by rw [← hh, Bd.state]; rfl
  have N0 := Fr.nil n0
  suffices HH : ∀ G : Outcome → State → Prop, (∀ v L U', Q1 Z p0 p1 h0 n0 v U'.heap L → FrameEnd s (.returned v) U' L ({ frames := 0, cells := 0, slots := 0, locals := 0 } : Room).cells ({ frames := 0, cells := 0, slots := 0, locals := 0 } : Room).slots → G (.returned v) U') → Go p.tables e below G (s₁.setTop (mkF m 0 #[iv p0, iv p1] [])) by
    obtain ⟨s2, o, h1, h2, h3, h4⟩ := HH (fun o U' => ∃ v L, o = .returned v ∧ Q1 Z p0 p1 h0 n0 v U'.heap L ∧ FrameEnd s o U' L ({ frames := 0, cells := 0, slots := 0, locals := 0 } : Room).cells ({ frames := 0, cells := 0, slots := 0, locals := 0 } : Room).slots) (fun v L U' q f => ⟨v, L, rfl, q, f⟩)
    exact ⟨s2, o, castTop (ef_1 m p0 p1) h1, h2, h3, h4⟩
  intro G hG
  show Go p.tables e below G (s₁.setTop (mkF m 0 #[iv p0, iv p1] []))
  refine Go.stp (fun t k => XS.iloadN X0.here hx rfl (hb hby d1_0) rfl k) ?_
  show Go p.tables e below G (s₁.setTop (mkF m 1 #[iv p0, iv p1] [(.int p0)]))
  refine Go.stp (fun t k => XS.iloadN X0.here hx rfl (hb hby d1_1) rfl k) ?_
  show Go p.tables e below G (s₁.setTop (mkF m 2 #[iv p0, iv p1] [(.int p1), (.int p0)]))
  by_cases hc2 : p1 < p0
  · refine Go.stp (fun t k => XS.icmpYes X0.here hx rfl (pc0 := 2) (pc' := 9) rfl (hb hby d1_2) rfl (tlt hc2).2.2.1 (by decide) (by decide) k) ?_
    show Go p.tables e below G (s₁.setTop (mkF m 9 #[iv p0, iv p1] []))
    refine Go.stp (fun t k => XS.iloadN X0.here hx rfl (hb hby d1_9) rfl k) ?_
    show Go p.tables e below G (s₁.setTop (mkF m 10 #[iv p0, iv p1] [(.int p1)]))
    obtain ⟨fs, hr, hrun, hended, hW, hsame⟩ := X0.leave (v := some (.int p1)) (fun h => by rw [Bd.returns] at h; cases h)
    refine ⟨_, _, retI X0 hx Bd.returns (hb hby d1_10) hr, hrun, hended, hG _ _ _ ?_ ⟨⟨_, rfl⟩, hW, hsame.mono (by decide) (by decide)⟩⟩
    show Q1 Z p0 p1 h0 n0 _ s₁.heap _
    rw [e0]
    exact ⟨by simp [own_min, hc2], N0, rfl⟩
  · refine Go.stp (fun t k => XS.icmpNo X0.here hx rfl (hb hby d1_2) rfl (flt hc2).2.2.1 k) ?_
    show Go p.tables e below G (s₁.setTop (mkF m 5 #[iv p0, iv p1] []))
    refine Go.stp (fun t k => XS.iloadN X0.here hx rfl (hb hby d1_5) rfl k) ?_
    show Go p.tables e below G (s₁.setTop (mkF m 6 #[iv p0, iv p1] [(.int p0)]))
    refine Go.stp (fun t k => XS.goto X0.here hx rfl (pc0 := 6) (pc' := 10) rfl (hb hby d1_6) (by decide) (by decide) k) ?_
    show Go p.tables e below G (s₁.setTop (mkF m 10 #[iv p0, iv p1] [(.int p0)]))
    obtain ⟨fs, hr, hrun, hended, hW, hsame⟩ := X0.leave (v := some (.int p0)) (fun h => by rw [Bd.returns] at h; cases h)
    refine ⟨_, _, retI X0 hx Bd.returns (hb hby d1_10) hr, hrun, hended, hG _ _ _ ?_ ⟨⟨_, rfl⟩, hW, hsame.mono (by decide) (by decide)⟩⟩
    show Q1 Z p0 p1 h0 n0 _ s₁.heap _
    rw [e0]
    exact ⟨by simp [own_min, hc2], N0, rfl⟩
theorem d2_0 : decode jdk_29_method_65_code 0 = .ok (.iload_n 0, 1) := by decide +kernel
theorem d2_1 : decode jdk_29_method_65_code 1 = .ok (.iload_n 1, 1) := by decide +kernel
theorem d2_2 : decode jdk_29_method_65_code 2 = .ok (.if_icmp .lt 7, 3) := by decide +kernel
theorem d2_5 : decode jdk_29_method_65_code 5 = .ok (.iload_n 0, 1) := by decide +kernel
theorem d2_6 : decode jdk_29_method_65_code 6 = .ok (.goto 4, 3) := by decide +kernel
theorem d2_9 : decode jdk_29_method_65_code 9 = .ok (.iload_n 1, 1) := by decide +kernel
theorem d2_10 : decode jdk_29_method_65_code 10 = .ok (.ireturn, 1) := by decide +kernel
theorem ef_2 (m : MethodId) (p0 : Int32) (p1 : Int32) : entryFrame m #[(.int p0), (.int p1)] 2 = mkF m 0 #[iv p0, iv p1] [] := by first | (simp [entryFrame, mkF, argsToLocals, Value.category, iv, rv, lv, un, sd]; done) | rfl
def Q2 (Z : State) (p0 : Int32) (p1 : Int32) (h0 : Heap) (n0 : Nat) (v : Option Value) (h : Heap) (L : List Loc) : Prop := v = some (.int (own_max p0 p1)) ∧ Fr n0 L ∧ h = h0
set_option maxRecDepth 65536 in
set_option maxHeartbeats 40000000 in
theorem rm2 (l : Launch) (Z : State) (a0 : Array Value) (hw : ∀ d ∈ tables_1, d.before a0 Z = true) (ws : List Jvm.Cond) (p0 : Int32) (p1 : Int32) (h0 : Heap) (n0 : Nat) (Z0 : n0 ≤ h0.size) :
    MetFree l (⟨"java/lang/Math", "max", "(II)I"⟩ : MethodName) (head1 (Jvm.Cond.code (⟨"java/lang/Math", "max", "(II)I"⟩ : MethodName) jdk_29_method_65_code 2 (some .int) :: ws) ({ frames := 0, cells := 0, slots := 0, locals := 0 } : Room)) (fun a U => a = #[(.int p0), (.int p1)] ∧ Z.Warmed39 U.vm ∧ U.heap = h0) (fun _ _ _ _ _ => True) (fun _ U o U' => ∃ v L, o = .returned v ∧ Q2 Z p0 p1 h0 n0 v U'.heap L ∧ FrameEnd U o U' L ({ frames := 0, cells := 0, slots := 0, locals := 0 } : Room).cells ({ frames := 0, cells := 0, slots := 0, locals := 0 } : Room).slots) := by
  refine MetFree.of_bodySF (Jvm.Free.JP.mathPlain rfl (by decide +kernel)) hisR ?_
  intro p e s m args below meth c s₁ Bd hml0 hP hK
  obtain ⟨rfl, hZ, hh⟩ := hP
  have hx := Bd.exec
  have hby := Bd.bytes
  have hml : c.maxLocals = 2 := hml0
  have hown : s.vm.findClass "java/lang/Math" = some m.cls := findClass_of_methodNamed Bd.named
  have hnm := (name_of_methodNamed Bd.named Bd.method).1
  have X0 : Stand p l e ({ frames := 0, cells := 0, slots := 0, locals := 0 } : Room) s m #[(.int p0), (.int p1)] below meth c s₁ [] 0 0 := Stand.of_body Bd
  have e0 : s₁.heap = h0 := by rw [← hh, Bd.state]; rfl
  have N0 := Fr.nil n0
  suffices HH : ∀ G : Outcome → State → Prop, (∀ v L U', Q2 Z p0 p1 h0 n0 v U'.heap L → FrameEnd s (.returned v) U' L ({ frames := 0, cells := 0, slots := 0, locals := 0 } : Room).cells ({ frames := 0, cells := 0, slots := 0, locals := 0 } : Room).slots → G (.returned v) U') → Go p.tables e below G (s₁.setTop (mkF m 0 #[iv p0, iv p1] [])) by
    obtain ⟨s2, o, h1, h2, h3, h4⟩ := HH (fun o U' => ∃ v L, o = .returned v ∧ Q2 Z p0 p1 h0 n0 v U'.heap L ∧ FrameEnd s o U' L ({ frames := 0, cells := 0, slots := 0, locals := 0 } : Room).cells ({ frames := 0, cells := 0, slots := 0, locals := 0 } : Room).slots) (fun v L U' q f => ⟨v, L, rfl, q, f⟩)
    exact ⟨s2, o, castTop (ef_2 m p0 p1) h1, h2, h3, h4⟩
  intro G hG
  show Go p.tables e below G (s₁.setTop (mkF m 0 #[iv p0, iv p1] []))
  refine Go.stp (fun t k => XS.iloadN X0.here hx rfl (hb hby d2_0) rfl k) ?_
  show Go p.tables e below G (s₁.setTop (mkF m 1 #[iv p0, iv p1] [(.int p0)]))
  refine Go.stp (fun t k => XS.iloadN X0.here hx rfl (hb hby d2_1) rfl k) ?_
  show Go p.tables e below G (s₁.setTop (mkF m 2 #[iv p0, iv p1] [(.int p1), (.int p0)]))
  by_cases hc2 : p0 < p1
  · refine Go.stp (fun t k => XS.icmpYes X0.here hx rfl (pc0 := 2) (pc' := 9) rfl (hb hby d2_2) rfl (tlt hc2).1 (by decide) (by decide) k) ?_
    show Go p.tables e below G (s₁.setTop (mkF m 9 #[iv p0, iv p1] []))
    refine Go.stp (fun t k => XS.iloadN X0.here hx rfl (hb hby d2_9) rfl k) ?_
    show Go p.tables e below G (s₁.setTop (mkF m 10 #[iv p0, iv p1] [(.int p1)]))
    obtain ⟨fs, hr, hrun, hended, hW, hsame⟩ := X0.leave (v := some (.int p1)) (fun h => by rw [Bd.returns] at h; cases h)
    refine ⟨_, _, retI X0 hx Bd.returns (hb hby d2_10) hr, hrun, hended, hG _ _ _ ?_ ⟨⟨_, rfl⟩, hW, hsame.mono (by decide) (by decide)⟩⟩
    show Q2 Z p0 p1 h0 n0 _ s₁.heap _
    rw [e0]
    exact ⟨by simp [own_max, hc2], N0, rfl⟩
  · refine Go.stp (fun t k => XS.icmpNo X0.here hx rfl (hb hby d2_2) rfl (flt hc2).1 k) ?_
    show Go p.tables e below G (s₁.setTop (mkF m 5 #[iv p0, iv p1] []))
    refine Go.stp (fun t k => XS.iloadN X0.here hx rfl (hb hby d2_5) rfl k) ?_
    show Go p.tables e below G (s₁.setTop (mkF m 6 #[iv p0, iv p1] [(.int p0)]))
    refine Go.stp (fun t k => XS.goto X0.here hx rfl (pc0 := 6) (pc' := 10) rfl (hb hby d2_6) (by decide) (by decide) k) ?_
    show Go p.tables e below G (s₁.setTop (mkF m 10 #[iv p0, iv p1] [(.int p0)]))
    obtain ⟨fs, hr, hrun, hended, hW, hsame⟩ := X0.leave (v := some (.int p0)) (fun h => by rw [Bd.returns] at h; cases h)
    refine ⟨_, _, retI X0 hx Bd.returns (hb hby d2_10) hr, hrun, hended, hG _ _ _ ?_ ⟨⟨_, rfl⟩, hW, hsame.mono (by decide) (by decide)⟩⟩
    show Q2 Z p0 p1 h0 n0 _ s₁.heap _
    rw [e0]
    exact ⟨by simp [own_max, hc2], N0, rfl⟩
theorem pn_4 : plainName "java/lang/Record" = true := by first | (simp [plainName, overriddenIn]; done) | decide +kernel
theorem d4_0 : decode jdk_30_method_1_code 0 = .ok (.aload_n 0, 1) := by decide +kernel
theorem d4_1 : decode jdk_30_method_1_code 1 = .ok (.invokespecial 1, 3) := by decide +kernel
theorem d4_4 : decode jdk_30_method_1_code 4 = .ok (.return_, 1) := by decide +kernel
theorem ef_4 (m : MethodId) (r0 : Addr) : entryFrame m #[(.ref r0)] 1 = mkF m 0 #[rv r0] [] := by first | (simp [entryFrame, mkF, argsToLocals, Value.category, iv, rv, lv, un, sd]; done) | rfl
def Q4 (Z : State) (r0 : Addr) (h0 : Heap) (n0 : Nat) (v : Option Value) (h : Heap) (L : List Loc) : Prop := v = none ∧ Fr n0 L ∧ h = h0
set_option maxRecDepth 65536 in
set_option maxHeartbeats 40000000 in
theorem rm4 (l : Launch) (Z : State) (a0 : Array Value) (hw : ∀ d ∈ tables_1, d.before a0 Z = true) (ws : List Jvm.Cond) (r0 : Addr) (h0 : Heap) (n0 : Nat) (Z0 : n0 ≤ h0.size) :
    MetFree l (⟨"java/lang/Record", "<init>", "()V"⟩ : MethodName) (head1 (Jvm.Cond.code (⟨"java/lang/Record", "<init>", "()V"⟩ : MethodName) jdk_30_method_1_code 1 none :: ws) ({ frames := 1, cells := 0, slots := 0, locals := 12 } : Room)) (fun a U => a = #[(.ref r0)] ∧ Z.Warmed39 U.vm ∧ U.heap = h0) (fun _ _ _ _ _ => True) (fun _ U o U' => ∃ v L, o = .returned v ∧ Q4 Z r0 h0 n0 v U'.heap L ∧ FrameEnd U o U' L ({ frames := 1, cells := 0, slots := 0, locals := 12 } : Room).cells ({ frames := 1, cells := 0, slots := 0, locals := 12 } : Room).slots) := by
  refine MetFree.of_bodySF (plainFor_of_name pn_4) hisR ?_
  intro p e s m args below meth c s₁ Bd hml0 hP hK
  obtain ⟨rfl, hZ, hh⟩ := hP
  have hx := Bd.exec
  have hby := Bd.bytes
  have hml : c.maxLocals = 1 := hml0
  have hown : s.vm.findClass "java/lang/Record" = some m.cls := findClass_of_methodNamed Bd.named
  have hnm := (name_of_methodNamed Bd.named Bd.method).1
  have X0 : Stand p l e ({ frames := 1, cells := 0, slots := 0, locals := 12 } : Room) s m #[(.ref r0)] below meth c s₁ [] 0 0 := Stand.of_body Bd
  have e0 : s₁.heap = h0 := by rw [← hh, Bd.state]; rfl
  have N0 := Fr.nil n0
  suffices HH : ∀ G : Outcome → State → Prop, (∀ v L U', Q4 Z r0 h0 n0 v U'.heap L → FrameEnd s (.returned v) U' L ({ frames := 1, cells := 0, slots := 0, locals := 12 } : Room).cells ({ frames := 1, cells := 0, slots := 0, locals := 12 } : Room).slots → G (.returned v) U') → Go p.tables e below G (s₁.setTop (mkF m 0 #[rv r0] [])) by
    obtain ⟨s2, o, h1, h2, h3, h4⟩ := HH (fun o U' => ∃ v L, o = .returned v ∧ Q4 Z r0 h0 n0 v U'.heap L ∧ FrameEnd s o U' L ({ frames := 1, cells := 0, slots := 0, locals := 12 } : Room).cells ({ frames := 1, cells := 0, slots := 0, locals := 12 } : Room).slots) (fun v L U' q f => ⟨v, L, rfl, q, f⟩)
    exact ⟨s2, o, castTop (ef_4 m r0) h1, h2, h3, h4⟩
  intro G hG
  show Go p.tables e below G (s₁.setTop (mkF m 0 #[rv r0] []))
  refine Go.stp (fun t k => XS.aloadN X0.here hx rfl (hb hby d4_0) rfl rfl k) ?_
  show Go p.tables e below G (s₁.setTop (mkF m 1 #[rv r0] [(.ref r0)]))
  obtain ⟨T1, X1, e1, st1⟩ := initO X0 hx hZ hown (hw _ (List.mem_of_getElem? (i := 19) rfl)) (hw _ (List.mem_of_getElem? (i := 20) rfl)) (hw _ (List.mem_of_getElem? (i := 21) rfl)) e0 (g := (mkF m 1 #[rv r0] [(.ref r0)])) rfl (by rw [hml]; rfl) rfl (hb hby d4_1) (by decide) (W := 0) (by show 2 * 0 + _ ≤ _; exact Nat.le_of_eq rfl) (by decide)
  refine Go.stp (fun t k => st1 t k) ?_
  show Go p.tables e below G (T1.setTop (mkF m 4 #[rv r0] []))
  obtain ⟨fs, hr, hrun, hended, hW, hsame⟩ := X1.leave (v := none) (fun _ => rfl)
  refine ⟨_, _, X1.returnOut hx Bd.returns (hb hby d4_4) hr, hrun, hended, hG _ _ _ ?_ ⟨⟨_, rfl⟩, hW, hsame.mono (by decide) (by decide)⟩⟩
  show Q4 Z r0 h0 n0 _ T1.heap _
  rw [e1]
  exact ⟨rfl, N0, rfl⟩
theorem pn_3 : plainName "com/example/keys_in_order/keysinorder/HashRange" = true := by first | (simp [plainName, overriddenIn]; done) | decide +kernel
theorem d3_0 : decode prog_12_method_1_code 0 = .ok (.aload_n 0, 1) := by decide +kernel
theorem d3_1 : decode prog_12_method_1_code 1 = .ok (.invokespecial 1, 3) := by decide +kernel
theorem d3_4 : decode prog_12_method_1_code 4 = .ok (.iload_n 1, 1) := by decide +kernel
theorem d3_5 : decode prog_12_method_1_code 5 = .ok (.ifCond .lt 14, 3) := by decide +kernel
theorem d3_8 : decode prog_12_method_1_code 8 = .ok (.iload_n 2, 1) := by decide +kernel
theorem d3_9 : decode prog_12_method_1_code 9 = .ok (.ldc 9, 2) := by decide +kernel
theorem d3_11 : decode prog_12_method_1_code 11 = .ok (.if_icmp .ge 8, 3) := by decide +kernel
theorem d3_14 : decode prog_12_method_1_code 14 = .ok (.iload_n 2, 1) := by decide +kernel
theorem d3_15 : decode prog_12_method_1_code 15 = .ok (.iload_n 1, 1) := by decide +kernel
theorem d3_16 : decode prog_12_method_1_code 16 = .ok (.if_icmp .ge 18, 3) := by decide +kernel
theorem d3_34 : decode prog_12_method_1_code 34 = .ok (.aload_n 0, 1) := by decide +kernel
theorem d3_35 : decode prog_12_method_1_code 35 = .ok (.iload_n 1, 1) := by decide +kernel
theorem d3_36 : decode prog_12_method_1_code 36 = .ok (.putfield 19, 3) := by decide +kernel
theorem d3_39 : decode prog_12_method_1_code 39 = .ok (.aload_n 0, 1) := by decide +kernel
theorem d3_40 : decode prog_12_method_1_code 40 = .ok (.iload_n 2, 1) := by decide +kernel
theorem d3_41 : decode prog_12_method_1_code 41 = .ok (.putfield 25, 3) := by decide +kernel
theorem d3_44 : decode prog_12_method_1_code 44 = .ok (.return_, 1) := by decide +kernel
theorem ef_3 (m : MethodId) (r0 : Addr) (p1 : Int32) (p2 : Int32) : entryFrame m #[(.ref r0), (.int p1), (.int p2)] 3 = mkF m 0 #[rv r0, iv p1, iv p2] [] := by first | (simp [entryFrame, mkF, argsToLocals, Value.category, iv, rv, lv, un, sd]; done) | rfl
def Q3 (Z : State) (r0 : Addr) (p1 : Int32) (p2 : Int32) (h0 : Heap) (n0 : Nat) (v : Option Value) (h : Heap) (L : List Loc) : Prop := v = none ∧ Fr n0 L ∧ Keep h0 h [r0] ∧ Exa Z h r0 "com/example/keys_in_order/keysinorder/HashRange" ∧ Fld Z h r0 "com/example/keys_in_order/keysinorder/HashRange" "start" "I" (.int p1) ∧ Fld Z h r0 "com/example/keys_in_order/keysinorder/HashRange" "end" "I" (.int p2)
set_option maxRecDepth 65536 in
set_option maxHeartbeats 40000000 in
theorem rm3 (l : Launch) (Z : State) (a0 : Array Value) (hw : ∀ d ∈ tables_1, d.before a0 Z = true) (ws : List Jvm.Cond) (r0 : Addr) (p1 : Int32) (p2 : Int32) (h0 : Heap) (n0 : Nat) (Z0 : n0 ≤ h0.size) (E_r0 : Exa Z h0 r0 "com/example/keys_in_order/keysinorder/HashRange") (F_s : Fld Z h0 r0 "com/example/keys_in_order/keysinorder/HashRange" "start" "I" (.int (0 : Int32))) (F_e : Fld Z h0 r0 "com/example/keys_in_order/keysinorder/HashRange" "end" "I" (.int (0 : Int32))) (g_r0 : n0 ≤ r0) (b0 : ¬ p1 < (0 : Int32)) (b1 : p2 < (65536 : Int32)) (b2 : ¬ p2 < p1) :
    MetFree l (⟨"com/example/keys_in_order/keysinorder/HashRange", "<init>", "(II)V"⟩ : MethodName) (head1 (Jvm.Cond.code (⟨"com/example/keys_in_order/keysinorder/HashRange", "<init>", "(II)V"⟩ : MethodName) prog_12_method_1_code 3 none :: ws) ({ frames := 2, cells := 0, slots := 0, locals := 24 } : Room)) (fun a U => a = #[(.ref r0), (.int p1), (.int p2)] ∧ Z.Warmed39 U.vm ∧ U.heap = h0) (fun _ _ _ _ _ => True) (fun _ U o U' => ∃ v L, o = .returned v ∧ Q3 Z r0 p1 p2 h0 n0 v U'.heap L ∧ FrameEnd U o U' L ({ frames := 2, cells := 0, slots := 0, locals := 24 } : Room).cells ({ frames := 2, cells := 0, slots := 0, locals := 24 } : Room).slots) := by
  refine MetFree.of_bodySF (plainFor_of_name pn_3) hisR ?_
  intro p e s m args below meth c s₁ Bd hml0 hP hK
  obtain ⟨rfl, hZ, hh⟩ := hP
  have hx := Bd.exec
  have hby := Bd.bytes
  have hml : c.maxLocals = 3 := hml0
  have hown : s.vm.findClass "com/example/keys_in_order/keysinorder/HashRange" = some m.cls := findClass_of_methodNamed Bd.named
  have hnm := (name_of_methodNamed Bd.named Bd.method).1
  have X0 : Stand p l e ({ frames := 2, cells := 0, slots := 0, locals := 24 } : Room) s m #[(.ref r0), (.int p1), (.int p2)] below meth c s₁ [] 0 0 := Stand.of_body Bd
  have e0 : s₁.heap = h0 := by rw [← hh, Bd.state]; rfl
  have N0 := Fr.nil n0
  suffices HH : ∀ G : Outcome → State → Prop, (∀ v L U', Q3 Z r0 p1 p2 h0 n0 v U'.heap L → FrameEnd s (.returned v) U' L ({ frames := 2, cells := 0, slots := 0, locals := 24 } : Room).cells ({ frames := 2, cells := 0, slots := 0, locals := 24 } : Room).slots → G (.returned v) U') → Go p.tables e below G (s₁.setTop (mkF m 0 #[rv r0, iv p1, iv p2] [])) by
    obtain ⟨s2, o, h1, h2, h3, h4⟩ := HH (fun o U' => ∃ v L, o = .returned v ∧ Q3 Z r0 p1 p2 h0 n0 v U'.heap L ∧ FrameEnd s o U' L ({ frames := 2, cells := 0, slots := 0, locals := 24 } : Room).cells ({ frames := 2, cells := 0, slots := 0, locals := 24 } : Room).slots) (fun v L U' q f => ⟨v, L, rfl, q, f⟩)
    exact ⟨s2, o, castTop (ef_3 m r0 p1 p2) h1, h2, h3, h4⟩
  intro G hG
  have K0 := Keep.refl h0 [r0]
  show Go p.tables e below G (s₁.setTop (mkF m 0 #[rv r0, iv p1, iv p2] []))
  refine Go.stp (fun t k => XS.aloadN X0.here hx rfl (hb hby d3_0) rfl rfl k) ?_
  show Go p.tables e below G (s₁.setTop (mkF m 1 #[rv r0, iv p1, iv p2] [(.ref r0)]))
  obtain ⟨_, _, ⟨T1, L1, k1, n1⟩, -, X1, ⟨Lc1, hQ1, l1, y1, z1⟩, st1⟩ := X0.specialBack hx (y := (⟨"java/lang/Record", "<init>", "()V"⟩ : MethodName)) rfl hown (mvT hZ (hw _ (List.mem_of_getElem? (i := 14) rfl))) (mvT hZ (hw _ (List.mem_of_getElem? (i := 15) rfl))) (mvT hZ (hw _ (List.mem_of_getElem? (i := 18) rfl))) (by decide) (backOf (W := 0) (rm4 l Z a0 hw [] r0  h0 n0 Z0 ) hZ (hw _ (List.mem_of_getElem? (i := 18) rfl)) (hw _ (List.mem_of_getElem? (i := 17) rfl)) (by decide) (by decide)) (g := (mkF m 1 #[rv r0, iv p1, iv p2] [(.ref r0)])) rfl (by rw [hml]; rfl) (Steps.refl _) (a := r0) (argsL := []) (rest := []) (lenOf pd_0 rfl) rfl (by show 2 * 0 + _ ≤ _; exact Nat.le_of_eq rfl) (hb hby d3_1) (fun _ _ => ⟨rfl, e0, (by decide : 0 + 0 ≤ _), (by decide : 0 + 0 ≤ _)⟩)
  dsimp only [Pt.U, Pt.locs, Pt.cells, Pt.slots] at X1 l1 y1 z1 st1 hQ1
  subst l1 y1 z1
  obtain ⟨rfl, Nq1, e1⟩ := hQ1
  have N1 := Fr.app N0 Nq1
  refine Go.stp (fun t k => st1.trans k) ?_
  show Go p.tables e below G (T1.setTop (mkF m 4 #[rv r0, iv p1, iv p2] []))
  refine Go.stp (fun t k => XS.iloadN X1.here hx rfl (hb hby d3_4) rfl k) ?_
  show Go p.tables e below G (T1.setTop (mkF m 5 #[rv r0, iv p1, iv p2] [(.int p1)]))
  have hd5 : ¬ (p1 < (0 : Int32)) := b0
  refine Go.stp (fun t k => XS.ifNo X1.here hx rfl (hb hby d3_5) rfl ((if0 _ _).trans (flt hd5).1) k) ?_
  show Go p.tables e below G (T1.setTop (mkF m 8 #[rv r0, iv p1, iv p2] []))
  refine Go.stp (fun t k => XS.iloadN X1.here hx rfl (hb hby d3_8) rfl k) ?_
  show Go p.tables e below G (T1.setTop (mkF m 9 #[rv r0, iv p1, iv p2] [(.int p2)]))
  refine Go.stp (fun t k => X1.ldcInt hx hown (mvT hZ (hw _ (List.mem_of_getElem? (i := 22) rfl))) (g := (mkF m 9 #[rv r0, iv p1, iv p2] [(.int p2)])) rfl (hb hby d3_9) t k) ?_
  show Go p.tables e below G (T1.setTop (mkF m 11 #[rv r0, iv p1, iv p2] [(.int (65536 : Int32)), (.int p2)]))
  have hd11 : p2 < (65536 : Int32) := b1
  refine Go.stp (fun t k => XS.icmpNo X1.here hx rfl (hb hby d3_11) rfl (tlt hd11).2.1 k) ?_
  show Go p.tables e below G (T1.setTop (mkF m 14 #[rv r0, iv p1, iv p2] []))
  refine Go.stp (fun t k => XS.iloadN X1.here hx rfl (hb hby d3_14) rfl k) ?_
  show Go p.tables e below G (T1.setTop (mkF m 15 #[rv r0, iv p1, iv p2] [(.int p2)]))
  refine Go.stp (fun t k => XS.iloadN X1.here hx rfl (hb hby d3_15) rfl k) ?_
  show Go p.tables e below G (T1.setTop (mkF m 16 #[rv r0, iv p1, iv p2] [(.int p1), (.int p2)]))
  have hd16 : ¬ (p2 < p1) := b2
  refine Go.stp (fun t k => XS.icmpYes X1.here hx rfl (pc0 := 16) (pc' := 34) rfl (hb hby d3_16) rfl (flt hd16).2.1 (by decide) (by decide) k) ?_
  show Go p.tables e below G (T1.setTop (mkF m 34 #[rv r0, iv p1, iv p2] []))
  refine Go.stp (fun t k => XS.aloadN X1.here hx rfl (hb hby d3_34) rfl rfl k) ?_
  show Go p.tables e below G (T1.setTop (mkF m 35 #[rv r0, iv p1, iv p2] [(.ref r0)]))
  refine Go.stp (fun t k => XS.iloadN X1.here hx rfl (hb hby d3_35) rfl k) ?_
  show Go p.tables e below G (T1.setTop (mkF m 36 #[rv r0, iv p1, iv p2] [(.int p1), (.ref r0)]))
  obtain ⟨T2, h2, X2, e2, W2, st2⟩ := putF X1 hx hZ hown (host := "") (Or.inl (hw _ (List.mem_of_getElem? (i := 23) rfl))) Via.refl e1 F_s E_r0 (Or.inr ⟨(hw _ (List.mem_of_getElem? (i := 24) rfl)), rfl, hnm⟩) (hw _ (List.mem_of_getElem? (i := 9) rfl)) (ty := .int) (by decide) rfl rfl (g := (mkF m 36 #[rv r0, iv p1, iv p2] [(.int p1), (.ref r0)])) rfl rfl (hb hby d3_36)
  have f3 : Fld Z h2 r0 "com/example/keys_in_order/keysinorder/HashRange" "start" "I" (.int p1) := F_s.same W2
  have f4 : Exa Z h2 r0 "com/example/keys_in_order/keysinorder/HashRange" := E_r0.wr W2
  have f5 : Fld Z h2 r0 "com/example/keys_in_order/keysinorder/HashRange" "end" "I" (.int (0 : Int32)) := F_e.other W2 (Or.inr (slot_ne (Or.inr (hw _ (List.mem_of_getElem? (i := 26) rfl))) (Or.inr (hw _ (List.mem_of_getElem? (i := 24) rfl))) (by decide) (t := .int) (t' := .int) (by decide) (by decide)))
  have N2 := Fr.snoc X2 N1 g_r0
  have K2 := K0.wr W2 (Or.inl (List.mem_of_getElem? (i := 0) rfl))
  have Z2 : n0 ≤ h2.size := Nat.le_trans Z0 (Keep.of_wr W2).1
  refine Go.stp (fun t k => st2 t k) ?_
  show Go p.tables e below G (T2.setTop (mkF m 39 #[rv r0, iv p1, iv p2] []))
  refine Go.stp (fun t k => XS.aloadN X2.here hx rfl (hb hby d3_39) rfl rfl k) ?_
  show Go p.tables e below G (T2.setTop (mkF m 40 #[rv r0, iv p1, iv p2] [(.ref r0)]))
  refine Go.stp (fun t k => XS.iloadN X2.here hx rfl (hb hby d3_40) rfl k) ?_
  show Go p.tables e below G (T2.setTop (mkF m 41 #[rv r0, iv p1, iv p2] [(.int p2), (.ref r0)]))
  obtain ⟨T6, h6, X6, e6, W6, st6⟩ := putF X2 hx hZ hown (host := "") (Or.inl (hw _ (List.mem_of_getElem? (i := 25) rfl))) Via.refl e2 f5 f4 (Or.inr ⟨(hw _ (List.mem_of_getElem? (i := 26) rfl)), rfl, hnm⟩) (hw _ (List.mem_of_getElem? (i := 9) rfl)) (ty := .int) (by decide) rfl rfl (g := (mkF m 41 #[rv r0, iv p1, iv p2] [(.int p2), (.ref r0)])) rfl rfl (hb hby d3_41)
  have f7 : Fld Z h6 r0 "com/example/keys_in_order/keysinorder/HashRange" "end" "I" (.int p2) := f5.same W6
  have f8 : Exa Z h6 r0 "com/example/keys_in_order/keysinorder/HashRange" := f4.wr W6
  have f9 : Fld Z h6 r0 "com/example/keys_in_order/keysinorder/HashRange" "start" "I" (.int p1) := f3.other W6 (Or.inr (slot_ne (Or.inr (hw _ (List.mem_of_getElem? (i := 24) rfl))) (Or.inr (hw _ (List.mem_of_getElem? (i := 26) rfl))) (by decide) (t := .int) (t' := .int) (by decide) (by decide)))
  have N6 := Fr.snoc X6 N2 g_r0
  have K6 := K2.wr W6 (Or.inl (List.mem_of_getElem? (i := 0) rfl))
  have Z6 : n0 ≤ h6.size := Nat.le_trans Z2 (Keep.of_wr W6).1
  refine Go.stp (fun t k => st6 t k) ?_
  show Go p.tables e below G (T6.setTop (mkF m 44 #[rv r0, iv p1, iv p2] []))
  obtain ⟨fs, hr, hrun, hended, hW, hsame⟩ := X6.leave (v := none) (fun _ => rfl)
  refine ⟨_, _, X6.returnOut hx Bd.returns (hb hby d3_44) hr, hrun, hended, hG _ _ _ ?_ ⟨⟨_, rfl⟩, hW, hsame.mono (by decide) (by decide)⟩⟩
  show Q3 Z r0 p1 p2 h0 n0 _ T6.heap _
  rw [e6]
  exact ⟨rfl, N6, K6, f8, f9, f7⟩
theorem pn_6 : plainName "com/example/keys_in_order/keysinorder/HashRangeContainsPinLaw" = true := by first | (simp [plainName, overriddenIn]; done) | decide +kernel
theorem d6_0 : decode method_3_code 0 = .ok (.iload_n 3, 1) := by decide +kernel
theorem d6_1 : decode method_3_code 1 = .ok (.ifCond .ne 5, 3) := by decide +kernel
theorem d6_4 : decode method_3_code 4 = .ok (.iload_n 2, 1) := by decide +kernel
theorem d6_5 : decode method_3_code 5 = .ok (.ireturn, 1) := by decide +kernel
theorem d6_6 : decode method_3_code 6 = .ok (.iload_n 3, 1) := by decide +kernel
theorem d6_7 : decode method_3_code 7 = .ok (.iconst 1, 1) := by decide +kernel
theorem d6_8 : decode method_3_code 8 = .ok (.if_icmp .ne 5, 3) := by decide +kernel
theorem d6_11 : decode method_3_code 11 = .ok (.iload_n 0, 1) := by decide +kernel
theorem d6_12 : decode method_3_code 12 = .ok (.ireturn, 1) := by decide +kernel
theorem d6_13 : decode method_3_code 13 = .ok (.iload_n 3, 1) := by decide +kernel
theorem d6_14 : decode method_3_code 14 = .ok (.iconst 2, 1) := by decide +kernel
theorem d6_15 : decode method_3_code 15 = .ok (.if_icmp .ne 5, 3) := by decide +kernel
theorem d6_18 : decode method_3_code 18 = .ok (.iload_n 1, 1) := by decide +kernel
theorem d6_19 : decode method_3_code 19 = .ok (.ireturn, 1) := by decide +kernel
theorem d6_20 : decode method_3_code 20 = .ok (.iload_n 3, 1) := by decide +kernel
theorem d6_21 : decode method_3_code 21 = .ok (.iconst 3, 1) := by decide +kernel
theorem d6_22 : decode method_3_code 22 = .ok (.if_icmp .ne 7, 3) := by decide +kernel
theorem d6_25 : decode method_3_code 25 = .ok (.iload_n 0, 1) := by decide +kernel
theorem d6_26 : decode method_3_code 26 = .ok (.iconst 1, 1) := by decide +kernel
theorem d6_27 : decode method_3_code 27 = .ok (.isub, 1) := by decide +kernel
theorem d6_28 : decode method_3_code 28 = .ok (.ireturn, 1) := by decide +kernel
theorem d6_29 : decode method_3_code 29 = .ok (.iload_n 3, 1) := by decide +kernel
theorem d6_30 : decode method_3_code 30 = .ok (.iconst 4, 1) := by decide +kernel
theorem d6_31 : decode method_3_code 31 = .ok (.if_icmp .ne 7, 3) := by decide +kernel
theorem d6_34 : decode method_3_code 34 = .ok (.iload_n 1, 1) := by decide +kernel
theorem d6_35 : decode method_3_code 35 = .ok (.iconst 1, 1) := by decide +kernel
theorem d6_36 : decode method_3_code 36 = .ok (.iadd, 1) := by decide +kernel
theorem d6_37 : decode method_3_code 37 = .ok (.ireturn, 1) := by decide +kernel
theorem d6_38 : decode method_3_code 38 = .ok (.iload_n 3, 1) := by decide +kernel
theorem d6_39 : decode method_3_code 39 = .ok (.iconst 5, 1) := by decide +kernel
theorem d6_40 : decode method_3_code 40 = .ok (.if_icmp .ne 16, 3) := by decide +kernel
theorem d6_43 : decode method_3_code 43 = .ok (.iload_n 0, 1) := by decide +kernel
theorem d6_44 : decode method_3_code 44 = .ok (.iload_n 2, 1) := by decide +kernel
theorem d6_45 : decode method_3_code 45 = .ok (.ldc 16, 2) := by decide +kernel
theorem d6_47 : decode method_3_code 47 = .ok (.iand, 1) := by decide +kernel
theorem d6_48 : decode method_3_code 48 = .ok (.iload_n 1, 1) := by decide +kernel
theorem d6_49 : decode method_3_code 49 = .ok (.iload_n 0, 1) := by decide +kernel
theorem d6_50 : decode method_3_code 50 = .ok (.isub, 1) := by decide +kernel
theorem d6_51 : decode method_3_code 51 = .ok (.iconst 1, 1) := by decide +kernel
theorem d6_52 : decode method_3_code 52 = .ok (.iadd, 1) := by decide +kernel
theorem d6_53 : decode method_3_code 53 = .ok (.irem, 1) := by decide +kernel
theorem d6_54 : decode method_3_code 54 = .ok (.iadd, 1) := by decide +kernel
theorem d6_55 : decode method_3_code 55 = .ok (.ireturn, 1) := by decide +kernel
theorem d6_56 : decode method_3_code 56 = .ok (.iload_n 3, 1) := by decide +kernel
theorem d6_57 : decode method_3_code 57 = .ok (.bipush 6, 2) := by decide +kernel
theorem d6_59 : decode method_3_code 59 = .ok (.if_icmp .ne 8, 3) := by decide +kernel
theorem d6_62 : decode method_3_code 62 = .ok (.iload_n 2, 1) := by decide +kernel
theorem d6_63 : decode method_3_code 63 = .ok (.ldc 17, 2) := by decide +kernel
theorem d6_65 : decode method_3_code 65 = .ok (.iand, 1) := by decide +kernel
theorem d6_66 : decode method_3_code 66 = .ok (.ireturn, 1) := by decide +kernel
theorem d6_67 : decode method_3_code 67 = .ok (.iload_n 2, 1) := by decide +kernel
theorem d6_68 : decode method_3_code 68 = .ok (.ldc 18, 2) := by decide +kernel
theorem d6_70 : decode method_3_code 70 = .ok (.iand, 1) := by decide +kernel
theorem d6_71 : decode method_3_code 71 = .ok (.ldc 19, 2) := by decide +kernel
theorem d6_73 : decode method_3_code 73 = .ok (.isub, 1) := by decide +kernel
theorem d6_74 : decode method_3_code 74 = .ok (.ireturn, 1) := by decide +kernel
theorem ef_6 (m : MethodId) (p0 : Int32) (p1 : Int32) (p2 : Int32) (p3 : Int32) : entryFrame m #[(.int p0), (.int p1), (.int p2), (.int p3)] 4 = mkF m 0 #[iv p0, iv p1, iv p2, iv p3] [] := by first | (simp [entryFrame, mkF, argsToLocals, Value.category, iv, rv, lv, un, sd]; done) | rfl
def Q6 (Z : State) (p0 : Int32) (p1 : Int32) (p2 : Int32) (p3 : Int32) (h0 : Heap) (n0 : Nat) (v : Option Value) (h : Heap) (L : List Loc) : Prop := (∃ z : Int32, v = some (.int z)) ∧ Fr n0 L ∧ h = h0
set_option maxRecDepth 65536 in
set_option maxHeartbeats 40000000 in
theorem rm6 (l : Launch) (Z : State) (a0 : Array Value) (hw : ∀ d ∈ tables_1, d.before a0 Z = true) (ws : List Jvm.Cond) (p0 : Int32) (p1 : Int32) (p2 : Int32) (p3 : Int32) (h0 : Heap) (n0 : Nat) (Z0 : n0 ≤ h0.size) (hnz : (p1 - p0) + (1 : Int32) ≠ (0 : Int32)) :
    MetFree l (⟨"com/example/keys_in_order/keysinorder/HashRangeContainsPinLaw", "pick", "(IIII)I"⟩ : MethodName) (head1 (Jvm.Cond.code (⟨"com/example/keys_in_order/keysinorder/HashRangeContainsPinLaw", "pick", "(IIII)I"⟩ : MethodName) method_3_code 4 (some .int) :: ws) ({ frames := 0, cells := 0, slots := 0, locals := 0 } : Room)) (fun a U => a = #[(.int p0), (.int p1), (.int p2), (.int p3)] ∧ Z.Warmed39 U.vm ∧ U.heap = h0) (fun _ _ _ _ _ => True) (fun _ U o U' => ∃ v L, o = .returned v ∧ Q6 Z p0 p1 p2 p3 h0 n0 v U'.heap L ∧ FrameEnd U o U' L ({ frames := 0, cells := 0, slots := 0, locals := 0 } : Room).cells ({ frames := 0, cells := 0, slots := 0, locals := 0 } : Room).slots) := by
  refine MetFree.of_bodySF (plainFor_of_name pn_6) hisR ?_
  intro p e s m args below meth c s₁ Bd hml0 hP hK
  obtain ⟨rfl, hZ, hh⟩ := hP
  have hx := Bd.exec
  have hby := Bd.bytes
  have hml : c.maxLocals = 4 := hml0
  have hown : s.vm.findClass "com/example/keys_in_order/keysinorder/HashRangeContainsPinLaw" = some m.cls := findClass_of_methodNamed Bd.named
  have hnm := (name_of_methodNamed Bd.named Bd.method).1
  have X0 : Stand p l e ({ frames := 0, cells := 0, slots := 0, locals := 0 } : Room) s m #[(.int p0), (.int p1), (.int p2), (.int p3)] below meth c s₁ [] 0 0 := Stand.of_body Bd
  have e0 : s₁.heap = h0 := by rw [← hh, Bd.state]; rfl
  have N0 := Fr.nil n0
  suffices HH : ∀ G : Outcome → State → Prop, (∀ v L U', Q6 Z p0 p1 p2 p3 h0 n0 v U'.heap L → FrameEnd s (.returned v) U' L ({ frames := 0, cells := 0, slots := 0, locals := 0 } : Room).cells ({ frames := 0, cells := 0, slots := 0, locals := 0 } : Room).slots → G (.returned v) U') → Go p.tables e below G (s₁.setTop (mkF m 0 #[iv p0, iv p1, iv p2, iv p3] [])) by
    obtain ⟨s2, o, h1, h2, h3, h4⟩ := HH (fun o U' => ∃ v L, o = .returned v ∧ Q6 Z p0 p1 p2 p3 h0 n0 v U'.heap L ∧ FrameEnd s o U' L ({ frames := 0, cells := 0, slots := 0, locals := 0 } : Room).cells ({ frames := 0, cells := 0, slots := 0, locals := 0 } : Room).slots) (fun v L U' q f => ⟨v, L, rfl, q, f⟩)
    exact ⟨s2, o, castTop (ef_6 m p0 p1 p2 p3) h1, h2, h3, h4⟩
  intro G hG
  show Go p.tables e below G (s₁.setTop (mkF m 0 #[iv p0, iv p1, iv p2, iv p3] []))
  refine Go.stp (fun t k => XS.iloadN X0.here hx rfl (hb hby d6_0) rfl k) ?_
  show Go p.tables e below G (s₁.setTop (mkF m 1 #[iv p0, iv p1, iv p2, iv p3] [(.int p3)]))
  by_cases hc1 : p3 = (0 : Int32)
  · refine Go.stp (fun t k => XS.ifNo X0.here hx rfl (hb hby d6_1) rfl ((if0 _ _).trans (teq hc1).2) k) ?_
    show Go p.tables e below G (s₁.setTop (mkF m 4 #[iv p0, iv p1, iv p2, iv p3] []))
    refine Go.stp (fun t k => XS.iloadN X0.here hx rfl (hb hby d6_4) rfl k) ?_
    show Go p.tables e below G (s₁.setTop (mkF m 5 #[iv p0, iv p1, iv p2, iv p3] [(.int p2)]))
    obtain ⟨fs, hr, hrun, hended, hW, hsame⟩ := X0.leave (v := some (.int p2)) (fun h => by rw [Bd.returns] at h; cases h)
    refine ⟨_, _, retI X0 hx Bd.returns (hb hby d6_5) hr, hrun, hended, hG _ _ _ ?_ ⟨⟨_, rfl⟩, hW, hsame.mono (by decide) (by decide)⟩⟩
    show Q6 Z p0 p1 p2 p3 h0 n0 _ s₁.heap _
    rw [e0]
    exact ⟨⟨_, rfl⟩, N0, rfl⟩
  · refine Go.stp (fun t k => XS.ifYes X0.here hx rfl (pc0 := 1) (pc' := 6) rfl (hb hby d6_1) rfl ((if0 _ _).trans (feq hc1).2) (by decide) (by decide) k) ?_
    show Go p.tables e below G (s₁.setTop (mkF m 6 #[iv p0, iv p1, iv p2, iv p3] []))
    refine Go.stp (fun t k => XS.iloadN X0.here hx rfl (hb hby d6_6) rfl k) ?_
    show Go p.tables e below G (s₁.setTop (mkF m 7 #[iv p0, iv p1, iv p2, iv p3] [(.int p3)]))
    refine Go.stp (fun t k => XS.iconst X0.here hx rfl (hb hby d6_7) k) ?_
    show Go p.tables e below G (s₁.setTop (mkF m 8 #[iv p0, iv p1, iv p2, iv p3] [(.int (1 : Int32)), (.int p3)]))
    by_cases hc8 : p3 = (1 : Int32)
    · refine Go.stp (fun t k => XS.icmpNo X0.here hx rfl (hb hby d6_8) rfl (teq hc8).2 k) ?_
      show Go p.tables e below G (s₁.setTop (mkF m 11 #[iv p0, iv p1, iv p2, iv p3] []))
      refine Go.stp (fun t k => XS.iloadN X0.here hx rfl (hb hby d6_11) rfl k) ?_
      show Go p.tables e below G (s₁.setTop (mkF m 12 #[iv p0, iv p1, iv p2, iv p3] [(.int p0)]))
      obtain ⟨fs, hr, hrun, hended, hW, hsame⟩ := X0.leave (v := some (.int p0)) (fun h => by rw [Bd.returns] at h; cases h)
      refine ⟨_, _, retI X0 hx Bd.returns (hb hby d6_12) hr, hrun, hended, hG _ _ _ ?_ ⟨⟨_, rfl⟩, hW, hsame.mono (by decide) (by decide)⟩⟩
      show Q6 Z p0 p1 p2 p3 h0 n0 _ s₁.heap _
      rw [e0]
      exact ⟨⟨_, rfl⟩, N0, rfl⟩
    · refine Go.stp (fun t k => XS.icmpYes X0.here hx rfl (pc0 := 8) (pc' := 13) rfl (hb hby d6_8) rfl (feq hc8).2 (by decide) (by decide) k) ?_
      show Go p.tables e below G (s₁.setTop (mkF m 13 #[iv p0, iv p1, iv p2, iv p3] []))
      refine Go.stp (fun t k => XS.iloadN X0.here hx rfl (hb hby d6_13) rfl k) ?_
      show Go p.tables e below G (s₁.setTop (mkF m 14 #[iv p0, iv p1, iv p2, iv p3] [(.int p3)]))
      refine Go.stp (fun t k => XS.iconst X0.here hx rfl (hb hby d6_14) k) ?_
      show Go p.tables e below G (s₁.setTop (mkF m 15 #[iv p0, iv p1, iv p2, iv p3] [(.int (2 : Int32)), (.int p3)]))
      by_cases hc15 : p3 = (2 : Int32)
      · refine Go.stp (fun t k => XS.icmpNo X0.here hx rfl (hb hby d6_15) rfl (teq hc15).2 k) ?_
        show Go p.tables e below G (s₁.setTop (mkF m 18 #[iv p0, iv p1, iv p2, iv p3] []))
        refine Go.stp (fun t k => XS.iloadN X0.here hx rfl (hb hby d6_18) rfl k) ?_
        show Go p.tables e below G (s₁.setTop (mkF m 19 #[iv p0, iv p1, iv p2, iv p3] [(.int p1)]))
        obtain ⟨fs, hr, hrun, hended, hW, hsame⟩ := X0.leave (v := some (.int p1)) (fun h => by rw [Bd.returns] at h; cases h)
        refine ⟨_, _, retI X0 hx Bd.returns (hb hby d6_19) hr, hrun, hended, hG _ _ _ ?_ ⟨⟨_, rfl⟩, hW, hsame.mono (by decide) (by decide)⟩⟩
        show Q6 Z p0 p1 p2 p3 h0 n0 _ s₁.heap _
        rw [e0]
        exact ⟨⟨_, rfl⟩, N0, rfl⟩
      · refine Go.stp (fun t k => XS.icmpYes X0.here hx rfl (pc0 := 15) (pc' := 20) rfl (hb hby d6_15) rfl (feq hc15).2 (by decide) (by decide) k) ?_
        show Go p.tables e below G (s₁.setTop (mkF m 20 #[iv p0, iv p1, iv p2, iv p3] []))
        refine Go.stp (fun t k => XS.iloadN X0.here hx rfl (hb hby d6_20) rfl k) ?_
        show Go p.tables e below G (s₁.setTop (mkF m 21 #[iv p0, iv p1, iv p2, iv p3] [(.int p3)]))
        refine Go.stp (fun t k => XS.iconst X0.here hx rfl (hb hby d6_21) k) ?_
        show Go p.tables e below G (s₁.setTop (mkF m 22 #[iv p0, iv p1, iv p2, iv p3] [(.int (3 : Int32)), (.int p3)]))
        by_cases hc22 : p3 = (3 : Int32)
        · refine Go.stp (fun t k => XS.icmpNo X0.here hx rfl (hb hby d6_22) rfl (teq hc22).2 k) ?_
          show Go p.tables e below G (s₁.setTop (mkF m 25 #[iv p0, iv p1, iv p2, iv p3] []))
          refine Go.stp (fun t k => XS.iloadN X0.here hx rfl (hb hby d6_25) rfl k) ?_
          show Go p.tables e below G (s₁.setTop (mkF m 26 #[iv p0, iv p1, iv p2, iv p3] [(.int p0)]))
          refine Go.stp (fun t k => XS.iconst X0.here hx rfl (hb hby d6_26) k) ?_
          show Go p.tables e below G (s₁.setTop (mkF m 27 #[iv p0, iv p1, iv p2, iv p3] [(.int (1 : Int32)), (.int p0)]))
          refine Go.stp (fun t k => XS.isub X0.here hx rfl (hb hby d6_27) rfl k) ?_
          show Go p.tables e below G (s₁.setTop (mkF m 28 #[iv p0, iv p1, iv p2, iv p3] [(.int (p0 - (1 : Int32)))]))
          obtain ⟨fs, hr, hrun, hended, hW, hsame⟩ := X0.leave (v := some (.int (p0 - (1 : Int32)))) (fun h => by rw [Bd.returns] at h; cases h)
          refine ⟨_, _, retI X0 hx Bd.returns (hb hby d6_28) hr, hrun, hended, hG _ _ _ ?_ ⟨⟨_, rfl⟩, hW, hsame.mono (by decide) (by decide)⟩⟩
          show Q6 Z p0 p1 p2 p3 h0 n0 _ s₁.heap _
          rw [e0]
          exact ⟨⟨_, rfl⟩, N0, rfl⟩
        · refine Go.stp (fun t k => XS.icmpYes X0.here hx rfl (pc0 := 22) (pc' := 29) rfl (hb hby d6_22) rfl (feq hc22).2 (by decide) (by decide) k) ?_
          show Go p.tables e below G (s₁.setTop (mkF m 29 #[iv p0, iv p1, iv p2, iv p3] []))
          refine Go.stp (fun t k => XS.iloadN X0.here hx rfl (hb hby d6_29) rfl k) ?_
          show Go p.tables e below G (s₁.setTop (mkF m 30 #[iv p0, iv p1, iv p2, iv p3] [(.int p3)]))
          refine Go.stp (fun t k => XS.iconst X0.here hx rfl (hb hby d6_30) k) ?_
          show Go p.tables e below G (s₁.setTop (mkF m 31 #[iv p0, iv p1, iv p2, iv p3] [(.int (4 : Int32)), (.int p3)]))
          by_cases hc31 : p3 = (4 : Int32)
          · refine Go.stp (fun t k => XS.icmpNo X0.here hx rfl (hb hby d6_31) rfl (teq hc31).2 k) ?_
            show Go p.tables e below G (s₁.setTop (mkF m 34 #[iv p0, iv p1, iv p2, iv p3] []))
            refine Go.stp (fun t k => XS.iloadN X0.here hx rfl (hb hby d6_34) rfl k) ?_
            show Go p.tables e below G (s₁.setTop (mkF m 35 #[iv p0, iv p1, iv p2, iv p3] [(.int p1)]))
            refine Go.stp (fun t k => XS.iconst X0.here hx rfl (hb hby d6_35) k) ?_
            show Go p.tables e below G (s₁.setTop (mkF m 36 #[iv p0, iv p1, iv p2, iv p3] [(.int (1 : Int32)), (.int p1)]))
            refine Go.stp (fun t k => XS.iadd X0.here hx rfl (hb hby d6_36) rfl k) ?_
            show Go p.tables e below G (s₁.setTop (mkF m 37 #[iv p0, iv p1, iv p2, iv p3] [(.int (p1 + (1 : Int32)))]))
            obtain ⟨fs, hr, hrun, hended, hW, hsame⟩ := X0.leave (v := some (.int (p1 + (1 : Int32)))) (fun h => by rw [Bd.returns] at h; cases h)
            refine ⟨_, _, retI X0 hx Bd.returns (hb hby d6_37) hr, hrun, hended, hG _ _ _ ?_ ⟨⟨_, rfl⟩, hW, hsame.mono (by decide) (by decide)⟩⟩
            show Q6 Z p0 p1 p2 p3 h0 n0 _ s₁.heap _
            rw [e0]
            exact ⟨⟨_, rfl⟩, N0, rfl⟩
          · refine Go.stp (fun t k => XS.icmpYes X0.here hx rfl (pc0 := 31) (pc' := 38) rfl (hb hby d6_31) rfl (feq hc31).2 (by decide) (by decide) k) ?_
            show Go p.tables e below G (s₁.setTop (mkF m 38 #[iv p0, iv p1, iv p2, iv p3] []))
            refine Go.stp (fun t k => XS.iloadN X0.here hx rfl (hb hby d6_38) rfl k) ?_
            show Go p.tables e below G (s₁.setTop (mkF m 39 #[iv p0, iv p1, iv p2, iv p3] [(.int p3)]))
            refine Go.stp (fun t k => XS.iconst X0.here hx rfl (hb hby d6_39) k) ?_
            show Go p.tables e below G (s₁.setTop (mkF m 40 #[iv p0, iv p1, iv p2, iv p3] [(.int (5 : Int32)), (.int p3)]))
            by_cases hc40 : p3 = (5 : Int32)
            · refine Go.stp (fun t k => XS.icmpNo X0.here hx rfl (hb hby d6_40) rfl (teq hc40).2 k) ?_
              show Go p.tables e below G (s₁.setTop (mkF m 43 #[iv p0, iv p1, iv p2, iv p3] []))
              refine Go.stp (fun t k => XS.iloadN X0.here hx rfl (hb hby d6_43) rfl k) ?_
              show Go p.tables e below G (s₁.setTop (mkF m 44 #[iv p0, iv p1, iv p2, iv p3] [(.int p0)]))
              refine Go.stp (fun t k => XS.iloadN X0.here hx rfl (hb hby d6_44) rfl k) ?_
              show Go p.tables e below G (s₁.setTop (mkF m 45 #[iv p0, iv p1, iv p2, iv p3] [(.int p2), (.int p0)]))
              refine Go.stp (fun t k => X0.ldcInt hx hown (mvT hZ (hw _ (List.mem_of_getElem? (i := 41) rfl))) (g := (mkF m 45 #[iv p0, iv p1, iv p2, iv p3] [(.int p2), (.int p0)])) rfl (hb hby d6_45) t k) ?_
              show Go p.tables e below G (s₁.setTop (mkF m 47 #[iv p0, iv p1, iv p2, iv p3] [(.int (2147483647 : Int32)), (.int p2), (.int p0)]))
              refine Go.stp (fun t k => XS.iand X0.here hx rfl (hb hby d6_47) rfl k) ?_
              show Go p.tables e below G (s₁.setTop (mkF m 48 #[iv p0, iv p1, iv p2, iv p3] [(.int (p2 &&& (2147483647 : Int32))), (.int p0)]))
              refine Go.stp (fun t k => XS.iloadN X0.here hx rfl (hb hby d6_48) rfl k) ?_
              show Go p.tables e below G (s₁.setTop (mkF m 49 #[iv p0, iv p1, iv p2, iv p3] [(.int p1), (.int (p2 &&& (2147483647 : Int32))), (.int p0)]))
              refine Go.stp (fun t k => XS.iloadN X0.here hx rfl (hb hby d6_49) rfl k) ?_
              show Go p.tables e below G (s₁.setTop (mkF m 50 #[iv p0, iv p1, iv p2, iv p3] [(.int p0), (.int p1), (.int (p2 &&& (2147483647 : Int32))), (.int p0)]))
              refine Go.stp (fun t k => XS.isub X0.here hx rfl (hb hby d6_50) rfl k) ?_
              show Go p.tables e below G (s₁.setTop (mkF m 51 #[iv p0, iv p1, iv p2, iv p3] [(.int (p1 - p0)), (.int (p2 &&& (2147483647 : Int32))), (.int p0)]))
              refine Go.stp (fun t k => XS.iconst X0.here hx rfl (hb hby d6_51) k) ?_
              show Go p.tables e below G (s₁.setTop (mkF m 52 #[iv p0, iv p1, iv p2, iv p3] [(.int (1 : Int32)), (.int (p1 - p0)), (.int (p2 &&& (2147483647 : Int32))), (.int p0)]))
              refine Go.stp (fun t k => XS.iadd X0.here hx rfl (hb hby d6_52) rfl k) ?_
              show Go p.tables e below G (s₁.setTop (mkF m 53 #[iv p0, iv p1, iv p2, iv p3] [(.int ((p1 - p0) + (1 : Int32))), (.int (p2 &&& (2147483647 : Int32))), (.int p0)]))
              refine Go.stp (fun t k => XS.irem X0.here hx rfl (hb hby d6_53) rfl hnz k) ?_
              show Go p.tables e below G (s₁.setTop (mkF m 54 #[iv p0, iv p1, iv p2, iv p3] [(.int ((p2 &&& (2147483647 : Int32)) - ((p2 &&& (2147483647 : Int32)) / ((p1 - p0) + (1 : Int32))) * ((p1 - p0) + (1 : Int32)))), (.int p0)]))
              refine Go.stp (fun t k => XS.iadd X0.here hx rfl (hb hby d6_54) rfl k) ?_
              show Go p.tables e below G (s₁.setTop (mkF m 55 #[iv p0, iv p1, iv p2, iv p3] [(.int (p0 + ((p2 &&& (2147483647 : Int32)) - ((p2 &&& (2147483647 : Int32)) / ((p1 - p0) + (1 : Int32))) * ((p1 - p0) + (1 : Int32)))))]))
              obtain ⟨fs, hr, hrun, hended, hW, hsame⟩ := X0.leave (v := some (.int (p0 + ((p2 &&& (2147483647 : Int32)) - ((p2 &&& (2147483647 : Int32)) / ((p1 - p0) + (1 : Int32))) * ((p1 - p0) + (1 : Int32)))))) (fun h => by rw [Bd.returns] at h; cases h)
              refine ⟨_, _, retI X0 hx Bd.returns (hb hby d6_55) hr, hrun, hended, hG _ _ _ ?_ ⟨⟨_, rfl⟩, hW, hsame.mono (by decide) (by decide)⟩⟩
              show Q6 Z p0 p1 p2 p3 h0 n0 _ s₁.heap _
              rw [e0]
              exact ⟨⟨_, rfl⟩, N0, rfl⟩
            · refine Go.stp (fun t k => XS.icmpYes X0.here hx rfl (pc0 := 40) (pc' := 56) rfl (hb hby d6_40) rfl (feq hc40).2 (by decide) (by decide) k) ?_
              show Go p.tables e below G (s₁.setTop (mkF m 56 #[iv p0, iv p1, iv p2, iv p3] []))
              refine Go.stp (fun t k => XS.iloadN X0.here hx rfl (hb hby d6_56) rfl k) ?_
              show Go p.tables e below G (s₁.setTop (mkF m 57 #[iv p0, iv p1, iv p2, iv p3] [(.int p3)]))
              refine Go.stp (fun t k => XS.bipush X0.here hx rfl (hb hby d6_57) k) ?_
              show Go p.tables e below G (s₁.setTop (mkF m 59 #[iv p0, iv p1, iv p2, iv p3] [(.int (6 : Int32)), (.int p3)]))
              by_cases hc59 : p3 = (6 : Int32)
              · refine Go.stp (fun t k => XS.icmpNo X0.here hx rfl (hb hby d6_59) rfl (teq hc59).2 k) ?_
                show Go p.tables e below G (s₁.setTop (mkF m 62 #[iv p0, iv p1, iv p2, iv p3] []))
                refine Go.stp (fun t k => XS.iloadN X0.here hx rfl (hb hby d6_62) rfl k) ?_
                show Go p.tables e below G (s₁.setTop (mkF m 63 #[iv p0, iv p1, iv p2, iv p3] [(.int p2)]))
                refine Go.stp (fun t k => X0.ldcInt hx hown (mvT hZ (hw _ (List.mem_of_getElem? (i := 0) rfl))) (g := (mkF m 63 #[iv p0, iv p1, iv p2, iv p3] [(.int p2)])) rfl (hb hby d6_63) t k) ?_
                show Go p.tables e below G (s₁.setTop (mkF m 65 #[iv p0, iv p1, iv p2, iv p3] [(.int (65535 : Int32)), (.int p2)]))
                refine Go.stp (fun t k => XS.iand X0.here hx rfl (hb hby d6_65) rfl k) ?_
                show Go p.tables e below G (s₁.setTop (mkF m 66 #[iv p0, iv p1, iv p2, iv p3] [(.int (p2 &&& (65535 : Int32)))]))
                obtain ⟨fs, hr, hrun, hended, hW, hsame⟩ := X0.leave (v := some (.int (p2 &&& (65535 : Int32)))) (fun h => by rw [Bd.returns] at h; cases h)
                refine ⟨_, _, retI X0 hx Bd.returns (hb hby d6_66) hr, hrun, hended, hG _ _ _ ?_ ⟨⟨_, rfl⟩, hW, hsame.mono (by decide) (by decide)⟩⟩
                show Q6 Z p0 p1 p2 p3 h0 n0 _ s₁.heap _
                rw [e0]
                exact ⟨⟨_, rfl⟩, N0, rfl⟩
              · refine Go.stp (fun t k => XS.icmpYes X0.here hx rfl (pc0 := 59) (pc' := 67) rfl (hb hby d6_59) rfl (feq hc59).2 (by decide) (by decide) k) ?_
                show Go p.tables e below G (s₁.setTop (mkF m 67 #[iv p0, iv p1, iv p2, iv p3] []))
                refine Go.stp (fun t k => XS.iloadN X0.here hx rfl (hb hby d6_67) rfl k) ?_
                show Go p.tables e below G (s₁.setTop (mkF m 68 #[iv p0, iv p1, iv p2, iv p3] [(.int p2)]))
                refine Go.stp (fun t k => X0.ldcInt hx hown (mvT hZ (hw _ (List.mem_of_getElem? (i := 39) rfl))) (g := (mkF m 68 #[iv p0, iv p1, iv p2, iv p3] [(.int p2)])) rfl (hb hby d6_68) t k) ?_
                show Go p.tables e below G (s₁.setTop (mkF m 70 #[iv p0, iv p1, iv p2, iv p3] [(.int (131071 : Int32)), (.int p2)]))
                refine Go.stp (fun t k => XS.iand X0.here hx rfl (hb hby d6_70) rfl k) ?_
                show Go p.tables e below G (s₁.setTop (mkF m 71 #[iv p0, iv p1, iv p2, iv p3] [(.int (p2 &&& (131071 : Int32)))]))
                refine Go.stp (fun t k => X0.ldcInt hx hown (mvT hZ (hw _ (List.mem_of_getElem? (i := 40) rfl))) (g := (mkF m 71 #[iv p0, iv p1, iv p2, iv p3] [(.int (p2 &&& (131071 : Int32)))])) rfl (hb hby d6_71) t k) ?_
                show Go p.tables e below G (s₁.setTop (mkF m 73 #[iv p0, iv p1, iv p2, iv p3] [(.int (32768 : Int32)), (.int (p2 &&& (131071 : Int32)))]))
                refine Go.stp (fun t k => XS.isub X0.here hx rfl (hb hby d6_73) rfl k) ?_
                show Go p.tables e below G (s₁.setTop (mkF m 74 #[iv p0, iv p1, iv p2, iv p3] [(.int ((p2 &&& (131071 : Int32)) - (32768 : Int32)))]))
                obtain ⟨fs, hr, hrun, hended, hW, hsame⟩ := X0.leave (v := some (.int ((p2 &&& (131071 : Int32)) - (32768 : Int32)))) (fun h => by rw [Bd.returns] at h; cases h)
                refine ⟨_, _, retI X0 hx Bd.returns (hb hby d6_74) hr, hrun, hended, hG _ _ _ ?_ ⟨⟨_, rfl⟩, hW, hsame.mono (by decide) (by decide)⟩⟩
                show Q6 Z p0 p1 p2 p3 h0 n0 _ s₁.heap _
                rw [e0]
                exact ⟨⟨_, rfl⟩, N0, rfl⟩
theorem d7_0 : decode prog_12_method_3_code 0 = .ok (.aload_n 0, 1) := by decide +kernel
theorem d7_1 : decode prog_12_method_3_code 1 = .ok (.getfield 19, 3) := by decide +kernel
theorem d7_4 : decode prog_12_method_3_code 4 = .ok (.iload_n 1, 1) := by decide +kernel
theorem d7_5 : decode prog_12_method_3_code 5 = .ok (.if_icmp .gt 15, 3) := by decide +kernel
theorem d7_8 : decode prog_12_method_3_code 8 = .ok (.iload_n 1, 1) := by decide +kernel
theorem d7_9 : decode prog_12_method_3_code 9 = .ok (.aload_n 0, 1) := by decide +kernel
theorem d7_10 : decode prog_12_method_3_code 10 = .ok (.getfield 25, 3) := by decide +kernel
theorem d7_13 : decode prog_12_method_3_code 13 = .ok (.if_icmp .gt 7, 3) := by decide +kernel
theorem d7_16 : decode prog_12_method_3_code 16 = .ok (.iconst 1, 1) := by decide +kernel
theorem d7_17 : decode prog_12_method_3_code 17 = .ok (.goto 4, 3) := by decide +kernel
theorem d7_20 : decode prog_12_method_3_code 20 = .ok (.iconst 0, 1) := by decide +kernel
theorem d7_21 : decode prog_12_method_3_code 21 = .ok (.ireturn, 1) := by decide +kernel
theorem ef_7 (m : MethodId) (r0 : Addr) (p1 : Int32) : entryFrame m #[(.ref r0), (.int p1)] 2 = mkF m 0 #[rv r0, iv p1] [] := by first | (simp [entryFrame, mkF, argsToLocals, Value.category, iv, rv, lv, un, sd]; done) | rfl
def Q7 (Z : State) (r0 : Addr) (p1 : Int32) (u : Int32) (t' : Int32) (h0 : Heap) (n0 : Nat) (v : Option Value) (h : Heap) (L : List Loc) : Prop := v = some (.int (own_con u t' p1)) ∧ Fr n0 L ∧ h = h0
set_option maxRecDepth 65536 in
set_option maxHeartbeats 40000000 in
theorem rm7 (l : Launch) (Z : State) (a0 : Array Value) (hw : ∀ d ∈ tables_1, d.before a0 Z = true) (ws : List Jvm.Cond) (r0 : Addr) (p1 : Int32) (u : Int32) (t' : Int32) (h0 : Heap) (n0 : Nat) (Z0 : n0 ≤ h0.size) (F_s : Fld Z h0 r0 "com/example/keys_in_order/keysinorder/HashRange" "start" "I" (.int u)) (F_e : Fld Z h0 r0 "com/example/keys_in_order/keysinorder/HashRange" "end" "I" (.int t')) :
    MetFree l (⟨"com/example/keys_in_order/keysinorder/HashRange", "contains", "(I)Z"⟩ : MethodName) (head1 (Jvm.Cond.code (⟨"com/example/keys_in_order/keysinorder/HashRange", "contains", "(I)Z"⟩ : MethodName) prog_12_method_3_code 2 (some .boolean) :: ws) ({ frames := 0, cells := 0, slots := 0, locals := 0 } : Room)) (fun a U => a = #[(.ref r0), (.int p1)] ∧ Z.Warmed39 U.vm ∧ U.heap = h0) (fun _ _ _ _ _ => True) (fun _ U o U' => ∃ v L, o = .returned v ∧ Q7 Z r0 p1 u t' h0 n0 v U'.heap L ∧ FrameEnd U o U' L ({ frames := 0, cells := 0, slots := 0, locals := 0 } : Room).cells ({ frames := 0, cells := 0, slots := 0, locals := 0 } : Room).slots) := by
  refine MetFree.of_bodySF (plainFor_of_name pn_3) hisR ?_
  intro p e s m args below meth c s₁ Bd hml0 hP hK
  obtain ⟨rfl, hZ, hh⟩ := hP
  have hx := Bd.exec
  have hby := Bd.bytes
  have hml : c.maxLocals = 2 := hml0
  have hown : s.vm.findClass "com/example/keys_in_order/keysinorder/HashRange" = some m.cls := findClass_of_methodNamed Bd.named
  have hnm := (name_of_methodNamed Bd.named Bd.method).1
  have X0 : Stand p l e ({ frames := 0, cells := 0, slots := 0, locals := 0 } : Room) s m #[(.ref r0), (.int p1)] below meth c s₁ [] 0 0 := Stand.of_body Bd
  have e0 : s₁.heap = h0 := by rw [← hh, Bd.state]; rfl
  have N0 := Fr.nil n0
  suffices HH : ∀ G : Outcome → State → Prop, (∀ v L U', Q7 Z r0 p1 u t' h0 n0 v U'.heap L → FrameEnd s (.returned v) U' L ({ frames := 0, cells := 0, slots := 0, locals := 0 } : Room).cells ({ frames := 0, cells := 0, slots := 0, locals := 0 } : Room).slots → G (.returned v) U') → Go p.tables e below G (s₁.setTop (mkF m 0 #[rv r0, iv p1] [])) by
    obtain ⟨s2, o, h1, h2, h3, h4⟩ := HH (fun o U' => ∃ v L, o = .returned v ∧ Q7 Z r0 p1 u t' h0 n0 v U'.heap L ∧ FrameEnd s o U' L ({ frames := 0, cells := 0, slots := 0, locals := 0 } : Room).cells ({ frames := 0, cells := 0, slots := 0, locals := 0 } : Room).slots) (fun v L U' q f => ⟨v, L, rfl, q, f⟩)
    exact ⟨s2, o, castTop (ef_7 m r0 p1) h1, h2, h3, h4⟩
  intro G hG
  show Go p.tables e below G (s₁.setTop (mkF m 0 #[rv r0, iv p1] []))
  refine Go.stp (fun t k => XS.aloadN X0.here hx rfl (hb hby d7_0) rfl rfl k) ?_
  show Go p.tables e below G (s₁.setTop (mkF m 1 #[rv r0, iv p1] [(.ref r0)]))
  obtain ⟨T1, X1, e1, st1⟩ := getF X0 hx hZ hown (host := "") (Or.inl (hw _ (List.mem_of_getElem? (i := 23) rfl))) Via.refl e0 F_s (g := (mkF m 1 #[rv r0, iv p1] [(.ref r0)])) rfl rfl (hb hby d7_1)
  refine Go.stp (fun t k => st1 t k) ?_
  show Go p.tables e below G (T1.setTop (mkF m 4 #[rv r0, iv p1] [(.int u)]))
  refine Go.stp (fun t k => XS.iloadN X1.here hx rfl (hb hby d7_4) rfl k) ?_
  show Go p.tables e below G (T1.setTop (mkF m 5 #[rv r0, iv p1] [(.int p1), (.int u)]))
  by_cases hc5 : p1 < u
  · refine Go.stp (fun t k => XS.icmpYes X1.here hx rfl (pc0 := 5) (pc' := 20) rfl (hb hby d7_5) rfl (tlt hc5).2.2.1 (by decide) (by decide) k) ?_
    show Go p.tables e below G (T1.setTop (mkF m 20 #[rv r0, iv p1] []))
    refine Go.stp (fun t k => XS.iconst X1.here hx rfl (hb hby d7_20) k) ?_
    show Go p.tables e below G (T1.setTop (mkF m 21 #[rv r0, iv p1] [(.int (0 : Int32))]))
    obtain ⟨fs, hr, hrun, hended, hW, hsame⟩ := X1.leave (v := some (.int (0 : Int32))) (fun h => by rw [Bd.returns] at h; cases h)
    refine ⟨_, _, retN X1 hx (t := .boolean) Bd.returns (by simp) (hb hby d7_21) hr, hrun, hended, hG _ _ _ ?_ ⟨⟨_, rfl⟩, hW, hsame.mono (by decide) (by decide)⟩⟩
    show Q7 Z r0 p1 u t' h0 n0 _ T1.heap _
    rw [e1]
    exact ⟨by simp [own_con, hc5], N0, rfl⟩
  · refine Go.stp (fun t k => XS.icmpNo X1.here hx rfl (hb hby d7_5) rfl (flt hc5).2.2.1 k) ?_
    show Go p.tables e below G (T1.setTop (mkF m 8 #[rv r0, iv p1] []))
    refine Go.stp (fun t k => XS.iloadN X1.here hx rfl (hb hby d7_8) rfl k) ?_
    show Go p.tables e below G (T1.setTop (mkF m 9 #[rv r0, iv p1] [(.int p1)]))
    refine Go.stp (fun t k => XS.aloadN X1.here hx rfl (hb hby d7_9) rfl rfl k) ?_
    show Go p.tables e below G (T1.setTop (mkF m 10 #[rv r0, iv p1] [(.ref r0), (.int p1)]))
    obtain ⟨T2, X2, e2, st2⟩ := getF X1 hx hZ hown (host := "") (Or.inl (hw _ (List.mem_of_getElem? (i := 25) rfl))) Via.refl e1 F_e (g := (mkF m 10 #[rv r0, iv p1] [(.ref r0), (.int p1)])) rfl rfl (hb hby d7_10)
    refine Go.stp (fun t k => st2 t k) ?_
    show Go p.tables e below G (T2.setTop (mkF m 13 #[rv r0, iv p1] [(.int t'), (.int p1)]))
    by_cases hc13 : t' < p1
    · refine Go.stp (fun t k => XS.icmpYes X2.here hx rfl (pc0 := 13) (pc' := 20) rfl (hb hby d7_13) rfl (tlt hc13).2.2.1 (by decide) (by decide) k) ?_
      show Go p.tables e below G (T2.setTop (mkF m 20 #[rv r0, iv p1] []))
      refine Go.stp (fun t k => XS.iconst X2.here hx rfl (hb hby d7_20) k) ?_
      show Go p.tables e below G (T2.setTop (mkF m 21 #[rv r0, iv p1] [(.int (0 : Int32))]))
      obtain ⟨fs, hr, hrun, hended, hW, hsame⟩ := X2.leave (v := some (.int (0 : Int32))) (fun h => by rw [Bd.returns] at h; cases h)
      refine ⟨_, _, retN X2 hx (t := .boolean) Bd.returns (by simp) (hb hby d7_21) hr, hrun, hended, hG _ _ _ ?_ ⟨⟨_, rfl⟩, hW, hsame.mono (by decide) (by decide)⟩⟩
      show Q7 Z r0 p1 u t' h0 n0 _ T2.heap _
      rw [e2]
      exact ⟨by simp [own_con, hc5, hc13], N0, rfl⟩
    · refine Go.stp (fun t k => XS.icmpNo X2.here hx rfl (hb hby d7_13) rfl (flt hc13).2.2.1 k) ?_
      show Go p.tables e below G (T2.setTop (mkF m 16 #[rv r0, iv p1] []))
      refine Go.stp (fun t k => XS.iconst X2.here hx rfl (hb hby d7_16) k) ?_
      show Go p.tables e below G (T2.setTop (mkF m 17 #[rv r0, iv p1] [(.int (1 : Int32))]))
      refine Go.stp (fun t k => XS.goto X2.here hx rfl (pc0 := 17) (pc' := 21) rfl (hb hby d7_17) (by decide) (by decide) k) ?_
      show Go p.tables e below G (T2.setTop (mkF m 21 #[rv r0, iv p1] [(.int (1 : Int32))]))
      obtain ⟨fs, hr, hrun, hended, hW, hsame⟩ := X2.leave (v := some (.int (1 : Int32))) (fun h => by rw [Bd.returns] at h; cases h)
      refine ⟨_, _, retN X2 hx (t := .boolean) Bd.returns (by simp) (hb hby d7_21) hr, hrun, hended, hG _ _ _ ?_ ⟨⟨_, rfl⟩, hW, hsame.mono (by decide) (by decide)⟩⟩
      show Q7 Z r0 p1 u t' h0 n0 _ T2.heap _
      rw [e2]
      exact ⟨by simp [own_con, hc5, hc13], N0, rfl⟩
theorem d8_0 : decode method_2_code 0 = .ok (.iload_n 0, 1) := by decide +kernel
theorem d8_1 : decode method_2_code 1 = .ok (.iload_n 2, 1) := by decide +kernel
theorem d8_2 : decode method_2_code 2 = .ok (.iload_n 1, 1) := by decide +kernel
theorem d8_3 : decode method_2_code 3 = .ok (.invokestatic 7, 3) := by decide +kernel
theorem d8_6 : decode method_2_code 6 = .ok (.invokestatic 13, 3) := by decide +kernel
theorem d8_9 : decode method_2_code 9 = .ok (.iload_n 2, 1) := by decide +kernel
theorem d8_10 : decode method_2_code 10 = .ok (.if_icmp .ne 7, 3) := by decide +kernel
theorem d8_13 : decode method_2_code 13 = .ok (.iconst 1, 1) := by decide +kernel
theorem d8_14 : decode method_2_code 14 = .ok (.goto 4, 3) := by decide +kernel
theorem d8_17 : decode method_2_code 17 = .ok (.iconst 0, 1) := by decide +kernel
theorem d8_18 : decode method_2_code 18 = .ok (.ireturn, 1) := by decide +kernel
theorem ef_8 (m : MethodId) (p0 : Int32) (p1 : Int32) (p2 : Int32) : entryFrame m #[(.int p0), (.int p1), (.int p2)] 3 = mkF m 0 #[iv p0, iv p1, iv p2] [] := by first | (simp [entryFrame, mkF, argsToLocals, Value.category, iv, rv, lv, un, sd]; done) | rfl
def Q8 (Z : State) (p0 : Int32) (p1 : Int32) (p2 : Int32) (h0 : Heap) (n0 : Nat) (v : Option Value) (h : Heap) (L : List Loc) : Prop := v = some (.int (own_ref p0 p1 p2)) ∧ Fr n0 L ∧ h = h0
set_option maxRecDepth 65536 in
set_option maxHeartbeats 40000000 in
theorem rm8 (l : Launch) (Z : State) (a0 : Array Value) (hw : ∀ d ∈ tables_1, d.before a0 Z = true) (ws : List Jvm.Cond) (p0 : Int32) (p1 : Int32) (p2 : Int32) (h0 : Heap) (n0 : Nat) (Z0 : n0 ≤ h0.size) :
    MetFree l (⟨"com/example/keys_in_order/keysinorder/HashRangeContainsPinLaw", "reference", "(III)Z"⟩ : MethodName) (head1 (Jvm.Cond.code (⟨"com/example/keys_in_order/keysinorder/HashRangeContainsPinLaw", "reference", "(III)Z"⟩ : MethodName) method_2_code 3 (some .boolean) :: ws) ({ frames := 1, cells := 0, slots := 0, locals := 14 } : Room)) (fun a U => a = #[(.int p0), (.int p1), (.int p2)] ∧ Z.Warmed39 U.vm ∧ U.heap = h0) (fun _ _ _ _ _ => True) (fun _ U o U' => ∃ v L, o = .returned v ∧ Q8 Z p0 p1 p2 h0 n0 v U'.heap L ∧ FrameEnd U o U' L ({ frames := 1, cells := 0, slots := 0, locals := 14 } : Room).cells ({ frames := 1, cells := 0, slots := 0, locals := 14 } : Room).slots) := by
  refine MetFree.of_bodySF (plainFor_of_name pn_6) hisR ?_
  intro p e s m args below meth c s₁ Bd hml0 hP hK
  obtain ⟨rfl, hZ, hh⟩ := hP
  have hx := Bd.exec
  have hby := Bd.bytes
  have hml : c.maxLocals = 3 := hml0
  have hown : s.vm.findClass "com/example/keys_in_order/keysinorder/HashRangeContainsPinLaw" = some m.cls := findClass_of_methodNamed Bd.named
  have hnm := (name_of_methodNamed Bd.named Bd.method).1
  have X0 : Stand p l e ({ frames := 1, cells := 0, slots := 0, locals := 14 } : Room) s m #[(.int p0), (.int p1), (.int p2)] below meth c s₁ [] 0 0 := Stand.of_body Bd
  have e0 : s₁.heap = h0 := by rw [← hh, Bd.state]; rfl
  have N0 := Fr.nil n0
  suffices HH : ∀ G : Outcome → State → Prop, (∀ v L U', Q8 Z p0 p1 p2 h0 n0 v U'.heap L → FrameEnd s (.returned v) U' L ({ frames := 1, cells := 0, slots := 0, locals := 14 } : Room).cells ({ frames := 1, cells := 0, slots := 0, locals := 14 } : Room).slots → G (.returned v) U') → Go p.tables e below G (s₁.setTop (mkF m 0 #[iv p0, iv p1, iv p2] [])) by
    obtain ⟨s2, o, h1, h2, h3, h4⟩ := HH (fun o U' => ∃ v L, o = .returned v ∧ Q8 Z p0 p1 p2 h0 n0 v U'.heap L ∧ FrameEnd s o U' L ({ frames := 1, cells := 0, slots := 0, locals := 14 } : Room).cells ({ frames := 1, cells := 0, slots := 0, locals := 14 } : Room).slots) (fun v L U' q f => ⟨v, L, rfl, q, f⟩)
    exact ⟨s2, o, castTop (ef_8 m p0 p1 p2) h1, h2, h3, h4⟩
  intro G hG
  show Go p.tables e below G (s₁.setTop (mkF m 0 #[iv p0, iv p1, iv p2] []))
  refine Go.stp (fun t k => XS.iloadN X0.here hx rfl (hb hby d8_0) rfl k) ?_
  show Go p.tables e below G (s₁.setTop (mkF m 1 #[iv p0, iv p1, iv p2] [(.int p0)]))
  refine Go.stp (fun t k => XS.iloadN X0.here hx rfl (hb hby d8_1) rfl k) ?_
  show Go p.tables e below G (s₁.setTop (mkF m 2 #[iv p0, iv p1, iv p2] [(.int p2), (.int p0)]))
  refine Go.stp (fun t k => XS.iloadN X0.here hx rfl (hb hby d8_2) rfl k) ?_
  show Go p.tables e below G (s₁.setTop (mkF m 3 #[iv p0, iv p1, iv p2] [(.int p1), (.int p2), (.int p0)]))
  obtain ⟨_, _, ⟨T1, L1, k1, n1⟩, -, X1, ⟨Lc1, hQ1, l1, y1, z1⟩, st1⟩ := Jvm.LawKit.callS X0 hx (y := (⟨"java/lang/Math", "min", "(II)I"⟩ : MethodName)) hown (mvT hZ (hw _ (List.mem_of_getElem? (i := 1) rfl))) (mvT hZ (hw _ (List.mem_of_getElem? (i := 2) rfl))) (mvT hZ (hw _ (List.mem_of_getElem? (i := 3) rfl))) (mvT hZ (hw _ (List.mem_of_getElem? (i := 4) rfl))) (by decide) (backOf (W := 1) (rm1 l Z a0 hw [] p2 p1  h0 n0 Z0 ) hZ (hw _ (List.mem_of_getElem? (i := 4) rfl)) (hw _ (List.mem_of_getElem? (i := 3) rfl)) (by decide) (by decide)) (g := (mkF m 3 #[iv p0, iv p1, iv p2] [(.int p1), (.int p2), (.int p0)])) rfl (by rw [hml]; rfl) (argsL := [(.int p2), (.int p1)]) (rest := [(.int p0)]) (lenOf pd_1 rfl) rfl (by show 2 * 0 + _ ≤ _; exact Nat.le_of_eq rfl) (hb hby d8_3) (fun _ _ => ⟨rfl, e0, (by decide : 0 + 0 ≤ _), (by decide : 0 + 0 ≤ _)⟩)
  dsimp only [Pt.U, Pt.locs, Pt.cells, Pt.slots] at X1 l1 y1 z1 st1 hQ1
  subst l1 y1 z1
  obtain ⟨rfl, Nq1, e1⟩ := hQ1
  have N1 := Fr.app N0 Nq1
  refine Go.stp (fun t k => st1 t k) ?_
  show Go p.tables e below G (T1.setTop (mkF m 6 #[iv p0, iv p1, iv p2] [(.int (own_min p2 p1)), (.int p0)]))
  obtain ⟨_, _, ⟨T2, L2, k2, n2⟩, -, X2, ⟨Lc2, hQ2, l2, y2, z2⟩, st2⟩ := Jvm.LawKit.callS X1 hx (y := (⟨"java/lang/Math", "max", "(II)I"⟩ : MethodName)) hown (mvT hZ (hw _ (List.mem_of_getElem? (i := 5) rfl))) (mvT hZ (hw _ (List.mem_of_getElem? (i := 6) rfl))) (mvT hZ (hw _ (List.mem_of_getElem? (i := 3) rfl))) (mvT hZ (hw _ (List.mem_of_getElem? (i := 7) rfl))) (by decide) (backOf (W := 0) (rm2 l Z a0 hw [] p0 (own_min p2 p1)  h0 n0 Z0 ) hZ (hw _ (List.mem_of_getElem? (i := 7) rfl)) (hw _ (List.mem_of_getElem? (i := 3) rfl)) (by decide) (by decide)) (g := (mkF m 6 #[iv p0, iv p1, iv p2] [(.int (own_min p2 p1)), (.int p0)])) rfl (by rw [hml]; rfl) (argsL := [(.int p0), (.int (own_min p2 p1))]) (rest := []) (lenOf pd_1 rfl) rfl (by show 2 * 0 + _ ≤ _; exact Nat.le_of_eq rfl) (hb hby d8_6) (fun _ _ => ⟨rfl, e1, (by decide : 0 + 0 ≤ _), (by decide : 0 + 0 ≤ _)⟩)
  dsimp only [Pt.U, Pt.locs, Pt.cells, Pt.slots] at X2 l2 y2 z2 st2 hQ2
  subst l2 y2 z2
  obtain ⟨rfl, Nq2, e2⟩ := hQ2
  have N2 := Fr.app N1 Nq2
  refine Go.stp (fun t k => st2 t k) ?_
  show Go p.tables e below G (T2.setTop (mkF m 9 #[iv p0, iv p1, iv p2] [(.int (own_max p0 (own_min p2 p1)))]))
  refine Go.stp (fun t k => XS.iloadN X2.here hx rfl (hb hby d8_9) rfl k) ?_
  show Go p.tables e below G (T2.setTop (mkF m 10 #[iv p0, iv p1, iv p2] [(.int p2), (.int (own_max p0 (own_min p2 p1)))]))
  by_cases hc10 : (own_max p0 (own_min p2 p1)) = p2
  · refine Go.stp (fun t k => XS.icmpNo X2.here hx rfl (hb hby d8_10) rfl (teq hc10).2 k) ?_
    show Go p.tables e below G (T2.setTop (mkF m 13 #[iv p0, iv p1, iv p2] []))
    refine Go.stp (fun t k => XS.iconst X2.here hx rfl (hb hby d8_13) k) ?_
    show Go p.tables e below G (T2.setTop (mkF m 14 #[iv p0, iv p1, iv p2] [(.int (1 : Int32))]))
    refine Go.stp (fun t k => XS.goto X2.here hx rfl (pc0 := 14) (pc' := 18) rfl (hb hby d8_14) (by decide) (by decide) k) ?_
    show Go p.tables e below G (T2.setTop (mkF m 18 #[iv p0, iv p1, iv p2] [(.int (1 : Int32))]))
    obtain ⟨fs, hr, hrun, hended, hW, hsame⟩ := X2.leave (v := some (.int (1 : Int32))) (fun h => by rw [Bd.returns] at h; cases h)
    refine ⟨_, _, retN X2 hx (t := .boolean) Bd.returns (by simp) (hb hby d8_18) hr, hrun, hended, hG _ _ _ ?_ ⟨⟨_, rfl⟩, hW, hsame.mono (by decide) (by decide)⟩⟩
    show Q8 Z p0 p1 p2 h0 n0 _ T2.heap _
    rw [e2]
    exact ⟨by simp [own_ref, hc10], N2, rfl⟩
  · refine Go.stp (fun t k => XS.icmpYes X2.here hx rfl (pc0 := 10) (pc' := 17) rfl (hb hby d8_10) rfl (feq hc10).2 (by decide) (by decide) k) ?_
    show Go p.tables e below G (T2.setTop (mkF m 17 #[iv p0, iv p1, iv p2] []))
    refine Go.stp (fun t k => XS.iconst X2.here hx rfl (hb hby d8_17) k) ?_
    show Go p.tables e below G (T2.setTop (mkF m 18 #[iv p0, iv p1, iv p2] [(.int (0 : Int32))]))
    obtain ⟨fs, hr, hrun, hended, hW, hsame⟩ := X2.leave (v := some (.int (0 : Int32))) (fun h => by rw [Bd.returns] at h; cases h)
    refine ⟨_, _, retN X2 hx (t := .boolean) Bd.returns (by simp) (hb hby d8_18) hr, hrun, hended, hG _ _ _ ?_ ⟨⟨_, rfl⟩, hW, hsame.mono (by decide) (by decide)⟩⟩
    show Q8 Z p0 p1 p2 h0 n0 _ T2.heap _
    rw [e2]
    exact ⟨by simp [own_ref, hc10], N2, rfl⟩
theorem ef_0 (m : MethodId) (p0 : Int32) (p1 : Int32) (p2 : Int32) (p3 : Int32) : entryFrame m #[(.int p0), (.int p1), (.int p2), (.int p3)] maxLocals = mkF m 0 #[iv p0, iv p1, iv p2, iv p3, un, un, un, un, un, un] [] := by first | (simp [entryFrame, mkF, argsToLocals, Value.category, iv, rv, lv, un, sd, maxLocals]; done) | rfl
def Q0 (Z : State) (p0 : Int32) (p1 : Int32) (p2 : Int32) (p3 : Int32) (h0 : Heap) (n0 : Nat) (v : Option Value) (h : Heap) (L : List Loc) : Prop := v = some (.int (1 : Int32)) ∧ Fr n0 L
set_option maxRecDepth 65536 in
set_option maxHeartbeats 40000000 in
theorem rm0 (l : Launch) (Z : State) (a0 : Array Value) (hw : ∀ d ∈ tables_1, d.before a0 Z = true) (ws : List Jvm.Cond) (p0 : Int32) (p1 : Int32) (p2 : Int32) (p3 : Int32) (h0 : Heap) (n0 : Nat) (Z0 : n0 ≤ h0.size) :
    MetFree l x (head1 (Jvm.Cond.code x code maxLocals ret :: ws) room_1) (fun a U => a = #[(.int p0), (.int p1), (.int p2), (.int p3)] ∧ Z.Warmed39 U.vm ∧ U.heap = h0) (fun _ _ _ _ _ => True) (fun _ U o U' => ∃ v L, o = .returned v ∧ Q0 Z p0 p1 p2 p3 h0 n0 v U'.heap L ∧ FrameEnd U o U' L room_1.cells room_1.slots) := by
  refine MetFree.of_bodySF (plainFor_of_name pn_6) hisR ?_
  intro p e s m args below meth c s₁ Bd hml0 hP hK
  obtain ⟨rfl, hZ, hh⟩ := hP
  have hx := Bd.exec
  have hby := Bd.bytes
  have hml : c.maxLocals = 10 := hml0
  have hown : s.vm.findClass "com/example/keys_in_order/keysinorder/HashRangeContainsPinLaw" = some m.cls := findClass_of_methodNamed Bd.named
  have hnm := (name_of_methodNamed Bd.named Bd.method).1
  have X0 : Stand p l e room_1 s m #[(.int p0), (.int p1), (.int p2), (.int p3)] below meth c s₁ [] 0 0 := Stand.of_body Bd
  have e0 : s₁.heap = h0 := by rw [← hh, Bd.state]; rfl
  have N0 := Fr.nil n0
  suffices HH : ∀ G : Outcome → State → Prop, (∀ v L U', Q0 Z p0 p1 p2 p3 h0 n0 v U'.heap L → FrameEnd s (.returned v) U' L room_1.cells room_1.slots → G (.returned v) U') → Go p.tables e below G (s₁.setTop (mkF m 0 #[iv p0, iv p1, iv p2, iv p3, un, un, un, un, un, un] [])) by
    obtain ⟨s2, o, h1, h2, h3, h4⟩ := HH (fun o U' => ∃ v L, o = .returned v ∧ Q0 Z p0 p1 p2 p3 h0 n0 v U'.heap L ∧ FrameEnd s o U' L room_1.cells room_1.slots) (fun v L U' q f => ⟨v, L, rfl, q, f⟩)
    exact ⟨s2, o, castTop (ef_0 m p0 p1 p2 p3) h1, h2, h3, h4⟩
  intro G hG
  show Go p.tables e below G (s₁.setTop (mkF m 0 #[iv p0, iv p1, iv p2, iv p3, un, un, un, un, un, un] []))
  refine Go.stp (fun t k => XS.iloadN X0.here hx rfl (hb hby at_0) rfl k) ?_
  show Go p.tables e below G (s₁.setTop (mkF m 1 #[iv p0, iv p1, iv p2, iv p3, un, un, un, un, un, un] [(.int p0)]))
  refine Go.stp (fun t k => X0.ldcInt hx hown (mvT hZ (hw _ (List.mem_of_getElem? (i := 0) rfl))) (g := (mkF m 1 #[iv p0, iv p1, iv p2, iv p3, un, un, un, un, un, un] [(.int p0)])) rfl (hb hby at_1) t k) ?_
  show Go p.tables e below G (s₁.setTop (mkF m 3 #[iv p0, iv p1, iv p2, iv p3, un, un, un, un, un, un] [(.int (65535 : Int32)), (.int p0)]))
  refine Go.stp (fun t k => XS.iand X0.here hx rfl (hb hby at_3) rfl k) ?_
  show Go p.tables e below G (s₁.setTop (mkF m 4 #[iv p0, iv p1, iv p2, iv p3, un, un, un, un, un, un] [(.int (p0 &&& (65535 : Int32)))]))
  refine Go.stp (fun t k => XS.istore X0.here hx rfl (hb hby at_4) rfl (l' := #[iv p0, iv p1, iv p2, iv p3, iv (p0 &&& (65535 : Int32)), un, un, un, un, un]) rfl k) ?_
  show Go p.tables e below G (s₁.setTop (mkF m 6 #[iv p0, iv p1, iv p2, iv p3, iv (p0 &&& (65535 : Int32)), un, un, un, un, un] []))
  refine Go.stp (fun t k => XS.iloadN X0.here hx rfl (hb hby at_6) rfl k) ?_
  show Go p.tables e below G (s₁.setTop (mkF m 7 #[iv p0, iv p1, iv p2, iv p3, iv (p0 &&& (65535 : Int32)), un, un, un, un, un] [(.int p1)]))
  refine Go.stp (fun t k => X0.ldcInt hx hown (mvT hZ (hw _ (List.mem_of_getElem? (i := 0) rfl))) (g := (mkF m 7 #[iv p0, iv p1, iv p2, iv p3, iv (p0 &&& (65535 : Int32)), un, un, un, un, un] [(.int p1)])) rfl (hb hby at_7) t k) ?_
  show Go p.tables e below G (s₁.setTop (mkF m 9 #[iv p0, iv p1, iv p2, iv p3, iv (p0 &&& (65535 : Int32)), un, un, un, un, un] [(.int (65535 : Int32)), (.int p1)]))
  refine Go.stp (fun t k => XS.iand X0.here hx rfl (hb hby at_9) rfl k) ?_
  show Go p.tables e below G (s₁.setTop (mkF m 10 #[iv p0, iv p1, iv p2, iv p3, iv (p0 &&& (65535 : Int32)), un, un, un, un, un] [(.int (p1 &&& (65535 : Int32)))]))
  refine Go.stp (fun t k => XS.istore X0.here hx rfl (hb hby at_10) rfl (l' := #[iv p0, iv p1, iv p2, iv p3, iv (p0 &&& (65535 : Int32)), iv (p1 &&& (65535 : Int32)), un, un, un, un]) rfl k) ?_
  show Go p.tables e below G (s₁.setTop (mkF m 12 #[iv p0, iv p1, iv p2, iv p3, iv (p0 &&& (65535 : Int32)), iv (p1 &&& (65535 : Int32)), un, un, un, un] []))
  refine Go.stp (fun t k => XS.iload X0.here hx rfl (hb hby at_12) rfl k) ?_
  show Go p.tables e below G (s₁.setTop (mkF m 14 #[iv p0, iv p1, iv p2, iv p3, iv (p0 &&& (65535 : Int32)), iv (p1 &&& (65535 : Int32)), un, un, un, un] [(.int (p0 &&& (65535 : Int32)))]))
  refine Go.stp (fun t k => XS.iload X0.here hx rfl (hb hby at_14) rfl k) ?_
  show Go p.tables e below G (s₁.setTop (mkF m 16 #[iv p0, iv p1, iv p2, iv p3, iv (p0 &&& (65535 : Int32)), iv (p1 &&& (65535 : Int32)), un, un, un, un] [(.int (p1 &&& (65535 : Int32))), (.int (p0 &&& (65535 : Int32)))]))
  obtain ⟨_, _, ⟨T1, L1, k1, n1⟩, -, X1, ⟨Lc1, hQ1, l1, y1, z1⟩, st1⟩ := Jvm.LawKit.callS X0 hx (y := (⟨"java/lang/Math", "min", "(II)I"⟩ : MethodName)) hown (mvT hZ (hw _ (List.mem_of_getElem? (i := 1) rfl))) (mvT hZ (hw _ (List.mem_of_getElem? (i := 2) rfl))) (mvT hZ (hw _ (List.mem_of_getElem? (i := 3) rfl))) (mvT hZ (hw _ (List.mem_of_getElem? (i := 4) rfl))) (by decide) (backOf (W := 0) (rm1 l Z a0 hw [] (p0 &&& (65535 : Int32)) (p1 &&& (65535 : Int32))  h0 n0 Z0 ) hZ (hw _ (List.mem_of_getElem? (i := 4) rfl)) (hw _ (List.mem_of_getElem? (i := 3) rfl)) (by decide) (by decide)) (g := (mkF m 16 #[iv p0, iv p1, iv p2, iv p3, iv (p0 &&& (65535 : Int32)), iv (p1 &&& (65535 : Int32)), un, un, un, un] [(.int (p1 &&& (65535 : Int32))), (.int (p0 &&& (65535 : Int32)))])) rfl (by rw [hml]; rfl) (argsL := [(.int (p0 &&& (65535 : Int32))), (.int (p1 &&& (65535 : Int32)))]) (rest := []) (lenOf pd_1 rfl) rfl (by show 2 * 0 + _ ≤ _; exact Nat.le_of_eq rfl) (hb hby at_16) (fun _ _ => ⟨rfl, e0, (by decide : 0 + 0 ≤ _), (by decide : 0 + 0 ≤ _)⟩)
  dsimp only [Pt.U, Pt.locs, Pt.cells, Pt.slots] at X1 l1 y1 z1 st1 hQ1
  subst l1 y1 z1
  obtain ⟨rfl, Nq1, e1⟩ := hQ1
  have N1 := Fr.app N0 Nq1
  refine Go.stp (fun t k => st1 t k) ?_
  show Go p.tables e below G (T1.setTop (mkF m 19 #[iv p0, iv p1, iv p2, iv p3, iv (p0 &&& (65535 : Int32)), iv (p1 &&& (65535 : Int32)), un, un, un, un] [(.int (own_min (p0 &&& (65535 : Int32)) (p1 &&& (65535 : Int32))))]))
  suffices K2 : ∀ s' : Int32, s' = (own_min (p0 &&& (65535 : Int32)) (p1 &&& (65535 : Int32))) → Go p.tables e below G (T1.setTop (mkF m 19 #[iv p0, iv p1, iv p2, iv p3, iv (p0 &&& (65535 : Int32)), iv (p1 &&& (65535 : Int32)), un, un, un, un] [(.int s')])) from K2 _ rfl
  intro s' hs'
  refine Go.stp (fun t k => XS.istore X1.here hx rfl (hb hby at_19) rfl (l' := #[iv p0, iv p1, iv p2, iv p3, iv (p0 &&& (65535 : Int32)), iv (p1 &&& (65535 : Int32)), iv s', un, un, un]) rfl k) ?_
  show Go p.tables e below G (T1.setTop (mkF m 21 #[iv p0, iv p1, iv p2, iv p3, iv (p0 &&& (65535 : Int32)), iv (p1 &&& (65535 : Int32)), iv s', un, un, un] []))
  refine Go.stp (fun t k => XS.iload X1.here hx rfl (hb hby at_21) rfl k) ?_
  show Go p.tables e below G (T1.setTop (mkF m 23 #[iv p0, iv p1, iv p2, iv p3, iv (p0 &&& (65535 : Int32)), iv (p1 &&& (65535 : Int32)), iv s', un, un, un] [(.int (p0 &&& (65535 : Int32)))]))
  refine Go.stp (fun t k => XS.iload X1.here hx rfl (hb hby at_23) rfl k) ?_
  show Go p.tables e below G (T1.setTop (mkF m 25 #[iv p0, iv p1, iv p2, iv p3, iv (p0 &&& (65535 : Int32)), iv (p1 &&& (65535 : Int32)), iv s', un, un, un] [(.int (p1 &&& (65535 : Int32))), (.int (p0 &&& (65535 : Int32)))]))
  obtain ⟨_, _, ⟨T3, L3, k3, n3⟩, -, X3, ⟨Lc3, hQ3, l3, y3, z3⟩, st3⟩ := Jvm.LawKit.callS X1 hx (y := (⟨"java/lang/Math", "max", "(II)I"⟩ : MethodName)) hown (mvT hZ (hw _ (List.mem_of_getElem? (i := 5) rfl))) (mvT hZ (hw _ (List.mem_of_getElem? (i := 6) rfl))) (mvT hZ (hw _ (List.mem_of_getElem? (i := 3) rfl))) (mvT hZ (hw _ (List.mem_of_getElem? (i := 7) rfl))) (by decide) (backOf (W := 0) (rm2 l Z a0 hw [] (p0 &&& (65535 : Int32)) (p1 &&& (65535 : Int32))  h0 n0 Z0 ) hZ (hw _ (List.mem_of_getElem? (i := 7) rfl)) (hw _ (List.mem_of_getElem? (i := 3) rfl)) (by decide) (by decide)) (g := (mkF m 25 #[iv p0, iv p1, iv p2, iv p3, iv (p0 &&& (65535 : Int32)), iv (p1 &&& (65535 : Int32)), iv s', un, un, un] [(.int (p1 &&& (65535 : Int32))), (.int (p0 &&& (65535 : Int32)))])) rfl (by rw [hml]; rfl) (argsL := [(.int (p0 &&& (65535 : Int32))), (.int (p1 &&& (65535 : Int32)))]) (rest := []) (lenOf pd_1 rfl) rfl (by show 2 * 0 + _ ≤ _; exact Nat.le_of_eq rfl) (hb hby at_25) (fun _ _ => ⟨rfl, e1, (by decide : 0 + 0 ≤ _), (by decide : 0 + 0 ≤ _)⟩)
  dsimp only [Pt.U, Pt.locs, Pt.cells, Pt.slots] at X3 l3 y3 z3 st3 hQ3
  subst l3 y3 z3
  obtain ⟨rfl, Nq3, e3⟩ := hQ3
  have N3 := Fr.app N1 Nq3
  refine Go.stp (fun t k => st3 t k) ?_
  show Go p.tables e below G (T3.setTop (mkF m 28 #[iv p0, iv p1, iv p2, iv p3, iv (p0 &&& (65535 : Int32)), iv (p1 &&& (65535 : Int32)), iv s', un, un, un] [(.int (own_max (p0 &&& (65535 : Int32)) (p1 &&& (65535 : Int32))))]))
  suffices K4 : ∀ e' : Int32, e' = (own_max (p0 &&& (65535 : Int32)) (p1 &&& (65535 : Int32))) → Go p.tables e below G (T3.setTop (mkF m 28 #[iv p0, iv p1, iv p2, iv p3, iv (p0 &&& (65535 : Int32)), iv (p1 &&& (65535 : Int32)), iv s', un, un, un] [(.int e')])) from K4 _ rfl
  intro e' he'
  refine Go.stp (fun t k => XS.istore X3.here hx rfl (hb hby at_28) rfl (l' := #[iv p0, iv p1, iv p2, iv p3, iv (p0 &&& (65535 : Int32)), iv (p1 &&& (65535 : Int32)), iv s', iv e', un, un]) rfl k) ?_
  show Go p.tables e below G (T3.setTop (mkF m 30 #[iv p0, iv p1, iv p2, iv p3, iv (p0 &&& (65535 : Int32)), iv (p1 &&& (65535 : Int32)), iv s', iv e', un, un] []))
  have hbd := own_bd p0 p1
  rw [← hs', ← he'] at hbd
  obtain ⟨hb0, hb1, hb2⟩ := hbd
  have hnz := own_nz s' e' hb0 hb1 hb2
  obtain ⟨T5, h5, X5, e5, E5, A5, D5, -, st5⟩ := newO X3 hx hZ hown (hw _ (List.mem_of_getElem? (i := 8) rfl)) (hw _ (List.mem_of_getElem? (i := 9) rfl)) (hw _ (List.mem_of_getElem? (i := 10) rfl)) e3 (g := (mkF m 30 #[iv p0, iv p1, iv p2, iv p3, iv (p0 &&& (65535 : Int32)), iv (p1 &&& (65535 : Int32)), iv s', iv e', un, un] [])) rfl (hb hby at_30) (by decide) (by decide)
  obtain ⟨b5, g5⟩ : ∃ z, z = h0.size := ⟨_, rfl⟩
  rw [← g5] at A5 D5 st5
  have g_b5 : n0 ≤ b5 := Nat.le_trans Z0 (Nat.le_of_eq g5.symm)
  have Z5 : n0 ≤ h5.size := Nat.le_trans Z0 E5.1
  have f6 : Fld Z h5 b5 "com/example/keys_in_order/keysinorder/HashRange" "start" "I" (.int (0 : Int32)) := D5 (Or.inr (hw _ (List.mem_of_getElem? (i := 24) rfl))) (ty := .int) (by decide)
  have f7 : Fld Z h5 b5 "com/example/keys_in_order/keysinorder/HashRange" "end" "I" (.int (0 : Int32)) := D5 (Or.inr (hw _ (List.mem_of_getElem? (i := 26) rfl))) (ty := .int) (by decide)
  refine Go.stp (fun t k => st5 t k) ?_
  show Go p.tables e below G (T5.setTop (mkF m 33 #[iv p0, iv p1, iv p2, iv p3, iv (p0 &&& (65535 : Int32)), iv (p1 &&& (65535 : Int32)), iv s', iv e', un, un] [(.ref b5)]))
  refine Go.stp (fun t k => XS.dup X5.here hx rfl (hb hby at_33) rfl rfl k) ?_
  show Go p.tables e below G (T5.setTop (mkF m 34 #[iv p0, iv p1, iv p2, iv p3, iv (p0 &&& (65535 : Int32)), iv (p1 &&& (65535 : Int32)), iv s', iv e', un, un] [(.ref b5), (.ref b5)]))
  refine Go.stp (fun t k => XS.iload X5.here hx rfl (hb hby at_34) rfl k) ?_
  show Go p.tables e below G (T5.setTop (mkF m 36 #[iv p0, iv p1, iv p2, iv p3, iv (p0 &&& (65535 : Int32)), iv (p1 &&& (65535 : Int32)), iv s', iv e', un, un] [(.int s'), (.ref b5), (.ref b5)]))
  refine Go.stp (fun t k => XS.iload X5.here hx rfl (hb hby at_36) rfl k) ?_
  show Go p.tables e below G (T5.setTop (mkF m 38 #[iv p0, iv p1, iv p2, iv p3, iv (p0 &&& (65535 : Int32)), iv (p1 &&& (65535 : Int32)), iv s', iv e', un, un] [(.int e'), (.int s'), (.ref b5), (.ref b5)]))
  obtain ⟨_, _, ⟨T8, L8, k8, n8⟩, -, X8, ⟨Lc8, hQ8, l8, y8, z8⟩, st8⟩ := X5.specialBack hx (y := (⟨"com/example/keys_in_order/keysinorder/HashRange", "<init>", "(II)V"⟩ : MethodName)) rfl hown (mvT hZ (hw _ (List.mem_of_getElem? (i := 11) rfl))) (mvT hZ (hw _ (List.mem_of_getElem? (i := 12) rfl))) (mvT hZ (hw _ (List.mem_of_getElem? (i := 13) rfl))) (by decide) (backOf (W := 1) (rm3 l Z a0 hw [] b5 s' e' h5 n0 Z5 A5 f6 f7 g_b5 hb0 hb1 hb2) hZ (hw _ (List.mem_of_getElem? (i := 13) rfl)) (hw _ (List.mem_of_getElem? (i := 10) rfl)) (by decide) (by decide)) (g := (mkF m 38 #[iv p0, iv p1, iv p2, iv p3, iv (p0 &&& (65535 : Int32)), iv (p1 &&& (65535 : Int32)), iv s', iv e', un, un] [(.int e'), (.int s'), (.ref b5), (.ref b5)])) rfl (by rw [hml]; rfl) (Steps.refl _) (a := b5) (argsL := [(.int s'), (.int e')]) (rest := [(.ref b5)]) (lenOf pd_2 rfl) rfl (by show 2 * 0 + _ ≤ _; exact Nat.le_of_eq rfl) (hb hby at_38) (fun _ _ => ⟨rfl, e5, (by decide : 1 + 0 ≤ _), (by decide : 2 + 0 ≤ _)⟩)
  dsimp only [Pt.U, Pt.locs, Pt.cells, Pt.slots] at X8 l8 y8 z8 st8 hQ8
  subst l8 y8 z8
  obtain ⟨rfl, Nq8, Kc8, Ex8, Fs8, Fe8⟩ := hQ8
  have N8 := Fr.app N3 Nq8
  have f9 : Exa Z T8.heap b5 "com/example/keys_in_order/keysinorder/HashRange" := A5.keep Kc8
  have Z8 : n0 ≤ T8.heap.size := Nat.le_trans Z5 Kc8.1
  refine Go.stp (fun t k => st8.trans k) ?_
  show Go p.tables e below G (T8.setTop (mkF m 41 #[iv p0, iv p1, iv p2, iv p3, iv (p0 &&& (65535 : Int32)), iv (p1 &&& (65535 : Int32)), iv s', iv e', un, un] [(.ref b5)]))
  refine Go.stp (fun t k => XS.astore X8.here hx rfl (hb hby at_41) rfl rfl (l' := #[iv p0, iv p1, iv p2, iv p3, iv (p0 &&& (65535 : Int32)), iv (p1 &&& (65535 : Int32)), iv s', iv e', rv b5, un]) rfl k) ?_
  show Go p.tables e below G (T8.setTop (mkF m 43 #[iv p0, iv p1, iv p2, iv p3, iv (p0 &&& (65535 : Int32)), iv (p1 &&& (65535 : Int32)), iv s', iv e', rv b5, un] []))
  refine Go.stp (fun t k => XS.iload X8.here hx rfl (hb hby at_43) rfl k) ?_
  show Go p.tables e below G (T8.setTop (mkF m 45 #[iv p0, iv p1, iv p2, iv p3, iv (p0 &&& (65535 : Int32)), iv (p1 &&& (65535 : Int32)), iv s', iv e', rv b5, un] [(.int s')]))
  refine Go.stp (fun t k => XS.iload X8.here hx rfl (hb hby at_45) rfl k) ?_
  show Go p.tables e below G (T8.setTop (mkF m 47 #[iv p0, iv p1, iv p2, iv p3, iv (p0 &&& (65535 : Int32)), iv (p1 &&& (65535 : Int32)), iv s', iv e', rv b5, un] [(.int e'), (.int s')]))
  refine Go.stp (fun t k => XS.iloadN X8.here hx rfl (hb hby at_47) rfl k) ?_
  show Go p.tables e below G (T8.setTop (mkF m 48 #[iv p0, iv p1, iv p2, iv p3, iv (p0 &&& (65535 : Int32)), iv (p1 &&& (65535 : Int32)), iv s', iv e', rv b5, un] [(.int p2), (.int e'), (.int s')]))
  refine Go.stp (fun t k => XS.iloadN X8.here hx rfl (hb hby at_48) rfl k) ?_
  show Go p.tables e below G (T8.setTop (mkF m 49 #[iv p0, iv p1, iv p2, iv p3, iv (p0 &&& (65535 : Int32)), iv (p1 &&& (65535 : Int32)), iv s', iv e', rv b5, un] [(.int p3), (.int p2), (.int e'), (.int s')]))
  refine Go.stp (fun t k => XS.bipush X8.here hx rfl (hb hby at_49) k) ?_
  show Go p.tables e below G (T8.setTop (mkF m 51 #[iv p0, iv p1, iv p2, iv p3, iv (p0 &&& (65535 : Int32)), iv (p1 &&& (65535 : Int32)), iv s', iv e', rv b5, un] [(.int (7 : Int32)), (.int p3), (.int p2), (.int e'), (.int s')]))
  refine Go.stp (fun t k => XS.iand X8.here hx rfl (hb hby at_51) rfl k) ?_
  show Go p.tables e below G (T8.setTop (mkF m 52 #[iv p0, iv p1, iv p2, iv p3, iv (p0 &&& (65535 : Int32)), iv (p1 &&& (65535 : Int32)), iv s', iv e', rv b5, un] [(.int (p3 &&& (7 : Int32))), (.int p2), (.int e'), (.int s')]))
  obtain ⟨_, _, ⟨T10, L10, k10, n10⟩, -, X10, ⟨Lc10, hQ10, l10, y10, z10⟩, st10⟩ := Jvm.LawKit.callS X8 hx (y := (⟨"com/example/keys_in_order/keysinorder/HashRangeContainsPinLaw", "pick", "(IIII)I"⟩ : MethodName)) hown (mvT hZ (hw _ (List.mem_of_getElem? (i := 27) rfl))) (mvT hZ (hw _ (List.mem_of_getElem? (i := 28) rfl))) (mvT hZ (hw _ (List.mem_of_getElem? (i := 29) rfl))) (mvT hZ (hw _ (List.mem_of_getElem? (i := 30) rfl))) (by decide) (backOf (W := 0) (rm6 l Z a0 hw [] s' e' p2 (p3 &&& (7 : Int32)) T8.heap n0 Z8 hnz) hZ (hw _ (List.mem_of_getElem? (i := 30) rfl)) (hw _ (List.mem_of_getElem? (i := 29) rfl)) (by decide) (by decide)) (g := (mkF m 52 #[iv p0, iv p1, iv p2, iv p3, iv (p0 &&& (65535 : Int32)), iv (p1 &&& (65535 : Int32)), iv s', iv e', rv b5, un] [(.int (p3 &&& (7 : Int32))), (.int p2), (.int e'), (.int s')])) rfl (by rw [hml]; rfl) (argsL := [(.int s'), (.int e'), (.int p2), (.int (p3 &&& (7 : Int32)))]) (rest := []) (lenOf pd_3 rfl) rfl (by show 2 * 0 + _ ≤ _; exact Nat.le_of_eq rfl) (hb hby at_52) (fun _ _ => ⟨rfl, rfl, (by decide : 1 + 0 ≤ _), (by decide : 2 + 0 ≤ _)⟩)
  dsimp only [Pt.U, Pt.locs, Pt.cells, Pt.slots] at X10 l10 y10 z10 st10 hQ10
  subst l10 y10 z10
  obtain ⟨⟨xx, rfl⟩, Nq10, e10⟩ := hQ10
  have N10 := Fr.app N8 Nq10
  refine Go.stp (fun t k => st10 t k) ?_
  show Go p.tables e below G (T10.setTop (mkF m 55 #[iv p0, iv p1, iv p2, iv p3, iv (p0 &&& (65535 : Int32)), iv (p1 &&& (65535 : Int32)), iv s', iv e', rv b5, un] [(.int xx)]))
  refine Go.stp (fun t k => XS.istore X10.here hx rfl (hb hby at_55) rfl (l' := #[iv p0, iv p1, iv p2, iv p3, iv (p0 &&& (65535 : Int32)), iv (p1 &&& (65535 : Int32)), iv s', iv e', rv b5, iv xx]) rfl k) ?_
  show Go p.tables e below G (T10.setTop (mkF m 57 #[iv p0, iv p1, iv p2, iv p3, iv (p0 &&& (65535 : Int32)), iv (p1 &&& (65535 : Int32)), iv s', iv e', rv b5, iv xx] []))
  refine Go.stp (fun t k => XS.aload X10.here hx rfl (hb hby at_57) rfl rfl k) ?_
  show Go p.tables e below G (T10.setTop (mkF m 59 #[iv p0, iv p1, iv p2, iv p3, iv (p0 &&& (65535 : Int32)), iv (p1 &&& (65535 : Int32)), iv s', iv e', rv b5, iv xx] [(.ref b5)]))
  refine Go.stp (fun t k => XS.iload X10.here hx rfl (hb hby at_59) rfl k) ?_
  show Go p.tables e below G (T10.setTop (mkF m 61 #[iv p0, iv p1, iv p2, iv p3, iv (p0 &&& (65535 : Int32)), iv (p1 &&& (65535 : Int32)), iv s', iv e', rv b5, iv xx] [(.int xx), (.ref b5)]))
  obtain ⟨cq11, kq11, q11a, q11b, q11c⟩ := isOf hZ e10 Ex8
  obtain ⟨_, _, ⟨T11, L11, k11, n11⟩, -, X11, ⟨Lc11, hQ11, l11, y11, z11⟩, st11⟩ := X10.virtualBack hx (y := (⟨"com/example/keys_in_order/keysinorder/HashRange", "contains", "(I)Z"⟩ : MethodName)) (z := (⟨"com/example/keys_in_order/keysinorder/HashRange", "contains", "(I)Z"⟩ : MethodName)) hown (mvT hZ (hw _ (List.mem_of_getElem? (i := 31) rfl))) (mvT hZ (hw _ (List.mem_of_getElem? (i := 32) rfl))) (notFace_of_selects (args := #[]) (mvT hZ (hw _ (List.mem_of_getElem? (i := 34) rfl)))) (mvT hZ (hw _ (List.mem_of_getElem? (i := 34) rfl))) (mvT hZ (hw _ (List.mem_of_getElem? (i := 33) rfl))) (by decide) (backOf (W := 0) (rm7 l Z a0 hw [] b5 xx s' e' T8.heap n0 Z8 Fs8 Fe8) hZ (hw _ (List.mem_of_getElem? (i := 35) rfl)) (hw _ (List.mem_of_getElem? (i := 10) rfl)) (by decide) (by decide)) q11a q11c (g := (mkF m 61 #[iv p0, iv p1, iv p2, iv p3, iv (p0 &&& (65535 : Int32)), iv (p1 &&& (65535 : Int32)), iv s', iv e', rv b5, iv xx] [(.int xx), (.ref b5)])) rfl (by rw [hml]; rfl) (Steps.refl _) (argsL := [(.int xx)]) (rest := []) (lenOf pd_4 rfl) rfl (by show 2 * 0 + _ ≤ _; exact Nat.le_of_eq rfl) (hb hby at_61) (fun _ _ => ⟨rfl, e10, (by decide : 1 + 0 ≤ _), (by decide : 2 + 0 ≤ _)⟩)
  dsimp only [Pt.U, Pt.locs, Pt.cells, Pt.slots] at X11 l11 y11 z11 st11 hQ11
  subst l11 y11 z11
  obtain ⟨rfl, Nq11, e11⟩ := hQ11
  have N11 := Fr.app N10 Nq11
  refine Go.stp (fun t k => st11.trans k) ?_
  show Go p.tables e below G (T11.setTop (mkF m 64 #[iv p0, iv p1, iv p2, iv p3, iv (p0 &&& (65535 : Int32)), iv (p1 &&& (65535 : Int32)), iv s', iv e', rv b5, iv xx] [(.int (own_con s' e' xx))]))
  refine Go.stp (fun t k => XS.iload X11.here hx rfl (hb hby at_64) rfl k) ?_
  show Go p.tables e below G (T11.setTop (mkF m 66 #[iv p0, iv p1, iv p2, iv p3, iv (p0 &&& (65535 : Int32)), iv (p1 &&& (65535 : Int32)), iv s', iv e', rv b5, iv xx] [(.int s'), (.int (own_con s' e' xx))]))
  refine Go.stp (fun t k => XS.iload X11.here hx rfl (hb hby at_66) rfl k) ?_
  show Go p.tables e below G (T11.setTop (mkF m 68 #[iv p0, iv p1, iv p2, iv p3, iv (p0 &&& (65535 : Int32)), iv (p1 &&& (65535 : Int32)), iv s', iv e', rv b5, iv xx] [(.int e'), (.int s'), (.int (own_con s' e' xx))]))
  refine Go.stp (fun t k => XS.iload X11.here hx rfl (hb hby at_68) rfl k) ?_
  show Go p.tables e below G (T11.setTop (mkF m 70 #[iv p0, iv p1, iv p2, iv p3, iv (p0 &&& (65535 : Int32)), iv (p1 &&& (65535 : Int32)), iv s', iv e', rv b5, iv xx] [(.int xx), (.int e'), (.int s'), (.int (own_con s' e' xx))]))
  obtain ⟨_, _, ⟨T12, L12, k12, n12⟩, -, X12, ⟨Lc12, hQ12, l12, y12, z12⟩, st12⟩ := Jvm.LawKit.callS X11 hx (y := (⟨"com/example/keys_in_order/keysinorder/HashRangeContainsPinLaw", "reference", "(III)Z"⟩ : MethodName)) hown (mvT hZ (hw _ (List.mem_of_getElem? (i := 36) rfl))) (mvT hZ (hw _ (List.mem_of_getElem? (i := 37) rfl))) (mvT hZ (hw _ (List.mem_of_getElem? (i := 29) rfl))) (mvT hZ (hw _ (List.mem_of_getElem? (i := 38) rfl))) (by decide) (backOf (W := 1) (rm8 l Z a0 hw [] s' e' xx  T8.heap n0 Z8 ) hZ (hw _ (List.mem_of_getElem? (i := 38) rfl)) (hw _ (List.mem_of_getElem? (i := 29) rfl)) (by decide) (by decide)) (g := (mkF m 70 #[iv p0, iv p1, iv p2, iv p3, iv (p0 &&& (65535 : Int32)), iv (p1 &&& (65535 : Int32)), iv s', iv e', rv b5, iv xx] [(.int xx), (.int e'), (.int s'), (.int (own_con s' e' xx))])) rfl (by rw [hml]; rfl) (argsL := [(.int s'), (.int e'), (.int xx)]) (rest := [(.int (own_con s' e' xx))]) (lenOf pd_5 rfl) rfl (by show 2 * 0 + _ ≤ _; exact Nat.le_of_eq rfl) (hb hby at_70) (fun _ _ => ⟨rfl, e11, (by decide : 1 + 0 ≤ _), (by decide : 2 + 0 ≤ _)⟩)
  dsimp only [Pt.U, Pt.locs, Pt.cells, Pt.slots] at X12 l12 y12 z12 st12 hQ12
  subst l12 y12 z12
  obtain ⟨rfl, Nq12, e12⟩ := hQ12
  have N12 := Fr.app N11 Nq12
  refine Go.stp (fun t k => st12 t k) ?_
  show Go p.tables e below G (T12.setTop (mkF m 73 #[iv p0, iv p1, iv p2, iv p3, iv (p0 &&& (65535 : Int32)), iv (p1 &&& (65535 : Int32)), iv s', iv e', rv b5, iv xx] [(.int (own_ref s' e' xx)), (.int (own_con s' e' xx))]))
  have hd73 : (own_con s' e' xx) = (own_ref s' e' xx) := own_law s' e' xx hb2
  refine Go.stp (fun t k => XS.icmpNo X12.here hx rfl (hb hby at_73) rfl (teq hd73).2 k) ?_
  show Go p.tables e below G (T12.setTop (mkF m 76 #[iv p0, iv p1, iv p2, iv p3, iv (p0 &&& (65535 : Int32)), iv (p1 &&& (65535 : Int32)), iv s', iv e', rv b5, iv xx] []))
  refine Go.stp (fun t k => XS.iconst X12.here hx rfl (hb hby at_76) k) ?_
  show Go p.tables e below G (T12.setTop (mkF m 77 #[iv p0, iv p1, iv p2, iv p3, iv (p0 &&& (65535 : Int32)), iv (p1 &&& (65535 : Int32)), iv s', iv e', rv b5, iv xx] [(.int (1 : Int32))]))
  refine Go.stp (fun t k => XS.goto X12.here hx rfl (pc0 := 77) (pc' := 81) rfl (hb hby at_77) (by decide) (by decide) k) ?_
  show Go p.tables e below G (T12.setTop (mkF m 81 #[iv p0, iv p1, iv p2, iv p3, iv (p0 &&& (65535 : Int32)), iv (p1 &&& (65535 : Int32)), iv s', iv e', rv b5, iv xx] [(.int (1 : Int32))]))
  obtain ⟨fs, hr, hrun, hended, hW, hsame⟩ := X12.leave (v := some (.int (1 : Int32))) (fun h => by rw [Bd.returns] at h; cases h)
  refine ⟨_, _, retN X12 hx (t := .boolean) Bd.returns (by simp) (hb hby at_81) hr, hrun, hended, hG _ _ _ ?_ ⟨⟨_, rfl⟩, hW, hsame.mono (by decide) (by decide)⟩⟩
  show Q0 Z p0 p1 p2 p3 h0 n0 _ T12.heap _
  rw [e12]
  exact ⟨rfl, N12⟩
set_option maxRecDepth 65536 in
set_option maxHeartbeats 40000000 in
theorem comes_1 {Post : Tables → Env → Array Value → State → Outcome → State → Prop} (hpost : ∀ tb e args s v u, (limb_1_1.after args s (.returned v) u = true ∧ limb_1_2.after args s (.returned v) u = true ∧ True) → FrameEnd s (.returned v) u (Jvm.fieldLocs frame_1_writes args s ++ Jvm.arrayLocs frame_1_arrays args s ++ Jvm.staticLocs frame_1_statics s) 16 128 → Post tb e args s (.returned v) u) :
    ArmFor flags0 classFile x code maxLocals ret World_1 tables_1 room_1 Calls_1 rest_1 Pre_1 Post := by
  intro l hfl _ _ p e ha hc hk s m args below hf hA hF happ hP
  obtain ⟨hcalls, hrest, hpre⟩ := hP
  obtain ⟨-, -, -, hnamed, -, -, -, hat⟩ := (Spec.applies_iff hf).mp happ
  obtain ⟨hg, hn⟩ := and_e (Cond.before_iff.mp (show (Jvm.Cond.and given_1 narrow_1).before args s = true from hpre))
  obtain ⟨g1a, g1b⟩ := and_e hg
  obtain ⟨g2a, g2b⟩ := and_e g1b
  obtain ⟨g3a, g3b⟩ := and_e g2b
  obtain ⟨g4a, g4b⟩ := and_e g3b
  obtain ⟨w0, w1, w2, w3, rfl⟩ : ∃ w0 w1 w2 w3 : Value, args = #[w0, w1, w2, w3] := by
    have hs : args.size = 4 := by simpa [Cond.value, given_1] using g1a
    obtain ⟨L⟩ := args
    match L, hs with
    | [w0, w1, w2, w3], _ => exact ⟨w0, w1, w2, w3, rfl⟩
  have hw := fun d (hd : d ∈ tables_1) => atoms_spec (ws := Jvm.Cond.code x code maxLocals ret :: tables_1) hat d (List.mem_cons_of_mem _ hd)
  have hfit : Fit s := fun {y c} hc i hi => by
    obtain ⟨ha, rfl⟩ := Array.getElem?_eq_some_iff.mp hc
    have q := List.all_eq_true.mp ((Array.all_eq_true_iff_forall_mem.mp hF) _ (Array.getElem_mem ha)) i (List.mem_range.mpr hi)
    simpa [Array.getElem?_eq_getElem hi] using q
  obtain ⟨i0, ei0⟩ := is_v g2a
  obtain rfl : w0 = (.int i0) := Option.some.inj ei0
  obtain ⟨i1, ei1⟩ := is_v g3a
  obtain rfl : w1 = (.int i1) := Option.some.inj ei1
  obtain ⟨i2, ei2⟩ := is_v g4a
  obtain rfl : w2 = (.int i2) := Option.some.inj ei2
  obtain ⟨i3, ei3⟩ := is_v g4b
  obtain rfl : w3 = (.int i3) := Option.some.inj ei3
  obtain ⟨n, o, h1, h2, h3, _, L, rfl, ⟨rfl, N⟩, hq⟩ := rm0 l s _ hw tables_1 i0 i1 i2 i3  s.heap s.heap.size (Nat.le_refl _)  p e ha hc hk s m _ below hf ((Spec.applies_iff_loose hf).mp happ).1 ⟨rfl, State.Warmed39.refl s, rfl⟩ trivial
  refine ⟨n, _, h1, h2, h3, hpost _ _ _ _ _ _ ⟨Cond.after_iff.mpr rfl, Cond.after_iff.mpr (eq_i res_at (Term.int_eval (1)) rfl), trivial⟩ ⟨hq.1, hq.2.1, (hq.2.2.sift fun y hy => Or.inr (N y hy)).mono (by decide) (by decide)⟩⟩
theorem main_1_1 : Claimed_1_1 := comes_1 fun _ _ _ _ _ _ h hF => ⟨h.1, hF⟩
theorem main_1_2 : Claimed_1_2 := comes_1 fun _ _ _ _ _ _ h hF => ⟨h.2.1, hF⟩
end Jvm.Pilot.@@N@@
namespace Jvm.Pilot.@@N@@
open Jvm Jvm.ClassFile Sem Op Lib Jvm.Free Jvm.Stand Jvm.Pilot.@@N@@.Jvm.D
/-! MADE BY PROGRAM (witnessworld.py) out of the Statement's table words and the real class files: 11 classes; the members and pool entries that the words name. The judged class is class 1, her method 3. -/
namespace start1
open Jvm.ClassFile
def u (s : String) : CpInfo := .utf8 (stringToUtf16 s)
/-- a pool by its gaps: so many unusable entries, then the entry; so many at the end -/
def gap : Nat → List CpInfo → List CpInfo
  | 0, r => r
  | n + 1, r => .unusable :: gap n r
def poolList (es : List (Nat × CpInfo)) (last : Nat) : List CpInfo := es.foldr (fun e r => gap e.1 (e.2 :: r)) (gap last [])
def pool (es : List (Nat × CpInfo)) (last : Nat) : Array CpInfo := ⟨poolList es last⟩
def fileOf (pool : Array CpInfo) (this : Nat) (attrs : Array Attribute := #[]) (ms : Array MethodInfo := #[]) (fl : Nat := 33) (sup : Nat := 0) (ifs : Array Nat := #[]) (fds : Array FieldInfo := #[]) : ClassFile where
  minorVersion := 0
  majorVersion := 65
  constantPool := pool
  accessFlags := fl
  thisClass := this
  superClass := sup
  interfaces := ifs
  fields := fds
  methods := ms
  attributes := attrs
def plain (name : String) (sup : Option ClassId) : Class where
  name := name
  kind := .ordinary
  loader := none
  accessFlags := 33
  super := sup
  interfaces := #[]
  cf := none
  fields := #[]
  methods := #[]
  instanceTypes := #[]
  staticTypes := #[]
  resolved := #[]
  callSites := []
  init := .initialized
  statics := none
  mirror := none

def pool0 : Array CpInfo := pool [(5, u "<init>"), (0, u "()V"), (1, .class_ 10), (1, u "java/lang/Object")] 113

def k0c0 : Code := { maxStack := 0, maxLocals := 1, code := object_method_1_code, exceptionTable := #[], attributes := #[] }
def k0m0 : Method := { name := "<init>", desc := "()V", sig := { parameters := [], returnType := none }, accessFlags := 1, code := some k0c0 }
/-- java/lang/Object -/
def k0 : Class := { plain "java/lang/Object" none with
  accessFlags := 33
  interfaces := #[]
  cf := some (fileOf pool0 8 #[] #[{ accessFlags := 1, nameIndex := 5, descriptorIndex := 6, attributes := #[] }] 33 0 #[] #[])
  fields := #[]
  methods := #[k0m0]
  instanceTypes := #[]
  staticTypes := #[]
  resolved := Array.replicate 124 none
  statics := none }

def pool1 : Array CpInfo := pool [(2, .class_ 4), (1, u "java/lang/Object"), (0, u "<init>"), (0, u "()V"), (0, .methodref 8 9), (0, .class_ 10), (0, .nameAndType 11 12), (0, u "java/lang/Math"), (0, u "min"), (0, u "(II)I"), (0, .methodref 8 14), (0, .nameAndType 15 12), (0, u "max"), (0, .integer 2147483647), (0, .integer 65535), (0, .integer 131071), (0, .integer 32768), (0, .class_ 21), (0, u "com/example/keys_in_order/keysinorder/HashRange"), (0, .methodref 20 23), (0, .nameAndType 5 24), (0, u "(II)V"), (0, .methodref 26 27), (0, .class_ 28), (0, .nameAndType 29 30), (0, u "com/example/keys_in_order/keysinorder/HashRangeContainsPinLaw"), (0, u "pick"), (0, u "(IIII)I"), (0, .methodref 20 32), (0, .nameAndType 33 34), (0, u "contains"), (0, u "(I)Z"), (0, .methodref 26 36), (0, .nameAndType 37 38), (0, u "reference"), (0, u "(III)Z"), (3, u "law"), (0, u "(IIII)Z")] 2

def k1m0 : Method := { name := "<init>", desc := "()V", sig := { parameters := [], returnType := none }, accessFlags := 2, code := none }
def k1c1 : Code := { maxStack := 3, maxLocals := 3, code := method_2_code, exceptionTable := #[], attributes := #[] }
def k1m1 : Method := { name := "reference", desc := "(III)Z", sig := { parameters := [.int, .int, .int], returnType := some .boolean }, accessFlags := 10, code := some k1c1 }
def k1c2 : Code := { maxStack := 4, maxLocals := 4, code := method_3_code, exceptionTable := #[], attributes := #[] }
def k1m2 : Method := { name := "pick", desc := "(IIII)I", sig := { parameters := [.int, .int, .int, .int], returnType := some .int }, accessFlags := 10, code := some k1c2 }
def k1c3 : Code := { maxStack := 5, maxLocals := 10, code := code, exceptionTable := #[], attributes := #[] }
def k1m3 : Method := { name := "law", desc := "(IIII)Z", sig := { parameters := [.int, .int, .int, .int], returnType := some .boolean }, accessFlags := 9, code := some k1c3 }
/-- com/example/keys_in_order/keysinorder/HashRangeContainsPinLaw -/
def k1 : Class := { plain "com/example/keys_in_order/keysinorder/HashRangeContainsPinLaw" (some 0) with
  accessFlags := 49
  interfaces := #[]
  cf := some (fileOf pool1 26 #[] #[{ accessFlags := 2, nameIndex := 5, descriptorIndex := 6, attributes := #[] }, { accessFlags := 10, nameIndex := 37, descriptorIndex := 38, attributes := #[] }, { accessFlags := 10, nameIndex := 29, descriptorIndex := 30, attributes := #[] }, { accessFlags := 9, nameIndex := 42, descriptorIndex := 43, attributes := #[] }] 49 2 #[] #[])
  fields := #[]
  methods := #[k1m0, k1m1, k1m2, k1m3]
  instanceTypes := #[]
  staticTypes := #[]
  resolved := Array.replicate 46 none
  statics := none }

def pool2 : Array CpInfo := pool [(1, .class_ 2), (0, u "java/lang/Math"), (1, .class_ 6), (1, u "java/lang/Object"), (0, u "<init>"), (0, u "()V"), (89, .class_ 100), (1, u "java/lang/Math$RandomNumberGeneratorHolder"), (71, u "negativeZeroFloatBits"), (0, u "J"), (2, u "negativeZeroDoubleBits"), (21, u "max"), (2, u "min"), (43, u "$assertionsDisabled"), (0, u "Z"), (88, u "(II)I"), (2, u "twoToTheDoubleScaleDown"), (0, u "D"), (4, u "twoToTheDoubleScaleUp"), (9, u "E"), (3, u "PI"), (2, u "TAU"), (2, u "DEGREES_TO_RADIANS"), (0, u "RADIANS_TO_DEGREES")] 94

def k2m0 : Method := { name := "<init>", desc := "()V", sig := { parameters := [], returnType := none }, accessFlags := 2, code := none }
def k2c1 : Code := { maxStack := 2, maxLocals := 2, code := jdk_29_method_65_code, exceptionTable := #[], attributes := #[] }
def k2m1 : Method := { name := "max", desc := "(II)I", sig := { parameters := [.int, .int], returnType := some .int }, accessFlags := 9, code := some k2c1 }
def k2c2 : Code := { maxStack := 2, maxLocals := 2, code := jdk_29_method_69_code, exceptionTable := #[], attributes := #[] }
def k2m2 : Method := { name := "min", desc := "(II)I", sig := { parameters := [.int, .int], returnType := some .int }, accessFlags := 9, code := some k2c2 }
/-- java/lang/Math -/
def k2 : Class := { plain "java/lang/Math" (some 0) with
  accessFlags := 49
  interfaces := #[]
  cf := some (fileOf pool2 1 #[.nestMembers #[98]] #[{ accessFlags := 2, nameIndex := 7, descriptorIndex := 8, attributes := #[] }, { accessFlags := 9, nameIndex := 198, descriptorIndex := 335, attributes := #[] }, { accessFlags := 9, nameIndex := 201, descriptorIndex := 335, attributes := #[] }] 49 4 #[] #[{ accessFlags := 25, nameIndex := 354, descriptorIndex := 339, attributes := #[] }, { accessFlags := 25, nameIndex := 358, descriptorIndex := 339, attributes := #[] }, { accessFlags := 25, nameIndex := 361, descriptorIndex := 339, attributes := #[] }, { accessFlags := 26, nameIndex := 364, descriptorIndex := 339, attributes := #[] }, { accessFlags := 26, nameIndex := 365, descriptorIndex := 339, attributes := #[] }, { accessFlags := 26, nameIndex := 172, descriptorIndex := 173, attributes := #[] }, { accessFlags := 26, nameIndex := 176, descriptorIndex := 173, attributes := #[] }, { accessFlags := 8, nameIndex := 344, descriptorIndex := 339, attributes := #[] }, { accessFlags := 8, nameIndex := 338, descriptorIndex := 339, attributes := #[] }, { accessFlags := 4120, nameIndex := 245, descriptorIndex := 246, attributes := #[] }])
  fields := #[{ name := "E", type := .double, accessFlags := 25, slot := 0, constantValue := 0 }, { name := "PI", type := .double, accessFlags := 25, slot := 1, constantValue := 0 }, { name := "TAU", type := .double, accessFlags := 25, slot := 2, constantValue := 0 }, { name := "DEGREES_TO_RADIANS", type := .double, accessFlags := 26, slot := 3, constantValue := 0 }, { name := "RADIANS_TO_DEGREES", type := .double, accessFlags := 26, slot := 4, constantValue := 0 }, { name := "negativeZeroFloatBits", type := .long, accessFlags := 26, slot := 5, constantValue := 0 }, { name := "negativeZeroDoubleBits", type := .long, accessFlags := 26, slot := 6, constantValue := 0 }, { name := "twoToTheDoubleScaleUp", type := .double, accessFlags := 8, slot := 7, constantValue := 0 }, { name := "twoToTheDoubleScaleDown", type := .double, accessFlags := 8, slot := 8, constantValue := 0 }, { name := "$assertionsDisabled", type := .boolean, accessFlags := 4120, slot := 9, constantValue := 0 }]
  methods := #[k2m0, k2m1, k2m2]
  instanceTypes := #[]
  staticTypes := #[.double, .double, .double, .double, .double, .long, .long, .double, .double, .boolean]
  resolved := Array.replicate 460 none
  statics := none }

def pool3 : Array CpInfo := pool [(1, .methodref 2 3), (0, .class_ 4), (0, .nameAndType 5 6), (0, u "java/lang/Object"), (0, u "<init>"), (0, u "()V"), (0, .class_ 8), (0, u "java/lang/Record")] 13

def k3c0 : Code := { maxStack := 1, maxLocals := 1, code := jdk_30_method_1_code, exceptionTable := #[], attributes := #[] }
def k3m0 : Method := { name := "<init>", desc := "()V", sig := { parameters := [], returnType := none }, accessFlags := 4, code := some k3c0 }
/-- java/lang/Record -/
def k3 : Class := { plain "java/lang/Record" (some 0) with
  accessFlags := 1057
  interfaces := #[]
  cf := some (fileOf pool3 7 #[] #[{ accessFlags := 4, nameIndex := 5, descriptorIndex := 6, attributes := #[] }] 1057 2 #[] #[])
  fields := #[]
  methods := #[k3m0]
  instanceTypes := #[]
  staticTypes := #[]
  resolved := Array.replicate 22 none
  statics := none }

def pool4 : Array CpInfo := pool [(1, .methodref 2 3), (0, .class_ 4), (0, .nameAndType 5 6), (0, u "java/lang/Record"), (0, u "<init>"), (0, u "()V"), (2, .integer 65536), (9, .fieldref 20 21), (0, .class_ 22), (0, .nameAndType 23 24), (0, u "com/example/keys_in_order/keysinorder/HashRange"), (0, u "start"), (0, u "I"), (0, .fieldref 20 26), (0, .nameAndType 27 24), (0, u "end"), (12, u "(II)V"), (6, u "contains"), (0, u "(I)Z")] 31

def k4c0 : Code := { maxStack := 4, maxLocals := 3, code := prog_12_method_1_code, exceptionTable := #[], attributes := #[] }
def k4m0 : Method := { name := "<init>", desc := "(II)V", sig := { parameters := [.int, .int], returnType := none }, accessFlags := 1, code := some k4c0 }
def k4c1 : Code := { maxStack := 2, maxLocals := 2, code := prog_12_method_3_code, exceptionTable := #[], attributes := #[] }
def k4m1 : Method := { name := "contains", desc := "(I)Z", sig := { parameters := [.int], returnType := some .boolean }, accessFlags := 0, code := some k4c1 }
/-- com/example/keys_in_order/keysinorder/HashRange -/
def k4 : Class := { plain "com/example/keys_in_order/keysinorder/HashRange" (some 3) with
  accessFlags := 49
  interfaces := #[]
  cf := some (fileOf pool4 20 #[] #[{ accessFlags := 1, nameIndex := 5, descriptorIndex := 40, attributes := #[] }, { accessFlags := 0, nameIndex := 47, descriptorIndex := 48, attributes := #[] }] 49 2 #[] #[{ accessFlags := 18, nameIndex := 23, descriptorIndex := 24, attributes := #[] }, { accessFlags := 18, nameIndex := 27, descriptorIndex := 24, attributes := #[] }])
  fields := #[{ name := "start", type := .int, accessFlags := 18, slot := 0, constantValue := 0 }, { name := "end", type := .int, accessFlags := 18, slot := 1, constantValue := 0 }]
  methods := #[k4m0, k4m1]
  instanceTypes := #[.int, .int]
  staticTypes := #[]
  resolved := Array.replicate 80 none
  statics := none }

def pool5 : Array CpInfo := pool [(1, u "java/lang/Cloneable"), (0, .class_ 1), (0, u "java/lang/Object"), (0, .class_ 3)] 3

/-- java/lang/Cloneable -/
def k5 : Class := { plain "java/lang/Cloneable" (some 0) with
  accessFlags := 1537
  interfaces := #[]
  cf := some (fileOf pool5 2 #[] #[] 1537 4 #[] #[])
  fields := #[]
  methods := #[]
  instanceTypes := #[]
  staticTypes := #[]
  resolved := Array.replicate 8 none
  statics := none }

def pool6 : Array CpInfo := pool [(1, u "java/io/Serializable"), (0, .class_ 1), (0, u "java/lang/Object"), (0, .class_ 3)] 3

/-- java/io/Serializable -/
def k6 : Class := { plain "java/io/Serializable" (some 0) with
  accessFlags := 1537
  interfaces := #[]
  cf := some (fileOf pool6 2 #[] #[] 1537 4 #[] #[])
  fields := #[]
  methods := #[]
  instanceTypes := #[]
  staticTypes := #[]
  resolved := Array.replicate 8 none
  statics := none }

/-- the primitive byte -/
def k7 : Class := { plain "byte" none with kind := .primitive 'B', accessFlags := 0x411 }
/-- [B -/
def k8 : Class := { plain "[B" (some 0) with kind := .array 7 .byte, interfaces := #[5, 6], accessFlags := 1041 }

/-- the primitive int -/
def k9 : Class := { plain "int" none with kind := .primitive 'I', accessFlags := 0x411 }
/-- [I -/
def k10 : Class := { plain "[I" (some 0) with kind := .array 9 .int, interfaces := #[5, 6], accessFlags := 1041 }

def heap : Heap := #[]
def classes : Array Class := #[k0, k1, k2, k3, k4, k5, k6, k7, k8, k9, k10]
def interned : List (Array UInt16 × Addr) := []
def slotsUsed : Nat := 0
def theMethod : MethodId := ⟨1, 3⟩
def args0 : Array Value := #[.int 5, .int 9, .int 7, .int 3]
def aboutOver (below : List Frame) : State where
  vm := { classes := classes, interned := interned.toArray }
  heap := heap
  slotsUsed := slotsUsed
  threads := #[{ frames := .invoking theMethod args0 :: below }]
def below0 : List Frame := [.native { method := ⟨0, 0⟩, args := #[] }]
def about1 : State := aboutOver below0
def p0 : Program := .bare "" "" ""
def e0 : Env := launch0.env 0 0 0
theorem w_frames : about1.frames = Frame.invoking theMethod args0 :: below0 := rfl
set_option maxRecDepth 65536 in
theorem w_args : argsFit about1.vm theMethod args0 = true := by decide +kernel
set_option maxRecDepth 65536 in
theorem w_heap : heapFits about1 = true := by decide +kernel
set_option maxRecDepth 65536 in
theorem w_runnable : about1.curStatus? = some .runnable := by decide +kernel
set_option maxRecDepth 65536 in
theorem w_alone : about1.alone = true := by decide +kernel
set_option maxRecDepth 65536 in
theorem w_named : about1.methodNamed? x = some theMethod := by decide +kernel
set_option maxRecDepth 65536 in
theorem w_hears : about1.hears theMethod below0 = true := by decide +kernel
set_option maxRecDepth 65536 in
theorem w_ripe : about1.ripe theMethod args0 below0 = true := by decide +kernel
theorem w_running : about1.status = .running := rfl
set_option maxRecDepth 65536 in
theorem w_room : about1.hasRoom e0.platform room_1 = true :=
  launch0.hasRoom_least _ room_1 (by decide +kernel) (by decide +kernel) (by decide +kernel) (by decide +kernel) (by decide +kernel) (by decide +kernel)
theorem allAtoms_all (ts : List Jvm.Cond) (a : Array Jvm.Value) (st : Jvm.State) : (allAtoms ts).before a st = ts.all (fun c => c.before a st) := by
  induction ts with
  | nil => rfl
  | cons c t ih =>
    show (Jvm.Cond.and c (allAtoms t)).before a st = _
    rw [Jvm.Cond.before_and, ih, List.all_cons]
def words1 : List Jvm.Cond := Jvm.Cond.code x code maxLocals ret :: tables_1
/-- a 'code' word, met by the world's own term for the bytes: nothing is compared byte by byte -/
theorem code_word {y : MethodName} {bytes : ByteArray} {mx : Nat} {rt : Option FieldType} {a : Array Value} {s : State} {m : MethodId} {meth : Method} {c : Code} (h1 : s.methodNamed? y = some m) (h2 : s.vm.method? m = some meth) (h3 : meth.code = some c) (h4 : c.code = bytes)
    (h5 : (c.maxLocals == mx && c.exceptionTable.isEmpty && decide (c.maxStack ≤ mostOperands) && decide (meth.sig.returnType = rt) && !meth.locks && decide (parseMethodDescriptor y.desc = some meth.sig)) = true) : (Jvm.Cond.code y bytes mx rt).before a s = true := by
  simp only [Bool.and_eq_true, beq_iff_eq, Bool.not_eq_true', decide_eq_true_eq] at h5
  obtain ⟨⟨⟨⟨⟨g1, g2⟩, g3⟩, g4⟩, g5⟩, g6⟩ := h5
  simp [Cond.before, Cond.holds, Cond.value, h1, h2, h3, h4, g1, g2, g3, g4, g5, g6]
def isCode : Jvm.Cond → Bool
  | .code _ _ _ _ => true
  | _ => false
theorem all_split {L : List Jvm.Cond} {P : Jvm.Cond → Bool} (h1 : L.all (fun c => isCode c || P c) = true) (h2 : ∀ c ∈ L.filter isCode, P c = true) : L.all P = true := by
  refine List.all_eq_true.mpr fun c hc => ?_
  have h := List.all_eq_true.mp h1 c hc
  rcases Bool.eq_false_or_eq_true (isCode c) with hi | hi
  · exact h2 c (List.mem_filter.mpr ⟨hc, hi⟩)
  · simpa [hi] using h
set_option maxRecDepth 65536 in
theorem w_c0 : (Jvm.Cond.code x code maxLocals ret).before args0 about1 = true := code_word (m := ⟨1, 3⟩) (meth := k1m3) (c := k1c3) (by decide +kernel) rfl rfl rfl (by decide +kernel)
set_option maxRecDepth 65536 in
theorem w_c1 : (Jvm.Cond.code ({ cls := "java/lang/Math", name := "min", desc := "(II)I" } : Jvm.MethodName) jdk_29_method_69_code (2 : Nat) (Option.some Jvm.ClassFile.FieldType.int)).before args0 about1 = true := code_word (m := ⟨2, 2⟩) (meth := k2m2) (c := k2c2) (by decide +kernel) rfl rfl rfl (by decide +kernel)
set_option maxRecDepth 65536 in
theorem w_c2 : (Jvm.Cond.code ({ cls := "java/lang/Math", name := "max", desc := "(II)I" } : Jvm.MethodName) jdk_29_method_65_code (2 : Nat) (Option.some Jvm.ClassFile.FieldType.int)).before args0 about1 = true := code_word (m := ⟨2, 1⟩) (meth := k2m1) (c := k2c1) (by decide +kernel) rfl rfl rfl (by decide +kernel)
set_option maxRecDepth 65536 in
theorem w_c3 : (Jvm.Cond.code ({ cls := "com/example/keys_in_order/keysinorder/HashRange", name := "<init>", desc := "(II)V" } : Jvm.MethodName) prog_12_method_1_code (3 : Nat) (Option.none : Option Jvm.ClassFile.FieldType)).before args0 about1 = true := code_word (m := ⟨4, 0⟩) (meth := k4m0) (c := k4c0) (by decide +kernel) rfl rfl rfl (by decide +kernel)
set_option maxRecDepth 65536 in
theorem w_c4 : (Jvm.Cond.code ({ cls := "java/lang/Record", name := "<init>", desc := "()V" } : Jvm.MethodName) jdk_30_method_1_code (1 : Nat) (Option.none : Option Jvm.ClassFile.FieldType)).before args0 about1 = true := code_word (m := ⟨3, 0⟩) (meth := k3m0) (c := k3c0) (by decide +kernel) rfl rfl rfl (by decide +kernel)
set_option maxRecDepth 65536 in
theorem w_c5 : (Jvm.Cond.code ({ cls := "java/lang/Object", name := "<init>", desc := "()V" } : Jvm.MethodName) object_method_1_code (1 : Nat) (Option.none : Option Jvm.ClassFile.FieldType)).before args0 about1 = true := code_word (m := ⟨0, 0⟩) (meth := k0m0) (c := k0c0) (by decide +kernel) rfl rfl rfl (by decide +kernel)
set_option maxRecDepth 65536 in
theorem w_c6 : (Jvm.Cond.code ({ cls := "com/example/keys_in_order/keysinorder/HashRangeContainsPinLaw", name := "pick", desc := "(IIII)I" } : Jvm.MethodName) method_3_code (4 : Nat) (Option.some Jvm.ClassFile.FieldType.int)).before args0 about1 = true := code_word (m := ⟨1, 2⟩) (meth := k1m2) (c := k1c2) (by decide +kernel) rfl rfl rfl (by decide +kernel)
set_option maxRecDepth 65536 in
theorem w_c7 : (Jvm.Cond.code ({ cls := "com/example/keys_in_order/keysinorder/HashRange", name := "contains", desc := "(I)Z" } : Jvm.MethodName) prog_12_method_3_code (2 : Nat) (Option.some Jvm.ClassFile.FieldType.boolean)).before args0 about1 = true := code_word (m := ⟨4, 1⟩) (meth := k4m1) (c := k4c1) (by decide +kernel) rfl rfl rfl (by decide +kernel)
set_option maxRecDepth 65536 in
theorem w_c8 : (Jvm.Cond.code ({ cls := "com/example/keys_in_order/keysinorder/HashRangeContainsPinLaw", name := "reference", desc := "(III)Z" } : Jvm.MethodName) method_2_code (3 : Nat) (Option.some Jvm.ClassFile.FieldType.boolean)).before args0 about1 = true := code_word (m := ⟨1, 1⟩) (meth := k1m1) (c := k1c1) (by decide +kernel) rfl rfl rfl (by decide +kernel)
def codes1 : List Jvm.Cond := [Jvm.Cond.code x code maxLocals ret, Jvm.Cond.code ({ cls := "java/lang/Math", name := "min", desc := "(II)I" } : Jvm.MethodName) jdk_29_method_69_code (2 : Nat) (Option.some Jvm.ClassFile.FieldType.int), Jvm.Cond.code ({ cls := "java/lang/Math", name := "max", desc := "(II)I" } : Jvm.MethodName) jdk_29_method_65_code (2 : Nat) (Option.some Jvm.ClassFile.FieldType.int), Jvm.Cond.code ({ cls := "com/example/keys_in_order/keysinorder/HashRange", name := "<init>", desc := "(II)V" } : Jvm.MethodName) prog_12_method_1_code (3 : Nat) (Option.none : Option Jvm.ClassFile.FieldType), Jvm.Cond.code ({ cls := "java/lang/Record", name := "<init>", desc := "()V" } : Jvm.MethodName) jdk_30_method_1_code (1 : Nat) (Option.none : Option Jvm.ClassFile.FieldType), Jvm.Cond.code ({ cls := "java/lang/Object", name := "<init>", desc := "()V" } : Jvm.MethodName) object_method_1_code (1 : Nat) (Option.none : Option Jvm.ClassFile.FieldType), Jvm.Cond.code ({ cls := "com/example/keys_in_order/keysinorder/HashRangeContainsPinLaw", name := "pick", desc := "(IIII)I" } : Jvm.MethodName) method_3_code (4 : Nat) (Option.some Jvm.ClassFile.FieldType.int), Jvm.Cond.code ({ cls := "com/example/keys_in_order/keysinorder/HashRange", name := "contains", desc := "(I)Z" } : Jvm.MethodName) prog_12_method_3_code (2 : Nat) (Option.some Jvm.ClassFile.FieldType.boolean), Jvm.Cond.code ({ cls := "com/example/keys_in_order/keysinorder/HashRangeContainsPinLaw", name := "reference", desc := "(III)Z" } : Jvm.MethodName) method_2_code (3 : Nat) (Option.some Jvm.ClassFile.FieldType.boolean)]
set_option maxRecDepth 65536 in
theorem codes_eq : words1.filter isCode = codes1 := rfl
theorem w_codes : ∀ c ∈ words1.filter isCode, c.before args0 about1 = true := by
  rw [codes_eq]
  intro c hc
  simp only [codes1, List.mem_cons, List.not_mem_nil, or_false] at hc
  rcases hc with rfl | rfl | rfl | rfl | rfl | rfl | rfl | rfl | rfl
  · exact w_c0
  · exact w_c1
  · exact w_c2
  · exact w_c3
  · exact w_c4
  · exact w_c5
  · exact w_c6
  · exact w_c7
  · exact w_c8
set_option maxRecDepth 65536 in
theorem w_t1 : (words1.take 24).all (fun c => isCode c || c.before args0 about1) = true := by decide +kernel
set_option maxRecDepth 65536 in
theorem w_t2 : (words1.drop 24).all (fun c => isCode c || c.before args0 about1) = true := by decide +kernel
theorem w_tables : (allAtoms (Jvm.Cond.code x code maxLocals ret :: tables_1)).before args0 about1 = true := by
  rw [allAtoms_all]
  show words1.all (fun c => c.before args0 about1) = true
  refine all_split ?_ w_codes
  rw [← List.take_append_drop 24 words1, List.all_append, w_t1, w_t2]
  rfl
set_option maxRecDepth 65536 in
theorem w_case : (Jvm.Cond.and given_1 narrow_1).before args0 about1 = true := by decide +kernel
theorem w_applies : (headSpec (Jvm.Cond.code x code maxLocals ret :: tables_1) room_1).applies x e0.platform about1 = true :=
  (Spec.applies_iff w_frames).mpr ⟨w_running, w_runnable, w_alone, w_named, w_hears, w_ripe, w_room, w_tables⟩
theorem atStart : AtStart classFile x code maxLocals ret World_1 tables_1 room_1 Calls_1 rest_1 Pre_1 launch0 p0 e0 about1 theMethod args0 below0 :=
  ⟨lists_1, trivial, launch0.admits_env _ _ _, launch0.least_env, fairChoices_fair.cas, fairChoices_fair.clock, w_frames, w_args, w_heap, w_applies, trivial, trivial, w_case⟩
end start1
theorem witness_1 : WitnessClaimed_1 := ⟨start1.p0, start1.e0, start1.about1, start1.theMethod, start1.args0, start1.below0, start1.atStart⟩
end Jvm.Pilot.@@N@@
