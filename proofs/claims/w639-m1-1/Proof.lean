import JvmDerived
import JvmDerived.Pilot.@@N@@Statement
import JvmDerived.Pilot.@@N@@Code
set_option linter.unusedVariables false
set_option linter.unusedSimpArgs false
namespace Jvm.RoadKit
open Sem ClassFile Op Lib Jvm.Stand Jvm.Free Jvm.LawKit
section New
variable {p : Program} {l : Launch} {e : Env} {R : Room} {s : State} {m : MethodId} {args : Array Value} {below : List Frame} {meth : Method} {c : Code} {T : State} {locs : List Loc} {cells slots : Nat}
theorem retI (X : Stand p l e R s m args below meth c T locs cells slots) (hx : p.tables.exec = Jvm.exec) {pc : Nat} {Ls : Array Slot} {z : Int32} {rest : List Value} (hret : meth.sig.returnType = some .int) (hd : decode c.code pc = .ok (.ireturn, 1)) {fs : List Frame}
    (hl : ∀ (f : JFrame) (acts : List Action), f.method = m → f.locked = none → f.entered = [] → (doReturn e (T.setTop f) acts (some (.int z))).1 = T.setFrames fs) : Steps p.tables e below (T.setTop (mkF m pc Ls (.int z :: rest))) (T.setFrames fs) := by
  have hm' : T.vm.method? m = some meth := X.method'
  have hn : narrow .int (.int z) = .int z := rfl
  show Steps p.tables e below (T.setTop { method := m, pc := pc, locals := Ls, stack := _ :: rest, locked := none }) _
  jvm_step X.here [X.here.top, hx, hd, hm', hret, hn]
  first | (intro acts; rw [hl _ acts rfl rfl rfl]) | rw [hl _ _ rfl rfl rfl]
  exact Steps.refl _
theorem retL (X : Stand p l e R s m args below meth c T locs cells slots) (hx : p.tables.exec = Jvm.exec) {pc : Nat} {Ls : Array Slot} {z : Int64} {rest : List Value} (hret : meth.sig.returnType = some .long) (hd : decode c.code pc = .ok (.lreturn, 1)) {fs : List Frame}
    (hl : ∀ (f : JFrame) (acts : List Action), f.method = m → f.locked = none → f.entered = [] → (doReturn e (T.setTop f) acts (some (.long z))).1 = T.setFrames fs) : Steps p.tables e below (T.setTop (mkF m pc Ls (.long z :: rest))) (T.setFrames fs) := by
  have hm' : T.vm.method? m = some meth := X.method'
  show Steps p.tables e below (T.setTop { method := m, pc := pc, locals := Ls, stack := _ :: rest, locked := none }) _
  jvm_step X.here [X.here.top, hx, hd, hm', hret, narrow]
  first | (intro acts; rw [hl _ acts rfl rfl rfl]) | rw [hl _ _ rfl rfl rfl]
  exact Steps.refl _
theorem retR (X : Stand p l e R s m args below meth c T locs cells slots) (hx : p.tables.exec = Jvm.exec) {pc : Nat} {Ls : Array Slot} {z : Value} {rest : List Value} {ty : FieldType} (hz : z.isRef = true) (hty : ty.isReference = true) (hret : meth.sig.returnType = some ty) (hd : decode c.code pc = .ok (.areturn, 1)) {fs : List Frame}
    (hl : ∀ (f : JFrame) (acts : List Action), f.method = m → f.locked = none → f.entered = [] → (doReturn e (T.setTop f) acts (some z)).1 = T.setFrames fs) : Steps p.tables e below (T.setTop (mkF m pc Ls (z :: rest))) (T.setFrames fs) := by
  have hm' : T.vm.method? m = some meth := X.method'
  show Steps p.tables e below (T.setTop { method := m, pc := pc, locals := Ls, stack := _ :: rest, locked := none }) _
  jvm_step X.here [X.here.top, hx, hd, hm', hret, hz, hty]
  first | (intro acts; rw [hl _ acts rfl rfl rfl]) | rw [hl _ _ rfl rfl rfl]
  exact Steps.refl _
end New
abbrev lv (x : Int64) : Slot := .val (.long x)
abbrev un : Slot := .unset
abbrev sd : Slot := .second
/-- where the run stands, it comes to an end that G likes -/
def Go (tb : Tables) (e : Env) (below : List Frame) (G : Outcome → State → Prop) (F : State) : Prop := ∃ t o, Steps tb e below F t ∧ t.status = .running ∧ Ended t below o ∧ G o t
theorem Go.stp {tb : Tables} {e : Env} {below : List Frame} {G : Outcome → State → Prop} {F F' : State} (h : ∀ t, Steps tb e below F' t → Steps tb e below F t) (g : Go tb e below G F') : Go tb e below G F := by
  obtain ⟨t, o, h1, r⟩ := g
  exact ⟨t, o, h _ h1, r⟩
end Jvm.RoadKit
namespace Jvm.Pilot.@@N@@
open Jvm Jvm.ClassFile Sem Op Lib Jvm.Free Jvm.Stand Jvm.LawKit Jvm.RoadKit Bundle Jvm.Pilot.@@N@@.Jvm.D
def own_hi (x : Int64) : Int64 := ((x.toUInt64 >>> ((1 : Int32) &&& 0x3f).toInt64.toUInt64).toInt64)
def own_hf (x : Int64) : Int64 := if own_hi x < 9223372036854775783 then own_hi x else own_hi x - 9223372036854775783
theorem own_rng (x : Int64) : 0 ≤ (own_hi x).toInt ∧ (own_hi x).toInt < 9223372036854775808 := by
  have h := c_lushr x 1 1 (by decide) (by decide)
  have r := rng64 x
  unfold own_hi
  omega
theorem own_val (x : Int64) : (own_hf x).toInt = (own_hi x).toInt % 9223372036854775783 := by
  have r := own_rng x
  have e : (9223372036854775783 : Int64).toInt = 9223372036854775783 := by decide
  unfold own_hf
  split
  · rename_i h
    rw [Int64.lt_iff_toInt_lt] at h
    omega
  · rename_i h
    rw [Int64.lt_iff_toInt_lt] at h
    have s := c_lsub (own_hi x) 9223372036854775783
    have rs := rng64 (own_hi x - 9223372036854775783)
    omega
theorem own_eq (x : Int64) : own_hf x = own_hi x - (own_hi x / (9223372036854775783 : Int64)) * (9223372036854775783 : Int64) := by
  apply Int64.toInt_inj.mp
  rw [(c_lrem (own_hi x) 9223372036854775783 9223372036854775783 (by decide)).1 (own_rng x).1, own_val]
theorem own_nn (x : Int64) : ¬ (own_hf x < (0 : Int64)) := by
  have v := own_val x
  have e : (0 : Int64).toInt = 0 := by decide
  rw [Int64.lt_iff_toInt_lt]
  omega
theorem own_lt (x : Int64) : own_hf x < (9223372036854775783 : Int64) := by
  have v := own_val x
  have e : (9223372036854775783 : Int64).toInt = 9223372036854775783 := by decide
  rw [Int64.lt_iff_toInt_lt]
  omega
theorem pd_0 : parseMethodDescriptor "(J)J" = some ⟨[.long], some .long⟩ := by decide +kernel
theorem pn_1 : plainName "com/example/malla/malla/perfect/PerfectTable" = true := by first | (simp [plainName, overriddenIn]; done) | decide +kernel
theorem d1_0 : decode prog_47_method_10_code 0 = .ok (.lload_n 0, 1) := by decide +kernel
theorem d1_1 : decode prog_47_method_10_code 1 = .ok (.iconst 1, 1) := by decide +kernel
theorem d1_2 : decode prog_47_method_10_code 2 = .ok (.lushr, 1) := by decide +kernel
theorem d1_3 : decode prog_47_method_10_code 3 = .ok (.lstore_n 2, 1) := by decide +kernel
theorem d1_4 : decode prog_47_method_10_code 4 = .ok (.lload_n 2, 1) := by decide +kernel
theorem d1_5 : decode prog_47_method_10_code 5 = .ok (.ldc2_w 63, 3) := by decide +kernel
theorem d1_8 : decode prog_47_method_10_code 8 = .ok (.lcmp, 1) := by decide +kernel
theorem d1_9 : decode prog_47_method_10_code 9 = .ok (.ifCond .ge 7, 3) := by decide +kernel
theorem d1_12 : decode prog_47_method_10_code 12 = .ok (.lload_n 2, 1) := by decide +kernel
theorem d1_13 : decode prog_47_method_10_code 13 = .ok (.goto 8, 3) := by decide +kernel
theorem d1_16 : decode prog_47_method_10_code 16 = .ok (.lload_n 2, 1) := by decide +kernel
theorem d1_17 : decode prog_47_method_10_code 17 = .ok (.ldc2_w 63, 3) := by decide +kernel
theorem d1_20 : decode prog_47_method_10_code 20 = .ok (.lsub, 1) := by decide +kernel
theorem d1_21 : decode prog_47_method_10_code 21 = .ok (.lreturn, 1) := by decide +kernel
theorem ef_1 (m : MethodId) (q0 : Int64) : entryFrame m #[(.long q0)] 4 = mkF m 0 #[lv q0, sd, un, un] [] := by first | (simp [entryFrame, mkF, argsToLocals, Value.category, iv, rv, lv, un, sd]; done) | rfl
def Q1 (Z : State) (q0 : Int64) (h0 : Heap) (n0 : Nat) (v : Option Value) (h : Heap) (L : List Loc) : Prop := v = some (.long (own_hf q0)) ∧ Fr n0 L ∧ h = h0
set_option maxRecDepth 65536 in
set_option maxHeartbeats 40000000 in
theorem rm1 (l : Launch) (Z : State) (a0 : Array Value) (hw : ∀ d ∈ tables_1, d.before a0 Z = true) (ws : List Jvm.Cond) (q0 : Int64) (h0 : Heap) (n0 : Nat) (Z0 : n0 ≤ h0.size) :
    MetFree l (⟨"com/example/malla/malla/perfect/PerfectTable", "hashedForm", "(J)J"⟩ : MethodName) (head1 (Jvm.Cond.code (⟨"com/example/malla/malla/perfect/PerfectTable", "hashedForm", "(J)J"⟩ : MethodName) prog_47_method_10_code 4 (some .long) :: ws) ({ frames := 0, cells := 0, slots := 0, locals := 0 } : Room)) (fun a U => a = #[(.long q0)] ∧ Z.Warmed39 U.vm ∧ U.heap = h0) (fun _ _ _ _ _ => True) (fun _ U o U' => ∃ v L, o = .returned v ∧ Q1 Z q0 h0 n0 v U'.heap L ∧ FrameEnd U o U' L ({ frames := 0, cells := 0, slots := 0, locals := 0 } : Room).cells ({ frames := 0, cells := 0, slots := 0, locals := 0 } : Room).slots) := by
  refine MetFree.of_bodySF (plainFor_of_name pn_1) hisR ?_
  intro p e s m args below meth c s₁ Bd hml0 hP hK
  obtain ⟨rfl, hZ, hh⟩ := hP
  have hx := Bd.exec
  have hby := Bd.bytes
  have hml : c.maxLocals = 4 := hml0
  have hown : s.vm.findClass "com/example/malla/malla/perfect/PerfectTable" = some m.cls := findClass_of_methodNamed Bd.named
  have hnm := (name_of_methodNamed Bd.named Bd.method).1
  have X0 : Stand p l e ({ frames := 0, cells := 0, slots := 0, locals := 0 } : Room) s m #[(.long q0)] below meth c s₁ [] 0 0 := Stand.of_body Bd
  have e0 : s₁.heap = h0 := by rw [← hh, Bd.state]; rfl
  have N0 := Fr.nil n0
  suffices HH : ∀ G : Outcome → State → Prop, (∀ v L U', Q1 Z q0 h0 n0 v U'.heap L → FrameEnd s (.returned v) U' L ({ frames := 0, cells := 0, slots := 0, locals := 0 } : Room).cells ({ frames := 0, cells := 0, slots := 0, locals := 0 } : Room).slots → G (.returned v) U') → Go p.tables e below G (s₁.setTop (mkF m 0 #[lv q0, sd, un, un] [])) by
    obtain ⟨s2, o, h1, h2, h3, h4⟩ := HH (fun o U' => ∃ v L, o = .returned v ∧ Q1 Z q0 h0 n0 v U'.heap L ∧ FrameEnd s o U' L ({ frames := 0, cells := 0, slots := 0, locals := 0 } : Room).cells ({ frames := 0, cells := 0, slots := 0, locals := 0 } : Room).slots) (fun v L U' q f => ⟨v, L, rfl, q, f⟩)
    exact ⟨s2, o, castTop (ef_1 m q0) h1, h2, h3, h4⟩
  intro G hG
  show Go p.tables e below G (s₁.setTop (mkF m 0 #[lv q0, sd, un, un] []))
  refine Go.stp (fun t k => XS.lloadN X0.here hx rfl (hb hby d1_0) rfl k) ?_
  show Go p.tables e below G (s₁.setTop (mkF m 1 #[lv q0, sd, un, un] [(.long q0)]))
  refine Go.stp (fun t k => XS.iconst X0.here hx rfl (hb hby d1_1) k) ?_
  show Go p.tables e below G (s₁.setTop (mkF m 2 #[lv q0, sd, un, un] [(.int (1 : Int32)), (.long q0)]))
  refine Go.stp (fun t k => XS.lushr X0.here hx rfl (hb hby d1_2) rfl k) ?_
  show Go p.tables e below G (s₁.setTop (mkF m 3 #[lv q0, sd, un, un] [(.long ((q0.toUInt64 >>> ((1 : Int32) &&& 0x3f).toInt64.toUInt64).toInt64))]))
  refine Go.stp (fun t k => XS.lstoreN X0.here hx rfl (hb hby d1_3) rfl (l' := #[lv q0, sd, lv ((q0.toUInt64 >>> ((1 : Int32) &&& 0x3f).toInt64.toUInt64).toInt64), sd]) rfl k) ?_
  show Go p.tables e below G (s₁.setTop (mkF m 4 #[lv q0, sd, lv ((q0.toUInt64 >>> ((1 : Int32) &&& 0x3f).toInt64.toUInt64).toInt64), sd] []))
  refine Go.stp (fun t k => XS.lloadN X0.here hx rfl (hb hby d1_4) rfl k) ?_
  show Go p.tables e below G (s₁.setTop (mkF m 5 #[lv q0, sd, lv ((q0.toUInt64 >>> ((1 : Int32) &&& 0x3f).toInt64.toUInt64).toInt64), sd] [(.long ((q0.toUInt64 >>> ((1 : Int32) &&& 0x3f).toInt64.toUInt64).toInt64))]))
  refine Go.stp (fun t k => X0.ldc2Long hx hown (mvT hZ (hw _ (List.mem_of_getElem? (i := 4) rfl))) (g := (mkF m 5 #[lv q0, sd, lv ((q0.toUInt64 >>> ((1 : Int32) &&& 0x3f).toInt64.toUInt64).toInt64), sd] [(.long ((q0.toUInt64 >>> ((1 : Int32) &&& 0x3f).toInt64.toUInt64).toInt64))])) rfl (hb hby d1_5) t k) ?_
  show Go p.tables e below G (s₁.setTop (mkF m 8 #[lv q0, sd, lv ((q0.toUInt64 >>> ((1 : Int32) &&& 0x3f).toInt64.toUInt64).toInt64), sd] [(.long (9223372036854775783 : Int64)), (.long ((q0.toUInt64 >>> ((1 : Int32) &&& 0x3f).toInt64.toUInt64).toInt64))]))
  refine Go.stp (fun t k => XS.lcmp X0.here hx rfl (hb hby d1_8) rfl k) ?_
  show Go p.tables e below G (s₁.setTop (mkF m 9 #[lv q0, sd, lv ((q0.toUInt64 >>> ((1 : Int32) &&& 0x3f).toInt64.toUInt64).toInt64), sd] [(.int (lcmpW ((q0.toUInt64 >>> ((1 : Int32) &&& 0x3f).toInt64.toUInt64).toInt64) (9223372036854775783 : Int64)))]))
  by_cases hc9 : ((q0.toUInt64 >>> ((1 : Int32) &&& 0x3f).toInt64.toUInt64).toInt64) < (9223372036854775783 : Int64)
  · refine Go.stp (fun t k => XS.ifNo X0.here hx rfl (hb hby d1_9) rfl ((if0 _ _).trans (tlt ((lw_lt ((q0.toUInt64 >>> ((1 : Int32) &&& 0x3f).toInt64.toUInt64).toInt64) (9223372036854775783 : Int64)).mpr hc9)).2.1) k) ?_
    show Go p.tables e below G (s₁.setTop (mkF m 12 #[lv q0, sd, lv ((q0.toUInt64 >>> ((1 : Int32) &&& 0x3f).toInt64.toUInt64).toInt64), sd] []))
    refine Go.stp (fun t k => XS.lloadN X0.here hx rfl (hb hby d1_12) rfl k) ?_
    show Go p.tables e below G (s₁.setTop (mkF m 13 #[lv q0, sd, lv ((q0.toUInt64 >>> ((1 : Int32) &&& 0x3f).toInt64.toUInt64).toInt64), sd] [(.long ((q0.toUInt64 >>> ((1 : Int32) &&& 0x3f).toInt64.toUInt64).toInt64))]))
    refine Go.stp (fun t k => XS.goto X0.here hx rfl (pc0 := 13) (pc' := 21) rfl (hb hby d1_13) (by decide) (by decide) k) ?_
    show Go p.tables e below G (s₁.setTop (mkF m 21 #[lv q0, sd, lv ((q0.toUInt64 >>> ((1 : Int32) &&& 0x3f).toInt64.toUInt64).toInt64), sd] [(.long ((q0.toUInt64 >>> ((1 : Int32) &&& 0x3f).toInt64.toUInt64).toInt64))]))
    obtain ⟨fs, hr, hrun, hended, hW, hsame⟩ := X0.leave (v := some (.long ((q0.toUInt64 >>> ((1 : Int32) &&& 0x3f).toInt64.toUInt64).toInt64))) (fun h => by rw [Bd.returns] at h; cases h)
    refine ⟨_, _, retL X0 hx Bd.returns (hb hby d1_21) hr, hrun, hended, hG _ _ _ ?_ ⟨⟨_, rfl⟩, hW, hsame.mono (by decide) (by decide)⟩⟩
    show Q1 Z q0 h0 n0 _ s₁.heap _
    rw [e0]
    exact ⟨congrArg (fun z => some (Value.long z)) (if_pos (show (own_hi q0 < 9223372036854775783) from hc9)).symm, N0, rfl⟩
  · refine Go.stp (fun t k => XS.ifYes X0.here hx rfl (pc0 := 9) (pc' := 16) rfl (hb hby d1_9) rfl ((if0 _ _).trans (flt (fun q => hc9 ((lw_lt ((q0.toUInt64 >>> ((1 : Int32) &&& 0x3f).toInt64.toUInt64).toInt64) (9223372036854775783 : Int64)).mp q))).2.1) (by decide) (by decide) k) ?_
    show Go p.tables e below G (s₁.setTop (mkF m 16 #[lv q0, sd, lv ((q0.toUInt64 >>> ((1 : Int32) &&& 0x3f).toInt64.toUInt64).toInt64), sd] []))
    refine Go.stp (fun t k => XS.lloadN X0.here hx rfl (hb hby d1_16) rfl k) ?_
    show Go p.tables e below G (s₁.setTop (mkF m 17 #[lv q0, sd, lv ((q0.toUInt64 >>> ((1 : Int32) &&& 0x3f).toInt64.toUInt64).toInt64), sd] [(.long ((q0.toUInt64 >>> ((1 : Int32) &&& 0x3f).toInt64.toUInt64).toInt64))]))
    refine Go.stp (fun t k => X0.ldc2Long hx hown (mvT hZ (hw _ (List.mem_of_getElem? (i := 4) rfl))) (g := (mkF m 17 #[lv q0, sd, lv ((q0.toUInt64 >>> ((1 : Int32) &&& 0x3f).toInt64.toUInt64).toInt64), sd] [(.long ((q0.toUInt64 >>> ((1 : Int32) &&& 0x3f).toInt64.toUInt64).toInt64))])) rfl (hb hby d1_17) t k) ?_
    show Go p.tables e below G (s₁.setTop (mkF m 20 #[lv q0, sd, lv ((q0.toUInt64 >>> ((1 : Int32) &&& 0x3f).toInt64.toUInt64).toInt64), sd] [(.long (9223372036854775783 : Int64)), (.long ((q0.toUInt64 >>> ((1 : Int32) &&& 0x3f).toInt64.toUInt64).toInt64))]))
    refine Go.stp (fun t k => XS.lsub X0.here hx rfl (hb hby d1_20) rfl k) ?_
    show Go p.tables e below G (s₁.setTop (mkF m 21 #[lv q0, sd, lv ((q0.toUInt64 >>> ((1 : Int32) &&& 0x3f).toInt64.toUInt64).toInt64), sd] [(.long (((q0.toUInt64 >>> ((1 : Int32) &&& 0x3f).toInt64.toUInt64).toInt64) - (9223372036854775783 : Int64)))]))
    obtain ⟨fs, hr, hrun, hended, hW, hsame⟩ := X0.leave (v := some (.long (((q0.toUInt64 >>> ((1 : Int32) &&& 0x3f).toInt64.toUInt64).toInt64) - (9223372036854775783 : Int64)))) (fun h => by rw [Bd.returns] at h; cases h)
    refine ⟨_, _, retL X0 hx Bd.returns (hb hby d1_21) hr, hrun, hended, hG _ _ _ ?_ ⟨⟨_, rfl⟩, hW, hsame.mono (by decide) (by decide)⟩⟩
    show Q1 Z q0 h0 n0 _ s₁.heap _
    rw [e0]
    exact ⟨congrArg (fun z => some (Value.long z)) (if_neg (show ¬ (own_hi q0 < 9223372036854775783) from hc9)).symm, N0, rfl⟩
theorem pn_0 : plainName "com/example/malla/malla/perfect/PerfectTableHashedFormPinLaw" = true := by first | (simp [plainName, overriddenIn]; done) | decide +kernel
theorem ef_0 (m : MethodId) (q0 : Int64) (p1 : Int32) : entryFrame m #[(.long q0), (.int p1)] maxLocals = mkF m 0 #[lv q0, sd, iv p1, un, un, un, un, un, un, un, un, un] [] := by first | (simp [entryFrame, mkF, argsToLocals, Value.category, iv, rv, lv, un, sd, maxLocals]; done) | rfl
def Q0 (Z : State) (q0 : Int64) (p1 : Int32) (h0 : Heap) (n0 : Nat) (v : Option Value) (h : Heap) (L : List Loc) : Prop := v = some (.int (1 : Int32)) ∧ Fr n0 L
set_option maxRecDepth 65536 in
set_option maxHeartbeats 40000000 in
theorem rm0 (l : Launch) (Z : State) (a0 : Array Value) (hw : ∀ d ∈ tables_1, d.before a0 Z = true) (ws : List Jvm.Cond) (q0 : Int64) (p1 : Int32) (h0 : Heap) (n0 : Nat) (Z0 : n0 ≤ h0.size) :
    MetFree l x (head1 (Jvm.Cond.code x code maxLocals ret :: ws) room_1) (fun a U => a = #[(.long q0), (.int p1)] ∧ Z.Warmed39 U.vm ∧ U.heap = h0) (fun _ _ _ _ _ => True) (fun _ U o U' => ∃ v L, o = .returned v ∧ Q0 Z q0 p1 h0 n0 v U'.heap L ∧ FrameEnd U o U' L room_1.cells room_1.slots) := by
  refine MetFree.of_bodySF (plainFor_of_name pn_0) hisR ?_
  intro p e s m args below meth c s₁ Bd hml0 hP hK
  obtain ⟨rfl, hZ, hh⟩ := hP
  have hx := Bd.exec
  have hby := Bd.bytes
  have hml : c.maxLocals = 12 := hml0
  have hown : s.vm.findClass "com/example/malla/malla/perfect/PerfectTableHashedFormPinLaw" = some m.cls := findClass_of_methodNamed Bd.named
  have hnm := (name_of_methodNamed Bd.named Bd.method).1
  have X0 : Stand p l e room_1 s m #[(.long q0), (.int p1)] below meth c s₁ [] 0 0 := Stand.of_body Bd
  have e0 : s₁.heap = h0 := by rw [← hh, Bd.state]; rfl
  have N0 := Fr.nil n0
  suffices HH : ∀ G : Outcome → State → Prop, (∀ v L U', Q0 Z q0 p1 h0 n0 v U'.heap L → FrameEnd s (.returned v) U' L room_1.cells room_1.slots → G (.returned v) U') → Go p.tables e below G (s₁.setTop (mkF m 0 #[lv q0, sd, iv p1, un, un, un, un, un, un, un, un, un] [])) by
    obtain ⟨s2, o, h1, h2, h3, h4⟩ := HH (fun o U' => ∃ v L, o = .returned v ∧ Q0 Z q0 p1 h0 n0 v U'.heap L ∧ FrameEnd s o U' L room_1.cells room_1.slots) (fun v L U' q f => ⟨v, L, rfl, q, f⟩)
    exact ⟨s2, o, castTop (ef_0 m q0 p1) h1, h2, h3, h4⟩
  intro G hG
  show Go p.tables e below G (s₁.setTop (mkF m 0 #[lv q0, sd, iv p1, un, un, un, un, un, un, un, un, un] []))
  refine Go.stp (fun t k => XS.iloadN X0.here hx rfl (hb hby at_0) rfl k) ?_
  show Go p.tables e below G (s₁.setTop (mkF m 1 #[lv q0, sd, iv p1, un, un, un, un, un, un, un, un, un] [(.int p1)]))
  refine Go.stp (fun t k => XS.iconst X0.here hx rfl (hb hby at_1) k) ?_
  show Go p.tables e below G (s₁.setTop (mkF m 2 #[lv q0, sd, iv p1, un, un, un, un, un, un, un, un, un] [(.int (1 : Int32)), (.int p1)]))
  refine Go.stp (fun t k => XS.iand X0.here hx rfl (hb hby at_2) rfl k) ?_
  show Go p.tables e below G (s₁.setTop (mkF m 3 #[lv q0, sd, iv p1, un, un, un, un, un, un, un, un, un] [(.int (p1 &&& (1 : Int32)))]))
  by_cases hc3 : (p1 &&& (1 : Int32)) = (0 : Int32)
  · refine Go.stp (fun t k => XS.ifYes X0.here hx rfl (pc0 := 3) (pc' := 10) rfl (hb hby at_3) rfl ((if0 _ _).trans (teq hc3).1) (by decide) (by decide) k) ?_
    show Go p.tables e below G (s₁.setTop (mkF m 10 #[lv q0, sd, iv p1, un, un, un, un, un, un, un, un, un] []))
    refine Go.stp (fun t k => XS.iconst X0.here hx rfl (hb hby at_10) k) ?_
    show Go p.tables e below G (s₁.setTop (mkF m 11 #[lv q0, sd, iv p1, un, un, un, un, un, un, un, un, un] [(.int (0 : Int32))]))
    refine Go.stp (fun t k => XS.istoreN X0.here hx rfl (hb hby at_11) rfl (l' := #[lv q0, sd, iv p1, iv (0 : Int32), un, un, un, un, un, un, un, un]) rfl k) ?_
    show Go p.tables e below G (s₁.setTop (mkF m 12 #[lv q0, sd, iv p1, iv (0 : Int32), un, un, un, un, un, un, un, un] []))
    refine Go.stp (fun t k => XS.iloadN X0.here hx rfl (hb hby at_12) rfl k) ?_
    show Go p.tables e below G (s₁.setTop (mkF m 13 #[lv q0, sd, iv p1, iv (0 : Int32), un, un, un, un, un, un, un, un] [(.int (0 : Int32))]))
    refine Go.stp (fun t k => XS.ifYes X0.here hx rfl (pc0 := 13) (pc' := 28) rfl (hb hby at_13) rfl ((if0 _ _).trans (teq (by decide : (0 : Int32) = (0 : Int32))).1) (by decide) (by decide) k) ?_
    show Go p.tables e below G (s₁.setTop (mkF m 28 #[lv q0, sd, iv p1, iv (0 : Int32), un, un, un, un, un, un, un, un] []))
    refine Go.stp (fun t k => XS.lloadN X0.here hx rfl (hb hby at_28) rfl k) ?_
    show Go p.tables e below G (s₁.setTop (mkF m 29 #[lv q0, sd, iv p1, iv (0 : Int32), un, un, un, un, un, un, un, un] [(.long q0)]))
    refine Go.stp (fun t k => XS.lstore X0.here hx rfl (hb hby at_29) rfl (l' := #[lv q0, sd, iv p1, iv (0 : Int32), lv q0, sd, un, un, un, un, un, un]) rfl k) ?_
    show Go p.tables e below G (s₁.setTop (mkF m 31 #[lv q0, sd, iv p1, iv (0 : Int32), lv q0, sd, un, un, un, un, un, un] []))
    suffices K1 : ∀ z : Int64, z = q0 → Go p.tables e below G (s₁.setTop (mkF m 31 #[lv z, sd, iv p1, iv (0 : Int32), lv z, sd, un, un, un, un, un, un] [])) from K1 _ rfl
    intro z hz
    refine Go.stp (fun t k => XS.lload X0.here hx rfl (hb hby at_31) rfl k) ?_
    show Go p.tables e below G (s₁.setTop (mkF m 33 #[lv z, sd, iv p1, iv (0 : Int32), lv z, sd, un, un, un, un, un, un] [(.long z)]))
    obtain ⟨_, _, ⟨T2, L2, k2, n2⟩, -, X2, ⟨Lc2, hQ2, l2, y2, z2⟩, st2⟩ := Jvm.LawKit.callS X0 hx (y := (⟨"com/example/malla/malla/perfect/PerfectTable", "hashedForm", "(J)J"⟩ : MethodName)) hown (mvT hZ (hw _ (List.mem_of_getElem? (i := 0) rfl))) (mvT hZ (hw _ (List.mem_of_getElem? (i := 1) rfl))) (mvT hZ (hw _ (List.mem_of_getElem? (i := 2) rfl))) (mvT hZ (hw _ (List.mem_of_getElem? (i := 3) rfl))) (by decide) (backOf (W := 0) (rm1 l Z a0 hw [] z  h0 n0 Z0 ) hZ (hw _ (List.mem_of_getElem? (i := 3) rfl)) (hw _ (List.mem_of_getElem? (i := 2) rfl)) (by decide) (by decide)) (g := (mkF m 33 #[lv z, sd, iv p1, iv (0 : Int32), lv z, sd, un, un, un, un, un, un] [(.long z)])) rfl (by rw [hml]; rfl) (argsL := [(.long z)]) (rest := []) (lenOf pd_0 rfl) rfl (by show 2 * 0 + _ ≤ _; exact Nat.le_of_eq rfl) (hb hby at_33) (fun _ _ => ⟨rfl, e0, (by decide : 0 + 0 ≤ _), (by decide : 0 + 0 ≤ _)⟩)
    dsimp only [Pt.U, Pt.locs, Pt.cells, Pt.slots] at X2 l2 y2 z2 st2 hQ2
    subst l2 y2 z2
    obtain ⟨rfl, Nq2, e2⟩ := hQ2
    have N2 := Fr.app N0 Nq2
    refine Go.stp (fun t k => st2 t k) ?_
    show Go p.tables e below G (T2.setTop (mkF m 36 #[lv z, sd, iv p1, iv (0 : Int32), lv z, sd, un, un, un, un, un, un] [(.long (own_hf z))]))
    refine Go.stp (fun t k => XS.lstore X2.here hx rfl (hb hby at_36) rfl (l' := #[lv z, sd, iv p1, iv (0 : Int32), lv z, sd, lv (own_hf z), sd, un, un, un, un]) rfl k) ?_
    show Go p.tables e below G (T2.setTop (mkF m 38 #[lv z, sd, iv p1, iv (0 : Int32), lv z, sd, lv (own_hf z), sd, un, un, un, un] []))
    refine Go.stp (fun t k => XS.lload X2.here hx rfl (hb hby at_38) rfl k) ?_
    show Go p.tables e below G (T2.setTop (mkF m 40 #[lv z, sd, iv p1, iv (0 : Int32), lv z, sd, lv (own_hf z), sd, un, un, un, un] [(.long z)]))
    refine Go.stp (fun t k => XS.iconst X2.here hx rfl (hb hby at_40) k) ?_
    show Go p.tables e below G (T2.setTop (mkF m 41 #[lv z, sd, iv p1, iv (0 : Int32), lv z, sd, lv (own_hf z), sd, un, un, un, un] [(.int (1 : Int32)), (.long z)]))
    refine Go.stp (fun t k => XS.lushr X2.here hx rfl (hb hby at_41) rfl k) ?_
    show Go p.tables e below G (T2.setTop (mkF m 42 #[lv z, sd, iv p1, iv (0 : Int32), lv z, sd, lv (own_hf z), sd, un, un, un, un] [(.long ((z.toUInt64 >>> ((1 : Int32) &&& 0x3f).toInt64.toUInt64).toInt64))]))
    refine Go.stp (fun t k => XS.lstore X2.here hx rfl (hb hby at_42) rfl (l' := #[lv z, sd, iv p1, iv (0 : Int32), lv z, sd, lv (own_hf z), sd, lv ((z.toUInt64 >>> ((1 : Int32) &&& 0x3f).toInt64.toUInt64).toInt64), sd, un, un]) rfl k) ?_
    show Go p.tables e below G (T2.setTop (mkF m 44 #[lv z, sd, iv p1, iv (0 : Int32), lv z, sd, lv (own_hf z), sd, lv ((z.toUInt64 >>> ((1 : Int32) &&& 0x3f).toInt64.toUInt64).toInt64), sd, un, un] []))
    refine Go.stp (fun t k => XS.lload X2.here hx rfl (hb hby at_44) rfl k) ?_
    show Go p.tables e below G (T2.setTop (mkF m 46 #[lv z, sd, iv p1, iv (0 : Int32), lv z, sd, lv (own_hf z), sd, lv ((z.toUInt64 >>> ((1 : Int32) &&& 0x3f).toInt64.toUInt64).toInt64), sd, un, un] [(.long ((z.toUInt64 >>> ((1 : Int32) &&& 0x3f).toInt64.toUInt64).toInt64))]))
    refine Go.stp (fun t k => X2.ldc2Long hx hown (mvT hZ (hw _ (List.mem_of_getElem? (i := 5) rfl))) (g := (mkF m 46 #[lv z, sd, iv p1, iv (0 : Int32), lv z, sd, lv (own_hf z), sd, lv ((z.toUInt64 >>> ((1 : Int32) &&& 0x3f).toInt64.toUInt64).toInt64), sd, un, un] [(.long ((z.toUInt64 >>> ((1 : Int32) &&& 0x3f).toInt64.toUInt64).toInt64))])) rfl (hb hby at_46) t k) ?_
    show Go p.tables e below G (T2.setTop (mkF m 49 #[lv z, sd, iv p1, iv (0 : Int32), lv z, sd, lv (own_hf z), sd, lv ((z.toUInt64 >>> ((1 : Int32) &&& 0x3f).toInt64.toUInt64).toInt64), sd, un, un] [(.long (9223372036854775783 : Int64)), (.long ((z.toUInt64 >>> ((1 : Int32) &&& 0x3f).toInt64.toUInt64).toInt64))]))
    refine Go.stp (fun t k => XS.lrem X2.here hx rfl (hb hby at_49) rfl (by decide) k) ?_
    show Go p.tables e below G (T2.setTop (mkF m 50 #[lv z, sd, iv p1, iv (0 : Int32), lv z, sd, lv (own_hf z), sd, lv ((z.toUInt64 >>> ((1 : Int32) &&& 0x3f).toInt64.toUInt64).toInt64), sd, un, un] [(.long (((z.toUInt64 >>> ((1 : Int32) &&& 0x3f).toInt64.toUInt64).toInt64) - (((z.toUInt64 >>> ((1 : Int32) &&& 0x3f).toInt64.toUInt64).toInt64) / (9223372036854775783 : Int64)) * (9223372036854775783 : Int64)))]))
    refine Go.stp (fun t k => XS.lstore X2.here hx rfl (hb hby at_50) rfl (l' := #[lv z, sd, iv p1, iv (0 : Int32), lv z, sd, lv (own_hf z), sd, lv ((z.toUInt64 >>> ((1 : Int32) &&& 0x3f).toInt64.toUInt64).toInt64), sd, lv (((z.toUInt64 >>> ((1 : Int32) &&& 0x3f).toInt64.toUInt64).toInt64) - (((z.toUInt64 >>> ((1 : Int32) &&& 0x3f).toInt64.toUInt64).toInt64) / (9223372036854775783 : Int64)) * (9223372036854775783 : Int64)), sd]) rfl k) ?_
    show Go p.tables e below G (T2.setTop (mkF m 52 #[lv z, sd, iv p1, iv (0 : Int32), lv z, sd, lv (own_hf z), sd, lv ((z.toUInt64 >>> ((1 : Int32) &&& 0x3f).toInt64.toUInt64).toInt64), sd, lv (((z.toUInt64 >>> ((1 : Int32) &&& 0x3f).toInt64.toUInt64).toInt64) - (((z.toUInt64 >>> ((1 : Int32) &&& 0x3f).toInt64.toUInt64).toInt64) / (9223372036854775783 : Int64)) * (9223372036854775783 : Int64)), sd] []))
    refine Go.stp (fun t k => XS.lload X2.here hx rfl (hb hby at_52) rfl k) ?_
    show Go p.tables e below G (T2.setTop (mkF m 54 #[lv z, sd, iv p1, iv (0 : Int32), lv z, sd, lv (own_hf z), sd, lv ((z.toUInt64 >>> ((1 : Int32) &&& 0x3f).toInt64.toUInt64).toInt64), sd, lv (((z.toUInt64 >>> ((1 : Int32) &&& 0x3f).toInt64.toUInt64).toInt64) - (((z.toUInt64 >>> ((1 : Int32) &&& 0x3f).toInt64.toUInt64).toInt64) / (9223372036854775783 : Int64)) * (9223372036854775783 : Int64)), sd] [(.long (own_hf z))]))
    refine Go.stp (fun t k => XS.lload X2.here hx rfl (hb hby at_54) rfl k) ?_
    show Go p.tables e below G (T2.setTop (mkF m 56 #[lv z, sd, iv p1, iv (0 : Int32), lv z, sd, lv (own_hf z), sd, lv ((z.toUInt64 >>> ((1 : Int32) &&& 0x3f).toInt64.toUInt64).toInt64), sd, lv (((z.toUInt64 >>> ((1 : Int32) &&& 0x3f).toInt64.toUInt64).toInt64) - (((z.toUInt64 >>> ((1 : Int32) &&& 0x3f).toInt64.toUInt64).toInt64) / (9223372036854775783 : Int64)) * (9223372036854775783 : Int64)), sd] [(.long (((z.toUInt64 >>> ((1 : Int32) &&& 0x3f).toInt64.toUInt64).toInt64) - (((z.toUInt64 >>> ((1 : Int32) &&& 0x3f).toInt64.toUInt64).toInt64) / (9223372036854775783 : Int64)) * (9223372036854775783 : Int64))), (.long (own_hf z))]))
    refine Go.stp (fun t k => XS.lcmp X2.here hx rfl (hb hby at_56) rfl k) ?_
    show Go p.tables e below G (T2.setTop (mkF m 57 #[lv z, sd, iv p1, iv (0 : Int32), lv z, sd, lv (own_hf z), sd, lv ((z.toUInt64 >>> ((1 : Int32) &&& 0x3f).toInt64.toUInt64).toInt64), sd, lv (((z.toUInt64 >>> ((1 : Int32) &&& 0x3f).toInt64.toUInt64).toInt64) - (((z.toUInt64 >>> ((1 : Int32) &&& 0x3f).toInt64.toUInt64).toInt64) / (9223372036854775783 : Int64)) * (9223372036854775783 : Int64)), sd] [(.int (lcmpW (own_hf z) (((z.toUInt64 >>> ((1 : Int32) &&& 0x3f).toInt64.toUInt64).toInt64) - (((z.toUInt64 >>> ((1 : Int32) &&& 0x3f).toInt64.toUInt64).toInt64) / (9223372036854775783 : Int64)) * (9223372036854775783 : Int64))))]))
    have hd57 : (own_hf z) = (((z.toUInt64 >>> ((1 : Int32) &&& 0x3f).toInt64.toUInt64).toInt64) - (((z.toUInt64 >>> ((1 : Int32) &&& 0x3f).toInt64.toUInt64).toInt64) / (9223372036854775783 : Int64)) * (9223372036854775783 : Int64)) := own_eq z
    refine Go.stp (fun t k => XS.ifNo X2.here hx rfl (hb hby at_57) rfl ((if0 _ _).trans (teq ((lw_eq (own_hf z) (((z.toUInt64 >>> ((1 : Int32) &&& 0x3f).toInt64.toUInt64).toInt64) - (((z.toUInt64 >>> ((1 : Int32) &&& 0x3f).toInt64.toUInt64).toInt64) / (9223372036854775783 : Int64)) * (9223372036854775783 : Int64))).mpr hd57)).2) k) ?_
    show Go p.tables e below G (T2.setTop (mkF m 60 #[lv z, sd, iv p1, iv (0 : Int32), lv z, sd, lv (own_hf z), sd, lv ((z.toUInt64 >>> ((1 : Int32) &&& 0x3f).toInt64.toUInt64).toInt64), sd, lv (((z.toUInt64 >>> ((1 : Int32) &&& 0x3f).toInt64.toUInt64).toInt64) - (((z.toUInt64 >>> ((1 : Int32) &&& 0x3f).toInt64.toUInt64).toInt64) / (9223372036854775783 : Int64)) * (9223372036854775783 : Int64)), sd] []))
    refine Go.stp (fun t k => XS.lload X2.here hx rfl (hb hby at_60) rfl k) ?_
    show Go p.tables e below G (T2.setTop (mkF m 62 #[lv z, sd, iv p1, iv (0 : Int32), lv z, sd, lv (own_hf z), sd, lv ((z.toUInt64 >>> ((1 : Int32) &&& 0x3f).toInt64.toUInt64).toInt64), sd, lv (((z.toUInt64 >>> ((1 : Int32) &&& 0x3f).toInt64.toUInt64).toInt64) - (((z.toUInt64 >>> ((1 : Int32) &&& 0x3f).toInt64.toUInt64).toInt64) / (9223372036854775783 : Int64)) * (9223372036854775783 : Int64)), sd] [(.long (own_hf z))]))
    refine Go.stp (fun t k => XS.lconst X2.here hx rfl (hb hby at_62) k) ?_
    show Go p.tables e below G (T2.setTop (mkF m 63 #[lv z, sd, iv p1, iv (0 : Int32), lv z, sd, lv (own_hf z), sd, lv ((z.toUInt64 >>> ((1 : Int32) &&& 0x3f).toInt64.toUInt64).toInt64), sd, lv (((z.toUInt64 >>> ((1 : Int32) &&& 0x3f).toInt64.toUInt64).toInt64) - (((z.toUInt64 >>> ((1 : Int32) &&& 0x3f).toInt64.toUInt64).toInt64) / (9223372036854775783 : Int64)) * (9223372036854775783 : Int64)), sd] [(.long (0 : Int64)), (.long (own_hf z))]))
    refine Go.stp (fun t k => XS.lcmp X2.here hx rfl (hb hby at_63) rfl k) ?_
    show Go p.tables e below G (T2.setTop (mkF m 64 #[lv z, sd, iv p1, iv (0 : Int32), lv z, sd, lv (own_hf z), sd, lv ((z.toUInt64 >>> ((1 : Int32) &&& 0x3f).toInt64.toUInt64).toInt64), sd, lv (((z.toUInt64 >>> ((1 : Int32) &&& 0x3f).toInt64.toUInt64).toInt64) - (((z.toUInt64 >>> ((1 : Int32) &&& 0x3f).toInt64.toUInt64).toInt64) / (9223372036854775783 : Int64)) * (9223372036854775783 : Int64)), sd] [(.int (lcmpW (own_hf z) (0 : Int64)))]))
    have hd64 : ¬ ((own_hf z) < (0 : Int64)) := own_nn z
    refine Go.stp (fun t k => XS.ifNo X2.here hx rfl (hb hby at_64) rfl ((if0 _ _).trans (flt (fun q => hd64 ((lw_lt (own_hf z) (0 : Int64)).mp q))).1) k) ?_
    show Go p.tables e below G (T2.setTop (mkF m 67 #[lv z, sd, iv p1, iv (0 : Int32), lv z, sd, lv (own_hf z), sd, lv ((z.toUInt64 >>> ((1 : Int32) &&& 0x3f).toInt64.toUInt64).toInt64), sd, lv (((z.toUInt64 >>> ((1 : Int32) &&& 0x3f).toInt64.toUInt64).toInt64) - (((z.toUInt64 >>> ((1 : Int32) &&& 0x3f).toInt64.toUInt64).toInt64) / (9223372036854775783 : Int64)) * (9223372036854775783 : Int64)), sd] []))
    refine Go.stp (fun t k => XS.lload X2.here hx rfl (hb hby at_67) rfl k) ?_
    show Go p.tables e below G (T2.setTop (mkF m 69 #[lv z, sd, iv p1, iv (0 : Int32), lv z, sd, lv (own_hf z), sd, lv ((z.toUInt64 >>> ((1 : Int32) &&& 0x3f).toInt64.toUInt64).toInt64), sd, lv (((z.toUInt64 >>> ((1 : Int32) &&& 0x3f).toInt64.toUInt64).toInt64) - (((z.toUInt64 >>> ((1 : Int32) &&& 0x3f).toInt64.toUInt64).toInt64) / (9223372036854775783 : Int64)) * (9223372036854775783 : Int64)), sd] [(.long (own_hf z))]))
    refine Go.stp (fun t k => X2.ldc2Long hx hown (mvT hZ (hw _ (List.mem_of_getElem? (i := 5) rfl))) (g := (mkF m 69 #[lv z, sd, iv p1, iv (0 : Int32), lv z, sd, lv (own_hf z), sd, lv ((z.toUInt64 >>> ((1 : Int32) &&& 0x3f).toInt64.toUInt64).toInt64), sd, lv (((z.toUInt64 >>> ((1 : Int32) &&& 0x3f).toInt64.toUInt64).toInt64) - (((z.toUInt64 >>> ((1 : Int32) &&& 0x3f).toInt64.toUInt64).toInt64) / (9223372036854775783 : Int64)) * (9223372036854775783 : Int64)), sd] [(.long (own_hf z))])) rfl (hb hby at_69) t k) ?_
    show Go p.tables e below G (T2.setTop (mkF m 72 #[lv z, sd, iv p1, iv (0 : Int32), lv z, sd, lv (own_hf z), sd, lv ((z.toUInt64 >>> ((1 : Int32) &&& 0x3f).toInt64.toUInt64).toInt64), sd, lv (((z.toUInt64 >>> ((1 : Int32) &&& 0x3f).toInt64.toUInt64).toInt64) - (((z.toUInt64 >>> ((1 : Int32) &&& 0x3f).toInt64.toUInt64).toInt64) / (9223372036854775783 : Int64)) * (9223372036854775783 : Int64)), sd] [(.long (9223372036854775783 : Int64)), (.long (own_hf z))]))
    refine Go.stp (fun t k => XS.lcmp X2.here hx rfl (hb hby at_72) rfl k) ?_
    show Go p.tables e below G (T2.setTop (mkF m 73 #[lv z, sd, iv p1, iv (0 : Int32), lv z, sd, lv (own_hf z), sd, lv ((z.toUInt64 >>> ((1 : Int32) &&& 0x3f).toInt64.toUInt64).toInt64), sd, lv (((z.toUInt64 >>> ((1 : Int32) &&& 0x3f).toInt64.toUInt64).toInt64) - (((z.toUInt64 >>> ((1 : Int32) &&& 0x3f).toInt64.toUInt64).toInt64) / (9223372036854775783 : Int64)) * (9223372036854775783 : Int64)), sd] [(.int (lcmpW (own_hf z) (9223372036854775783 : Int64)))]))
    have hd73 : (own_hf z) < (9223372036854775783 : Int64) := own_lt z
    refine Go.stp (fun t k => XS.ifNo X2.here hx rfl (hb hby at_73) rfl ((if0 _ _).trans (tlt ((lw_lt (own_hf z) (9223372036854775783 : Int64)).mpr hd73)).2.1) k) ?_
    show Go p.tables e below G (T2.setTop (mkF m 76 #[lv z, sd, iv p1, iv (0 : Int32), lv z, sd, lv (own_hf z), sd, lv ((z.toUInt64 >>> ((1 : Int32) &&& 0x3f).toInt64.toUInt64).toInt64), sd, lv (((z.toUInt64 >>> ((1 : Int32) &&& 0x3f).toInt64.toUInt64).toInt64) - (((z.toUInt64 >>> ((1 : Int32) &&& 0x3f).toInt64.toUInt64).toInt64) / (9223372036854775783 : Int64)) * (9223372036854775783 : Int64)), sd] []))
    refine Go.stp (fun t k => XS.iconst X2.here hx rfl (hb hby at_76) k) ?_
    show Go p.tables e below G (T2.setTop (mkF m 77 #[lv z, sd, iv p1, iv (0 : Int32), lv z, sd, lv (own_hf z), sd, lv ((z.toUInt64 >>> ((1 : Int32) &&& 0x3f).toInt64.toUInt64).toInt64), sd, lv (((z.toUInt64 >>> ((1 : Int32) &&& 0x3f).toInt64.toUInt64).toInt64) - (((z.toUInt64 >>> ((1 : Int32) &&& 0x3f).toInt64.toUInt64).toInt64) / (9223372036854775783 : Int64)) * (9223372036854775783 : Int64)), sd] [(.int (1 : Int32))]))
    refine Go.stp (fun t k => XS.goto X2.here hx rfl (pc0 := 77) (pc' := 81) rfl (hb hby at_77) (by decide) (by decide) k) ?_
    show Go p.tables e below G (T2.setTop (mkF m 81 #[lv z, sd, iv p1, iv (0 : Int32), lv z, sd, lv (own_hf z), sd, lv ((z.toUInt64 >>> ((1 : Int32) &&& 0x3f).toInt64.toUInt64).toInt64), sd, lv (((z.toUInt64 >>> ((1 : Int32) &&& 0x3f).toInt64.toUInt64).toInt64) - (((z.toUInt64 >>> ((1 : Int32) &&& 0x3f).toInt64.toUInt64).toInt64) / (9223372036854775783 : Int64)) * (9223372036854775783 : Int64)), sd] [(.int (1 : Int32))]))
    obtain ⟨fs, hr, hrun, hended, hW, hsame⟩ := X2.leave (v := some (.int (1 : Int32))) (fun h => by rw [Bd.returns] at h; cases h)
    refine ⟨_, _, retN X2 hx (t := .boolean) Bd.returns (by simp) (hb hby at_81) hr, hrun, hended, hG _ _ _ ?_ ⟨⟨_, rfl⟩, hW, hsame.mono (by decide) (by decide)⟩⟩
    show Q0 Z q0 p1 h0 n0 _ T2.heap _
    rw [e2]
    exact ⟨rfl, N2⟩
  · refine Go.stp (fun t k => XS.ifNo X0.here hx rfl (hb hby at_3) rfl ((if0 _ _).trans (feq hc3).1) k) ?_
    show Go p.tables e below G (s₁.setTop (mkF m 6 #[lv q0, sd, iv p1, un, un, un, un, un, un, un, un, un] []))
    refine Go.stp (fun t k => XS.iconst X0.here hx rfl (hb hby at_6) k) ?_
    show Go p.tables e below G (s₁.setTop (mkF m 7 #[lv q0, sd, iv p1, un, un, un, un, un, un, un, un, un] [(.int (1 : Int32))]))
    refine Go.stp (fun t k => XS.goto X0.here hx rfl (pc0 := 7) (pc' := 11) rfl (hb hby at_7) (by decide) (by decide) k) ?_
    show Go p.tables e below G (s₁.setTop (mkF m 11 #[lv q0, sd, iv p1, un, un, un, un, un, un, un, un, un] [(.int (1 : Int32))]))
    refine Go.stp (fun t k => XS.istoreN X0.here hx rfl (hb hby at_11) rfl (l' := #[lv q0, sd, iv p1, iv (1 : Int32), un, un, un, un, un, un, un, un]) rfl k) ?_
    show Go p.tables e below G (s₁.setTop (mkF m 12 #[lv q0, sd, iv p1, iv (1 : Int32), un, un, un, un, un, un, un, un] []))
    refine Go.stp (fun t k => XS.iloadN X0.here hx rfl (hb hby at_12) rfl k) ?_
    show Go p.tables e below G (s₁.setTop (mkF m 13 #[lv q0, sd, iv p1, iv (1 : Int32), un, un, un, un, un, un, un, un] [(.int (1 : Int32))]))
    refine Go.stp (fun t k => XS.ifNo X0.here hx rfl (hb hby at_13) rfl ((if0 _ _).trans (feq (by decide : ¬ ((1 : Int32) = (0 : Int32)))).1) k) ?_
    show Go p.tables e below G (s₁.setTop (mkF m 16 #[lv q0, sd, iv p1, iv (1 : Int32), un, un, un, un, un, un, un, un] []))
    refine Go.stp (fun t k => X0.ldc2Long hx hown (mvT hZ (hw _ (List.mem_of_getElem? (i := 6) rfl))) (g := (mkF m 16 #[lv q0, sd, iv p1, iv (1 : Int32), un, un, un, un, un, un, un, un] [])) rfl (hb hby at_16) t k) ?_
    show Go p.tables e below G (s₁.setTop (mkF m 19 #[lv q0, sd, iv p1, iv (1 : Int32), un, un, un, un, un, un, un, un] [(.long (-1 : Int64))]))
    refine Go.stp (fun t k => XS.lloadN X0.here hx rfl (hb hby at_19) rfl k) ?_
    show Go p.tables e below G (s₁.setTop (mkF m 20 #[lv q0, sd, iv p1, iv (1 : Int32), un, un, un, un, un, un, un, un] [(.long q0), (.long (-1 : Int64))]))
    refine Go.stp (fun t k => X0.ldc2Long hx hown (mvT hZ (hw _ (List.mem_of_getElem? (i := 7) rfl))) (g := (mkF m 20 #[lv q0, sd, iv p1, iv (1 : Int32), un, un, un, un, un, un, un, un] [(.long q0), (.long (-1 : Int64))])) rfl (hb hby at_20) t k) ?_
    show Go p.tables e below G (s₁.setTop (mkF m 23 #[lv q0, sd, iv p1, iv (1 : Int32), un, un, un, un, un, un, un, un] [(.long (63 : Int64)), (.long q0), (.long (-1 : Int64))]))
    refine Go.stp (fun t k => XS.land X0.here hx rfl (hb hby at_23) rfl k) ?_
    show Go p.tables e below G (s₁.setTop (mkF m 24 #[lv q0, sd, iv p1, iv (1 : Int32), un, un, un, un, un, un, un, un] [(.long (q0 &&& (63 : Int64))), (.long (-1 : Int64))]))
    refine Go.stp (fun t k => XS.lsub X0.here hx rfl (hb hby at_24) rfl k) ?_
    show Go p.tables e below G (s₁.setTop (mkF m 25 #[lv q0, sd, iv p1, iv (1 : Int32), un, un, un, un, un, un, un, un] [(.long ((-1 : Int64) - (q0 &&& (63 : Int64))))]))
    refine Go.stp (fun t k => XS.goto X0.here hx rfl (pc0 := 25) (pc' := 29) rfl (hb hby at_25) (by decide) (by decide) k) ?_
    show Go p.tables e below G (s₁.setTop (mkF m 29 #[lv q0, sd, iv p1, iv (1 : Int32), un, un, un, un, un, un, un, un] [(.long ((-1 : Int64) - (q0 &&& (63 : Int64))))]))
    refine Go.stp (fun t k => XS.lstore X0.here hx rfl (hb hby at_29) rfl (l' := #[lv q0, sd, iv p1, iv (1 : Int32), lv ((-1 : Int64) - (q0 &&& (63 : Int64))), sd, un, un, un, un, un, un]) rfl k) ?_
    show Go p.tables e below G (s₁.setTop (mkF m 31 #[lv q0, sd, iv p1, iv (1 : Int32), lv ((-1 : Int64) - (q0 &&& (63 : Int64))), sd, un, un, un, un, un, un] []))
    suffices K3 : ∀ z : Int64, z = ((-1 : Int64) - (q0 &&& (63 : Int64))) → Go p.tables e below G (s₁.setTop (mkF m 31 #[lv q0, sd, iv p1, iv (1 : Int32), lv z, sd, un, un, un, un, un, un] [])) from K3 _ rfl
    intro z hz
    refine Go.stp (fun t k => XS.lload X0.here hx rfl (hb hby at_31) rfl k) ?_
    show Go p.tables e below G (s₁.setTop (mkF m 33 #[lv q0, sd, iv p1, iv (1 : Int32), lv z, sd, un, un, un, un, un, un] [(.long z)]))
    obtain ⟨_, _, ⟨T4, L4, k4, n4⟩, -, X4, ⟨Lc4, hQ4, l4, y4, z4⟩, st4⟩ := Jvm.LawKit.callS X0 hx (y := (⟨"com/example/malla/malla/perfect/PerfectTable", "hashedForm", "(J)J"⟩ : MethodName)) hown (mvT hZ (hw _ (List.mem_of_getElem? (i := 0) rfl))) (mvT hZ (hw _ (List.mem_of_getElem? (i := 1) rfl))) (mvT hZ (hw _ (List.mem_of_getElem? (i := 2) rfl))) (mvT hZ (hw _ (List.mem_of_getElem? (i := 3) rfl))) (by decide) (backOf (W := 0) (rm1 l Z a0 hw [] z  h0 n0 Z0 ) hZ (hw _ (List.mem_of_getElem? (i := 3) rfl)) (hw _ (List.mem_of_getElem? (i := 2) rfl)) (by decide) (by decide)) (g := (mkF m 33 #[lv q0, sd, iv p1, iv (1 : Int32), lv z, sd, un, un, un, un, un, un] [(.long z)])) rfl (by rw [hml]; rfl) (argsL := [(.long z)]) (rest := []) (lenOf pd_0 rfl) rfl (by show 2 * 0 + _ ≤ _; exact Nat.le_of_eq rfl) (hb hby at_33) (fun _ _ => ⟨rfl, e0, (by decide : 0 + 0 ≤ _), (by decide : 0 + 0 ≤ _)⟩)
    dsimp only [Pt.U, Pt.locs, Pt.cells, Pt.slots] at X4 l4 y4 z4 st4 hQ4
    subst l4 y4 z4
    obtain ⟨rfl, Nq4, e4⟩ := hQ4
    have N4 := Fr.app N0 Nq4
    refine Go.stp (fun t k => st4 t k) ?_
    show Go p.tables e below G (T4.setTop (mkF m 36 #[lv q0, sd, iv p1, iv (1 : Int32), lv z, sd, un, un, un, un, un, un] [(.long (own_hf z))]))
    refine Go.stp (fun t k => XS.lstore X4.here hx rfl (hb hby at_36) rfl (l' := #[lv q0, sd, iv p1, iv (1 : Int32), lv z, sd, lv (own_hf z), sd, un, un, un, un]) rfl k) ?_
    show Go p.tables e below G (T4.setTop (mkF m 38 #[lv q0, sd, iv p1, iv (1 : Int32), lv z, sd, lv (own_hf z), sd, un, un, un, un] []))
    refine Go.stp (fun t k => XS.lload X4.here hx rfl (hb hby at_38) rfl k) ?_
    show Go p.tables e below G (T4.setTop (mkF m 40 #[lv q0, sd, iv p1, iv (1 : Int32), lv z, sd, lv (own_hf z), sd, un, un, un, un] [(.long z)]))
    refine Go.stp (fun t k => XS.iconst X4.here hx rfl (hb hby at_40) k) ?_
    show Go p.tables e below G (T4.setTop (mkF m 41 #[lv q0, sd, iv p1, iv (1 : Int32), lv z, sd, lv (own_hf z), sd, un, un, un, un] [(.int (1 : Int32)), (.long z)]))
    refine Go.stp (fun t k => XS.lushr X4.here hx rfl (hb hby at_41) rfl k) ?_
    show Go p.tables e below G (T4.setTop (mkF m 42 #[lv q0, sd, iv p1, iv (1 : Int32), lv z, sd, lv (own_hf z), sd, un, un, un, un] [(.long ((z.toUInt64 >>> ((1 : Int32) &&& 0x3f).toInt64.toUInt64).toInt64))]))
    refine Go.stp (fun t k => XS.lstore X4.here hx rfl (hb hby at_42) rfl (l' := #[lv q0, sd, iv p1, iv (1 : Int32), lv z, sd, lv (own_hf z), sd, lv ((z.toUInt64 >>> ((1 : Int32) &&& 0x3f).toInt64.toUInt64).toInt64), sd, un, un]) rfl k) ?_
    show Go p.tables e below G (T4.setTop (mkF m 44 #[lv q0, sd, iv p1, iv (1 : Int32), lv z, sd, lv (own_hf z), sd, lv ((z.toUInt64 >>> ((1 : Int32) &&& 0x3f).toInt64.toUInt64).toInt64), sd, un, un] []))
    refine Go.stp (fun t k => XS.lload X4.here hx rfl (hb hby at_44) rfl k) ?_
    show Go p.tables e below G (T4.setTop (mkF m 46 #[lv q0, sd, iv p1, iv (1 : Int32), lv z, sd, lv (own_hf z), sd, lv ((z.toUInt64 >>> ((1 : Int32) &&& 0x3f).toInt64.toUInt64).toInt64), sd, un, un] [(.long ((z.toUInt64 >>> ((1 : Int32) &&& 0x3f).toInt64.toUInt64).toInt64))]))
    refine Go.stp (fun t k => X4.ldc2Long hx hown (mvT hZ (hw _ (List.mem_of_getElem? (i := 5) rfl))) (g := (mkF m 46 #[lv q0, sd, iv p1, iv (1 : Int32), lv z, sd, lv (own_hf z), sd, lv ((z.toUInt64 >>> ((1 : Int32) &&& 0x3f).toInt64.toUInt64).toInt64), sd, un, un] [(.long ((z.toUInt64 >>> ((1 : Int32) &&& 0x3f).toInt64.toUInt64).toInt64))])) rfl (hb hby at_46) t k) ?_
    show Go p.tables e below G (T4.setTop (mkF m 49 #[lv q0, sd, iv p1, iv (1 : Int32), lv z, sd, lv (own_hf z), sd, lv ((z.toUInt64 >>> ((1 : Int32) &&& 0x3f).toInt64.toUInt64).toInt64), sd, un, un] [(.long (9223372036854775783 : Int64)), (.long ((z.toUInt64 >>> ((1 : Int32) &&& 0x3f).toInt64.toUInt64).toInt64))]))
    refine Go.stp (fun t k => XS.lrem X4.here hx rfl (hb hby at_49) rfl (by decide) k) ?_
    show Go p.tables e below G (T4.setTop (mkF m 50 #[lv q0, sd, iv p1, iv (1 : Int32), lv z, sd, lv (own_hf z), sd, lv ((z.toUInt64 >>> ((1 : Int32) &&& 0x3f).toInt64.toUInt64).toInt64), sd, un, un] [(.long (((z.toUInt64 >>> ((1 : Int32) &&& 0x3f).toInt64.toUInt64).toInt64) - (((z.toUInt64 >>> ((1 : Int32) &&& 0x3f).toInt64.toUInt64).toInt64) / (9223372036854775783 : Int64)) * (9223372036854775783 : Int64)))]))
    refine Go.stp (fun t k => XS.lstore X4.here hx rfl (hb hby at_50) rfl (l' := #[lv q0, sd, iv p1, iv (1 : Int32), lv z, sd, lv (own_hf z), sd, lv ((z.toUInt64 >>> ((1 : Int32) &&& 0x3f).toInt64.toUInt64).toInt64), sd, lv (((z.toUInt64 >>> ((1 : Int32) &&& 0x3f).toInt64.toUInt64).toInt64) - (((z.toUInt64 >>> ((1 : Int32) &&& 0x3f).toInt64.toUInt64).toInt64) / (9223372036854775783 : Int64)) * (9223372036854775783 : Int64)), sd]) rfl k) ?_
    show Go p.tables e below G (T4.setTop (mkF m 52 #[lv q0, sd, iv p1, iv (1 : Int32), lv z, sd, lv (own_hf z), sd, lv ((z.toUInt64 >>> ((1 : Int32) &&& 0x3f).toInt64.toUInt64).toInt64), sd, lv (((z.toUInt64 >>> ((1 : Int32) &&& 0x3f).toInt64.toUInt64).toInt64) - (((z.toUInt64 >>> ((1 : Int32) &&& 0x3f).toInt64.toUInt64).toInt64) / (9223372036854775783 : Int64)) * (9223372036854775783 : Int64)), sd] []))
    refine Go.stp (fun t k => XS.lload X4.here hx rfl (hb hby at_52) rfl k) ?_
    show Go p.tables e below G (T4.setTop (mkF m 54 #[lv q0, sd, iv p1, iv (1 : Int32), lv z, sd, lv (own_hf z), sd, lv ((z.toUInt64 >>> ((1 : Int32) &&& 0x3f).toInt64.toUInt64).toInt64), sd, lv (((z.toUInt64 >>> ((1 : Int32) &&& 0x3f).toInt64.toUInt64).toInt64) - (((z.toUInt64 >>> ((1 : Int32) &&& 0x3f).toInt64.toUInt64).toInt64) / (9223372036854775783 : Int64)) * (9223372036854775783 : Int64)), sd] [(.long (own_hf z))]))
    refine Go.stp (fun t k => XS.lload X4.here hx rfl (hb hby at_54) rfl k) ?_
    show Go p.tables e below G (T4.setTop (mkF m 56 #[lv q0, sd, iv p1, iv (1 : Int32), lv z, sd, lv (own_hf z), sd, lv ((z.toUInt64 >>> ((1 : Int32) &&& 0x3f).toInt64.toUInt64).toInt64), sd, lv (((z.toUInt64 >>> ((1 : Int32) &&& 0x3f).toInt64.toUInt64).toInt64) - (((z.toUInt64 >>> ((1 : Int32) &&& 0x3f).toInt64.toUInt64).toInt64) / (9223372036854775783 : Int64)) * (9223372036854775783 : Int64)), sd] [(.long (((z.toUInt64 >>> ((1 : Int32) &&& 0x3f).toInt64.toUInt64).toInt64) - (((z.toUInt64 >>> ((1 : Int32) &&& 0x3f).toInt64.toUInt64).toInt64) / (9223372036854775783 : Int64)) * (9223372036854775783 : Int64))), (.long (own_hf z))]))
    refine Go.stp (fun t k => XS.lcmp X4.here hx rfl (hb hby at_56) rfl k) ?_
    show Go p.tables e below G (T4.setTop (mkF m 57 #[lv q0, sd, iv p1, iv (1 : Int32), lv z, sd, lv (own_hf z), sd, lv ((z.toUInt64 >>> ((1 : Int32) &&& 0x3f).toInt64.toUInt64).toInt64), sd, lv (((z.toUInt64 >>> ((1 : Int32) &&& 0x3f).toInt64.toUInt64).toInt64) - (((z.toUInt64 >>> ((1 : Int32) &&& 0x3f).toInt64.toUInt64).toInt64) / (9223372036854775783 : Int64)) * (9223372036854775783 : Int64)), sd] [(.int (lcmpW (own_hf z) (((z.toUInt64 >>> ((1 : Int32) &&& 0x3f).toInt64.toUInt64).toInt64) - (((z.toUInt64 >>> ((1 : Int32) &&& 0x3f).toInt64.toUInt64).toInt64) / (9223372036854775783 : Int64)) * (9223372036854775783 : Int64))))]))
    have hd57 : (own_hf z) = (((z.toUInt64 >>> ((1 : Int32) &&& 0x3f).toInt64.toUInt64).toInt64) - (((z.toUInt64 >>> ((1 : Int32) &&& 0x3f).toInt64.toUInt64).toInt64) / (9223372036854775783 : Int64)) * (9223372036854775783 : Int64)) := own_eq z
    refine Go.stp (fun t k => XS.ifNo X4.here hx rfl (hb hby at_57) rfl ((if0 _ _).trans (teq ((lw_eq (own_hf z) (((z.toUInt64 >>> ((1 : Int32) &&& 0x3f).toInt64.toUInt64).toInt64) - (((z.toUInt64 >>> ((1 : Int32) &&& 0x3f).toInt64.toUInt64).toInt64) / (9223372036854775783 : Int64)) * (9223372036854775783 : Int64))).mpr hd57)).2) k) ?_
    show Go p.tables e below G (T4.setTop (mkF m 60 #[lv q0, sd, iv p1, iv (1 : Int32), lv z, sd, lv (own_hf z), sd, lv ((z.toUInt64 >>> ((1 : Int32) &&& 0x3f).toInt64.toUInt64).toInt64), sd, lv (((z.toUInt64 >>> ((1 : Int32) &&& 0x3f).toInt64.toUInt64).toInt64) - (((z.toUInt64 >>> ((1 : Int32) &&& 0x3f).toInt64.toUInt64).toInt64) / (9223372036854775783 : Int64)) * (9223372036854775783 : Int64)), sd] []))
    refine Go.stp (fun t k => XS.lload X4.here hx rfl (hb hby at_60) rfl k) ?_
    show Go p.tables e below G (T4.setTop (mkF m 62 #[lv q0, sd, iv p1, iv (1 : Int32), lv z, sd, lv (own_hf z), sd, lv ((z.toUInt64 >>> ((1 : Int32) &&& 0x3f).toInt64.toUInt64).toInt64), sd, lv (((z.toUInt64 >>> ((1 : Int32) &&& 0x3f).toInt64.toUInt64).toInt64) - (((z.toUInt64 >>> ((1 : Int32) &&& 0x3f).toInt64.toUInt64).toInt64) / (9223372036854775783 : Int64)) * (9223372036854775783 : Int64)), sd] [(.long (own_hf z))]))
    refine Go.stp (fun t k => XS.lconst X4.here hx rfl (hb hby at_62) k) ?_
    show Go p.tables e below G (T4.setTop (mkF m 63 #[lv q0, sd, iv p1, iv (1 : Int32), lv z, sd, lv (own_hf z), sd, lv ((z.toUInt64 >>> ((1 : Int32) &&& 0x3f).toInt64.toUInt64).toInt64), sd, lv (((z.toUInt64 >>> ((1 : Int32) &&& 0x3f).toInt64.toUInt64).toInt64) - (((z.toUInt64 >>> ((1 : Int32) &&& 0x3f).toInt64.toUInt64).toInt64) / (9223372036854775783 : Int64)) * (9223372036854775783 : Int64)), sd] [(.long (0 : Int64)), (.long (own_hf z))]))
    refine Go.stp (fun t k => XS.lcmp X4.here hx rfl (hb hby at_63) rfl k) ?_
    show Go p.tables e below G (T4.setTop (mkF m 64 #[lv q0, sd, iv p1, iv (1 : Int32), lv z, sd, lv (own_hf z), sd, lv ((z.toUInt64 >>> ((1 : Int32) &&& 0x3f).toInt64.toUInt64).toInt64), sd, lv (((z.toUInt64 >>> ((1 : Int32) &&& 0x3f).toInt64.toUInt64).toInt64) - (((z.toUInt64 >>> ((1 : Int32) &&& 0x3f).toInt64.toUInt64).toInt64) / (9223372036854775783 : Int64)) * (9223372036854775783 : Int64)), sd] [(.int (lcmpW (own_hf z) (0 : Int64)))]))
    have hd64 : ¬ ((own_hf z) < (0 : Int64)) := own_nn z
    refine Go.stp (fun t k => XS.ifNo X4.here hx rfl (hb hby at_64) rfl ((if0 _ _).trans (flt (fun q => hd64 ((lw_lt (own_hf z) (0 : Int64)).mp q))).1) k) ?_
    show Go p.tables e below G (T4.setTop (mkF m 67 #[lv q0, sd, iv p1, iv (1 : Int32), lv z, sd, lv (own_hf z), sd, lv ((z.toUInt64 >>> ((1 : Int32) &&& 0x3f).toInt64.toUInt64).toInt64), sd, lv (((z.toUInt64 >>> ((1 : Int32) &&& 0x3f).toInt64.toUInt64).toInt64) - (((z.toUInt64 >>> ((1 : Int32) &&& 0x3f).toInt64.toUInt64).toInt64) / (9223372036854775783 : Int64)) * (9223372036854775783 : Int64)), sd] []))
    refine Go.stp (fun t k => XS.lload X4.here hx rfl (hb hby at_67) rfl k) ?_
    show Go p.tables e below G (T4.setTop (mkF m 69 #[lv q0, sd, iv p1, iv (1 : Int32), lv z, sd, lv (own_hf z), sd, lv ((z.toUInt64 >>> ((1 : Int32) &&& 0x3f).toInt64.toUInt64).toInt64), sd, lv (((z.toUInt64 >>> ((1 : Int32) &&& 0x3f).toInt64.toUInt64).toInt64) - (((z.toUInt64 >>> ((1 : Int32) &&& 0x3f).toInt64.toUInt64).toInt64) / (9223372036854775783 : Int64)) * (9223372036854775783 : Int64)), sd] [(.long (own_hf z))]))
    refine Go.stp (fun t k => X4.ldc2Long hx hown (mvT hZ (hw _ (List.mem_of_getElem? (i := 5) rfl))) (g := (mkF m 69 #[lv q0, sd, iv p1, iv (1 : Int32), lv z, sd, lv (own_hf z), sd, lv ((z.toUInt64 >>> ((1 : Int32) &&& 0x3f).toInt64.toUInt64).toInt64), sd, lv (((z.toUInt64 >>> ((1 : Int32) &&& 0x3f).toInt64.toUInt64).toInt64) - (((z.toUInt64 >>> ((1 : Int32) &&& 0x3f).toInt64.toUInt64).toInt64) / (9223372036854775783 : Int64)) * (9223372036854775783 : Int64)), sd] [(.long (own_hf z))])) rfl (hb hby at_69) t k) ?_
    show Go p.tables e below G (T4.setTop (mkF m 72 #[lv q0, sd, iv p1, iv (1 : Int32), lv z, sd, lv (own_hf z), sd, lv ((z.toUInt64 >>> ((1 : Int32) &&& 0x3f).toInt64.toUInt64).toInt64), sd, lv (((z.toUInt64 >>> ((1 : Int32) &&& 0x3f).toInt64.toUInt64).toInt64) - (((z.toUInt64 >>> ((1 : Int32) &&& 0x3f).toInt64.toUInt64).toInt64) / (9223372036854775783 : Int64)) * (9223372036854775783 : Int64)), sd] [(.long (9223372036854775783 : Int64)), (.long (own_hf z))]))
    refine Go.stp (fun t k => XS.lcmp X4.here hx rfl (hb hby at_72) rfl k) ?_
    show Go p.tables e below G (T4.setTop (mkF m 73 #[lv q0, sd, iv p1, iv (1 : Int32), lv z, sd, lv (own_hf z), sd, lv ((z.toUInt64 >>> ((1 : Int32) &&& 0x3f).toInt64.toUInt64).toInt64), sd, lv (((z.toUInt64 >>> ((1 : Int32) &&& 0x3f).toInt64.toUInt64).toInt64) - (((z.toUInt64 >>> ((1 : Int32) &&& 0x3f).toInt64.toUInt64).toInt64) / (9223372036854775783 : Int64)) * (9223372036854775783 : Int64)), sd] [(.int (lcmpW (own_hf z) (9223372036854775783 : Int64)))]))
    have hd73 : (own_hf z) < (9223372036854775783 : Int64) := own_lt z
    refine Go.stp (fun t k => XS.ifNo X4.here hx rfl (hb hby at_73) rfl ((if0 _ _).trans (tlt ((lw_lt (own_hf z) (9223372036854775783 : Int64)).mpr hd73)).2.1) k) ?_
    show Go p.tables e below G (T4.setTop (mkF m 76 #[lv q0, sd, iv p1, iv (1 : Int32), lv z, sd, lv (own_hf z), sd, lv ((z.toUInt64 >>> ((1 : Int32) &&& 0x3f).toInt64.toUInt64).toInt64), sd, lv (((z.toUInt64 >>> ((1 : Int32) &&& 0x3f).toInt64.toUInt64).toInt64) - (((z.toUInt64 >>> ((1 : Int32) &&& 0x3f).toInt64.toUInt64).toInt64) / (9223372036854775783 : Int64)) * (9223372036854775783 : Int64)), sd] []))
    refine Go.stp (fun t k => XS.iconst X4.here hx rfl (hb hby at_76) k) ?_
    show Go p.tables e below G (T4.setTop (mkF m 77 #[lv q0, sd, iv p1, iv (1 : Int32), lv z, sd, lv (own_hf z), sd, lv ((z.toUInt64 >>> ((1 : Int32) &&& 0x3f).toInt64.toUInt64).toInt64), sd, lv (((z.toUInt64 >>> ((1 : Int32) &&& 0x3f).toInt64.toUInt64).toInt64) - (((z.toUInt64 >>> ((1 : Int32) &&& 0x3f).toInt64.toUInt64).toInt64) / (9223372036854775783 : Int64)) * (9223372036854775783 : Int64)), sd] [(.int (1 : Int32))]))
    refine Go.stp (fun t k => XS.goto X4.here hx rfl (pc0 := 77) (pc' := 81) rfl (hb hby at_77) (by decide) (by decide) k) ?_
    show Go p.tables e below G (T4.setTop (mkF m 81 #[lv q0, sd, iv p1, iv (1 : Int32), lv z, sd, lv (own_hf z), sd, lv ((z.toUInt64 >>> ((1 : Int32) &&& 0x3f).toInt64.toUInt64).toInt64), sd, lv (((z.toUInt64 >>> ((1 : Int32) &&& 0x3f).toInt64.toUInt64).toInt64) - (((z.toUInt64 >>> ((1 : Int32) &&& 0x3f).toInt64.toUInt64).toInt64) / (9223372036854775783 : Int64)) * (9223372036854775783 : Int64)), sd] [(.int (1 : Int32))]))
    obtain ⟨fs, hr, hrun, hended, hW, hsame⟩ := X4.leave (v := some (.int (1 : Int32))) (fun h => by rw [Bd.returns] at h; cases h)
    refine ⟨_, _, retN X4 hx (t := .boolean) Bd.returns (by simp) (hb hby at_81) hr, hrun, hended, hG _ _ _ ?_ ⟨⟨_, rfl⟩, hW, hsame.mono (by decide) (by decide)⟩⟩
    show Q0 Z q0 p1 h0 n0 _ T4.heap _
    rw [e4]
    exact ⟨rfl, N4⟩
set_option maxRecDepth 65536 in
set_option maxHeartbeats 40000000 in
theorem comes_1 {Post : Tables → Env → Array Value → State → Outcome → State → Prop} (hpost : ∀ tb e args s v u, (limb_1_1.after args s (.returned v) u = true ∧ limb_1_2.after args s (.returned v) u = true ∧ True) → FrameEnd s (.returned v) u (Jvm.fieldLocs frame_1_writes args s ++ Jvm.arrayLocs frame_1_arrays args s ++ Jvm.staticLocs frame_1_statics s) 0 0 → Post tb e args s (.returned v) u) :
    ArmFor flags0 classFile x code maxLocals ret World_1 tables_1 room_1 Calls_1 rest_1 Pre_1 Post := by
  intro l hfl _ _ p e ha hc hk s m args below hf hA hF happ hP
  obtain ⟨hcalls, hrest, hpre⟩ := hP
  obtain ⟨-, -, -, hnamed, -, -, -, hat⟩ := (Spec.applies_iff hf).mp happ
  obtain ⟨hg, hn⟩ := and_e (Cond.before_iff.mp (show (Jvm.Cond.and given_1 narrow_1).before args s = true from hpre))
  obtain ⟨g1a, g1b⟩ := and_e hg
  obtain ⟨g2a, g2b⟩ := and_e g1b
  obtain ⟨w0, w1, rfl⟩ : ∃ w0 w1 : Value, args = #[w0, w1] := by
    have hs : args.size = 2 := by simpa [Cond.value, given_1] using g1a
    obtain ⟨L⟩ := args
    match L, hs with
    | [w0, w1], _ => exact ⟨w0, w1, rfl⟩
  have hw := fun d (hd : d ∈ tables_1) => atoms_spec (ws := Jvm.Cond.code x code maxLocals ret :: tables_1) hat d (List.mem_cons_of_mem _ hd)
  have hfit : Fit s := fun {y c} hc i hi => by
    obtain ⟨ha, rfl⟩ := Array.getElem?_eq_some_iff.mp hc
    have q := List.all_eq_true.mp ((Array.all_eq_true_iff_forall_mem.mp hF) _ (Array.getElem_mem ha)) i (List.mem_range.mpr hi)
    simpa [Array.getElem?_eq_getElem hi] using q
  obtain ⟨i0, ei0⟩ := isL_v g2a
  obtain rfl : w0 = (.long i0) := Option.some.inj ei0
  obtain ⟨i1, ei1⟩ := is_v g2b
  obtain rfl : w1 = (.int i1) := Option.some.inj ei1
  obtain ⟨n, o, h1, h2, h3, _, L, rfl, ⟨rfl, N⟩, hq⟩ := rm0 l s _ hw tables_1 i0 i1  s.heap s.heap.size (Nat.le_refl _)  p e ha hc hk s m _ below hf ((Spec.applies_iff_loose hf).mp happ).1 ⟨rfl, State.Warmed39.refl s, rfl⟩ trivial
  refine ⟨n, _, h1, h2, h3, hpost _ _ _ _ _ _ ⟨Cond.after_iff.mpr rfl, Cond.after_iff.mpr (eq_i res_at (Term.int_eval (1)) rfl), trivial⟩ ⟨hq.1, hq.2.1, (hq.2.2.sift fun y hy => Or.inr (N y hy)).mono (by decide) (by decide)⟩⟩
theorem main_1_1 : Claimed_1_1 := comes_1 fun _ _ _ _ _ _ h hF => ⟨h.1, hF⟩
theorem main_1_2 : Claimed_1_2 := comes_1 fun _ _ _ _ _ _ h hF => ⟨h.2.1, hF⟩
end Jvm.Pilot.@@N@@
namespace Jvm.Pilot.@@N@@
open Jvm Jvm.ClassFile Sem Op Lib Jvm.Free Jvm.Stand Jvm.Pilot.@@N@@.Jvm.D
/-! MADE BY PROGRAM (witnessworld.py) out of the Statement's table words and the real class files: 9 classes; the members and pool entries that the words name. The judged class is class 1, her method 1. -/
namespace start1
open Jvm.ClassFile
def u (s : String) : CpInfo := .utf8 (stringToUtf16 s)
/-- a pool by its gaps: so many unusable entries, then the entry; so many at the end -/
def gap : Nat → List CpInfo → List CpInfo
  | 0, r => r
  | n + 1, r => .unusable :: gap n r
def poolList (es : List (Nat × CpInfo)) (last : Nat) : List CpInfo := es.foldr (fun e r => gap e.1 (e.2 :: r)) (gap last [])
def pool (es : List (Nat × CpInfo)) (last : Nat) : Array CpInfo := ⟨poolList es last⟩
def fileOf (pool : Array CpInfo) (this : Nat) (attrs : Array Attribute := #[]) (ms : Array MethodInfo := #[]) (fl : Nat := 33) (sup : Nat := 0) (ifs : Array Nat := #[]) (fds : Array FieldInfo := #[]) : ClassFile where
  minorVersion := 0
  majorVersion := 65
  constantPool := pool
  accessFlags := fl
  thisClass := this
  superClass := sup
  interfaces := ifs
  fields := fds
  methods := ms
  attributes := attrs
def plain (name : String) (sup : Option ClassId) : Class where
  name := name
  kind := .ordinary
  loader := none
  accessFlags := 33
  super := sup
  interfaces := #[]
  cf := none
  fields := #[]
  methods := #[]
  instanceTypes := #[]
  staticTypes := #[]
  resolved := #[]
  callSites := []
  init := .initialized
  statics := none
  mirror := none

def pool0 : Array CpInfo := pool [(5, u "<init>"), (0, u "()V"), (1, .class_ 10), (1, u "java/lang/Object")] 113

def k0m0 : Method := { name := "<init>", desc := "()V", sig := { parameters := [], returnType := none }, accessFlags := 1, code := none }
/-- java/lang/Object -/
def k0 : Class := { plain "java/lang/Object" none with
  accessFlags := 33
  interfaces := #[]
  cf := some (fileOf pool0 8 #[] #[{ accessFlags := 1, nameIndex := 5, descriptorIndex := 6, attributes := #[] }] 33 0 #[] #[])
  fields := #[]
  methods := #[k0m0]
  instanceTypes := #[]
  staticTypes := #[]
  resolved := Array.replicate 124 none
  statics := none }

def pool1 : Array CpInfo := pool [(2, .class_ 4), (1, u "java/lang/Object"), (0, u "<init>"), (0, u "()V"), (0, .long 18446744073709551615), (1, .long 63), (1, .methodref 12 13), (0, .class_ 14), (0, .nameAndType 15 16), (0, u "com/example/malla/malla/perfect/PerfectTable"), (0, u "hashedForm"), (0, u "(J)J"), (0, .class_ 18), (0, u "com/example/malla/malla/perfect/PerfectTableHashedFormPinLaw"), (0, .long 9223372036854775783), (1, u "P"), (0, u "J"), (3, u "law"), (0, u "(JI)Z")] 3

def k1m0 : Method := { name := "<init>", desc := "()V", sig := { parameters := [], returnType := none }, accessFlags := 1, code := none }
def k1c1 : Code := { maxStack := 6, maxLocals := 12, code := code, exceptionTable := #[], attributes := #[] }
def k1m1 : Method := { name := "law", desc := "(JI)Z", sig := { parameters := [.long, .int], returnType := some .boolean }, accessFlags := 9, code := some k1c1 }
/-- com/example/malla/malla/perfect/PerfectTableHashedFormPinLaw -/
def k1 : Class := { plain "com/example/malla/malla/perfect/PerfectTableHashedFormPinLaw" (some 0) with
  accessFlags := 49
  interfaces := #[]
  cf := some (fileOf pool1 17 #[] #[{ accessFlags := 1, nameIndex := 5, descriptorIndex := 6, attributes := #[] }, { accessFlags := 9, nameIndex := 26, descriptorIndex := 27, attributes := #[] }] 49 2 #[] #[{ accessFlags := 26, nameIndex := 21, descriptorIndex := 22, attributes := #[] }])
  fields := #[{ name := "P", type := .long, accessFlags := 26, slot := 0, constantValue := 0 }]
  methods := #[k1m0, k1m1]
  instanceTypes := #[]
  staticTypes := #[.long]
  resolved := Array.replicate 31 none
  statics := none }

def pool2 : Array CpInfo := pool [(1, .class_ 2), (0, u "com/example/malla/malla/perfect/PerfectTable"), (1, .class_ 6), (1, u "java/lang/Object"), (45, u "seed"), (0, u "J"), (2, u "hashSeed"), (2, u "size"), (0, u "I"), (2, .long 9223372036854775783), (7, u "modulus"), (0, u "Lcom/example/malla/malla/perfect/Modulus;"), (12, u "firstLevel"), (0, u "Lcom/example/malla/malla/perfect/UniversalHash;"), (6, u "(J)J"), (14, u "firstLevelMontgomery"), (2, u "entries"), (0, u "[J"), (6, u "secondLevel"), (0, u "[I"), (9, .class_ 132), (1, u "com/example/malla/malla/perfect/PerfectTable$Forms"), (30, u "MAX_KEYS"), (1, u "MAX_SECOND_LEVEL_SLOTS"), (1, u "NONE"), (1, u "HASH_DRAWS"), (1, u "ENTRY"), (18, u "hashedForm")] 30

def k2c0 : Code := { maxStack := 4, maxLocals := 4, code := prog_47_method_10_code, exceptionTable := #[], attributes := #[] }
def k2m0 : Method := { name := "hashedForm", desc := "(J)J", sig := { parameters := [.long], returnType := some .long }, accessFlags := 8, code := some k2c0 }
/-- com/example/malla/malla/perfect/PerfectTable -/
def k2 : Class := { plain "com/example/malla/malla/perfect/PerfectTable" (some 0) with
  accessFlags := 1057
  interfaces := #[]
  cf := some (fileOf pool2 1 #[.nestMembers #[130]] #[{ accessFlags := 8, nameIndex := 190, descriptorIndex := 93, attributes := #[] }] 1057 4 #[] #[{ accessFlags := 24, nameIndex := 163, descriptorIndex := 60, attributes := #[] }, { accessFlags := 24, nameIndex := 165, descriptorIndex := 60, attributes := #[] }, { accessFlags := 24, nameIndex := 167, descriptorIndex := 60, attributes := #[] }, { accessFlags := 26, nameIndex := 169, descriptorIndex := 60, attributes := #[] }, { accessFlags := 26, nameIndex := 171, descriptorIndex := 60, attributes := #[] }, { accessFlags := 18, nameIndex := 52, descriptorIndex := 53, attributes := #[] }, { accessFlags := 18, nameIndex := 56, descriptorIndex := 53, attributes := #[] }, { accessFlags := 18, nameIndex := 71, descriptorIndex := 72, attributes := #[] }, { accessFlags := 18, nameIndex := 85, descriptorIndex := 86, attributes := #[] }, { accessFlags := 18, nameIndex := 108, descriptorIndex := 53, attributes := #[] }, { accessFlags := 18, nameIndex := 111, descriptorIndex := 112, attributes := #[] }, { accessFlags := 18, nameIndex := 119, descriptorIndex := 120, attributes := #[] }, { accessFlags := 18, nameIndex := 59, descriptorIndex := 60, attributes := #[] }])
  fields := #[{ name := "MAX_KEYS", type := .int, accessFlags := 24, slot := 0, constantValue := 0 }, { name := "MAX_SECOND_LEVEL_SLOTS", type := .int, accessFlags := 24, slot := 1, constantValue := 0 }, { name := "NONE", type := .int, accessFlags := 24, slot := 2, constantValue := 0 }, { name := "HASH_DRAWS", type := .int, accessFlags := 26, slot := 3, constantValue := 0 }, { name := "ENTRY", type := .int, accessFlags := 26, slot := 4, constantValue := 0 }, { name := "seed", type := .long, accessFlags := 18, slot := 0, constantValue := 0 }, { name := "hashSeed", type := .long, accessFlags := 18, slot := 1, constantValue := 0 }, { name := "modulus", type := (.object "com/example/malla/malla/perfect/Modulus"), accessFlags := 18, slot := 2, constantValue := 0 }, { name := "firstLevel", type := (.object "com/example/malla/malla/perfect/UniversalHash"), accessFlags := 18, slot := 3, constantValue := 0 }, { name := "firstLevelMontgomery", type := .long, accessFlags := 18, slot := 4, constantValue := 0 }, { name := "entries", type := (.array .long), accessFlags := 18, slot := 5, constantValue := 0 }, { name := "secondLevel", type := (.array .int), accessFlags := 18, slot := 6, constantValue := 0 }, { name := "size", type := .int, accessFlags := 18, slot := 7, constantValue := 0 }]
  methods := #[k2m0]
  instanceTypes := #[.long, .long, (.object "com/example/malla/malla/perfect/Modulus"), (.object "com/example/malla/malla/perfect/UniversalHash"), .long, (.array .long), (.array .int), .int]
  staticTypes := #[.int, .int, .int, .int, .int]
  resolved := Array.replicate 221 none
  statics := none }

def pool3 : Array CpInfo := pool [(1, u "java/lang/Cloneable"), (0, .class_ 1), (0, u "java/lang/Object"), (0, .class_ 3)] 3

/-- java/lang/Cloneable -/
def k3 : Class := { plain "java/lang/Cloneable" (some 0) with
  accessFlags := 1537
  interfaces := #[]
  cf := some (fileOf pool3 2 #[] #[] 1537 4 #[] #[])
  fields := #[]
  methods := #[]
  instanceTypes := #[]
  staticTypes := #[]
  resolved := Array.replicate 8 none
  statics := none }

def pool4 : Array CpInfo := pool [(1, u "java/io/Serializable"), (0, .class_ 1), (0, u "java/lang/Object"), (0, .class_ 3)] 3

/-- java/io/Serializable -/
def k4 : Class := { plain "java/io/Serializable" (some 0) with
  accessFlags := 1537
  interfaces := #[]
  cf := some (fileOf pool4 2 #[] #[] 1537 4 #[] #[])
  fields := #[]
  methods := #[]
  instanceTypes := #[]
  staticTypes := #[]
  resolved := Array.replicate 8 none
  statics := none }

/-- the primitive byte -/
def k5 : Class := { plain "byte" none with kind := .primitive 'B', accessFlags := 0x411 }
/-- [B -/
def k6 : Class := { plain "[B" (some 0) with kind := .array 5 .byte, interfaces := #[3, 4], accessFlags := 1041 }

/-- the primitive int -/
def k7 : Class := { plain "int" none with kind := .primitive 'I', accessFlags := 0x411 }
/-- [I -/
def k8 : Class := { plain "[I" (some 0) with kind := .array 7 .int, interfaces := #[3, 4], accessFlags := 1041 }

def heap : Heap := #[]
def classes : Array Class := #[k0, k1, k2, k3, k4, k5, k6, k7, k8]
def interned : List (Array UInt16 × Addr) := []
def slotsUsed : Nat := 0
def theMethod : MethodId := ⟨1, 1⟩
def args0 : Array Value := #[.long 5, .int 7]
def aboutOver (below : List Frame) : State where
  vm := { classes := classes, interned := interned.toArray }
  heap := heap
  slotsUsed := slotsUsed
  threads := #[{ frames := .invoking theMethod args0 :: below }]
def below0 : List Frame := [.native { method := ⟨0, 0⟩, args := #[] }]
def about1 : State := aboutOver below0
def p0 : Program := .bare "" "" ""
def e0 : Env := launch0.env 0 0 0
theorem w_frames : about1.frames = Frame.invoking theMethod args0 :: below0 := rfl
set_option maxRecDepth 65536 in
theorem w_args : argsFit about1.vm theMethod args0 = true := by decide +kernel
set_option maxRecDepth 65536 in
theorem w_heap : heapFits about1 = true := by decide +kernel
set_option maxRecDepth 65536 in
theorem w_runnable : about1.curStatus? = some .runnable := by decide +kernel
set_option maxRecDepth 65536 in
theorem w_alone : about1.alone = true := by decide +kernel
set_option maxRecDepth 65536 in
theorem w_named : about1.methodNamed? x = some theMethod := by decide +kernel
set_option maxRecDepth 65536 in
theorem w_hears : about1.hears theMethod below0 = true := by decide +kernel
set_option maxRecDepth 65536 in
theorem w_ripe : about1.ripe theMethod args0 below0 = true := by decide +kernel
theorem w_running : about1.status = .running := rfl
set_option maxRecDepth 65536 in
theorem w_room : about1.hasRoom e0.platform room_1 = true :=
  launch0.hasRoom_least _ room_1 (by decide +kernel) (by decide +kernel) (by decide +kernel) (by decide +kernel) (by decide +kernel) (by decide +kernel)
theorem allAtoms_all (ts : List Jvm.Cond) (a : Array Jvm.Value) (st : Jvm.State) : (allAtoms ts).before a st = ts.all (fun c => c.before a st) := by
  induction ts with
  | nil => rfl
  | cons c t ih =>
    show (Jvm.Cond.and c (allAtoms t)).before a st = _
    rw [Jvm.Cond.before_and, ih, List.all_cons]
def words1 : List Jvm.Cond := Jvm.Cond.code x code maxLocals ret :: tables_1
/-- a 'code' word, met by the world's own term for the bytes: nothing is compared byte by byte -/
theorem code_word {y : MethodName} {bytes : ByteArray} {mx : Nat} {rt : Option FieldType} {a : Array Value} {s : State} {m : MethodId} {meth : Method} {c : Code} (h1 : s.methodNamed? y = some m) (h2 : s.vm.method? m = some meth) (h3 : meth.code = some c) (h4 : c.code = bytes)
    (h5 : (c.maxLocals == mx && c.exceptionTable.isEmpty && decide (c.maxStack ≤ mostOperands) && decide (meth.sig.returnType = rt) && !meth.locks && decide (parseMethodDescriptor y.desc = some meth.sig)) = true) : (Jvm.Cond.code y bytes mx rt).before a s = true := by
  simp only [Bool.and_eq_true, beq_iff_eq, Bool.not_eq_true', decide_eq_true_eq] at h5
  obtain ⟨⟨⟨⟨⟨g1, g2⟩, g3⟩, g4⟩, g5⟩, g6⟩ := h5
  simp [Cond.before, Cond.holds, Cond.value, h1, h2, h3, h4, g1, g2, g3, g4, g5, g6]
def isCode : Jvm.Cond → Bool
  | .code _ _ _ _ => true
  | _ => false
theorem all_split {L : List Jvm.Cond} {P : Jvm.Cond → Bool} (h1 : L.all (fun c => isCode c || P c) = true) (h2 : ∀ c ∈ L.filter isCode, P c = true) : L.all P = true := by
  refine List.all_eq_true.mpr fun c hc => ?_
  have h := List.all_eq_true.mp h1 c hc
  rcases Bool.eq_false_or_eq_true (isCode c) with hi | hi
  · exact h2 c (List.mem_filter.mpr ⟨hc, hi⟩)
  · simpa [hi] using h
set_option maxRecDepth 65536 in
theorem w_c0 : (Jvm.Cond.code x code maxLocals ret).before args0 about1 = true := code_word (m := ⟨1, 1⟩) (meth := k1m1) (c := k1c1) (by decide +kernel) rfl rfl rfl (by decide +kernel)
set_option maxRecDepth 65536 in
theorem w_c1 : (Jvm.Cond.code ({ cls := "com/example/malla/malla/perfect/PerfectTable", name := "hashedForm", desc := "(J)J" } : Jvm.MethodName) prog_47_method_10_code (4 : Nat) (Option.some Jvm.ClassFile.FieldType.long)).before args0 about1 = true := code_word (m := ⟨2, 0⟩) (meth := k2m0) (c := k2c0) (by decide +kernel) rfl rfl rfl (by decide +kernel)
def codes1 : List Jvm.Cond := [Jvm.Cond.code x code maxLocals ret, Jvm.Cond.code ({ cls := "com/example/malla/malla/perfect/PerfectTable", name := "hashedForm", desc := "(J)J" } : Jvm.MethodName) prog_47_method_10_code (4 : Nat) (Option.some Jvm.ClassFile.FieldType.long)]
set_option maxRecDepth 65536 in
theorem codes_eq : words1.filter isCode = codes1 := rfl
theorem w_codes : ∀ c ∈ words1.filter isCode, c.before args0 about1 = true := by
  rw [codes_eq]
  intro c hc
  simp only [codes1, List.mem_cons, List.not_mem_nil, or_false] at hc
  rcases hc with rfl | rfl
  · exact w_c0
  · exact w_c1
set_option maxRecDepth 65536 in
theorem w_t1 : words1.all (fun c => isCode c || c.before args0 about1) = true := by decide +kernel
theorem w_tables : (allAtoms (Jvm.Cond.code x code maxLocals ret :: tables_1)).before args0 about1 = true := by
  rw [allAtoms_all]
  show words1.all (fun c => c.before args0 about1) = true
  refine all_split ?_ w_codes
  rw [w_t1]
set_option maxRecDepth 65536 in
theorem w_case : (Jvm.Cond.and given_1 narrow_1).before args0 about1 = true := by decide +kernel
theorem w_applies : (headSpec (Jvm.Cond.code x code maxLocals ret :: tables_1) room_1).applies x e0.platform about1 = true :=
  (Spec.applies_iff w_frames).mpr ⟨w_running, w_runnable, w_alone, w_named, w_hears, w_ripe, w_room, w_tables⟩
theorem atStart : AtStart classFile x code maxLocals ret World_1 tables_1 room_1 Calls_1 rest_1 Pre_1 launch0 p0 e0 about1 theMethod args0 below0 :=
  ⟨lists_1, trivial, launch0.admits_env _ _ _, launch0.least_env, fairChoices_fair.cas, fairChoices_fair.clock, w_frames, w_args, w_heap, w_applies, trivial, trivial, w_case⟩
end start1
theorem witness_1 : WitnessClaimed_1 := ⟨start1.p0, start1.e0, start1.about1, start1.theMethod, start1.args0, start1.below0, start1.atStart⟩
end Jvm.Pilot.@@N@@
