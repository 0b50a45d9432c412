import JvmDerived
import JvmDerived.Pilot.@@N@@Statement
import JvmDerived.Pilot.@@N@@Code
set_option linter.unusedVariables false
set_option linter.unusedSimpArgs false
namespace Jvm.RoadKit
open Sem ClassFile Op Lib Jvm.Stand Jvm.Free Jvm.LawKit
section New
variable {p : Program} {l : Launch} {e : Env} {R : Room} {s : State} {m : MethodId} {args : Array Value} {below : List Frame} {meth : Method} {c : Code} {T : State} {locs : List Loc} {cells slots : Nat}
theorem retI (X : Stand p l e R s m args below meth c T locs cells slots) (hx : p.tables.exec = Jvm.exec) {pc : Nat} {Ls : Array Slot} {z : Int32} {rest : List Value} (hret : meth.sig.returnType = some .int) (hd : decode c.code pc = .ok (.ireturn, 1)) {fs : List Frame}
    (hl : ∀ (f : JFrame) (acts : List Action), f.method = m → f.locked = none → f.entered = [] → (doReturn e (T.setTop f) acts (some (.int z))).1 = T.setFrames fs) : Steps p.tables e below (T.setTop (mkF m pc Ls (.int z :: rest))) (T.setFrames fs) := by
  have hm' : T.vm.method? m = some meth := X.method'
  have hn : narrow .int (.int z) = .int z := rfl
  show Steps p.tables e below (T.setTop { method := m, pc := pc, locals := Ls, stack := _ :: rest, locked := none }) _
  jvm_step X.here [X.here.top, hx, hd, hm', hret, hn]
  first | (intro acts; rw [hl _ acts rfl rfl rfl]) | rw [hl _ _ rfl rfl rfl]
  exact Steps.refl _
theorem retL (X : Stand p l e R s m args below meth c T locs cells slots) (hx : p.tables.exec = Jvm.exec) {pc : Nat} {Ls : Array Slot} {z : Int64} {rest : List Value} (hret : meth.sig.returnType = some .long) (hd : decode c.code pc = .ok (.lreturn, 1)) {fs : List Frame}
    (hl : ∀ (f : JFrame) (acts : List Action), f.method = m → f.locked = none → f.entered = [] → (doReturn e (T.setTop f) acts (some (.long z))).1 = T.setFrames fs) : Steps p.tables e below (T.setTop (mkF m pc Ls (.long z :: rest))) (T.setFrames fs) := by
  have hm' : T.vm.method? m = some meth := X.method'
  show Steps p.tables e below (T.setTop { method := m, pc := pc, locals := Ls, stack := _ :: rest, locked := none }) _
  jvm_step X.here [X.here.top, hx, hd, hm', hret, narrow]
  first | (intro acts; rw [hl _ acts rfl rfl rfl]) | rw [hl _ _ rfl rfl rfl]
  exact Steps.refl _
theorem retR (X : Stand p l e R s m args below meth c T locs cells slots) (hx : p.tables.exec = Jvm.exec) {pc : Nat} {Ls : Array Slot} {z : Value} {rest : List Value} {ty : FieldType} (hz : z.isRef = true) (hty : ty.isReference = true) (hret : meth.sig.returnType = some ty) (hd : decode c.code pc = .ok (.areturn, 1)) {fs : List Frame}
    (hl : ∀ (f : JFrame) (acts : List Action), f.method = m → f.locked = none → f.entered = [] → (doReturn e (T.setTop f) acts (some z)).1 = T.setFrames fs) : Steps p.tables e below (T.setTop (mkF m pc Ls (z :: rest))) (T.setFrames fs) := by
  have hm' : T.vm.method? m = some meth := X.method'
  show Steps p.tables e below (T.setTop { method := m, pc := pc, locals := Ls, stack := _ :: rest, locked := none }) _
  jvm_step X.here [X.here.top, hx, hd, hm', hret, hz, hty]
  first | (intro acts; rw [hl _ acts rfl rfl rfl]) | rw [hl _ _ rfl rfl rfl]
  exact Steps.refl _
end New
abbrev lv (x : Int64) : Slot := .val (.long x)
abbrev un : Slot := .unset
abbrev sd : Slot := .second
/-- where the run stands, it comes to an end that G likes -/
def Go (tb : Tables) (e : Env) (below : List Frame) (G : Outcome → State → Prop) (F : State) : Prop := ∃ t o, Steps tb e below F t ∧ t.status = .running ∧ Ended t below o ∧ G o t
theorem Go.stp {tb : Tables} {e : Env} {below : List Frame} {G : Outcome → State → Prop} {F F' : State} (h : ∀ t, Steps tb e below F' t → Steps tb e below F t) (g : Go tb e below G F') : Go tb e below G F := by
  obtain ⟨t, o, h1, r⟩ := g
  exact ⟨t, o, h _ h1, r⟩
end Jvm.RoadKit
namespace Jvm.Pilot.@@N@@
open Jvm Jvm.ClassFile Sem Op Lib Jvm.Free Jvm.Stand Jvm.LawKit Jvm.RoadKit Bundle Jvm.Pilot.@@N@@.Jvm.D
def own_sq (n : Int64) : Int64 := (n * (n + 1)) * ((2 * n) + 1) / 6
theorem own_len (x : Int32) : 1 ≤ (((x &&& (2147483647 : Int32)) - ((x &&& (2147483647 : Int32)) / (1600000 : Int32)) * (1600000 : Int32)) + (1 : Int32)).toInt ∧ (((x &&& (2147483647 : Int32)) - ((x &&& (2147483647 : Int32)) / (1600000 : Int32)) * (1600000 : Int32)) + (1 : Int32)).toInt ≤ 1600000 := by
  rw [irem_eq_mod]
  have h1 := c_mask x 2147483647 31 (by decide) (by decide)
  have h2 := (c_irem (x &&& (2147483647 : Int32)) (1600000 : Int32) 1600000 (by decide)).1 (by omega)
  have h3 := c_iadd ((x &&& (2147483647 : Int32)) % (1600000 : Int32)) 1
  have r := rng32 ((x &&& (2147483647 : Int32)) % (1600000 : Int32) + 1)
  have e : (1 : Int32).toInt = 1 := by decide
  omega
theorem own_t (n : Int64) (h0 : 0 ≤ n.toInt) (h1 : n.toInt ≤ 1600000) : (own_sq n).toInt = (n.toInt * (n.toInt + 1)) * (2 * n.toInt + 1) / 6 := by
  have e1 : (1 : Int64).toInt = 1 := by decide
  have e2 : (2 : Int64).toInt = 2 := by decide
  have e6 : (6 : Int64).toInt = 6 := by decide
  generalize hk : n.toInt = k at *
  have a1 := c_ladd n 1
  have ra := rng64 (n + 1)
  have A : (n + 1).toInt = k + 1 := by omega
  have b1 := c_lmul 2 n
  have rb := rng64 (2 * n)
  rw [e2, hk] at b1
  have B0 : (2 * n).toInt = 2 * k := by omega
  have b2 := c_ladd (2 * n) 1
  have rb2 := rng64 (2 * n + 1)
  have B : (2 * n + 1).toInt = 2 * k + 1 := by omega
  have m1 := c_lmul n (n + 1)
  rw [hk, A] at m1
  have u1 : 0 ≤ k * (k + 1) := Int.mul_nonneg h0 (by omega)
  have u2 : k * (k + 1) ≤ 1600000 * 1600001 := Int.mul_le_mul h1 (by omega) (by omega) (by omega)
  have rm := rng64 (n * (n + 1))
  have M : (n * (n + 1)).toInt = k * (k + 1) := by omega
  have m2 := c_lmul (n * (n + 1)) (2 * n + 1)
  rw [M, B] at m2
  have v1 : 0 ≤ k * (k + 1) * (2 * k + 1) := Int.mul_nonneg u1 (by omega)
  have v2 : k * (k + 1) * (2 * k + 1) ≤ (1600000 * 1600001) * 3200001 := Int.mul_le_mul u2 (by omega) (by omega) (by omega)
  have rm2 := rng64 (n * (n + 1) * (2 * n + 1))
  have M2 : (n * (n + 1) * (2 * n + 1)).toInt = k * (k + 1) * (2 * k + 1) := by omega
  have d := (c_ldiv (n * (n + 1) * (2 * n + 1)) 6 6 e6 (by decide)).1 (by omega)
  unfold own_sq
  rw [d, M2]
theorem own_poly (k : Int) : k * (k + 1) * (2 * k + 1) = (k - 1) * ((k - 1) + 1) * (2 * (k - 1) + 1) + 6 * (k * k) := by grind
theorem own_step (p : Int32) (h1 : 1 ≤ p.toInt) (h2 : p.toInt ≤ 1600000) : own_sq p.toInt64 - own_sq ((p - (1 : Int32)).toInt64) = p.toInt64 * p.toInt64 := by
  have e1 : (1 : Int32).toInt = 1 := by decide
  have a1 := c_isub p 1
  have ra := rng32 (p - 1)
  have A : (p - 1).toInt = p.toInt - 1 := by omega
  have t1 := own_t p.toInt64 (by rw [c_i2l]; omega) (by rw [c_i2l]; omega)
  have t2 := own_t (p - 1).toInt64 (by rw [c_i2l]; omega) (by rw [c_i2l]; omega)
  rw [c_i2l] at t1 t2
  rw [A] at t2
  apply Int64.toInt_inj.mp
  have s := c_lsub (own_sq p.toInt64) (own_sq (p - 1).toInt64)
  have rs := rng64 (own_sq p.toInt64 - own_sq (p - 1).toInt64)
  have m := c_lmul p.toInt64 p.toInt64
  have rm := rng64 (p.toInt64 * p.toInt64)
  rw [c_i2l] at m
  generalize p.toInt = k at *
  have q := own_poly k
  rw [q, Int.add_mul_ediv_left _ _ (by decide)] at t1
  have u1 : 0 ≤ k * k := Int.mul_nonneg (by omega) (by omega)
  have u2 : k * k ≤ 1600000 * 1600000 := Int.mul_le_mul h2 h2 (by omega) (by omega)
  generalize k * k = kk at *
  generalize (k - 1) * (k - 1 + 1) * (2 * (k - 1) + 1) / 6 = y at *
  omega
theorem own_zero : own_sq ((0 : Int32).toInt64) = 0 := by decide
theorem pd_0 : parseMethodDescriptor "(I)J" = some ⟨[.int], some .long⟩ := by decide +kernel
theorem pn_1 : plainName "com/example/costi/costi/model/SurrogateText" = true := by first | (simp [plainName, overriddenIn]; done) | decide +kernel
theorem d1_0 : decode prog_36_method_4_code 0 = .ok (.iload_n 0, 1) := by decide +kernel
theorem d1_1 : decode prog_36_method_4_code 1 = .ok (.i2l, 1) := by decide +kernel
theorem d1_2 : decode prog_36_method_4_code 2 = .ok (.lstore_n 1, 1) := by decide +kernel
theorem d1_3 : decode prog_36_method_4_code 3 = .ok (.lload_n 1, 1) := by decide +kernel
theorem d1_4 : decode prog_36_method_4_code 4 = .ok (.lload_n 1, 1) := by decide +kernel
theorem d1_5 : decode prog_36_method_4_code 5 = .ok (.lconst 1, 1) := by decide +kernel
theorem d1_6 : decode prog_36_method_4_code 6 = .ok (.ladd, 1) := by decide +kernel
theorem d1_7 : decode prog_36_method_4_code 7 = .ok (.lmul, 1) := by decide +kernel
theorem d1_8 : decode prog_36_method_4_code 8 = .ok (.ldc2_w 38, 3) := by decide +kernel
theorem d1_11 : decode prog_36_method_4_code 11 = .ok (.lload_n 1, 1) := by decide +kernel
theorem d1_12 : decode prog_36_method_4_code 12 = .ok (.lmul, 1) := by decide +kernel
theorem d1_13 : decode prog_36_method_4_code 13 = .ok (.lconst 1, 1) := by decide +kernel
theorem d1_14 : decode prog_36_method_4_code 14 = .ok (.ladd, 1) := by decide +kernel
theorem d1_15 : decode prog_36_method_4_code 15 = .ok (.lmul, 1) := by decide +kernel
theorem d1_16 : decode prog_36_method_4_code 16 = .ok (.ldc2_w 40, 3) := by decide +kernel
theorem d1_19 : decode prog_36_method_4_code 19 = .ok (.ldiv, 1) := by decide +kernel
theorem d1_20 : decode prog_36_method_4_code 20 = .ok (.lreturn, 1) := by decide +kernel
theorem ef_1 (m : MethodId) (p0 : Int32) : entryFrame m #[(.int p0)] 3 = mkF m 0 #[iv p0, un, un] [] := by first | (simp [entryFrame, mkF, argsToLocals, Value.category, iv, rv, lv, un, sd]; done) | rfl
def Q1 (Z : State) (p0 : Int32) (h0 : Heap) (n0 : Nat) (v : Option Value) (h : Heap) (L : List Loc) : Prop := v = some (.long (own_sq p0.toInt64)) ∧ Fr n0 L ∧ h = h0
set_option maxRecDepth 65536 in
set_option maxHeartbeats 40000000 in
theorem rm1 (l : Launch) (Z : State) (a0 : Array Value) (hw : ∀ d ∈ tables_1, d.before a0 Z = true) (ws : List Jvm.Cond) (p0 : Int32) (h0 : Heap) (n0 : Nat) (Z0 : n0 ≤ h0.size) :
    MetFree l (⟨"com/example/costi/costi/model/SurrogateText", "squaredNorm", "(I)J"⟩ : MethodName) (head1 (Jvm.Cond.code (⟨"com/example/costi/costi/model/SurrogateText", "squaredNorm", "(I)J"⟩ : MethodName) prog_36_method_4_code 3 (some .long) :: ws) ({ frames := 0, cells := 0, slots := 0, locals := 0 } : Room)) (fun a U => a = #[(.int p0)] ∧ Z.Warmed39 U.vm ∧ U.heap = h0) (fun _ _ _ _ _ => True) (fun _ U o U' => ∃ v L, o = .returned v ∧ Q1 Z p0 h0 n0 v U'.heap L ∧ FrameEnd U o U' L ({ frames := 0, cells := 0, slots := 0, locals := 0 } : Room).cells ({ frames := 0, cells := 0, slots := 0, locals := 0 } : Room).slots) := by
  refine MetFree.of_bodySF (plainFor_of_name pn_1) hisR ?_
  intro p e s m args below meth c s₁ Bd hml0 hP hK
  obtain ⟨rfl, hZ, hh⟩ := hP
  have hx := Bd.exec
  have hby := Bd.bytes
  have hml : c.maxLocals = 3 := hml0
  have hown : s.vm.findClass "com/example/costi/costi/model/SurrogateText" = some m.cls := findClass_of_methodNamed Bd.named
  have hnm := (name_of_methodNamed Bd.named Bd.method).1
  have X0 : Stand p l e ({ frames := 0, cells := 0, slots := 0, locals := 0 } : Room) s m #[(.int p0)] below meth c s₁ [] 0 0 := Stand.of_body Bd
  have e0 : s₁.heap = h0 := by rw [← hh, Bd.state]; rfl
  have N0 := Fr.nil n0
  suffices HH : ∀ G : Outcome → State → Prop, (∀ v L U', Q1 Z p0 h0 n0 v U'.heap L → FrameEnd s (.returned v) U' L ({ frames := 0, cells := 0, slots := 0, locals := 0 } : Room).cells ({ frames := 0, cells := 0, slots := 0, locals := 0 } : Room).slots → G (.returned v) U') → Go p.tables e below G (s₁.setTop (mkF m 0 #[iv p0, un, un] [])) by
    obtain ⟨s2, o, h1, h2, h3, h4⟩ := HH (fun o U' => ∃ v L, o = .returned v ∧ Q1 Z p0 h0 n0 v U'.heap L ∧ FrameEnd s o U' L ({ frames := 0, cells := 0, slots := 0, locals := 0 } : Room).cells ({ frames := 0, cells := 0, slots := 0, locals := 0 } : Room).slots) (fun v L U' q f => ⟨v, L, rfl, q, f⟩)
    exact ⟨s2, o, castTop (ef_1 m p0) h1, h2, h3, h4⟩
  intro G hG
  show Go p.tables e below G (s₁.setTop (mkF m 0 #[iv p0, un, un] []))
  refine Go.stp (fun t k => XS.iloadN X0.here hx rfl (hb hby d1_0) rfl k) ?_
  show Go p.tables e below G (s₁.setTop (mkF m 1 #[iv p0, un, un] [(.int p0)]))
  refine Go.stp (fun t k => XS.i2l X0.here hx rfl (hb hby d1_1) rfl k) ?_
  show Go p.tables e below G (s₁.setTop (mkF m 2 #[iv p0, un, un] [(.long (p0.toInt64))]))
  refine Go.stp (fun t k => XS.lstoreN X0.here hx rfl (hb hby d1_2) rfl (l' := #[iv p0, lv (p0.toInt64), sd]) rfl k) ?_
  show Go p.tables e below G (s₁.setTop (mkF m 3 #[iv p0, lv (p0.toInt64), sd] []))
  refine Go.stp (fun t k => XS.lloadN X0.here hx rfl (hb hby d1_3) rfl k) ?_
  show Go p.tables e below G (s₁.setTop (mkF m 4 #[iv p0, lv (p0.toInt64), sd] [(.long (p0.toInt64))]))
  refine Go.stp (fun t k => XS.lloadN X0.here hx rfl (hb hby d1_4) rfl k) ?_
  show Go p.tables e below G (s₁.setTop (mkF m 5 #[iv p0, lv (p0.toInt64), sd] [(.long (p0.toInt64)), (.long (p0.toInt64))]))
  refine Go.stp (fun t k => XS.lconst X0.here hx rfl (hb hby d1_5) k) ?_
  show Go p.tables e below G (s₁.setTop (mkF m 6 #[iv p0, lv (p0.toInt64), sd] [(.long (1 : Int64)), (.long (p0.toInt64)), (.long (p0.toInt64))]))
  refine Go.stp (fun t k => XS.ladd X0.here hx rfl (hb hby d1_6) rfl k) ?_
  show Go p.tables e below G (s₁.setTop (mkF m 7 #[iv p0, lv (p0.toInt64), sd] [(.long ((p0.toInt64) + (1 : Int64))), (.long (p0.toInt64))]))
  refine Go.stp (fun t k => XS.lmul X0.here hx rfl (hb hby d1_7) rfl k) ?_
  show Go p.tables e below G (s₁.setTop (mkF m 8 #[iv p0, lv (p0.toInt64), sd] [(.long ((p0.toInt64) * ((p0.toInt64) + (1 : Int64))))]))
  refine Go.stp (fun t k => X0.ldc2Long hx hown (mvT hZ (hw _ (List.mem_of_getElem? (i := 6) rfl))) (g := (mkF m 8 #[iv p0, lv (p0.toInt64), sd] [(.long ((p0.toInt64) * ((p0.toInt64) + (1 : Int64))))])) rfl (hb hby d1_8) t k) ?_
  show Go p.tables e below G (s₁.setTop (mkF m 11 #[iv p0, lv (p0.toInt64), sd] [(.long (2 : Int64)), (.long ((p0.toInt64) * ((p0.toInt64) + (1 : Int64))))]))
  refine Go.stp (fun t k => XS.lloadN X0.here hx rfl (hb hby d1_11) rfl k) ?_
  show Go p.tables e below G (s₁.setTop (mkF m 12 #[iv p0, lv (p0.toInt64), sd] [(.long (p0.toInt64)), (.long (2 : Int64)), (.long ((p0.toInt64) * ((p0.toInt64) + (1 : Int64))))]))
  refine Go.stp (fun t k => XS.lmul X0.here hx rfl (hb hby d1_12) rfl k) ?_
  show Go p.tables e below G (s₁.setTop (mkF m 13 #[iv p0, lv (p0.toInt64), sd] [(.long ((2 : Int64) * (p0.toInt64))), (.long ((p0.toInt64) * ((p0.toInt64) + (1 : Int64))))]))
  refine Go.stp (fun t k => XS.lconst X0.here hx rfl (hb hby d1_13) k) ?_
  show Go p.tables e below G (s₁.setTop (mkF m 14 #[iv p0, lv (p0.toInt64), sd] [(.long (1 : Int64)), (.long ((2 : Int64) * (p0.toInt64))), (.long ((p0.toInt64) * ((p0.toInt64) + (1 : Int64))))]))
  refine Go.stp (fun t k => XS.ladd X0.here hx rfl (hb hby d1_14) rfl k) ?_
  show Go p.tables e below G (s₁.setTop (mkF m 15 #[iv p0, lv (p0.toInt64), sd] [(.long (((2 : Int64) * (p0.toInt64)) + (1 : Int64))), (.long ((p0.toInt64) * ((p0.toInt64) + (1 : Int64))))]))
  refine Go.stp (fun t k => XS.lmul X0.here hx rfl (hb hby d1_15) rfl k) ?_
  show Go p.tables e below G (s₁.setTop (mkF m 16 #[iv p0, lv (p0.toInt64), sd] [(.long (((p0.toInt64) * ((p0.toInt64) + (1 : Int64))) * (((2 : Int64) * (p0.toInt64)) + (1 : Int64))))]))
  refine Go.stp (fun t k => X0.ldc2Long hx hown (mvT hZ (hw _ (List.mem_of_getElem? (i := 7) rfl))) (g := (mkF m 16 #[iv p0, lv (p0.toInt64), sd] [(.long (((p0.toInt64) * ((p0.toInt64) + (1 : Int64))) * (((2 : Int64) * (p0.toInt64)) + (1 : Int64))))])) rfl (hb hby d1_16) t k) ?_
  show Go p.tables e below G (s₁.setTop (mkF m 19 #[iv p0, lv (p0.toInt64), sd] [(.long (6 : Int64)), (.long (((p0.toInt64) * ((p0.toInt64) + (1 : Int64))) * (((2 : Int64) * (p0.toInt64)) + (1 : Int64))))]))
  refine Go.stp (fun t k => XS.ldiv X0.here hx rfl (hb hby d1_19) rfl (by decide) k) ?_
  show Go p.tables e below G (s₁.setTop (mkF m 20 #[iv p0, lv (p0.toInt64), sd] [(.long ((((p0.toInt64) * ((p0.toInt64) + (1 : Int64))) * (((2 : Int64) * (p0.toInt64)) + (1 : Int64))) / (6 : Int64)))]))
  obtain ⟨fs, hr, hrun, hended, hW, hsame⟩ := X0.leave (v := some (.long ((((p0.toInt64) * ((p0.toInt64) + (1 : Int64))) * (((2 : Int64) * (p0.toInt64)) + (1 : Int64))) / (6 : Int64)))) (fun h => by rw [Bd.returns] at h; cases h)
  refine ⟨_, _, retL X0 hx Bd.returns (hb hby d1_20) hr, hrun, hended, hG _ _ _ ?_ ⟨⟨_, rfl⟩, hW, hsame.mono (by decide) (by decide)⟩⟩
  show Q1 Z p0 h0 n0 _ s₁.heap _
  rw [e0]
  exact ⟨rfl, N0, rfl⟩
theorem pn_0 : plainName "com/example/costi/costi/model/SurrogateTextSquaredNormPinLaw" = true := by first | (simp [plainName, overriddenIn]; done) | decide +kernel
theorem ef_0 (m : MethodId) (p0 : Int32) : entryFrame m #[(.int p0)] maxLocals = mkF m 0 #[iv p0, un, un, un, un, un, un, un, un, un] [] := by first | (simp [entryFrame, mkF, argsToLocals, Value.category, iv, rv, lv, un, sd, maxLocals]; done) | rfl
def Q0 (Z : State) (p0 : Int32) (h0 : Heap) (n0 : Nat) (v : Option Value) (h : Heap) (L : List Loc) : Prop := v = some (.int (1 : Int32)) ∧ Fr n0 L
set_option maxRecDepth 65536 in
set_option maxHeartbeats 40000000 in
theorem rm0 (l : Launch) (Z : State) (a0 : Array Value) (hw : ∀ d ∈ tables_1, d.before a0 Z = true) (ws : List Jvm.Cond) (p0 : Int32) (h0 : Heap) (n0 : Nat) (Z0 : n0 ≤ h0.size) :
    MetFree l x (head1 (Jvm.Cond.code x code maxLocals ret :: ws) room_1) (fun a U => a = #[(.int p0)] ∧ Z.Warmed39 U.vm ∧ U.heap = h0) (fun _ _ _ _ _ => True) (fun _ U o U' => ∃ v L, o = .returned v ∧ Q0 Z p0 h0 n0 v U'.heap L ∧ FrameEnd U o U' L room_1.cells room_1.slots) := by
  refine MetFree.of_bodySF (plainFor_of_name pn_0) hisR ?_
  intro p e s m args below meth c s₁ Bd hml0 hP hK
  obtain ⟨rfl, hZ, hh⟩ := hP
  have hx := Bd.exec
  have hby := Bd.bytes
  have hml : c.maxLocals = 10 := hml0
  have hown : s.vm.findClass "com/example/costi/costi/model/SurrogateTextSquaredNormPinLaw" = some m.cls := findClass_of_methodNamed Bd.named
  have hnm := (name_of_methodNamed Bd.named Bd.method).1
  have X0 : Stand p l e room_1 s m #[(.int p0)] below meth c s₁ [] 0 0 := Stand.of_body Bd
  have e0 : s₁.heap = h0 := by rw [← hh, Bd.state]; rfl
  have N0 := Fr.nil n0
  suffices HH : ∀ G : Outcome → State → Prop, (∀ v L U', Q0 Z p0 h0 n0 v U'.heap L → FrameEnd s (.returned v) U' L room_1.cells room_1.slots → G (.returned v) U') → Go p.tables e below G (s₁.setTop (mkF m 0 #[iv p0, un, un, un, un, un, un, un, un, un] [])) by
    obtain ⟨s2, o, h1, h2, h3, h4⟩ := HH (fun o U' => ∃ v L, o = .returned v ∧ Q0 Z p0 h0 n0 v U'.heap L ∧ FrameEnd s o U' L room_1.cells room_1.slots) (fun v L U' q f => ⟨v, L, rfl, q, f⟩)
    exact ⟨s2, o, castTop (ef_0 m p0) h1, h2, h3, h4⟩
  intro G hG
  show Go p.tables e below G (s₁.setTop (mkF m 0 #[iv p0, un, un, un, un, un, un, un, un, un] []))
  refine Go.stp (fun t k => XS.iloadN X0.here hx rfl (hb hby at_0) rfl k) ?_
  show Go p.tables e below G (s₁.setTop (mkF m 1 #[iv p0, un, un, un, un, un, un, un, un, un] [(.int p0)]))
  refine Go.stp (fun t k => X0.ldcInt hx hown (mvT hZ (hw _ (List.mem_of_getElem? (i := 0) rfl))) (g := (mkF m 1 #[iv p0, un, un, un, un, un, un, un, un, un] [(.int p0)])) rfl (hb hby at_1) t k) ?_
  show Go p.tables e below G (s₁.setTop (mkF m 3 #[iv p0, un, un, un, un, un, un, un, un, un] [(.int (2147483647 : Int32)), (.int p0)]))
  refine Go.stp (fun t k => XS.iand X0.here hx rfl (hb hby at_3) rfl k) ?_
  show Go p.tables e below G (s₁.setTop (mkF m 4 #[iv p0, un, un, un, un, un, un, un, un, un] [(.int (p0 &&& (2147483647 : Int32)))]))
  refine Go.stp (fun t k => X0.ldcInt hx hown (mvT hZ (hw _ (List.mem_of_getElem? (i := 1) rfl))) (g := (mkF m 4 #[iv p0, un, un, un, un, un, un, un, un, un] [(.int (p0 &&& (2147483647 : Int32)))])) rfl (hb hby at_4) t k) ?_
  show Go p.tables e below G (s₁.setTop (mkF m 6 #[iv p0, un, un, un, un, un, un, un, un, un] [(.int (1600000 : Int32)), (.int (p0 &&& (2147483647 : Int32)))]))
  refine Go.stp (fun t k => XS.irem X0.here hx rfl (hb hby at_6) rfl (by decide) k) ?_
  show Go p.tables e below G (s₁.setTop (mkF m 7 #[iv p0, un, un, un, un, un, un, un, un, un] [(.int ((p0 &&& (2147483647 : Int32)) - ((p0 &&& (2147483647 : Int32)) / (1600000 : Int32)) * (1600000 : Int32)))]))
  refine Go.stp (fun t k => XS.iconst X0.here hx rfl (hb hby at_7) k) ?_
  show Go p.tables e below G (s₁.setTop (mkF m 8 #[iv p0, un, un, un, un, un, un, un, un, un] [(.int (1 : Int32)), (.int ((p0 &&& (2147483647 : Int32)) - ((p0 &&& (2147483647 : Int32)) / (1600000 : Int32)) * (1600000 : Int32)))]))
  refine Go.stp (fun t k => XS.iadd X0.here hx rfl (hb hby at_8) rfl k) ?_
  show Go p.tables e below G (s₁.setTop (mkF m 9 #[iv p0, un, un, un, un, un, un, un, un, un] [(.int (((p0 &&& (2147483647 : Int32)) - ((p0 &&& (2147483647 : Int32)) / (1600000 : Int32)) * (1600000 : Int32)) + (1 : Int32)))]))
  refine Go.stp (fun t k => XS.istoreN X0.here hx rfl (hb hby at_9) rfl (l' := #[iv p0, iv (((p0 &&& (2147483647 : Int32)) - ((p0 &&& (2147483647 : Int32)) / (1600000 : Int32)) * (1600000 : Int32)) + (1 : Int32)), un, un, un, un, un, un, un, un]) rfl k) ?_
  show Go p.tables e below G (s₁.setTop (mkF m 10 #[iv p0, iv (((p0 &&& (2147483647 : Int32)) - ((p0 &&& (2147483647 : Int32)) / (1600000 : Int32)) * (1600000 : Int32)) + (1 : Int32)), un, un, un, un, un, un, un, un] []))
  suffices K1 : ∀ z : Int32, z = (((p0 &&& (2147483647 : Int32)) - ((p0 &&& (2147483647 : Int32)) / (1600000 : Int32)) * (1600000 : Int32)) + (1 : Int32)) → Go p.tables e below G (s₁.setTop (mkF m 10 #[iv p0, iv z, un, un, un, un, un, un, un, un] [])) from K1 _ rfl
  intro z hz
  refine Go.stp (fun t k => XS.iloadN X0.here hx rfl (hb hby at_10) rfl k) ?_
  show Go p.tables e below G (s₁.setTop (mkF m 11 #[iv p0, iv z, un, un, un, un, un, un, un, un] [(.int z)]))
  refine Go.stp (fun t k => XS.i2l X0.here hx rfl (hb hby at_11) rfl k) ?_
  show Go p.tables e below G (s₁.setTop (mkF m 12 #[iv p0, iv z, un, un, un, un, un, un, un, un] [(.long (z.toInt64))]))
  refine Go.stp (fun t k => XS.lstoreN X0.here hx rfl (hb hby at_12) rfl (l' := #[iv p0, iv z, lv (z.toInt64), sd, un, un, un, un, un, un]) rfl k) ?_
  show Go p.tables e below G (s₁.setTop (mkF m 13 #[iv p0, iv z, lv (z.toInt64), sd, un, un, un, un, un, un] []))
  refine Go.stp (fun t k => XS.iconst X0.here hx rfl (hb hby at_13) k) ?_
  show Go p.tables e below G (s₁.setTop (mkF m 14 #[iv p0, iv z, lv (z.toInt64), sd, un, un, un, un, un, un] [(.int (0 : Int32))]))
  obtain ⟨_, _, ⟨T2, L2, k2, n2⟩, -, X2, ⟨Lc2, hQ2, l2, y2, z2⟩, st2⟩ := Jvm.LawKit.callS X0 hx (y := (⟨"com/example/costi/costi/model/SurrogateText", "squaredNorm", "(I)J"⟩ : MethodName)) hown (mvT hZ (hw _ (List.mem_of_getElem? (i := 2) rfl))) (mvT hZ (hw _ (List.mem_of_getElem? (i := 3) rfl))) (mvT hZ (hw _ (List.mem_of_getElem? (i := 4) rfl))) (mvT hZ (hw _ (List.mem_of_getElem? (i := 5) rfl))) (by decide) (backOf (W := 0) (rm1 l Z a0 hw [] (0 : Int32)  h0 n0 Z0 ) hZ (hw _ (List.mem_of_getElem? (i := 5) rfl)) (hw _ (List.mem_of_getElem? (i := 4) rfl)) (by decide) (by decide)) (g := (mkF m 14 #[iv p0, iv z, lv (z.toInt64), sd, un, un, un, un, un, un] [(.int (0 : Int32))])) rfl (by rw [hml]; rfl) (argsL := [(.int (0 : Int32))]) (rest := []) (lenOf pd_0 rfl) rfl (by show 2 * 0 + _ ≤ _; exact Nat.le_of_eq rfl) (hb hby at_14) (fun _ _ => ⟨rfl, e0, (by decide : 0 + 0 ≤ _), (by decide : 0 + 0 ≤ _)⟩)
  dsimp only [Pt.U, Pt.locs, Pt.cells, Pt.slots] at X2 l2 y2 z2 st2 hQ2
  subst l2 y2 z2
  obtain ⟨rfl, Nq2, e2⟩ := hQ2
  have N2 := Fr.app N0 Nq2
  refine Go.stp (fun t k => st2 t k) ?_
  show Go p.tables e below G (T2.setTop (mkF m 17 #[iv p0, iv z, lv (z.toInt64), sd, un, un, un, un, un, un] [(.long (own_sq ((0 : Int32).toInt64)))]))
  refine Go.stp (fun t k => XS.lstore X2.here hx rfl (hb hby at_17) rfl (l' := #[iv p0, iv z, lv (z.toInt64), sd, lv (own_sq ((0 : Int32).toInt64)), sd, un, un, un, un]) rfl k) ?_
  show Go p.tables e below G (T2.setTop (mkF m 19 #[iv p0, iv z, lv (z.toInt64), sd, lv (own_sq ((0 : Int32).toInt64)), sd, un, un, un, un] []))
  refine Go.stp (fun t k => XS.iloadN X2.here hx rfl (hb hby at_19) rfl k) ?_
  show Go p.tables e below G (T2.setTop (mkF m 20 #[iv p0, iv z, lv (z.toInt64), sd, lv (own_sq ((0 : Int32).toInt64)), sd, un, un, un, un] [(.int z)]))
  obtain ⟨_, _, ⟨T3, L3, k3, n3⟩, -, X3, ⟨Lc3, hQ3, l3, y3, z3⟩, st3⟩ := Jvm.LawKit.callS X2 hx (y := (⟨"com/example/costi/costi/model/SurrogateText", "squaredNorm", "(I)J"⟩ : MethodName)) hown (mvT hZ (hw _ (List.mem_of_getElem? (i := 2) rfl))) (mvT hZ (hw _ (List.mem_of_getElem? (i := 3) rfl))) (mvT hZ (hw _ (List.mem_of_getElem? (i := 4) rfl))) (mvT hZ (hw _ (List.mem_of_getElem? (i := 5) rfl))) (by decide) (backOf (W := 0) (rm1 l Z a0 hw [] z  h0 n0 Z0 ) hZ (hw _ (List.mem_of_getElem? (i := 5) rfl)) (hw _ (List.mem_of_getElem? (i := 4) rfl)) (by decide) (by decide)) (g := (mkF m 20 #[iv p0, iv z, lv (z.toInt64), sd, lv (own_sq ((0 : Int32).toInt64)), sd, un, un, un, un] [(.int z)])) rfl (by rw [hml]; rfl) (argsL := [(.int z)]) (rest := []) (lenOf pd_0 rfl) rfl (by show 2 * 0 + _ ≤ _; exact Nat.le_of_eq rfl) (hb hby at_20) (fun _ _ => ⟨rfl, e2, (by decide : 0 + 0 ≤ _), (by decide : 0 + 0 ≤ _)⟩)
  dsimp only [Pt.U, Pt.locs, Pt.cells, Pt.slots] at X3 l3 y3 z3 st3 hQ3
  subst l3 y3 z3
  obtain ⟨rfl, Nq3, e3⟩ := hQ3
  have N3 := Fr.app N2 Nq3
  refine Go.stp (fun t k => st3 t k) ?_
  show Go p.tables e below G (T3.setTop (mkF m 23 #[iv p0, iv z, lv (z.toInt64), sd, lv (own_sq ((0 : Int32).toInt64)), sd, un, un, un, un] [(.long (own_sq (z.toInt64)))]))
  refine Go.stp (fun t k => XS.lstore X3.here hx rfl (hb hby at_23) rfl (l' := #[iv p0, iv z, lv (z.toInt64), sd, lv (own_sq ((0 : Int32).toInt64)), sd, lv (own_sq (z.toInt64)), sd, un, un]) rfl k) ?_
  show Go p.tables e below G (T3.setTop (mkF m 25 #[iv p0, iv z, lv (z.toInt64), sd, lv (own_sq ((0 : Int32).toInt64)), sd, lv (own_sq (z.toInt64)), sd, un, un] []))
  refine Go.stp (fun t k => XS.iloadN X3.here hx rfl (hb hby at_25) rfl k) ?_
  show Go p.tables e below G (T3.setTop (mkF m 26 #[iv p0, iv z, lv (z.toInt64), sd, lv (own_sq ((0 : Int32).toInt64)), sd, lv (own_sq (z.toInt64)), sd, un, un] [(.int z)]))
  refine Go.stp (fun t k => XS.iconst X3.here hx rfl (hb hby at_26) k) ?_
  show Go p.tables e below G (T3.setTop (mkF m 27 #[iv p0, iv z, lv (z.toInt64), sd, lv (own_sq ((0 : Int32).toInt64)), sd, lv (own_sq (z.toInt64)), sd, un, un] [(.int (1 : Int32)), (.int z)]))
  refine Go.stp (fun t k => XS.isub X3.here hx rfl (hb hby at_27) rfl k) ?_
  show Go p.tables e below G (T3.setTop (mkF m 28 #[iv p0, iv z, lv (z.toInt64), sd, lv (own_sq ((0 : Int32).toInt64)), sd, lv (own_sq (z.toInt64)), sd, un, un] [(.int (z - (1 : Int32)))]))
  obtain ⟨_, _, ⟨T4, L4, k4, n4⟩, -, X4, ⟨Lc4, hQ4, l4, y4, z4⟩, st4⟩ := Jvm.LawKit.callS X3 hx (y := (⟨"com/example/costi/costi/model/SurrogateText", "squaredNorm", "(I)J"⟩ : MethodName)) hown (mvT hZ (hw _ (List.mem_of_getElem? (i := 2) rfl))) (mvT hZ (hw _ (List.mem_of_getElem? (i := 3) rfl))) (mvT hZ (hw _ (List.mem_of_getElem? (i := 4) rfl))) (mvT hZ (hw _ (List.mem_of_getElem? (i := 5) rfl))) (by decide) (backOf (W := 0) (rm1 l Z a0 hw [] (z - (1 : Int32))  h0 n0 Z0 ) hZ (hw _ (List.mem_of_getElem? (i := 5) rfl)) (hw _ (List.mem_of_getElem? (i := 4) rfl)) (by decide) (by decide)) (g := (mkF m 28 #[iv p0, iv z, lv (z.toInt64), sd, lv (own_sq ((0 : Int32).toInt64)), sd, lv (own_sq (z.toInt64)), sd, un, un] [(.int (z - (1 : Int32)))])) rfl (by rw [hml]; rfl) (argsL := [(.int (z - (1 : Int32)))]) (rest := []) (lenOf pd_0 rfl) rfl (by show 2 * 0 + _ ≤ _; exact Nat.le_of_eq rfl) (hb hby at_28) (fun _ _ => ⟨rfl, e3, (by decide : 0 + 0 ≤ _), (by decide : 0 + 0 ≤ _)⟩)
  dsimp only [Pt.U, Pt.locs, Pt.cells, Pt.slots] at X4 l4 y4 z4 st4 hQ4
  subst l4 y4 z4
  obtain ⟨rfl, Nq4, e4⟩ := hQ4
  have N4 := Fr.app N3 Nq4
  refine Go.stp (fun t k => st4 t k) ?_
  show Go p.tables e below G (T4.setTop (mkF m 31 #[iv p0, iv z, lv (z.toInt64), sd, lv (own_sq ((0 : Int32).toInt64)), sd, lv (own_sq (z.toInt64)), sd, un, un] [(.long (own_sq ((z - (1 : Int32)).toInt64)))]))
  refine Go.stp (fun t k => XS.lstore X4.here hx rfl (hb hby at_31) rfl (l' := #[iv p0, iv z, lv (z.toInt64), sd, lv (own_sq ((0 : Int32).toInt64)), sd, lv (own_sq (z.toInt64)), sd, lv (own_sq ((z - (1 : Int32)).toInt64)), sd]) rfl k) ?_
  show Go p.tables e below G (T4.setTop (mkF m 33 #[iv p0, iv z, lv (z.toInt64), sd, lv (own_sq ((0 : Int32).toInt64)), sd, lv (own_sq (z.toInt64)), sd, lv (own_sq ((z - (1 : Int32)).toInt64)), sd] []))
  refine Go.stp (fun t k => XS.lload X4.here hx rfl (hb hby at_33) rfl k) ?_
  show Go p.tables e below G (T4.setTop (mkF m 35 #[iv p0, iv z, lv (z.toInt64), sd, lv (own_sq ((0 : Int32).toInt64)), sd, lv (own_sq (z.toInt64)), sd, lv (own_sq ((z - (1 : Int32)).toInt64)), sd] [(.long (own_sq ((0 : Int32).toInt64)))]))
  refine Go.stp (fun t k => XS.lconst X4.here hx rfl (hb hby at_35) k) ?_
  show Go p.tables e below G (T4.setTop (mkF m 36 #[iv p0, iv z, lv (z.toInt64), sd, lv (own_sq ((0 : Int32).toInt64)), sd, lv (own_sq (z.toInt64)), sd, lv (own_sq ((z - (1 : Int32)).toInt64)), sd] [(.long (0 : Int64)), (.long (own_sq ((0 : Int32).toInt64)))]))
  refine Go.stp (fun t k => XS.lcmp X4.here hx rfl (hb hby at_36) rfl k) ?_
  show Go p.tables e below G (T4.setTop (mkF m 37 #[iv p0, iv z, lv (z.toInt64), sd, lv (own_sq ((0 : Int32).toInt64)), sd, lv (own_sq (z.toInt64)), sd, lv (own_sq ((z - (1 : Int32)).toInt64)), sd] [(.int (lcmpW (own_sq ((0 : Int32).toInt64)) (0 : Int64)))]))
  have hd37 : (own_sq ((0 : Int32).toInt64)) = (0 : Int64) := own_zero
  refine Go.stp (fun t k => XS.ifNo X4.here hx rfl (hb hby at_37) rfl ((if0 _ _).trans (teq ((lw_eq (own_sq ((0 : Int32).toInt64)) (0 : Int64)).mpr hd37)).2) k) ?_
  show Go p.tables e below G (T4.setTop (mkF m 40 #[iv p0, iv z, lv (z.toInt64), sd, lv (own_sq ((0 : Int32).toInt64)), sd, lv (own_sq (z.toInt64)), sd, lv (own_sq ((z - (1 : Int32)).toInt64)), sd] []))
  refine Go.stp (fun t k => XS.lload X4.here hx rfl (hb hby at_40) rfl k) ?_
  show Go p.tables e below G (T4.setTop (mkF m 42 #[iv p0, iv z, lv (z.toInt64), sd, lv (own_sq ((0 : Int32).toInt64)), sd, lv (own_sq (z.toInt64)), sd, lv (own_sq ((z - (1 : Int32)).toInt64)), sd] [(.long (own_sq (z.toInt64)))]))
  refine Go.stp (fun t k => XS.lload X4.here hx rfl (hb hby at_42) rfl k) ?_
  show Go p.tables e below G (T4.setTop (mkF m 44 #[iv p0, iv z, lv (z.toInt64), sd, lv (own_sq ((0 : Int32).toInt64)), sd, lv (own_sq (z.toInt64)), sd, lv (own_sq ((z - (1 : Int32)).toInt64)), sd] [(.long (own_sq ((z - (1 : Int32)).toInt64))), (.long (own_sq (z.toInt64)))]))
  refine Go.stp (fun t k => XS.lsub X4.here hx rfl (hb hby at_44) rfl k) ?_
  show Go p.tables e below G (T4.setTop (mkF m 45 #[iv p0, iv z, lv (z.toInt64), sd, lv (own_sq ((0 : Int32).toInt64)), sd, lv (own_sq (z.toInt64)), sd, lv (own_sq ((z - (1 : Int32)).toInt64)), sd] [(.long ((own_sq (z.toInt64)) - (own_sq ((z - (1 : Int32)).toInt64))))]))
  refine Go.stp (fun t k => XS.lloadN X4.here hx rfl (hb hby at_45) rfl k) ?_
  show Go p.tables e below G (T4.setTop (mkF m 46 #[iv p0, iv z, lv (z.toInt64), sd, lv (own_sq ((0 : Int32).toInt64)), sd, lv (own_sq (z.toInt64)), sd, lv (own_sq ((z - (1 : Int32)).toInt64)), sd] [(.long (z.toInt64)), (.long ((own_sq (z.toInt64)) - (own_sq ((z - (1 : Int32)).toInt64))))]))
  refine Go.stp (fun t k => XS.lloadN X4.here hx rfl (hb hby at_46) rfl k) ?_
  show Go p.tables e below G (T4.setTop (mkF m 47 #[iv p0, iv z, lv (z.toInt64), sd, lv (own_sq ((0 : Int32).toInt64)), sd, lv (own_sq (z.toInt64)), sd, lv (own_sq ((z - (1 : Int32)).toInt64)), sd] [(.long (z.toInt64)), (.long (z.toInt64)), (.long ((own_sq (z.toInt64)) - (own_sq ((z - (1 : Int32)).toInt64))))]))
  refine Go.stp (fun t k => XS.lmul X4.here hx rfl (hb hby at_47) rfl k) ?_
  show Go p.tables e below G (T4.setTop (mkF m 48 #[iv p0, iv z, lv (z.toInt64), sd, lv (own_sq ((0 : Int32).toInt64)), sd, lv (own_sq (z.toInt64)), sd, lv (own_sq ((z - (1 : Int32)).toInt64)), sd] [(.long ((z.toInt64) * (z.toInt64))), (.long ((own_sq (z.toInt64)) - (own_sq ((z - (1 : Int32)).toInt64))))]))
  refine Go.stp (fun t k => XS.lcmp X4.here hx rfl (hb hby at_48) rfl k) ?_
  show Go p.tables e below G (T4.setTop (mkF m 49 #[iv p0, iv z, lv (z.toInt64), sd, lv (own_sq ((0 : Int32).toInt64)), sd, lv (own_sq (z.toInt64)), sd, lv (own_sq ((z - (1 : Int32)).toInt64)), sd] [(.int (lcmpW ((own_sq (z.toInt64)) - (own_sq ((z - (1 : Int32)).toInt64))) ((z.toInt64) * (z.toInt64))))]))
  have hd49 : ((own_sq (z.toInt64)) - (own_sq ((z - (1 : Int32)).toInt64))) = ((z.toInt64) * (z.toInt64)) := own_step z (hz ▸ (own_len p0).1) (hz ▸ (own_len p0).2)
  refine Go.stp (fun t k => XS.ifNo X4.here hx rfl (hb hby at_49) rfl ((if0 _ _).trans (teq ((lw_eq ((own_sq (z.toInt64)) - (own_sq ((z - (1 : Int32)).toInt64))) ((z.toInt64) * (z.toInt64))).mpr hd49)).2) k) ?_
  show Go p.tables e below G (T4.setTop (mkF m 52 #[iv p0, iv z, lv (z.toInt64), sd, lv (own_sq ((0 : Int32).toInt64)), sd, lv (own_sq (z.toInt64)), sd, lv (own_sq ((z - (1 : Int32)).toInt64)), sd] []))
  refine Go.stp (fun t k => XS.iconst X4.here hx rfl (hb hby at_52) k) ?_
  show Go p.tables e below G (T4.setTop (mkF m 53 #[iv p0, iv z, lv (z.toInt64), sd, lv (own_sq ((0 : Int32).toInt64)), sd, lv (own_sq (z.toInt64)), sd, lv (own_sq ((z - (1 : Int32)).toInt64)), sd] [(.int (1 : Int32))]))
  refine Go.stp (fun t k => XS.goto X4.here hx rfl (pc0 := 53) (pc' := 57) rfl (hb hby at_53) (by decide) (by decide) k) ?_
  show Go p.tables e below G (T4.setTop (mkF m 57 #[iv p0, iv z, lv (z.toInt64), sd, lv (own_sq ((0 : Int32).toInt64)), sd, lv (own_sq (z.toInt64)), sd, lv (own_sq ((z - (1 : Int32)).toInt64)), sd] [(.int (1 : Int32))]))
  obtain ⟨fs, hr, hrun, hended, hW, hsame⟩ := X4.leave (v := some (.int (1 : Int32))) (fun h => by rw [Bd.returns] at h; cases h)
  refine ⟨_, _, retN X4 hx (t := .boolean) Bd.returns (by simp) (hb hby at_57) hr, hrun, hended, hG _ _ _ ?_ ⟨⟨_, rfl⟩, hW, hsame.mono (by decide) (by decide)⟩⟩
  show Q0 Z p0 h0 n0 _ T4.heap _
  rw [e4]
  exact ⟨rfl, N4⟩
set_option maxRecDepth 65536 in
set_option maxHeartbeats 40000000 in
theorem comes_1 {Post : Tables → Env → Array Value → State → Outcome → State → Prop} (hpost : ∀ tb e args s v u, (limb_1_1.after args s (.returned v) u = true ∧ limb_1_2.after args s (.returned v) u = true ∧ True) → FrameEnd s (.returned v) u (Jvm.fieldLocs frame_1_writes args s ++ Jvm.arrayLocs frame_1_arrays args s ++ Jvm.staticLocs frame_1_statics s) 0 0 → Post tb e args s (.returned v) u) :
    ArmFor flags0 classFile x code maxLocals ret World_1 tables_1 room_1 Calls_1 rest_1 Pre_1 Post := by
  intro l hfl _ _ p e ha hc hk s m args below hf hA hF happ hP
  obtain ⟨hcalls, hrest, hpre⟩ := hP
  obtain ⟨-, -, -, hnamed, -, -, -, hat⟩ := (Spec.applies_iff hf).mp happ
  obtain ⟨hg, hn⟩ := and_e (Cond.before_iff.mp (show (Jvm.Cond.and given_1 narrow_1).before args s = true from hpre))
  obtain ⟨g1a, g1b⟩ := and_e hg
  obtain ⟨w0, rfl⟩ : ∃ w0 : Value, args = #[w0] := by
    have hs : args.size = 1 := by simpa [Cond.value, given_1] using g1a
    obtain ⟨L⟩ := args
    match L, hs with
    | [w0], _ => exact ⟨w0, rfl⟩
  have hw := fun d (hd : d ∈ tables_1) => atoms_spec (ws := Jvm.Cond.code x code maxLocals ret :: tables_1) hat d (List.mem_cons_of_mem _ hd)
  have hfit : Fit s := fun {y c} hc i hi => by
    obtain ⟨ha, rfl⟩ := Array.getElem?_eq_some_iff.mp hc
    have q := List.all_eq_true.mp ((Array.all_eq_true_iff_forall_mem.mp hF) _ (Array.getElem_mem ha)) i (List.mem_range.mpr hi)
    simpa [Array.getElem?_eq_getElem hi] using q
  obtain ⟨i0, ei0⟩ := is_v g1b
  obtain rfl : w0 = (.int i0) := Option.some.inj ei0
  obtain ⟨n, o, h1, h2, h3, _, L, rfl, ⟨rfl, N⟩, hq⟩ := rm0 l s _ hw tables_1 i0  s.heap s.heap.size (Nat.le_refl _)  p e ha hc hk s m _ below hf ((Spec.applies_iff_loose hf).mp happ).1 ⟨rfl, State.Warmed39.refl s, rfl⟩ trivial
  refine ⟨n, _, h1, h2, h3, hpost _ _ _ _ _ _ ⟨Cond.after_iff.mpr rfl, Cond.after_iff.mpr (eq_i res_at (Term.int_eval (1)) rfl), trivial⟩ ⟨hq.1, hq.2.1, (hq.2.2.sift fun y hy => Or.inr (N y hy)).mono (by decide) (by decide)⟩⟩
theorem main_1_1 : Claimed_1_1 := comes_1 fun _ _ _ _ _ _ h hF => ⟨h.1, hF⟩
theorem main_1_2 : Claimed_1_2 := comes_1 fun _ _ _ _ _ _ h hF => ⟨h.2.1, hF⟩
end Jvm.Pilot.@@N@@
namespace Jvm.Pilot.@@N@@
open Jvm Jvm.ClassFile Sem Op Lib Jvm.Free Jvm.Stand Jvm.Pilot.@@N@@.Jvm.D
/-! MADE BY PROGRAM (witnessworld.py) out of the Statement's table words and the real class files: 10 classes; the members and pool entries that the words name. The judged class is class 1, her method 1. -/
namespace start1
open Jvm.ClassFile
def u (s : String) : CpInfo := .utf8 (stringToUtf16 s)
/-- a pool by its gaps: so many unusable entries, then the entry; so many at the end -/
def gap : Nat → List CpInfo → List CpInfo
  | 0, r => r
  | n + 1, r => .unusable :: gap n r
def poolList (es : List (Nat × CpInfo)) (last : Nat) : List CpInfo := es.foldr (fun e r => gap e.1 (e.2 :: r)) (gap last [])
def pool (es : List (Nat × CpInfo)) (last : Nat) : Array CpInfo := ⟨poolList es last⟩
def fileOf (pool : Array CpInfo) (this : Nat) (attrs : Array Attribute := #[]) (ms : Array MethodInfo := #[]) (fl : Nat := 33) (sup : Nat := 0) (ifs : Array Nat := #[]) (fds : Array FieldInfo := #[]) : ClassFile where
  minorVersion := 0
  majorVersion := 65
  constantPool := pool
  accessFlags := fl
  thisClass := this
  superClass := sup
  interfaces := ifs
  fields := fds
  methods := ms
  attributes := attrs
def plain (name : String) (sup : Option ClassId) : Class where
  name := name
  kind := .ordinary
  loader := none
  accessFlags := 33
  super := sup
  interfaces := #[]
  cf := none
  fields := #[]
  methods := #[]
  instanceTypes := #[]
  staticTypes := #[]
  resolved := #[]
  callSites := []
  init := .initialized
  statics := none
  mirror := none

def pool0 : Array CpInfo := pool [(5, u "<init>"), (0, u "()V"), (1, .class_ 10), (1, u "java/lang/Object")] 113

def k0m0 : Method := { name := "<init>", desc := "()V", sig := { parameters := [], returnType := none }, accessFlags := 1, code := none }
/-- java/lang/Object -/
def k0 : Class := { plain "java/lang/Object" none with
  accessFlags := 33
  interfaces := #[]
  cf := some (fileOf pool0 8 #[] #[{ accessFlags := 1, nameIndex := 5, descriptorIndex := 6, attributes := #[] }] 33 0 #[] #[])
  fields := #[]
  methods := #[k0m0]
  instanceTypes := #[]
  staticTypes := #[]
  resolved := Array.replicate 124 none
  statics := none }

def pool1 : Array CpInfo := pool [(2, .class_ 4), (1, u "java/lang/Object"), (0, u "<init>"), (0, u "()V"), (0, .integer 2147483647), (0, .integer 1600000), (0, .methodref 10 11), (0, .class_ 12), (0, .nameAndType 13 14), (0, u "com/example/costi/costi/model/SurrogateText"), (0, u "squaredNorm"), (0, u "(I)J"), (0, .class_ 16), (0, u "com/example/costi/costi/model/SurrogateTextSquaredNormPinLaw"), (2, u "law"), (0, u "(I)Z")] 3

def k1m0 : Method := { name := "<init>", desc := "()V", sig := { parameters := [], returnType := none }, accessFlags := 1, code := none }
def k1c1 : Code := { maxStack := 6, maxLocals := 10, code := code, exceptionTable := #[], attributes := #[] }
def k1m1 : Method := { name := "law", desc := "(I)Z", sig := { parameters := [.int], returnType := some .boolean }, accessFlags := 9, code := some k1c1 }
/-- com/example/costi/costi/model/SurrogateTextSquaredNormPinLaw -/
def k1 : Class := { plain "com/example/costi/costi/model/SurrogateTextSquaredNormPinLaw" (some 0) with
  accessFlags := 49
  interfaces := #[]
  cf := some (fileOf pool1 15 #[] #[{ accessFlags := 1, nameIndex := 5, descriptorIndex := 6, attributes := #[] }, { accessFlags := 9, nameIndex := 19, descriptorIndex := 20, attributes := #[] }] 49 2 #[] #[])
  fields := #[]
  methods := #[k1m0, k1m1]
  instanceTypes := #[]
  staticTypes := #[]
  resolved := Array.replicate 24 none
  statics := none }

def pool2 : Array CpInfo := pool [(2, .class_ 4), (1, u "java/lang/Object"), (0, u "<init>"), (0, u "()V"), (0, .class_ 8), (0, u "java/lang/Record")] 13

def k2m0 : Method := { name := "<init>", desc := "()V", sig := { parameters := [], returnType := none }, accessFlags := 4, code := none }
/-- java/lang/Record -/
def k2 : Class := { plain "java/lang/Record" (some 0) with
  accessFlags := 1057
  interfaces := #[]
  cf := some (fileOf pool2 7 #[] #[{ accessFlags := 4, nameIndex := 5, descriptorIndex := 6, attributes := #[] }] 1057 2 #[] #[])
  fields := #[]
  methods := #[k2m0]
  instanceTypes := #[]
  staticTypes := #[]
  resolved := Array.replicate 22 none
  statics := none }

def pool3 : Array CpInfo := pool [(2, .class_ 4), (1, u "java/lang/Record"), (20, .class_ 27), (1, u "com/example/costi/costi/model/SurrogateText"), (0, u "words"), (0, u "Ljava/util/List;"), (6, u "squaredNorm"), (0, u "(I)J"), (0, .long 2), (1, .long 6)] 65

def k3c0 : Code := { maxStack := 6, maxLocals := 3, code := prog_36_method_4_code, exceptionTable := #[], attributes := #[] }
def k3m0 : Method := { name := "squaredNorm", desc := "(I)J", sig := { parameters := [.int], returnType := some .long }, accessFlags := 9, code := some k3c0 }
/-- com/example/costi/costi/model/SurrogateText -/
def k3 : Class := { plain "com/example/costi/costi/model/SurrogateText" (some 2) with
  accessFlags := 49
  interfaces := #[]
  cf := some (fileOf pool3 25 #[] #[{ accessFlags := 9, nameIndex := 36, descriptorIndex := 37, attributes := #[] }] 49 2 #[] #[{ accessFlags := 18, nameIndex := 28, descriptorIndex := 29, attributes := #[] }])
  fields := #[{ name := "words", type := (.object "java/util/List"), accessFlags := 18, slot := 0, constantValue := 0 }]
  methods := #[k3m0]
  instanceTypes := #[(.object "java/util/List")]
  staticTypes := #[]
  resolved := Array.replicate 106 none
  statics := none }

def pool4 : Array CpInfo := pool [(1, u "java/lang/Cloneable"), (0, .class_ 1), (0, u "java/lang/Object"), (0, .class_ 3)] 3

/-- java/lang/Cloneable -/
def k4 : Class := { plain "java/lang/Cloneable" (some 0) with
  accessFlags := 1537
  interfaces := #[]
  cf := some (fileOf pool4 2 #[] #[] 1537 4 #[] #[])
  fields := #[]
  methods := #[]
  instanceTypes := #[]
  staticTypes := #[]
  resolved := Array.replicate 8 none
  statics := none }

def pool5 : Array CpInfo := pool [(1, u "java/io/Serializable"), (0, .class_ 1), (0, u "java/lang/Object"), (0, .class_ 3)] 3

/-- java/io/Serializable -/
def k5 : Class := { plain "java/io/Serializable" (some 0) with
  accessFlags := 1537
  interfaces := #[]
  cf := some (fileOf pool5 2 #[] #[] 1537 4 #[] #[])
  fields := #[]
  methods := #[]
  instanceTypes := #[]
  staticTypes := #[]
  resolved := Array.replicate 8 none
  statics := none }

/-- the primitive byte -/
def k6 : Class := { plain "byte" none with kind := .primitive 'B', accessFlags := 0x411 }
/-- [B -/
def k7 : Class := { plain "[B" (some 0) with kind := .array 6 .byte, interfaces := #[4, 5], accessFlags := 1041 }

/-- the primitive int -/
def k8 : Class := { plain "int" none with kind := .primitive 'I', accessFlags := 0x411 }
/-- [I -/
def k9 : Class := { plain "[I" (some 0) with kind := .array 8 .int, interfaces := #[4, 5], accessFlags := 1041 }

def heap : Heap := #[]
def classes : Array Class := #[k0, k1, k2, k3, k4, k5, k6, k7, k8, k9]
def interned : List (Array UInt16 × Addr) := []
def slotsUsed : Nat := 0
def theMethod : MethodId := ⟨1, 1⟩
def args0 : Array Value := #[.int 5]
def aboutOver (below : List Frame) : State where
  vm := { classes := classes, interned := interned.toArray }
  heap := heap
  slotsUsed := slotsUsed
  threads := #[{ frames := .invoking theMethod args0 :: below }]
def below0 : List Frame := [.native { method := ⟨0, 0⟩, args := #[] }]
def about1 : State := aboutOver below0
def p0 : Program := .bare "" "" ""
def e0 : Env := launch0.env 0 0 0
theorem w_frames : about1.frames = Frame.invoking theMethod args0 :: below0 := rfl
set_option maxRecDepth 65536 in
theorem w_args : argsFit about1.vm theMethod args0 = true := by decide +kernel
set_option maxRecDepth 65536 in
theorem w_heap : heapFits about1 = true := by decide +kernel
set_option maxRecDepth 65536 in
theorem w_runnable : about1.curStatus? = some .runnable := by decide +kernel
set_option maxRecDepth 65536 in
theorem w_alone : about1.alone = true := by decide +kernel
set_option maxRecDepth 65536 in
theorem w_named : about1.methodNamed? x = some theMethod := by decide +kernel
set_option maxRecDepth 65536 in
theorem w_hears : about1.hears theMethod below0 = true := by decide +kernel
set_option maxRecDepth 65536 in
theorem w_ripe : about1.ripe theMethod args0 below0 = true := by decide +kernel
theorem w_running : about1.status = .running := rfl
set_option maxRecDepth 65536 in
theorem w_room : about1.hasRoom e0.platform room_1 = true :=
  launch0.hasRoom_least _ room_1 (by decide +kernel) (by decide +kernel) (by decide +kernel) (by decide +kernel) (by decide +kernel) (by decide +kernel)
theorem allAtoms_all (ts : List Jvm.Cond) (a : Array Jvm.Value) (st : Jvm.State) : (allAtoms ts).before a st = ts.all (fun c => c.before a st) := by
  induction ts with
  | nil => rfl
  | cons c t ih =>
    show (Jvm.Cond.and c (allAtoms t)).before a st = _
    rw [Jvm.Cond.before_and, ih, List.all_cons]
def words1 : List Jvm.Cond := Jvm.Cond.code x code maxLocals ret :: tables_1
/-- a 'code' word, met by the world's own term for the bytes: nothing is compared byte by byte -/
theorem code_word {y : MethodName} {bytes : ByteArray} {mx : Nat} {rt : Option FieldType} {a : Array Value} {s : State} {m : MethodId} {meth : Method} {c : Code} (h1 : s.methodNamed? y = some m) (h2 : s.vm.method? m = some meth) (h3 : meth.code = some c) (h4 : c.code = bytes)
    (h5 : (c.maxLocals == mx && c.exceptionTable.isEmpty && decide (c.maxStack ≤ mostOperands) && decide (meth.sig.returnType = rt) && !meth.locks && decide (parseMethodDescriptor y.desc = some meth.sig)) = true) : (Jvm.Cond.code y bytes mx rt).before a s = true := by
  simp only [Bool.and_eq_true, beq_iff_eq, Bool.not_eq_true', decide_eq_true_eq] at h5
  obtain ⟨⟨⟨⟨⟨g1, g2⟩, g3⟩, g4⟩, g5⟩, g6⟩ := h5
  simp [Cond.before, Cond.holds, Cond.value, h1, h2, h3, h4, g1, g2, g3, g4, g5, g6]
def isCode : Jvm.Cond → Bool
  | .code _ _ _ _ => true
  | _ => false
theorem all_split {L : List Jvm.Cond} {P : Jvm.Cond → Bool} (h1 : L.all (fun c => isCode c || P c) = true) (h2 : ∀ c ∈ L.filter isCode, P c = true) : L.all P = true := by
  refine List.all_eq_true.mpr fun c hc => ?_
  have h := List.all_eq_true.mp h1 c hc
  rcases Bool.eq_false_or_eq_true (isCode c) with hi | hi
  · exact h2 c (List.mem_filter.mpr ⟨hc, hi⟩)
  · simpa [hi] using h
set_option maxRecDepth 65536 in
theorem w_c0 : (Jvm.Cond.code x code maxLocals ret).before args0 about1 = true := code_word (m := ⟨1, 1⟩) (meth := k1m1) (c := k1c1) (by decide +kernel) rfl rfl rfl (by decide +kernel)
set_option maxRecDepth 65536 in
theorem w_c1 : (Jvm.Cond.code ({ cls := "com/example/costi/costi/model/SurrogateText", name := "squaredNorm", desc := "(I)J" } : Jvm.MethodName) prog_36_method_4_code (3 : Nat) (Option.some Jvm.ClassFile.FieldType.long)).before args0 about1 = true := code_word (m := ⟨3, 0⟩) (meth := k3m0) (c := k3c0) (by decide +kernel) rfl rfl rfl (by decide +kernel)
def codes1 : List Jvm.Cond := [Jvm.Cond.code x code maxLocals ret, Jvm.Cond.code ({ cls := "com/example/costi/costi/model/SurrogateText", name := "squaredNorm", desc := "(I)J" } : Jvm.MethodName) prog_36_method_4_code (3 : Nat) (Option.some Jvm.ClassFile.FieldType.long)]
set_option maxRecDepth 65536 in
theorem codes_eq : words1.filter isCode = codes1 := rfl
theorem w_codes : ∀ c ∈ words1.filter isCode, c.before args0 about1 = true := by
  rw [codes_eq]
  intro c hc
  simp only [codes1, List.mem_cons, List.not_mem_nil, or_false] at hc
  rcases hc with rfl | rfl
  · exact w_c0
  · exact w_c1
set_option maxRecDepth 65536 in
theorem w_t1 : words1.all (fun c => isCode c || c.before args0 about1) = true := by decide +kernel
theorem w_tables : (allAtoms (Jvm.Cond.code x code maxLocals ret :: tables_1)).before args0 about1 = true := by
  rw [allAtoms_all]
  show words1.all (fun c => c.before args0 about1) = true
  refine all_split ?_ w_codes
  rw [w_t1]
set_option maxRecDepth 65536 in
theorem w_case : (Jvm.Cond.and given_1 narrow_1).before args0 about1 = true := by decide +kernel
theorem w_applies : (headSpec (Jvm.Cond.code x code maxLocals ret :: tables_1) room_1).applies x e0.platform about1 = true :=
  (Spec.applies_iff w_frames).mpr ⟨w_running, w_runnable, w_alone, w_named, w_hears, w_ripe, w_room, w_tables⟩
theorem atStart : AtStart classFile x code maxLocals ret World_1 tables_1 room_1 Calls_1 rest_1 Pre_1 launch0 p0 e0 about1 theMethod args0 below0 :=
  ⟨lists_1, trivial, launch0.admits_env _ _ _, launch0.least_env, fairChoices_fair.cas, fairChoices_fair.clock, w_frames, w_args, w_heap, w_applies, trivial, trivial, w_case⟩
end start1
theorem witness_1 : WitnessClaimed_1 := ⟨start1.p0, start1.e0, start1.about1, start1.theMethod, start1.args0, start1.below0, start1.atStart⟩
end Jvm.Pilot.@@N@@
