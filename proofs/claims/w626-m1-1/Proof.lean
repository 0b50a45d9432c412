import JvmDerived
import JvmDerived.Pilot.@@N@@Statement
import JvmDerived.Pilot.@@N@@Code
set_option linter.unusedVariables false
set_option linter.unusedSimpArgs false
namespace Jvm.RoadKit
open Sem ClassFile Op Lib Jvm.Stand Jvm.Free Jvm.LawKit
section New
variable {p : Program} {l : Launch} {e : Env} {R : Room} {s : State} {m : MethodId} {args : Array Value} {below : List Frame} {meth : Method} {c : Code} {T : State} {locs : List Loc} {cells slots : Nat}
theorem retI (X : Stand p l e R s m args below meth c T locs cells slots) (hx : p.tables.exec = Jvm.exec) {pc : Nat} {Ls : Array Slot} {z : Int32} {rest : List Value} (hret : meth.sig.returnType = some .int) (hd : decode c.code pc = .ok (.ireturn, 1)) {fs : List Frame}
    (hl : ∀ (f : JFrame) (acts : List Action), f.method = m → f.locked = none → f.entered = [] → (doReturn e (T.setTop f) acts (some (.int z))).1 = T.setFrames fs) : Steps p.tables e below (T.setTop (mkF m pc Ls (.int z :: rest))) (T.setFrames fs) := by
  have hm' : T.vm.method? m = some meth := X.method'
  have hn : narrow .int (.int z) = .int z := rfl
  show Steps p.tables e below (T.setTop { method := m, pc := pc, locals := Ls, stack := _ :: rest, locked := none }) _
  jvm_step X.here [X.here.top, hx, hd, hm', hret, hn]
  first | (intro acts; rw [hl _ acts rfl rfl rfl]) | rw [hl _ _ rfl rfl rfl]
  exact Steps.refl _
theorem retL (X : Stand p l e R s m args below meth c T locs cells slots) (hx : p.tables.exec = Jvm.exec) {pc : Nat} {Ls : Array Slot} {z : Int64} {rest : List Value} (hret : meth.sig.returnType = some .long) (hd : decode c.code pc = .ok (.lreturn, 1)) {fs : List Frame}
    (hl : ∀ (f : JFrame) (acts : List Action), f.method = m → f.locked = none → f.entered = [] → (doReturn e (T.setTop f) acts (some (.long z))).1 = T.setFrames fs) : Steps p.tables e below (T.setTop (mkF m pc Ls (.long z :: rest))) (T.setFrames fs) := by
  have hm' : T.vm.method? m = some meth := X.method'
  show Steps p.tables e below (T.setTop { method := m, pc := pc, locals := Ls, stack := _ :: rest, locked := none }) _
  jvm_step X.here [X.here.top, hx, hd, hm', hret, narrow]
  first | (intro acts; rw [hl _ acts rfl rfl rfl]) | rw [hl _ _ rfl rfl rfl]
  exact Steps.refl _
theorem retR (X : Stand p l e R s m args below meth c T locs cells slots) (hx : p.tables.exec = Jvm.exec) {pc : Nat} {Ls : Array Slot} {z : Value} {rest : List Value} {ty : FieldType} (hz : z.isRef = true) (hty : ty.isReference = true) (hret : meth.sig.returnType = some ty) (hd : decode c.code pc = .ok (.areturn, 1)) {fs : List Frame}
    (hl : ∀ (f : JFrame) (acts : List Action), f.method = m → f.locked = none → f.entered = [] → (doReturn e (T.setTop f) acts (some z)).1 = T.setFrames fs) : Steps p.tables e below (T.setTop (mkF m pc Ls (z :: rest))) (T.setFrames fs) := by
  have hm' : T.vm.method? m = some meth := X.method'
  show Steps p.tables e below (T.setTop { method := m, pc := pc, locals := Ls, stack := _ :: rest, locked := none }) _
  jvm_step X.here [X.here.top, hx, hd, hm', hret, hz, hty]
  first | (intro acts; rw [hl _ acts rfl rfl rfl]) | rw [hl _ _ rfl rfl rfl]
  exact Steps.refl _
end New
abbrev lv (x : Int64) : Slot := .val (.long x)
abbrev un : Slot := .unset
abbrev sd : Slot := .second
/-- where the run stands, it comes to an end that G likes -/
def Go (tb : Tables) (e : Env) (below : List Frame) (G : Outcome → State → Prop) (F : State) : Prop := ∃ t o, Steps tb e below F t ∧ t.status = .running ∧ Ended t below o ∧ G o t
theorem Go.stp {tb : Tables} {e : Env} {below : List Frame} {G : Outcome → State → Prop} {F F' : State} (h : ∀ t, Steps tb e below F' t → Steps tb e below F t) (g : Go tb e below G F') : Go tb e below G F := by
  obtain ⟨t, o, h1, r⟩ := g
  exact ⟨t, o, h _ h1, r⟩
end Jvm.RoadKit
namespace Jvm.RoadKit
open Sem ClassFile Op Lib Jvm.Stand Jvm.Free Jvm.LawKit
/-- the array at a has n places of the sort ty; place j holds f j -/
def Ia {α : Type} (Z : State) (h : Heap) (a : Addr) (ty : FieldType) (n : Nat) (mk : α → Value) (f : Nat → α) : Prop := ∃ c : Cell, Arr Z h a c ty ∧ c.slots.size = n ∧ n < 2147483648 ∧ ∀ j, j < n → c.slots[j]? = some (mk (f j))
def upf {α : Type} (f : Nat → α) (i : Nat) (x : α) : Nat → α := fun j => if j = i then x else f j
theorem upf_same {α : Type} (f : Nat → α) (i : Nat) (x : α) : upf f i x i = x := by simp [upf]
theorem upf_ne {α : Type} (f : Nat → α) (i j : Nat) (x : α) (h : j ≠ i) : upf f i x j = f j := by simp [upf, h]
section IaS
variable {α : Type} {Z : State} {h h' : Heap} {a b : Addr} {ty : FieldType} {n sl : Nat} {mk : α → Value} {f : Nat → α} {v : Value} {ws : List Addr}
theorem Ia.lt (F : Ia Z h a ty n mk f) : a < h.size := by obtain ⟨c, A, -⟩ := F; exact A.lt
theorem Ia.ext (F : Ia Z h a ty n mk f) (E : Ext h h') : Ia Z h' a ty n mk f := by obtain ⟨c, A, r⟩ := F; exact ⟨c, A.ext E, r⟩
theorem Ia.other (F : Ia Z h b ty n mk f) (W : Wr h h' a sl v) (q : b ≠ a) : Ia Z h' b ty n mk f := by obtain ⟨c, A, r⟩ := F; exact ⟨c, A.other W q, r⟩
theorem Ia.keep (F : Ia Z h a ty n mk f) (K : Keep h h' ws) (q : a ∉ ws) : Ia Z h' a ty n mk f := by obtain ⟨c, A, r⟩ := F; exact ⟨c, ⟨K.2.1 a c A.1 q, A.2⟩, r⟩
theorem Ia.new {k : ClassId} {z : Int32} {x : α} (A : Arr Z h a (newA k ty z) ty) (hz : z.toNatClampNeg = n) (hn : n < 2147483648) (hx : defaultValue ty = mk x) : Ia Z h a ty n mk (fun _ => x) := by
  refine ⟨_, A, by rw [sz_new, hz], hn, fun j hj => ?_⟩
  simp [newA, hz, hj, hx]
theorem Ia.set {x : α} {j : Int32} {i : Nat} (F : Ia Z h a ty n mk f) (W : Wr h h' a j.toNatClampNeg (mk x)) (hj : j.toNatClampNeg = i) : Ia Z h' a ty n mk (upf f i x) := by
  obtain ⟨c, A, s1, s2, s3⟩ := F
  refine ⟨_, A.same W, by simpa [Cell.setSlot] using s1, s2, fun k hk => ?_⟩
  subst hj
  have q := s3 k hk
  simp only [Cell.setSlot, upf]
  by_cases e : k = j.toNatClampNeg
  · subst e
    rw [Array.getElem?_setIfInBounds_self]
    simp [s1, hk]
  · rw [Array.getElem?_setIfInBounds_ne (by omega), q]
    simp [e]
end IaS
theorem in_of {c : Cell} {n : Nat} {j : Int32} (S : c.slots.size = n) (h : 0 ≤ j.toInt ∧ j.toInt < n) : ¬ (j < 0 ∨ c.slots.size ≤ j.toNatClampNeg) := by
  rw [S, Int32.lt_iff_toInt_lt]
  have e0 : (0 : Int32).toInt = 0 := rfl
  simp only [Int32.toNatClampNeg]
  omega
theorem at_of {n : Nat} {j : Int32} (h : 0 ≤ j.toInt ∧ j.toInt < n) : j.toNatClampNeg < n := by
  simp only [Int32.toNatClampNeg]
  omega
end Jvm.RoadKit
namespace Jvm.Pilot.@@N@@
open Jvm Jvm.ClassFile Sem Op Lib Jvm.Free Jvm.Stand Jvm.LawKit Jvm.RoadKit Bundle Jvm.Pilot.@@N@@.Jvm.D
theorem own_n (x : Int32) : (x &&& (3 : Int32)) = (0 : Int32) ∨ (x &&& (3 : Int32)) = (1 : Int32) ∨ (x &&& (3 : Int32)) = (2 : Int32) ∨ (x &&& (3 : Int32)) = (3 : Int32) := by
  have h := c_mask x 3 2 (by decide) (by decide)
  have e0 : (0 : Int32).toInt = 0 := by decide
  have e1 : (1 : Int32).toInt = 1 := by decide
  have e2 : (2 : Int32).toInt = 2 := by decide
  have e3 : (3 : Int32).toInt = 3 := by decide
  simp only [← Int32.toInt_inj]
  omega
def own_hi (x : Int32) : Int32 := nar .byte ((x >>> ((8 : Int32) &&& 31)).toInt8.toInt32)
def own_lo (x : Int32) : Int32 := nar .byte (x.toInt8.toInt32)
def own_pr (b0 b1 x : Int32) : Int32 := if (((b0 &&& (255 : Int32)) <<< ((8 : Int32) &&& 31)) ||| (b1 &&& (255 : Int32))) = (x &&& (65535 : Int32)) then 1 else 0
theorem own_bits (x : Int32) : own_pr (own_hi x) (own_lo x) x = 1 := by
  unfold own_pr
  rw [if_pos]
  have n1 : own_hi x = (x >>> ((8 : Int32) &&& 31)).toInt8.toInt32 := by
    unfold own_hi; simp [nar]
  have n2 : own_lo x = x.toInt8.toInt32 := by
    unfold own_lo; simp [nar]
  rw [n1, n2]
  have s := c_ishr x 8 8 (by decide)
  have b1 := c_i2b (x >>> ((8 : Int32) &&& 31))
  have b2 := c_i2b x
  generalize (x >>> ((8 : Int32) &&& 31)).toInt8.toInt32 = u at *
  generalize x.toInt8.toInt32 = v at *
  have m1 := c_mask u 255 8 (by decide) (by decide)
  have m2 := c_mask v 255 8 (by decide) (by decide)
  have m3 := c_mask x 65535 16 (by decide) (by decide)
  have sh := c_ishl (u &&& (255 : Int32)) 8 8 (by decide)
  have r := rng32 ((u &&& (255 : Int32)) <<< ((8 : Int32) &&& 31))
  have o := c_or ((u &&& (255 : Int32)) <<< ((8 : Int32) &&& 31)) (v &&& (255 : Int32)) 8 (by decide) 256 (by decide) (by omega) (by omega) (by omega)
  have r2 := rng32 (((u &&& (255 : Int32)) <<< ((8 : Int32) &&& 31)) ||| (v &&& (255 : Int32)))
  apply Int32.toInt_inj.mp
  omega
theorem pd_0 : parseMethodDescriptor "([I)[B" = some ⟨[(.array .int)], some (.array .byte)⟩ := by decide +kernel
theorem pd_1 : parseMethodDescriptor "([BII)Z" = some ⟨[(.array .byte), .int, .int], some .boolean⟩ := by decide +kernel
theorem pn_1 : plainName "com/example/slot2/slot2/card/FileCommands" = true := by first | (simp [plainName, overriddenIn]; done) | decide +kernel
theorem d1_0 : decode prog_6_method_11_code 0 = .ok (.aload_n 0, 1) := by decide +kernel
theorem d1_1 : decode prog_6_method_11_code 1 = .ok (.arraylength, 1) := by decide +kernel
theorem d1_2 : decode prog_6_method_11_code 2 = .ok (.iconst 2, 1) := by decide +kernel
theorem d1_3 : decode prog_6_method_11_code 3 = .ok (.imul, 1) := by decide +kernel
theorem d1_4 : decode prog_6_method_11_code 4 = .ok (.newarray .byte, 2) := by decide +kernel
theorem d1_6 : decode prog_6_method_11_code 6 = .ok (.astore_n 1, 1) := by decide +kernel
theorem d1_7 : decode prog_6_method_11_code 7 = .ok (.iconst 0, 1) := by decide +kernel
theorem d1_8 : decode prog_6_method_11_code 8 = .ok (.istore_n 2, 1) := by decide +kernel
theorem d1_9 : decode prog_6_method_11_code 9 = .ok (.iload_n 2, 1) := by decide +kernel
theorem d1_10 : decode prog_6_method_11_code 10 = .ok (.aload_n 0, 1) := by decide +kernel
theorem d1_11 : decode prog_6_method_11_code 11 = .ok (.arraylength, 1) := by decide +kernel
theorem d1_12 : decode prog_6_method_11_code 12 = .ok (.if_icmp .ge 32, 3) := by decide +kernel
theorem d1_44 : decode prog_6_method_11_code 44 = .ok (.aload_n 1, 1) := by decide +kernel
theorem d1_45 : decode prog_6_method_11_code 45 = .ok (.areturn, 1) := by decide +kernel
theorem ef_1_0 (m : MethodId) (r0 : Addr) : entryFrame m #[(.ref r0)] 3 = mkF m 0 #[rv r0, un, un] [] := by first | (simp [entryFrame, mkF, argsToLocals, Value.category, iv, rv, lv, un, sd]; done) | rfl
def Q1_0 (Z : State) (r0 : Addr) (f : Nat → Int32) (h0 : Heap) (n0 : Nat) (v : Option Value) (h : Heap) (L : List Loc) : Prop := ∃ b : Addr, v = some (.ref b) ∧ Fr n0 L ∧ Keep h0 h [] ∧ n0 ≤ b ∧ Ia Z h b .byte 0 Value.int (fun _ => (0 : Int32))
set_option maxRecDepth 65536 in
set_option maxHeartbeats 40000000 in
theorem rm1_0 (l : Launch) (Z : State) (a0 : Array Value) (hw : ∀ d ∈ tables_1, d.before a0 Z = true) (ws : List Jvm.Cond) (r0 : Addr) (f : Nat → Int32) (h0 : Heap) (n0 : Nat) (Z0 : n0 ≤ h0.size) (I_r0 : Ia Z h0 r0 .int 0 Value.int f) :
    MetFree l (⟨"com/example/slot2/slot2/card/FileCommands", "fids", "([I)[B"⟩ : MethodName) (head1 (Jvm.Cond.code (⟨"com/example/slot2/slot2/card/FileCommands", "fids", "([I)[B"⟩ : MethodName) prog_6_method_11_code 3 (some (.array .byte)) :: ws) ({ frames := 0, cells := 1, slots := 0, locals := 0 } : Room)) (fun a U => a = #[(.ref r0)] ∧ Z.Warmed39 U.vm ∧ U.heap = h0) (fun _ _ _ _ _ => True) (fun _ U o U' => ∃ v L, o = .returned v ∧ Q1_0 Z r0 f h0 n0 v U'.heap L ∧ FrameEnd U o U' L ({ frames := 0, cells := 1, slots := 0, locals := 0 } : Room).cells ({ frames := 0, cells := 1, slots := 0, locals := 0 } : Room).slots) := by
  refine MetFree.of_bodySF (plainFor_of_name pn_1) hisR ?_
  intro p e s m args below meth c s₁ Bd hml0 hP hK
  obtain ⟨rfl, hZ, hh⟩ := hP
  have hx := Bd.exec
  have hby := Bd.bytes
  have hml : c.maxLocals = 3 := hml0
  have hown : s.vm.findClass "com/example/slot2/slot2/card/FileCommands" = some m.cls := findClass_of_methodNamed Bd.named
  have hnm := (name_of_methodNamed Bd.named Bd.method).1
  have X0 : Stand p l e ({ frames := 0, cells := 1, slots := 0, locals := 0 } : Room) s m #[(.ref r0)] below meth c s₁ [] 0 0 := Stand.of_body Bd
  have e0 : s₁.heap = h0 := by rw [← hh, Bd.state]; rfl
  have N0 := Fr.nil n0
  suffices HH : ∀ G : Outcome → State → Prop, (∀ v L U', Q1_0 Z r0 f h0 n0 v U'.heap L → FrameEnd s (.returned v) U' L ({ frames := 0, cells := 1, slots := 0, locals := 0 } : Room).cells ({ frames := 0, cells := 1, slots := 0, locals := 0 } : Room).slots → G (.returned v) U') → Go p.tables e below G (s₁.setTop (mkF m 0 #[rv r0, un, un] [])) by
    obtain ⟨s2, o, h1, h2, h3, h4⟩ := HH (fun o U' => ∃ v L, o = .returned v ∧ Q1_0 Z r0 f h0 n0 v U'.heap L ∧ FrameEnd s o U' L ({ frames := 0, cells := 1, slots := 0, locals := 0 } : Room).cells ({ frames := 0, cells := 1, slots := 0, locals := 0 } : Room).slots) (fun v L U' q f => ⟨v, L, rfl, q, f⟩)
    exact ⟨s2, o, castTop (ef_1_0 m r0) h1, h2, h3, h4⟩
  intro G hG
  have K0 := Keep.refl h0 []
  show Go p.tables e below G (s₁.setTop (mkF m 0 #[rv r0, un, un] []))
  refine Go.stp (fun t_ k_ => XS.aloadN X0.here hx rfl (hb hby d1_0) rfl rfl k_) ?_
  show Go p.tables e below G (s₁.setTop (mkF m 1 #[rv r0, un, un] [(.ref r0)]))
  obtain ⟨cl1, Ar1, Sz1, -, -⟩ := id I_r0
  refine Go.stp (fun t_ k_ => X0.arraylength hx (by rw [e0]; exact Ar1.1) (State.isArrayOf_alike hZ.alike Ar1.2.1) (g := (mkF m 1 #[rv r0, un, un] [(.ref r0)])) rfl rfl (hb hby d1_1) t_ k_) ?_
  rw [Sz1]
  show Go p.tables e below G (s₁.setTop (mkF m 2 #[rv r0, un, un] [(.int (0 : Int32))]))
  refine Go.stp (fun t_ k_ => XS.iconst X0.here hx rfl (hb hby d1_2) k_) ?_
  show Go p.tables e below G (s₁.setTop (mkF m 3 #[rv r0, un, un] [(.int (2 : Int32)), (.int (0 : Int32))]))
  refine Go.stp (fun t_ k_ => XS.imul X0.here hx rfl (hb hby d1_3) rfl k_) ?_
  show Go p.tables e below G (s₁.setTop (mkF m 4 #[rv r0, un, un] [(.int ((0 : Int32) * (2 : Int32)))]))
  obtain ⟨T2, h2, k2, X2, e2, E2, A2, st2⟩ := newP X0 hx hZ (hw _ (List.mem_of_getElem? (i := 5) rfl)) e0 (g := (mkF m 4 #[rv r0, un, un] [(.int ((0 : Int32) * (2 : Int32)))])) rfl (hb hby d1_4) rfl (by decide) (cap := 0) (by decide) (by decide) (by decide) (by decide)
  obtain ⟨b2, g2⟩ : ∃ z, z = h0.size := ⟨_, rfl⟩
  rw [← g2] at A2 st2
  have u3 : r0 ≠ b2 := Nat.ne_of_lt (Nat.lt_of_lt_of_le I_r0.lt (Nat.le_of_eq g2.symm))
  have g_b2 : n0 ≤ b2 := Nat.le_trans Z0 (Nat.le_of_eq g2.symm)
  have sz_b2 : h0.size ≤ b2 := Nat.le_trans K0.1 (Nat.le_of_eq g2.symm)
  have f4 : Ia Z h2 r0 .int 0 Value.int f := I_r0.ext E2
  have Z2 : n0 ≤ h2.size := Nat.le_trans Z0 E2.1
  have K2 := K0.ext E2
  have f5 : Ia Z h2 b2 .byte 0 Value.int (fun _ => (0 : Int32)) := Ia.new A2 (by decide) (by decide) rfl
  refine Go.stp (fun t_ k_ => st2 t_ k_) ?_
  show Go p.tables e below G (T2.setTop (mkF m 6 #[rv r0, un, un] [(.ref b2)]))
  refine Go.stp (fun t_ k_ => XS.astoreN X2.here hx rfl (hb hby d1_6) rfl rfl (l' := #[rv r0, rv b2, un]) rfl k_) ?_
  show Go p.tables e below G (T2.setTop (mkF m 7 #[rv r0, rv b2, un] []))
  refine Go.stp (fun t_ k_ => XS.iconst X2.here hx rfl (hb hby d1_7) k_) ?_
  show Go p.tables e below G (T2.setTop (mkF m 8 #[rv r0, rv b2, un] [(.int (0 : Int32))]))
  refine Go.stp (fun t_ k_ => XS.istoreN X2.here hx rfl (hb hby d1_8) rfl (l' := #[rv r0, rv b2, iv (0 : Int32)]) rfl k_) ?_
  show Go p.tables e below G (T2.setTop (mkF m 9 #[rv r0, rv b2, iv (0 : Int32)] []))
  refine Go.stp (fun t_ k_ => XS.iloadN X2.here hx rfl (hb hby d1_9) rfl k_) ?_
  show Go p.tables e below G (T2.setTop (mkF m 10 #[rv r0, rv b2, iv (0 : Int32)] [(.int (0 : Int32))]))
  refine Go.stp (fun t_ k_ => XS.aloadN X2.here hx rfl (hb hby d1_10) rfl rfl k_) ?_
  show Go p.tables e below G (T2.setTop (mkF m 11 #[rv r0, rv b2, iv (0 : Int32)] [(.ref r0), (.int (0 : Int32))]))
  obtain ⟨cl6, Ar6, Sz6, -, -⟩ := id f4
  refine Go.stp (fun t_ k_ => X2.arraylength hx (by rw [e2]; exact Ar6.1) (State.isArrayOf_alike hZ.alike Ar6.2.1) (g := (mkF m 11 #[rv r0, rv b2, iv (0 : Int32)] [(.ref r0), (.int (0 : Int32))])) rfl rfl (hb hby d1_11) t_ k_) ?_
  rw [Sz6]
  show Go p.tables e below G (T2.setTop (mkF m 12 #[rv r0, rv b2, iv (0 : Int32)] [(.int (0 : Int32)), (.int (0 : Int32))]))
  refine Go.stp (fun t_ k_ => XS.icmpYes X2.here hx rfl (pc0 := 12) (pc' := 44) rfl (hb hby d1_12) rfl (flt (by decide : ¬ ((0 : Int32) < (0 : Int32)))).2.1 (by decide) (by decide) k_) ?_
  show Go p.tables e below G (T2.setTop (mkF m 44 #[rv r0, rv b2, iv (0 : Int32)] []))
  refine Go.stp (fun t_ k_ => XS.aloadN X2.here hx rfl (hb hby d1_44) rfl rfl k_) ?_
  show Go p.tables e below G (T2.setTop (mkF m 45 #[rv r0, rv b2, iv (0 : Int32)] [(.ref b2)]))
  obtain ⟨fs, hr, hrun, hended, hW, hsame⟩ := X2.leave (v := some (.ref b2)) (fun h => by rw [Bd.returns] at h; cases h)
  refine ⟨_, _, retR X2 hx rfl rfl Bd.returns (hb hby d1_45) hr, hrun, hended, hG _ _ _ ?_ ⟨⟨_, rfl⟩, hW, hsame.mono (by decide) (by decide)⟩⟩
  show Q1_0 Z r0 f h0 n0 _ T2.heap _
  rw [e2]
  exact ⟨_, rfl, N0, K2, g_b2, f5⟩
theorem d1_15 : decode prog_6_method_11_code 15 = .ok (.aload_n 1, 1) := by decide +kernel
theorem d1_16 : decode prog_6_method_11_code 16 = .ok (.iconst 2, 1) := by decide +kernel
theorem d1_17 : decode prog_6_method_11_code 17 = .ok (.iload_n 2, 1) := by decide +kernel
theorem d1_18 : decode prog_6_method_11_code 18 = .ok (.imul, 1) := by decide +kernel
theorem d1_19 : decode prog_6_method_11_code 19 = .ok (.aload_n 0, 1) := by decide +kernel
theorem d1_20 : decode prog_6_method_11_code 20 = .ok (.iload_n 2, 1) := by decide +kernel
theorem d1_21 : decode prog_6_method_11_code 21 = .ok (.iaload, 1) := by decide +kernel
theorem d1_22 : decode prog_6_method_11_code 22 = .ok (.bipush 8, 2) := by decide +kernel
theorem d1_24 : decode prog_6_method_11_code 24 = .ok (.ishr, 1) := by decide +kernel
theorem d1_25 : decode prog_6_method_11_code 25 = .ok (.i2b, 1) := by decide +kernel
theorem d1_26 : decode prog_6_method_11_code 26 = .ok (.bastore, 1) := by decide +kernel
theorem d1_27 : decode prog_6_method_11_code 27 = .ok (.aload_n 1, 1) := by decide +kernel
theorem d1_28 : decode prog_6_method_11_code 28 = .ok (.iconst 2, 1) := by decide +kernel
theorem d1_29 : decode prog_6_method_11_code 29 = .ok (.iload_n 2, 1) := by decide +kernel
theorem d1_30 : decode prog_6_method_11_code 30 = .ok (.imul, 1) := by decide +kernel
theorem d1_31 : decode prog_6_method_11_code 31 = .ok (.iconst 1, 1) := by decide +kernel
theorem d1_32 : decode prog_6_method_11_code 32 = .ok (.iadd, 1) := by decide +kernel
theorem d1_33 : decode prog_6_method_11_code 33 = .ok (.aload_n 0, 1) := by decide +kernel
theorem d1_34 : decode prog_6_method_11_code 34 = .ok (.iload_n 2, 1) := by decide +kernel
theorem d1_35 : decode prog_6_method_11_code 35 = .ok (.iaload, 1) := by decide +kernel
theorem d1_36 : decode prog_6_method_11_code 36 = .ok (.i2b, 1) := by decide +kernel
theorem d1_37 : decode prog_6_method_11_code 37 = .ok (.bastore, 1) := by decide +kernel
theorem d1_38 : decode prog_6_method_11_code 38 = .ok (.iinc 2 1, 3) := by decide +kernel
theorem d1_41 : decode prog_6_method_11_code 41 = .ok (.goto (-32), 3) := by decide +kernel
theorem ef_1_1 (m : MethodId) (r0 : Addr) : entryFrame m #[(.ref r0)] 3 = mkF m 0 #[rv r0, un, un] [] := by first | (simp [entryFrame, mkF, argsToLocals, Value.category, iv, rv, lv, un, sd]; done) | rfl
def Q1_1 (Z : State) (r0 : Addr) (f : Nat → Int32) (h0 : Heap) (n0 : Nat) (v : Option Value) (h : Heap) (L : List Loc) : Prop := ∃ b : Addr, v = some (.ref b) ∧ Fr n0 L ∧ Keep h0 h [] ∧ n0 ≤ b ∧ Ia Z h b .byte 2 Value.int (upf (upf (fun _ => (0 : Int32)) 0 (own_hi (f 0))) 1 (own_lo (f 0)))
set_option maxRecDepth 65536 in
set_option maxHeartbeats 40000000 in
theorem rm1_1 (l : Launch) (Z : State) (a0 : Array Value) (hw : ∀ d ∈ tables_1, d.before a0 Z = true) (ws : List Jvm.Cond) (r0 : Addr) (f : Nat → Int32) (h0 : Heap) (n0 : Nat) (Z0 : n0 ≤ h0.size) (I_r0 : Ia Z h0 r0 .int 1 Value.int f) :
    MetFree l (⟨"com/example/slot2/slot2/card/FileCommands", "fids", "([I)[B"⟩ : MethodName) (head1 (Jvm.Cond.code (⟨"com/example/slot2/slot2/card/FileCommands", "fids", "([I)[B"⟩ : MethodName) prog_6_method_11_code 3 (some (.array .byte)) :: ws) ({ frames := 0, cells := 1, slots := 2, locals := 0 } : Room)) (fun a U => a = #[(.ref r0)] ∧ Z.Warmed39 U.vm ∧ U.heap = h0) (fun _ _ _ _ _ => True) (fun _ U o U' => ∃ v L, o = .returned v ∧ Q1_1 Z r0 f h0 n0 v U'.heap L ∧ FrameEnd U o U' L ({ frames := 0, cells := 1, slots := 2, locals := 0 } : Room).cells ({ frames := 0, cells := 1, slots := 2, locals := 0 } : Room).slots) := by
  refine MetFree.of_bodySF (plainFor_of_name pn_1) hisR ?_
  intro p e s m args below meth c s₁ Bd hml0 hP hK
  obtain ⟨rfl, hZ, hh⟩ := hP
  have hx := Bd.exec
  have hby := Bd.bytes
  have hml : c.maxLocals = 3 := hml0
  have hown : s.vm.findClass "com/example/slot2/slot2/card/FileCommands" = some m.cls := findClass_of_methodNamed Bd.named
  have hnm := (name_of_methodNamed Bd.named Bd.method).1
  have X0 : Stand p l e ({ frames := 0, cells := 1, slots := 2, locals := 0 } : Room) s m #[(.ref r0)] below meth c s₁ [] 0 0 := Stand.of_body Bd
  have e0 : s₁.heap = h0 := by rw [← hh, Bd.state]; rfl
  have N0 := Fr.nil n0
  suffices HH : ∀ G : Outcome → State → Prop, (∀ v L U', Q1_1 Z r0 f h0 n0 v U'.heap L → FrameEnd s (.returned v) U' L ({ frames := 0, cells := 1, slots := 2, locals := 0 } : Room).cells ({ frames := 0, cells := 1, slots := 2, locals := 0 } : Room).slots → G (.returned v) U') → Go p.tables e below G (s₁.setTop (mkF m 0 #[rv r0, un, un] [])) by
    obtain ⟨s2, o, h1, h2, h3, h4⟩ := HH (fun o U' => ∃ v L, o = .returned v ∧ Q1_1 Z r0 f h0 n0 v U'.heap L ∧ FrameEnd s o U' L ({ frames := 0, cells := 1, slots := 2, locals := 0 } : Room).cells ({ frames := 0, cells := 1, slots := 2, locals := 0 } : Room).slots) (fun v L U' q f => ⟨v, L, rfl, q, f⟩)
    exact ⟨s2, o, castTop (ef_1_1 m r0) h1, h2, h3, h4⟩
  intro G hG
  have K0 := Keep.refl h0 []
  show Go p.tables e below G (s₁.setTop (mkF m 0 #[rv r0, un, un] []))
  refine Go.stp (fun t_ k_ => XS.aloadN X0.here hx rfl (hb hby d1_0) rfl rfl k_) ?_
  show Go p.tables e below G (s₁.setTop (mkF m 1 #[rv r0, un, un] [(.ref r0)]))
  obtain ⟨cl1, Ar1, Sz1, -, -⟩ := id I_r0
  refine Go.stp (fun t_ k_ => X0.arraylength hx (by rw [e0]; exact Ar1.1) (State.isArrayOf_alike hZ.alike Ar1.2.1) (g := (mkF m 1 #[rv r0, un, un] [(.ref r0)])) rfl rfl (hb hby d1_1) t_ k_) ?_
  rw [Sz1]
  show Go p.tables e below G (s₁.setTop (mkF m 2 #[rv r0, un, un] [(.int (1 : Int32))]))
  refine Go.stp (fun t_ k_ => XS.iconst X0.here hx rfl (hb hby d1_2) k_) ?_
  show Go p.tables e below G (s₁.setTop (mkF m 3 #[rv r0, un, un] [(.int (2 : Int32)), (.int (1 : Int32))]))
  refine Go.stp (fun t_ k_ => XS.imul X0.here hx rfl (hb hby d1_3) rfl k_) ?_
  show Go p.tables e below G (s₁.setTop (mkF m 4 #[rv r0, un, un] [(.int ((1 : Int32) * (2 : Int32)))]))
  obtain ⟨T2, h2, k2, X2, e2, E2, A2, st2⟩ := newP X0 hx hZ (hw _ (List.mem_of_getElem? (i := 5) rfl)) e0 (g := (mkF m 4 #[rv r0, un, un] [(.int ((1 : Int32) * (2 : Int32)))])) rfl (hb hby d1_4) rfl (by decide) (cap := 2) (by decide) (by decide) (by decide) (by decide)
  obtain ⟨b2, g2⟩ : ∃ z, z = h0.size := ⟨_, rfl⟩
  rw [← g2] at A2 st2
  have u3 : r0 ≠ b2 := Nat.ne_of_lt (Nat.lt_of_lt_of_le I_r0.lt (Nat.le_of_eq g2.symm))
  have g_b2 : n0 ≤ b2 := Nat.le_trans Z0 (Nat.le_of_eq g2.symm)
  have sz_b2 : h0.size ≤ b2 := Nat.le_trans K0.1 (Nat.le_of_eq g2.symm)
  have f4 : Ia Z h2 r0 .int 1 Value.int f := I_r0.ext E2
  have Z2 : n0 ≤ h2.size := Nat.le_trans Z0 E2.1
  have K2 := K0.ext E2
  have f5 : Ia Z h2 b2 .byte 2 Value.int (fun _ => (0 : Int32)) := Ia.new A2 (by decide) (by decide) rfl
  refine Go.stp (fun t_ k_ => st2 t_ k_) ?_
  show Go p.tables e below G (T2.setTop (mkF m 6 #[rv r0, un, un] [(.ref b2)]))
  refine Go.stp (fun t_ k_ => XS.astoreN X2.here hx rfl (hb hby d1_6) rfl rfl (l' := #[rv r0, rv b2, un]) rfl k_) ?_
  show Go p.tables e below G (T2.setTop (mkF m 7 #[rv r0, rv b2, un] []))
  refine Go.stp (fun t_ k_ => XS.iconst X2.here hx rfl (hb hby d1_7) k_) ?_
  show Go p.tables e below G (T2.setTop (mkF m 8 #[rv r0, rv b2, un] [(.int (0 : Int32))]))
  refine Go.stp (fun t_ k_ => XS.istoreN X2.here hx rfl (hb hby d1_8) rfl (l' := #[rv r0, rv b2, iv (0 : Int32)]) rfl k_) ?_
  show Go p.tables e below G (T2.setTop (mkF m 9 #[rv r0, rv b2, iv (0 : Int32)] []))
  refine Go.stp (fun t_ k_ => XS.iloadN X2.here hx rfl (hb hby d1_9) rfl k_) ?_
  show Go p.tables e below G (T2.setTop (mkF m 10 #[rv r0, rv b2, iv (0 : Int32)] [(.int (0 : Int32))]))
  refine Go.stp (fun t_ k_ => XS.aloadN X2.here hx rfl (hb hby d1_10) rfl rfl k_) ?_
  show Go p.tables e below G (T2.setTop (mkF m 11 #[rv r0, rv b2, iv (0 : Int32)] [(.ref r0), (.int (0 : Int32))]))
  obtain ⟨cl6, Ar6, Sz6, -, -⟩ := id f4
  refine Go.stp (fun t_ k_ => X2.arraylength hx (by rw [e2]; exact Ar6.1) (State.isArrayOf_alike hZ.alike Ar6.2.1) (g := (mkF m 11 #[rv r0, rv b2, iv (0 : Int32)] [(.ref r0), (.int (0 : Int32))])) rfl rfl (hb hby d1_11) t_ k_) ?_
  rw [Sz6]
  show Go p.tables e below G (T2.setTop (mkF m 12 #[rv r0, rv b2, iv (0 : Int32)] [(.int (1 : Int32)), (.int (0 : Int32))]))
  refine Go.stp (fun t_ k_ => XS.icmpNo X2.here hx rfl (hb hby d1_12) rfl (tlt (by decide : (0 : Int32) < (1 : Int32))).2.1 k_) ?_
  show Go p.tables e below G (T2.setTop (mkF m 15 #[rv r0, rv b2, iv (0 : Int32)] []))
  refine Go.stp (fun t_ k_ => XS.aloadN X2.here hx rfl (hb hby d1_15) rfl rfl k_) ?_
  show Go p.tables e below G (T2.setTop (mkF m 16 #[rv r0, rv b2, iv (0 : Int32)] [(.ref b2)]))
  refine Go.stp (fun t_ k_ => XS.iconst X2.here hx rfl (hb hby d1_16) k_) ?_
  show Go p.tables e below G (T2.setTop (mkF m 17 #[rv r0, rv b2, iv (0 : Int32)] [(.int (2 : Int32)), (.ref b2)]))
  refine Go.stp (fun t_ k_ => XS.iloadN X2.here hx rfl (hb hby d1_17) rfl k_) ?_
  show Go p.tables e below G (T2.setTop (mkF m 18 #[rv r0, rv b2, iv (0 : Int32)] [(.int (0 : Int32)), (.int (2 : Int32)), (.ref b2)]))
  refine Go.stp (fun t_ k_ => XS.imul X2.here hx rfl (hb hby d1_18) rfl k_) ?_
  show Go p.tables e below G (T2.setTop (mkF m 19 #[rv r0, rv b2, iv (0 : Int32)] [(.int ((2 : Int32) * (0 : Int32))), (.ref b2)]))
  refine Go.stp (fun t_ k_ => XS.aloadN X2.here hx rfl (hb hby d1_19) rfl rfl k_) ?_
  show Go p.tables e below G (T2.setTop (mkF m 20 #[rv r0, rv b2, iv (0 : Int32)] [(.ref r0), (.int ((2 : Int32) * (0 : Int32))), (.ref b2)]))
  refine Go.stp (fun t_ k_ => XS.iloadN X2.here hx rfl (hb hby d1_20) rfl k_) ?_
  show Go p.tables e below G (T2.setTop (mkF m 21 #[rv r0, rv b2, iv (0 : Int32)] [(.int (0 : Int32)), (.ref r0), (.int ((2 : Int32) * (0 : Int32))), (.ref b2)]))
  obtain ⟨cl7, Ar7, Sz7, -, Hs7⟩ := id f4
  have ib7 : 0 ≤ ((0 : Int32)).toInt ∧ ((0 : Int32)).toInt < ((1 : Nat) : Int) := (by decide)
  refine Go.stp (fun t_ k_ => X2.iaload hx (j := (0 : Int32)) (v := (Value.int (f 0))) (by rw [e2]; exact Ar7.1) (State.isArrayOf_alike hZ.alike Ar7.2.1) Ar7.2.2 (in_of Sz7 ib7) (Hs7 0 (by decide)) (g := (mkF m 21 #[rv r0, rv b2, iv (0 : Int32)] [(.int (0 : Int32)), (.ref r0), (.int ((2 : Int32) * (0 : Int32))), (.ref b2)])) rfl rfl (hb hby d1_21) t_ k_) ?_
  show Go p.tables e below G (T2.setTop (mkF m 22 #[rv r0, rv b2, iv (0 : Int32)] [(.int (f 0)), (.int ((2 : Int32) * (0 : Int32))), (.ref b2)]))
  refine Go.stp (fun t_ k_ => XS.bipush X2.here hx rfl (hb hby d1_22) k_) ?_
  show Go p.tables e below G (T2.setTop (mkF m 24 #[rv r0, rv b2, iv (0 : Int32)] [(.int (8 : Int32)), (.int (f 0)), (.int ((2 : Int32) * (0 : Int32))), (.ref b2)]))
  refine Go.stp (fun t_ k_ => XS.ishr X2.here hx rfl (hb hby d1_24) rfl k_) ?_
  show Go p.tables e below G (T2.setTop (mkF m 25 #[rv r0, rv b2, iv (0 : Int32)] [(.int ((f 0) >>> ((8 : Int32) &&& 31))), (.int ((2 : Int32) * (0 : Int32))), (.ref b2)]))
  refine Go.stp (fun t_ k_ => XS.i2b X2.here hx rfl (hb hby d1_25) rfl k_) ?_
  show Go p.tables e below G (T2.setTop (mkF m 26 #[rv r0, rv b2, iv (0 : Int32)] [(.int (((f 0) >>> ((8 : Int32) &&& 31)).toInt8.toInt32)), (.int ((2 : Int32) * (0 : Int32))), (.ref b2)]))
  have ib8 : 0 ≤ (((2 : Int32) * (0 : Int32))).toInt ∧ (((2 : Int32) * (0 : Int32))).toInt < ((2 : Nat) : Int) := (by decide)
  obtain ⟨cl8, Ar8, Sz8, -, -⟩ := id f5
  obtain ⟨T8, h8, X8, e8, W8, st8⟩ := stB X2 hx hZ e2 Ar8 (j := ((2 : Int32) * (0 : Int32))) (in_of Sz8 ib8) (g := (mkF m 26 #[rv r0, rv b2, iv (0 : Int32)] [(.int (((f 0) >>> ((8 : Int32) &&& 31)).toInt8.toInt32)), (.int ((2 : Int32) * (0 : Int32))), (.ref b2)])) rfl rfl (hb hby d1_26)
  have f9 : Ia Z h8 b2 .byte 2 Value.int (upf (fun _ => (0 : Int32)) 0 (nar .byte (((f 0) >>> ((8 : Int32) &&& 31)).toInt8.toInt32))) := f5.set W8 (by decide)
  have f10 : Ia Z h8 r0 .int 1 Value.int f := f4.other W8 u3
  have N8 := Fr.snoc X8 N0 g_b2
  have K8 := K2.wr W8 (Or.inr sz_b2)
  have Z8 : n0 ≤ h8.size := Nat.le_trans Z2 (Keep.of_wr W8).1
  refine Go.stp (fun t_ k_ => st8 t_ k_) ?_
  show Go p.tables e below G (T8.setTop (mkF m 27 #[rv r0, rv b2, iv (0 : Int32)] []))
  refine Go.stp (fun t_ k_ => XS.aloadN X8.here hx rfl (hb hby d1_27) rfl rfl k_) ?_
  show Go p.tables e below G (T8.setTop (mkF m 28 #[rv r0, rv b2, iv (0 : Int32)] [(.ref b2)]))
  refine Go.stp (fun t_ k_ => XS.iconst X8.here hx rfl (hb hby d1_28) k_) ?_
  show Go p.tables e below G (T8.setTop (mkF m 29 #[rv r0, rv b2, iv (0 : Int32)] [(.int (2 : Int32)), (.ref b2)]))
  refine Go.stp (fun t_ k_ => XS.iloadN X8.here hx rfl (hb hby d1_29) rfl k_) ?_
  show Go p.tables e below G (T8.setTop (mkF m 30 #[rv r0, rv b2, iv (0 : Int32)] [(.int (0 : Int32)), (.int (2 : Int32)), (.ref b2)]))
  refine Go.stp (fun t_ k_ => XS.imul X8.here hx rfl (hb hby d1_30) rfl k_) ?_
  show Go p.tables e below G (T8.setTop (mkF m 31 #[rv r0, rv b2, iv (0 : Int32)] [(.int ((2 : Int32) * (0 : Int32))), (.ref b2)]))
  refine Go.stp (fun t_ k_ => XS.iconst X8.here hx rfl (hb hby d1_31) k_) ?_
  show Go p.tables e below G (T8.setTop (mkF m 32 #[rv r0, rv b2, iv (0 : Int32)] [(.int (1 : Int32)), (.int ((2 : Int32) * (0 : Int32))), (.ref b2)]))
  refine Go.stp (fun t_ k_ => XS.iadd X8.here hx rfl (hb hby d1_32) rfl k_) ?_
  show Go p.tables e below G (T8.setTop (mkF m 33 #[rv r0, rv b2, iv (0 : Int32)] [(.int (((2 : Int32) * (0 : Int32)) + (1 : Int32))), (.ref b2)]))
  refine Go.stp (fun t_ k_ => XS.aloadN X8.here hx rfl (hb hby d1_33) rfl rfl k_) ?_
  show Go p.tables e below G (T8.setTop (mkF m 34 #[rv r0, rv b2, iv (0 : Int32)] [(.ref r0), (.int (((2 : Int32) * (0 : Int32)) + (1 : Int32))), (.ref b2)]))
  refine Go.stp (fun t_ k_ => XS.iloadN X8.here hx rfl (hb hby d1_34) rfl k_) ?_
  show Go p.tables e below G (T8.setTop (mkF m 35 #[rv r0, rv b2, iv (0 : Int32)] [(.int (0 : Int32)), (.ref r0), (.int (((2 : Int32) * (0 : Int32)) + (1 : Int32))), (.ref b2)]))
  obtain ⟨cl11, Ar11, Sz11, -, Hs11⟩ := id f10
  have ib11 : 0 ≤ ((0 : Int32)).toInt ∧ ((0 : Int32)).toInt < ((1 : Nat) : Int) := (by decide)
  refine Go.stp (fun t_ k_ => X8.iaload hx (j := (0 : Int32)) (v := (Value.int (f 0))) (by rw [e8]; exact Ar11.1) (State.isArrayOf_alike hZ.alike Ar11.2.1) Ar11.2.2 (in_of Sz11 ib11) (Hs11 0 (by decide)) (g := (mkF m 35 #[rv r0, rv b2, iv (0 : Int32)] [(.int (0 : Int32)), (.ref r0), (.int (((2 : Int32) * (0 : Int32)) + (1 : Int32))), (.ref b2)])) rfl rfl (hb hby d1_35) t_ k_) ?_
  show Go p.tables e below G (T8.setTop (mkF m 36 #[rv r0, rv b2, iv (0 : Int32)] [(.int (f 0)), (.int (((2 : Int32) * (0 : Int32)) + (1 : Int32))), (.ref b2)]))
  refine Go.stp (fun t_ k_ => XS.i2b X8.here hx rfl (hb hby d1_36) rfl k_) ?_
  show Go p.tables e below G (T8.setTop (mkF m 37 #[rv r0, rv b2, iv (0 : Int32)] [(.int ((f 0).toInt8.toInt32)), (.int (((2 : Int32) * (0 : Int32)) + (1 : Int32))), (.ref b2)]))
  have ib12 : 0 ≤ ((((2 : Int32) * (0 : Int32)) + (1 : Int32))).toInt ∧ ((((2 : Int32) * (0 : Int32)) + (1 : Int32))).toInt < ((2 : Nat) : Int) := (by decide)
  obtain ⟨cl12, Ar12, Sz12, -, -⟩ := id f9
  obtain ⟨T12, h12, X12, e12, W12, st12⟩ := stB X8 hx hZ e8 Ar12 (j := (((2 : Int32) * (0 : Int32)) + (1 : Int32))) (in_of Sz12 ib12) (g := (mkF m 37 #[rv r0, rv b2, iv (0 : Int32)] [(.int ((f 0).toInt8.toInt32)), (.int (((2 : Int32) * (0 : Int32)) + (1 : Int32))), (.ref b2)])) rfl rfl (hb hby d1_37)
  have f13 : Ia Z h12 b2 .byte 2 Value.int (upf (upf (fun _ => (0 : Int32)) 0 (nar .byte (((f 0) >>> ((8 : Int32) &&& 31)).toInt8.toInt32))) 1 (nar .byte ((f 0).toInt8.toInt32))) := f9.set W12 (by decide)
  have f14 : Ia Z h12 r0 .int 1 Value.int f := f10.other W12 u3
  have N12 := Fr.snoc X12 N8 g_b2
  have K12 := K8.wr W12 (Or.inr sz_b2)
  have Z12 : n0 ≤ h12.size := Nat.le_trans Z8 (Keep.of_wr W12).1
  refine Go.stp (fun t_ k_ => st12 t_ k_) ?_
  show Go p.tables e below G (T12.setTop (mkF m 38 #[rv r0, rv b2, iv (0 : Int32)] []))
  refine Go.stp (fun t_ k_ => XS.iinc X12.here hx rfl (hb hby d1_38) rfl (l' := #[rv r0, rv b2, iv ((0 : Int32) + (1 : Int32))]) rfl k_) ?_
  show Go p.tables e below G (T12.setTop (mkF m 41 #[rv r0, rv b2, iv ((0 : Int32) + (1 : Int32))] []))
  refine Go.stp (fun t_ k_ => XS.goto X12.here hx rfl (pc0 := 41) (pc' := 9) rfl (hb hby d1_41) (by decide) (by decide) k_) ?_
  show Go p.tables e below G (T12.setTop (mkF m 9 #[rv r0, rv b2, iv ((0 : Int32) + (1 : Int32))] []))
  refine Go.stp (fun t_ k_ => XS.iloadN X12.here hx rfl (hb hby d1_9) rfl k_) ?_
  show Go p.tables e below G (T12.setTop (mkF m 10 #[rv r0, rv b2, iv ((0 : Int32) + (1 : Int32))] [(.int ((0 : Int32) + (1 : Int32)))]))
  refine Go.stp (fun t_ k_ => XS.aloadN X12.here hx rfl (hb hby d1_10) rfl rfl k_) ?_
  show Go p.tables e below G (T12.setTop (mkF m 11 #[rv r0, rv b2, iv ((0 : Int32) + (1 : Int32))] [(.ref r0), (.int ((0 : Int32) + (1 : Int32)))]))
  obtain ⟨cl15, Ar15, Sz15, -, -⟩ := id f14
  refine Go.stp (fun t_ k_ => X12.arraylength hx (by rw [e12]; exact Ar15.1) (State.isArrayOf_alike hZ.alike Ar15.2.1) (g := (mkF m 11 #[rv r0, rv b2, iv ((0 : Int32) + (1 : Int32))] [(.ref r0), (.int ((0 : Int32) + (1 : Int32)))])) rfl rfl (hb hby d1_11) t_ k_) ?_
  rw [Sz15]
  show Go p.tables e below G (T12.setTop (mkF m 12 #[rv r0, rv b2, iv ((0 : Int32) + (1 : Int32))] [(.int (1 : Int32)), (.int ((0 : Int32) + (1 : Int32)))]))
  refine Go.stp (fun t_ k_ => XS.icmpYes X12.here hx rfl (pc0 := 12) (pc' := 44) rfl (hb hby d1_12) rfl (flt (by decide : ¬ (((0 : Int32) + (1 : Int32)) < (1 : Int32)))).2.1 (by decide) (by decide) k_) ?_
  show Go p.tables e below G (T12.setTop (mkF m 44 #[rv r0, rv b2, iv ((0 : Int32) + (1 : Int32))] []))
  refine Go.stp (fun t_ k_ => XS.aloadN X12.here hx rfl (hb hby d1_44) rfl rfl k_) ?_
  show Go p.tables e below G (T12.setTop (mkF m 45 #[rv r0, rv b2, iv ((0 : Int32) + (1 : Int32))] [(.ref b2)]))
  obtain ⟨fs, hr, hrun, hended, hW, hsame⟩ := X12.leave (v := some (.ref b2)) (fun h => by rw [Bd.returns] at h; cases h)
  refine ⟨_, _, retR X12 hx rfl rfl Bd.returns (hb hby d1_45) hr, hrun, hended, hG _ _ _ ?_ ⟨⟨_, rfl⟩, hW, hsame.mono (by decide) (by decide)⟩⟩
  show Q1_1 Z r0 f h0 n0 _ T12.heap _
  rw [e12]
  exact ⟨_, rfl, N12, K12, g_b2, f13⟩
theorem ef_1_2 (m : MethodId) (r0 : Addr) : entryFrame m #[(.ref r0)] 3 = mkF m 0 #[rv r0, un, un] [] := by first | (simp [entryFrame, mkF, argsToLocals, Value.category, iv, rv, lv, un, sd]; done) | rfl
def Q1_2 (Z : State) (r0 : Addr) (f : Nat → Int32) (h0 : Heap) (n0 : Nat) (v : Option Value) (h : Heap) (L : List Loc) : Prop := ∃ b : Addr, v = some (.ref b) ∧ Fr n0 L ∧ Keep h0 h [] ∧ n0 ≤ b ∧ Ia Z h b .byte 4 Value.int (upf (upf (upf (upf (fun _ => (0 : Int32)) 0 (own_hi (f 0))) 1 (own_lo (f 0))) 2 (own_hi (f 1))) 3 (own_lo (f 1)))
set_option maxRecDepth 65536 in
set_option maxHeartbeats 40000000 in
theorem rm1_2 (l : Launch) (Z : State) (a0 : Array Value) (hw : ∀ d ∈ tables_1, d.before a0 Z = true) (ws : List Jvm.Cond) (r0 : Addr) (f : Nat → Int32) (h0 : Heap) (n0 : Nat) (Z0 : n0 ≤ h0.size) (I_r0 : Ia Z h0 r0 .int 2 Value.int f) :
    MetFree l (⟨"com/example/slot2/slot2/card/FileCommands", "fids", "([I)[B"⟩ : MethodName) (head1 (Jvm.Cond.code (⟨"com/example/slot2/slot2/card/FileCommands", "fids", "([I)[B"⟩ : MethodName) prog_6_method_11_code 3 (some (.array .byte)) :: ws) ({ frames := 0, cells := 1, slots := 4, locals := 0 } : Room)) (fun a U => a = #[(.ref r0)] ∧ Z.Warmed39 U.vm ∧ U.heap = h0) (fun _ _ _ _ _ => True) (fun _ U o U' => ∃ v L, o = .returned v ∧ Q1_2 Z r0 f h0 n0 v U'.heap L ∧ FrameEnd U o U' L ({ frames := 0, cells := 1, slots := 4, locals := 0 } : Room).cells ({ frames := 0, cells := 1, slots := 4, locals := 0 } : Room).slots) := by
  refine MetFree.of_bodySF (plainFor_of_name pn_1) hisR ?_
  intro p e s m args below meth c s₁ Bd hml0 hP hK
  obtain ⟨rfl, hZ, hh⟩ := hP
  have hx := Bd.exec
  have hby := Bd.bytes
  have hml : c.maxLocals = 3 := hml0
  have hown : s.vm.findClass "com/example/slot2/slot2/card/FileCommands" = some m.cls := findClass_of_methodNamed Bd.named
  have hnm := (name_of_methodNamed Bd.named Bd.method).1
  have X0 : Stand p l e ({ frames := 0, cells := 1, slots := 4, locals := 0 } : Room) s m #[(.ref r0)] below meth c s₁ [] 0 0 := Stand.of_body Bd
  have e0 : s₁.heap = h0 := by rw [← hh, Bd.state]; rfl
  have N0 := Fr.nil n0
  suffices HH : ∀ G : Outcome → State → Prop, (∀ v L U', Q1_2 Z r0 f h0 n0 v U'.heap L → FrameEnd s (.returned v) U' L ({ frames := 0, cells := 1, slots := 4, locals := 0 } : Room).cells ({ frames := 0, cells := 1, slots := 4, locals := 0 } : Room).slots → G (.returned v) U') → Go p.tables e below G (s₁.setTop (mkF m 0 #[rv r0, un, un] [])) by
    obtain ⟨s2, o, h1, h2, h3, h4⟩ := HH (fun o U' => ∃ v L, o = .returned v ∧ Q1_2 Z r0 f h0 n0 v U'.heap L ∧ FrameEnd s o U' L ({ frames := 0, cells := 1, slots := 4, locals := 0 } : Room).cells ({ frames := 0, cells := 1, slots := 4, locals := 0 } : Room).slots) (fun v L U' q f => ⟨v, L, rfl, q, f⟩)
    exact ⟨s2, o, castTop (ef_1_2 m r0) h1, h2, h3, h4⟩
  intro G hG
  have K0 := Keep.refl h0 []
  show Go p.tables e below G (s₁.setTop (mkF m 0 #[rv r0, un, un] []))
  refine Go.stp (fun t_ k_ => XS.aloadN X0.here hx rfl (hb hby d1_0) rfl rfl k_) ?_
  show Go p.tables e below G (s₁.setTop (mkF m 1 #[rv r0, un, un] [(.ref r0)]))
  obtain ⟨cl1, Ar1, Sz1, -, -⟩ := id I_r0
  refine Go.stp (fun t_ k_ => X0.arraylength hx (by rw [e0]; exact Ar1.1) (State.isArrayOf_alike hZ.alike Ar1.2.1) (g := (mkF m 1 #[rv r0, un, un] [(.ref r0)])) rfl rfl (hb hby d1_1) t_ k_) ?_
  rw [Sz1]
  show Go p.tables e below G (s₁.setTop (mkF m 2 #[rv r0, un, un] [(.int (2 : Int32))]))
  refine Go.stp (fun t_ k_ => XS.iconst X0.here hx rfl (hb hby d1_2) k_) ?_
  show Go p.tables e below G (s₁.setTop (mkF m 3 #[rv r0, un, un] [(.int (2 : Int32)), (.int (2 : Int32))]))
  refine Go.stp (fun t_ k_ => XS.imul X0.here hx rfl (hb hby d1_3) rfl k_) ?_
  show Go p.tables e below G (s₁.setTop (mkF m 4 #[rv r0, un, un] [(.int ((2 : Int32) * (2 : Int32)))]))
  obtain ⟨T2, h2, k2, X2, e2, E2, A2, st2⟩ := newP X0 hx hZ (hw _ (List.mem_of_getElem? (i := 5) rfl)) e0 (g := (mkF m 4 #[rv r0, un, un] [(.int ((2 : Int32) * (2 : Int32)))])) rfl (hb hby d1_4) rfl (by decide) (cap := 4) (by decide) (by decide) (by decide) (by decide)
  obtain ⟨b2, g2⟩ : ∃ z, z = h0.size := ⟨_, rfl⟩
  rw [← g2] at A2 st2
  have u3 : r0 ≠ b2 := Nat.ne_of_lt (Nat.lt_of_lt_of_le I_r0.lt (Nat.le_of_eq g2.symm))
  have g_b2 : n0 ≤ b2 := Nat.le_trans Z0 (Nat.le_of_eq g2.symm)
  have sz_b2 : h0.size ≤ b2 := Nat.le_trans K0.1 (Nat.le_of_eq g2.symm)
  have f4 : Ia Z h2 r0 .int 2 Value.int f := I_r0.ext E2
  have Z2 : n0 ≤ h2.size := Nat.le_trans Z0 E2.1
  have K2 := K0.ext E2
  have f5 : Ia Z h2 b2 .byte 4 Value.int (fun _ => (0 : Int32)) := Ia.new A2 (by decide) (by decide) rfl
  refine Go.stp (fun t_ k_ => st2 t_ k_) ?_
  show Go p.tables e below G (T2.setTop (mkF m 6 #[rv r0, un, un] [(.ref b2)]))
  refine Go.stp (fun t_ k_ => XS.astoreN X2.here hx rfl (hb hby d1_6) rfl rfl (l' := #[rv r0, rv b2, un]) rfl k_) ?_
  show Go p.tables e below G (T2.setTop (mkF m 7 #[rv r0, rv b2, un] []))
  refine Go.stp (fun t_ k_ => XS.iconst X2.here hx rfl (hb hby d1_7) k_) ?_
  show Go p.tables e below G (T2.setTop (mkF m 8 #[rv r0, rv b2, un] [(.int (0 : Int32))]))
  refine Go.stp (fun t_ k_ => XS.istoreN X2.here hx rfl (hb hby d1_8) rfl (l' := #[rv r0, rv b2, iv (0 : Int32)]) rfl k_) ?_
  show Go p.tables e below G (T2.setTop (mkF m 9 #[rv r0, rv b2, iv (0 : Int32)] []))
  refine Go.stp (fun t_ k_ => XS.iloadN X2.here hx rfl (hb hby d1_9) rfl k_) ?_
  show Go p.tables e below G (T2.setTop (mkF m 10 #[rv r0, rv b2, iv (0 : Int32)] [(.int (0 : Int32))]))
  refine Go.stp (fun t_ k_ => XS.aloadN X2.here hx rfl (hb hby d1_10) rfl rfl k_) ?_
  show Go p.tables e below G (T2.setTop (mkF m 11 #[rv r0, rv b2, iv (0 : Int32)] [(.ref r0), (.int (0 : Int32))]))
  obtain ⟨cl6, Ar6, Sz6, -, -⟩ := id f4
  refine Go.stp (fun t_ k_ => X2.arraylength hx (by rw [e2]; exact Ar6.1) (State.isArrayOf_alike hZ.alike Ar6.2.1) (g := (mkF m 11 #[rv r0, rv b2, iv (0 : Int32)] [(.ref r0), (.int (0 : Int32))])) rfl rfl (hb hby d1_11) t_ k_) ?_
  rw [Sz6]
  show Go p.tables e below G (T2.setTop (mkF m 12 #[rv r0, rv b2, iv (0 : Int32)] [(.int (2 : Int32)), (.int (0 : Int32))]))
  refine Go.stp (fun t_ k_ => XS.icmpNo X2.here hx rfl (hb hby d1_12) rfl (tlt (by decide : (0 : Int32) < (2 : Int32))).2.1 k_) ?_
  show Go p.tables e below G (T2.setTop (mkF m 15 #[rv r0, rv b2, iv (0 : Int32)] []))
  refine Go.stp (fun t_ k_ => XS.aloadN X2.here hx rfl (hb hby d1_15) rfl rfl k_) ?_
  show Go p.tables e below G (T2.setTop (mkF m 16 #[rv r0, rv b2, iv (0 : Int32)] [(.ref b2)]))
  refine Go.stp (fun t_ k_ => XS.iconst X2.here hx rfl (hb hby d1_16) k_) ?_
  show Go p.tables e below G (T2.setTop (mkF m 17 #[rv r0, rv b2, iv (0 : Int32)] [(.int (2 : Int32)), (.ref b2)]))
  refine Go.stp (fun t_ k_ => XS.iloadN X2.here hx rfl (hb hby d1_17) rfl k_) ?_
  show Go p.tables e below G (T2.setTop (mkF m 18 #[rv r0, rv b2, iv (0 : Int32)] [(.int (0 : Int32)), (.int (2 : Int32)), (.ref b2)]))
  refine Go.stp (fun t_ k_ => XS.imul X2.here hx rfl (hb hby d1_18) rfl k_) ?_
  show Go p.tables e below G (T2.setTop (mkF m 19 #[rv r0, rv b2, iv (0 : Int32)] [(.int ((2 : Int32) * (0 : Int32))), (.ref b2)]))
  refine Go.stp (fun t_ k_ => XS.aloadN X2.here hx rfl (hb hby d1_19) rfl rfl k_) ?_
  show Go p.tables e below G (T2.setTop (mkF m 20 #[rv r0, rv b2, iv (0 : Int32)] [(.ref r0), (.int ((2 : Int32) * (0 : Int32))), (.ref b2)]))
  refine Go.stp (fun t_ k_ => XS.iloadN X2.here hx rfl (hb hby d1_20) rfl k_) ?_
  show Go p.tables e below G (T2.setTop (mkF m 21 #[rv r0, rv b2, iv (0 : Int32)] [(.int (0 : Int32)), (.ref r0), (.int ((2 : Int32) * (0 : Int32))), (.ref b2)]))
  obtain ⟨cl7, Ar7, Sz7, -, Hs7⟩ := id f4
  have ib7 : 0 ≤ ((0 : Int32)).toInt ∧ ((0 : Int32)).toInt < ((2 : Nat) : Int) := (by decide)
  refine Go.stp (fun t_ k_ => X2.iaload hx (j := (0 : Int32)) (v := (Value.int (f 0))) (by rw [e2]; exact Ar7.1) (State.isArrayOf_alike hZ.alike Ar7.2.1) Ar7.2.2 (in_of Sz7 ib7) (Hs7 0 (by decide)) (g := (mkF m 21 #[rv r0, rv b2, iv (0 : Int32)] [(.int (0 : Int32)), (.ref r0), (.int ((2 : Int32) * (0 : Int32))), (.ref b2)])) rfl rfl (hb hby d1_21) t_ k_) ?_
  show Go p.tables e below G (T2.setTop (mkF m 22 #[rv r0, rv b2, iv (0 : Int32)] [(.int (f 0)), (.int ((2 : Int32) * (0 : Int32))), (.ref b2)]))
  refine Go.stp (fun t_ k_ => XS.bipush X2.here hx rfl (hb hby d1_22) k_) ?_
  show Go p.tables e below G (T2.setTop (mkF m 24 #[rv r0, rv b2, iv (0 : Int32)] [(.int (8 : Int32)), (.int (f 0)), (.int ((2 : Int32) * (0 : Int32))), (.ref b2)]))
  refine Go.stp (fun t_ k_ => XS.ishr X2.here hx rfl (hb hby d1_24) rfl k_) ?_
  show Go p.tables e below G (T2.setTop (mkF m 25 #[rv r0, rv b2, iv (0 : Int32)] [(.int ((f 0) >>> ((8 : Int32) &&& 31))), (.int ((2 : Int32) * (0 : Int32))), (.ref b2)]))
  refine Go.stp (fun t_ k_ => XS.i2b X2.here hx rfl (hb hby d1_25) rfl k_) ?_
  show Go p.tables e below G (T2.setTop (mkF m 26 #[rv r0, rv b2, iv (0 : Int32)] [(.int (((f 0) >>> ((8 : Int32) &&& 31)).toInt8.toInt32)), (.int ((2 : Int32) * (0 : Int32))), (.ref b2)]))
  have ib8 : 0 ≤ (((2 : Int32) * (0 : Int32))).toInt ∧ (((2 : Int32) * (0 : Int32))).toInt < ((4 : Nat) : Int) := (by decide)
  obtain ⟨cl8, Ar8, Sz8, -, -⟩ := id f5
  obtain ⟨T8, h8, X8, e8, W8, st8⟩ := stB X2 hx hZ e2 Ar8 (j := ((2 : Int32) * (0 : Int32))) (in_of Sz8 ib8) (g := (mkF m 26 #[rv r0, rv b2, iv (0 : Int32)] [(.int (((f 0) >>> ((8 : Int32) &&& 31)).toInt8.toInt32)), (.int ((2 : Int32) * (0 : Int32))), (.ref b2)])) rfl rfl (hb hby d1_26)
  have f9 : Ia Z h8 b2 .byte 4 Value.int (upf (fun _ => (0 : Int32)) 0 (nar .byte (((f 0) >>> ((8 : Int32) &&& 31)).toInt8.toInt32))) := f5.set W8 (by decide)
  have f10 : Ia Z h8 r0 .int 2 Value.int f := f4.other W8 u3
  have N8 := Fr.snoc X8 N0 g_b2
  have K8 := K2.wr W8 (Or.inr sz_b2)
  have Z8 : n0 ≤ h8.size := Nat.le_trans Z2 (Keep.of_wr W8).1
  refine Go.stp (fun t_ k_ => st8 t_ k_) ?_
  show Go p.tables e below G (T8.setTop (mkF m 27 #[rv r0, rv b2, iv (0 : Int32)] []))
  refine Go.stp (fun t_ k_ => XS.aloadN X8.here hx rfl (hb hby d1_27) rfl rfl k_) ?_
  show Go p.tables e below G (T8.setTop (mkF m 28 #[rv r0, rv b2, iv (0 : Int32)] [(.ref b2)]))
  refine Go.stp (fun t_ k_ => XS.iconst X8.here hx rfl (hb hby d1_28) k_) ?_
  show Go p.tables e below G (T8.setTop (mkF m 29 #[rv r0, rv b2, iv (0 : Int32)] [(.int (2 : Int32)), (.ref b2)]))
  refine Go.stp (fun t_ k_ => XS.iloadN X8.here hx rfl (hb hby d1_29) rfl k_) ?_
  show Go p.tables e below G (T8.setTop (mkF m 30 #[rv r0, rv b2, iv (0 : Int32)] [(.int (0 : Int32)), (.int (2 : Int32)), (.ref b2)]))
  refine Go.stp (fun t_ k_ => XS.imul X8.here hx rfl (hb hby d1_30) rfl k_) ?_
  show Go p.tables e below G (T8.setTop (mkF m 31 #[rv r0, rv b2, iv (0 : Int32)] [(.int ((2 : Int32) * (0 : Int32))), (.ref b2)]))
  refine Go.stp (fun t_ k_ => XS.iconst X8.here hx rfl (hb hby d1_31) k_) ?_
  show Go p.tables e below G (T8.setTop (mkF m 32 #[rv r0, rv b2, iv (0 : Int32)] [(.int (1 : Int32)), (.int ((2 : Int32) * (0 : Int32))), (.ref b2)]))
  refine Go.stp (fun t_ k_ => XS.iadd X8.here hx rfl (hb hby d1_32) rfl k_) ?_
  show Go p.tables e below G (T8.setTop (mkF m 33 #[rv r0, rv b2, iv (0 : Int32)] [(.int (((2 : Int32) * (0 : Int32)) + (1 : Int32))), (.ref b2)]))
  refine Go.stp (fun t_ k_ => XS.aloadN X8.here hx rfl (hb hby d1_33) rfl rfl k_) ?_
  show Go p.tables e below G (T8.setTop (mkF m 34 #[rv r0, rv b2, iv (0 : Int32)] [(.ref r0), (.int (((2 : Int32) * (0 : Int32)) + (1 : Int32))), (.ref b2)]))
  refine Go.stp (fun t_ k_ => XS.iloadN X8.here hx rfl (hb hby d1_34) rfl k_) ?_
  show Go p.tables e below G (T8.setTop (mkF m 35 #[rv r0, rv b2, iv (0 : Int32)] [(.int (0 : Int32)), (.ref r0), (.int (((2 : Int32) * (0 : Int32)) + (1 : Int32))), (.ref b2)]))
  obtain ⟨cl11, Ar11, Sz11, -, Hs11⟩ := id f10
  have ib11 : 0 ≤ ((0 : Int32)).toInt ∧ ((0 : Int32)).toInt < ((2 : Nat) : Int) := (by decide)
  refine Go.stp (fun t_ k_ => X8.iaload hx (j := (0 : Int32)) (v := (Value.int (f 0))) (by rw [e8]; exact Ar11.1) (State.isArrayOf_alike hZ.alike Ar11.2.1) Ar11.2.2 (in_of Sz11 ib11) (Hs11 0 (by decide)) (g := (mkF m 35 #[rv r0, rv b2, iv (0 : Int32)] [(.int (0 : Int32)), (.ref r0), (.int (((2 : Int32) * (0 : Int32)) + (1 : Int32))), (.ref b2)])) rfl rfl (hb hby d1_35) t_ k_) ?_
  show Go p.tables e below G (T8.setTop (mkF m 36 #[rv r0, rv b2, iv (0 : Int32)] [(.int (f 0)), (.int (((2 : Int32) * (0 : Int32)) + (1 : Int32))), (.ref b2)]))
  refine Go.stp (fun t_ k_ => XS.i2b X8.here hx rfl (hb hby d1_36) rfl k_) ?_
  show Go p.tables e below G (T8.setTop (mkF m 37 #[rv r0, rv b2, iv (0 : Int32)] [(.int ((f 0).toInt8.toInt32)), (.int (((2 : Int32) * (0 : Int32)) + (1 : Int32))), (.ref b2)]))
  have ib12 : 0 ≤ ((((2 : Int32) * (0 : Int32)) + (1 : Int32))).toInt ∧ ((((2 : Int32) * (0 : Int32)) + (1 : Int32))).toInt < ((4 : Nat) : Int) := (by decide)
  obtain ⟨cl12, Ar12, Sz12, -, -⟩ := id f9
  obtain ⟨T12, h12, X12, e12, W12, st12⟩ := stB X8 hx hZ e8 Ar12 (j := (((2 : Int32) * (0 : Int32)) + (1 : Int32))) (in_of Sz12 ib12) (g := (mkF m 37 #[rv r0, rv b2, iv (0 : Int32)] [(.int ((f 0).toInt8.toInt32)), (.int (((2 : Int32) * (0 : Int32)) + (1 : Int32))), (.ref b2)])) rfl rfl (hb hby d1_37)
  have f13 : Ia Z h12 b2 .byte 4 Value.int (upf (upf (fun _ => (0 : Int32)) 0 (nar .byte (((f 0) >>> ((8 : Int32) &&& 31)).toInt8.toInt32))) 1 (nar .byte ((f 0).toInt8.toInt32))) := f9.set W12 (by decide)
  have f14 : Ia Z h12 r0 .int 2 Value.int f := f10.other W12 u3
  have N12 := Fr.snoc X12 N8 g_b2
  have K12 := K8.wr W12 (Or.inr sz_b2)
  have Z12 : n0 ≤ h12.size := Nat.le_trans Z8 (Keep.of_wr W12).1
  refine Go.stp (fun t_ k_ => st12 t_ k_) ?_
  show Go p.tables e below G (T12.setTop (mkF m 38 #[rv r0, rv b2, iv (0 : Int32)] []))
  refine Go.stp (fun t_ k_ => XS.iinc X12.here hx rfl (hb hby d1_38) rfl (l' := #[rv r0, rv b2, iv ((0 : Int32) + (1 : Int32))]) rfl k_) ?_
  show Go p.tables e below G (T12.setTop (mkF m 41 #[rv r0, rv b2, iv ((0 : Int32) + (1 : Int32))] []))
  refine Go.stp (fun t_ k_ => XS.goto X12.here hx rfl (pc0 := 41) (pc' := 9) rfl (hb hby d1_41) (by decide) (by decide) k_) ?_
  show Go p.tables e below G (T12.setTop (mkF m 9 #[rv r0, rv b2, iv ((0 : Int32) + (1 : Int32))] []))
  refine Go.stp (fun t_ k_ => XS.iloadN X12.here hx rfl (hb hby d1_9) rfl k_) ?_
  show Go p.tables e below G (T12.setTop (mkF m 10 #[rv r0, rv b2, iv ((0 : Int32) + (1 : Int32))] [(.int ((0 : Int32) + (1 : Int32)))]))
  refine Go.stp (fun t_ k_ => XS.aloadN X12.here hx rfl (hb hby d1_10) rfl rfl k_) ?_
  show Go p.tables e below G (T12.setTop (mkF m 11 #[rv r0, rv b2, iv ((0 : Int32) + (1 : Int32))] [(.ref r0), (.int ((0 : Int32) + (1 : Int32)))]))
  obtain ⟨cl15, Ar15, Sz15, -, -⟩ := id f14
  refine Go.stp (fun t_ k_ => X12.arraylength hx (by rw [e12]; exact Ar15.1) (State.isArrayOf_alike hZ.alike Ar15.2.1) (g := (mkF m 11 #[rv r0, rv b2, iv ((0 : Int32) + (1 : Int32))] [(.ref r0), (.int ((0 : Int32) + (1 : Int32)))])) rfl rfl (hb hby d1_11) t_ k_) ?_
  rw [Sz15]
  show Go p.tables e below G (T12.setTop (mkF m 12 #[rv r0, rv b2, iv ((0 : Int32) + (1 : Int32))] [(.int (2 : Int32)), (.int ((0 : Int32) + (1 : Int32)))]))
  refine Go.stp (fun t_ k_ => XS.icmpNo X12.here hx rfl (hb hby d1_12) rfl (tlt (by decide : ((0 : Int32) + (1 : Int32)) < (2 : Int32))).2.1 k_) ?_
  show Go p.tables e below G (T12.setTop (mkF m 15 #[rv r0, rv b2, iv ((0 : Int32) + (1 : Int32))] []))
  refine Go.stp (fun t_ k_ => XS.aloadN X12.here hx rfl (hb hby d1_15) rfl rfl k_) ?_
  show Go p.tables e below G (T12.setTop (mkF m 16 #[rv r0, rv b2, iv ((0 : Int32) + (1 : Int32))] [(.ref b2)]))
  refine Go.stp (fun t_ k_ => XS.iconst X12.here hx rfl (hb hby d1_16) k_) ?_
  show Go p.tables e below G (T12.setTop (mkF m 17 #[rv r0, rv b2, iv ((0 : Int32) + (1 : Int32))] [(.int (2 : Int32)), (.ref b2)]))
  refine Go.stp (fun t_ k_ => XS.iloadN X12.here hx rfl (hb hby d1_17) rfl k_) ?_
  show Go p.tables e below G (T12.setTop (mkF m 18 #[rv r0, rv b2, iv ((0 : Int32) + (1 : Int32))] [(.int ((0 : Int32) + (1 : Int32))), (.int (2 : Int32)), (.ref b2)]))
  refine Go.stp (fun t_ k_ => XS.imul X12.here hx rfl (hb hby d1_18) rfl k_) ?_
  show Go p.tables e below G (T12.setTop (mkF m 19 #[rv r0, rv b2, iv ((0 : Int32) + (1 : Int32))] [(.int ((2 : Int32) * ((0 : Int32) + (1 : Int32)))), (.ref b2)]))
  refine Go.stp (fun t_ k_ => XS.aloadN X12.here hx rfl (hb hby d1_19) rfl rfl k_) ?_
  show Go p.tables e below G (T12.setTop (mkF m 20 #[rv r0, rv b2, iv ((0 : Int32) + (1 : Int32))] [(.ref r0), (.int ((2 : Int32) * ((0 : Int32) + (1 : Int32)))), (.ref b2)]))
  refine Go.stp (fun t_ k_ => XS.iloadN X12.here hx rfl (hb hby d1_20) rfl k_) ?_
  show Go p.tables e below G (T12.setTop (mkF m 21 #[rv r0, rv b2, iv ((0 : Int32) + (1 : Int32))] [(.int ((0 : Int32) + (1 : Int32))), (.ref r0), (.int ((2 : Int32) * ((0 : Int32) + (1 : Int32)))), (.ref b2)]))
  obtain ⟨cl16, Ar16, Sz16, -, Hs16⟩ := id f14
  have ib16 : 0 ≤ (((0 : Int32) + (1 : Int32))).toInt ∧ (((0 : Int32) + (1 : Int32))).toInt < ((2 : Nat) : Int) := (by decide)
  refine Go.stp (fun t_ k_ => X12.iaload hx (j := ((0 : Int32) + (1 : Int32))) (v := (Value.int (f 1))) (by rw [e12]; exact Ar16.1) (State.isArrayOf_alike hZ.alike Ar16.2.1) Ar16.2.2 (in_of Sz16 ib16) (Hs16 1 (by decide)) (g := (mkF m 21 #[rv r0, rv b2, iv ((0 : Int32) + (1 : Int32))] [(.int ((0 : Int32) + (1 : Int32))), (.ref r0), (.int ((2 : Int32) * ((0 : Int32) + (1 : Int32)))), (.ref b2)])) rfl rfl (hb hby d1_21) t_ k_) ?_
  show Go p.tables e below G (T12.setTop (mkF m 22 #[rv r0, rv b2, iv ((0 : Int32) + (1 : Int32))] [(.int (f 1)), (.int ((2 : Int32) * ((0 : Int32) + (1 : Int32)))), (.ref b2)]))
  refine Go.stp (fun t_ k_ => XS.bipush X12.here hx rfl (hb hby d1_22) k_) ?_
  show Go p.tables e below G (T12.setTop (mkF m 24 #[rv r0, rv b2, iv ((0 : Int32) + (1 : Int32))] [(.int (8 : Int32)), (.int (f 1)), (.int ((2 : Int32) * ((0 : Int32) + (1 : Int32)))), (.ref b2)]))
  refine Go.stp (fun t_ k_ => XS.ishr X12.here hx rfl (hb hby d1_24) rfl k_) ?_
  show Go p.tables e below G (T12.setTop (mkF m 25 #[rv r0, rv b2, iv ((0 : Int32) + (1 : Int32))] [(.int ((f 1) >>> ((8 : Int32) &&& 31))), (.int ((2 : Int32) * ((0 : Int32) + (1 : Int32)))), (.ref b2)]))
  refine Go.stp (fun t_ k_ => XS.i2b X12.here hx rfl (hb hby d1_25) rfl k_) ?_
  show Go p.tables e below G (T12.setTop (mkF m 26 #[rv r0, rv b2, iv ((0 : Int32) + (1 : Int32))] [(.int (((f 1) >>> ((8 : Int32) &&& 31)).toInt8.toInt32)), (.int ((2 : Int32) * ((0 : Int32) + (1 : Int32)))), (.ref b2)]))
  have ib17 : 0 ≤ (((2 : Int32) * ((0 : Int32) + (1 : Int32)))).toInt ∧ (((2 : Int32) * ((0 : Int32) + (1 : Int32)))).toInt < ((4 : Nat) : Int) := (by decide)
  obtain ⟨cl17, Ar17, Sz17, -, -⟩ := id f13
  obtain ⟨T17, h17, X17, e17, W17, st17⟩ := stB X12 hx hZ e12 Ar17 (j := ((2 : Int32) * ((0 : Int32) + (1 : Int32)))) (in_of Sz17 ib17) (g := (mkF m 26 #[rv r0, rv b2, iv ((0 : Int32) + (1 : Int32))] [(.int (((f 1) >>> ((8 : Int32) &&& 31)).toInt8.toInt32)), (.int ((2 : Int32) * ((0 : Int32) + (1 : Int32)))), (.ref b2)])) rfl rfl (hb hby d1_26)
  have f18 : Ia Z h17 b2 .byte 4 Value.int (upf (upf (upf (fun _ => (0 : Int32)) 0 (nar .byte (((f 0) >>> ((8 : Int32) &&& 31)).toInt8.toInt32))) 1 (nar .byte ((f 0).toInt8.toInt32))) 2 (nar .byte (((f 1) >>> ((8 : Int32) &&& 31)).toInt8.toInt32))) := f13.set W17 (by decide)
  have f19 : Ia Z h17 r0 .int 2 Value.int f := f14.other W17 u3
  have N17 := Fr.snoc X17 N12 g_b2
  have K17 := K12.wr W17 (Or.inr sz_b2)
  have Z17 : n0 ≤ h17.size := Nat.le_trans Z12 (Keep.of_wr W17).1
  refine Go.stp (fun t_ k_ => st17 t_ k_) ?_
  show Go p.tables e below G (T17.setTop (mkF m 27 #[rv r0, rv b2, iv ((0 : Int32) + (1 : Int32))] []))
  refine Go.stp (fun t_ k_ => XS.aloadN X17.here hx rfl (hb hby d1_27) rfl rfl k_) ?_
  show Go p.tables e below G (T17.setTop (mkF m 28 #[rv r0, rv b2, iv ((0 : Int32) + (1 : Int32))] [(.ref b2)]))
  refine Go.stp (fun t_ k_ => XS.iconst X17.here hx rfl (hb hby d1_28) k_) ?_
  show Go p.tables e below G (T17.setTop (mkF m 29 #[rv r0, rv b2, iv ((0 : Int32) + (1 : Int32))] [(.int (2 : Int32)), (.ref b2)]))
  refine Go.stp (fun t_ k_ => XS.iloadN X17.here hx rfl (hb hby d1_29) rfl k_) ?_
  show Go p.tables e below G (T17.setTop (mkF m 30 #[rv r0, rv b2, iv ((0 : Int32) + (1 : Int32))] [(.int ((0 : Int32) + (1 : Int32))), (.int (2 : Int32)), (.ref b2)]))
  refine Go.stp (fun t_ k_ => XS.imul X17.here hx rfl (hb hby d1_30) rfl k_) ?_
  show Go p.tables e below G (T17.setTop (mkF m 31 #[rv r0, rv b2, iv ((0 : Int32) + (1 : Int32))] [(.int ((2 : Int32) * ((0 : Int32) + (1 : Int32)))), (.ref b2)]))
  refine Go.stp (fun t_ k_ => XS.iconst X17.here hx rfl (hb hby d1_31) k_) ?_
  show Go p.tables e below G (T17.setTop (mkF m 32 #[rv r0, rv b2, iv ((0 : Int32) + (1 : Int32))] [(.int (1 : Int32)), (.int ((2 : Int32) * ((0 : Int32) + (1 : Int32)))), (.ref b2)]))
  refine Go.stp (fun t_ k_ => XS.iadd X17.here hx rfl (hb hby d1_32) rfl k_) ?_
  show Go p.tables e below G (T17.setTop (mkF m 33 #[rv r0, rv b2, iv ((0 : Int32) + (1 : Int32))] [(.int (((2 : Int32) * ((0 : Int32) + (1 : Int32))) + (1 : Int32))), (.ref b2)]))
  refine Go.stp (fun t_ k_ => XS.aloadN X17.here hx rfl (hb hby d1_33) rfl rfl k_) ?_
  show Go p.tables e below G (T17.setTop (mkF m 34 #[rv r0, rv b2, iv ((0 : Int32) + (1 : Int32))] [(.ref r0), (.int (((2 : Int32) * ((0 : Int32) + (1 : Int32))) + (1 : Int32))), (.ref b2)]))
  refine Go.stp (fun t_ k_ => XS.iloadN X17.here hx rfl (hb hby d1_34) rfl k_) ?_
  show Go p.tables e below G (T17.setTop (mkF m 35 #[rv r0, rv b2, iv ((0 : Int32) + (1 : Int32))] [(.int ((0 : Int32) + (1 : Int32))), (.ref r0), (.int (((2 : Int32) * ((0 : Int32) + (1 : Int32))) + (1 : Int32))), (.ref b2)]))
  obtain ⟨cl20, Ar20, Sz20, -, Hs20⟩ := id f19
  have ib20 : 0 ≤ (((0 : Int32) + (1 : Int32))).toInt ∧ (((0 : Int32) + (1 : Int32))).toInt < ((2 : Nat) : Int) := (by decide)
  refine Go.stp (fun t_ k_ => X17.iaload hx (j := ((0 : Int32) + (1 : Int32))) (v := (Value.int (f 1))) (by rw [e17]; exact Ar20.1) (State.isArrayOf_alike hZ.alike Ar20.2.1) Ar20.2.2 (in_of Sz20 ib20) (Hs20 1 (by decide)) (g := (mkF m 35 #[rv r0, rv b2, iv ((0 : Int32) + (1 : Int32))] [(.int ((0 : Int32) + (1 : Int32))), (.ref r0), (.int (((2 : Int32) * ((0 : Int32) + (1 : Int32))) + (1 : Int32))), (.ref b2)])) rfl rfl (hb hby d1_35) t_ k_) ?_
  show Go p.tables e below G (T17.setTop (mkF m 36 #[rv r0, rv b2, iv ((0 : Int32) + (1 : Int32))] [(.int (f 1)), (.int (((2 : Int32) * ((0 : Int32) + (1 : Int32))) + (1 : Int32))), (.ref b2)]))
  refine Go.stp (fun t_ k_ => XS.i2b X17.here hx rfl (hb hby d1_36) rfl k_) ?_
  show Go p.tables e below G (T17.setTop (mkF m 37 #[rv r0, rv b2, iv ((0 : Int32) + (1 : Int32))] [(.int ((f 1).toInt8.toInt32)), (.int (((2 : Int32) * ((0 : Int32) + (1 : Int32))) + (1 : Int32))), (.ref b2)]))
  have ib21 : 0 ≤ ((((2 : Int32) * ((0 : Int32) + (1 : Int32))) + (1 : Int32))).toInt ∧ ((((2 : Int32) * ((0 : Int32) + (1 : Int32))) + (1 : Int32))).toInt < ((4 : Nat) : Int) := (by decide)
  obtain ⟨cl21, Ar21, Sz21, -, -⟩ := id f18
  obtain ⟨T21, h21, X21, e21, W21, st21⟩ := stB X17 hx hZ e17 Ar21 (j := (((2 : Int32) * ((0 : Int32) + (1 : Int32))) + (1 : Int32))) (in_of Sz21 ib21) (g := (mkF m 37 #[rv r0, rv b2, iv ((0 : Int32) + (1 : Int32))] [(.int ((f 1).toInt8.toInt32)), (.int (((2 : Int32) * ((0 : Int32) + (1 : Int32))) + (1 : Int32))), (.ref b2)])) rfl rfl (hb hby d1_37)
  have f22 : Ia Z h21 b2 .byte 4 Value.int (upf (upf (upf (upf (fun _ => (0 : Int32)) 0 (nar .byte (((f 0) >>> ((8 : Int32) &&& 31)).toInt8.toInt32))) 1 (nar .byte ((f 0).toInt8.toInt32))) 2 (nar .byte (((f 1) >>> ((8 : Int32) &&& 31)).toInt8.toInt32))) 3 (nar .byte ((f 1).toInt8.toInt32))) := f18.set W21 (by decide)
  have f23 : Ia Z h21 r0 .int 2 Value.int f := f19.other W21 u3
  have N21 := Fr.snoc X21 N17 g_b2
  have K21 := K17.wr W21 (Or.inr sz_b2)
  have Z21 : n0 ≤ h21.size := Nat.le_trans Z17 (Keep.of_wr W21).1
  refine Go.stp (fun t_ k_ => st21 t_ k_) ?_
  show Go p.tables e below G (T21.setTop (mkF m 38 #[rv r0, rv b2, iv ((0 : Int32) + (1 : Int32))] []))
  refine Go.stp (fun t_ k_ => XS.iinc X21.here hx rfl (hb hby d1_38) rfl (l' := #[rv r0, rv b2, iv (((0 : Int32) + (1 : Int32)) + (1 : Int32))]) rfl k_) ?_
  show Go p.tables e below G (T21.setTop (mkF m 41 #[rv r0, rv b2, iv (((0 : Int32) + (1 : Int32)) + (1 : Int32))] []))
  refine Go.stp (fun t_ k_ => XS.goto X21.here hx rfl (pc0 := 41) (pc' := 9) rfl (hb hby d1_41) (by decide) (by decide) k_) ?_
  show Go p.tables e below G (T21.setTop (mkF m 9 #[rv r0, rv b2, iv (((0 : Int32) + (1 : Int32)) + (1 : Int32))] []))
  refine Go.stp (fun t_ k_ => XS.iloadN X21.here hx rfl (hb hby d1_9) rfl k_) ?_
  show Go p.tables e below G (T21.setTop (mkF m 10 #[rv r0, rv b2, iv (((0 : Int32) + (1 : Int32)) + (1 : Int32))] [(.int (((0 : Int32) + (1 : Int32)) + (1 : Int32)))]))
  refine Go.stp (fun t_ k_ => XS.aloadN X21.here hx rfl (hb hby d1_10) rfl rfl k_) ?_
  show Go p.tables e below G (T21.setTop (mkF m 11 #[rv r0, rv b2, iv (((0 : Int32) + (1 : Int32)) + (1 : Int32))] [(.ref r0), (.int (((0 : Int32) + (1 : Int32)) + (1 : Int32)))]))
  obtain ⟨cl24, Ar24, Sz24, -, -⟩ := id f23
  refine Go.stp (fun t_ k_ => X21.arraylength hx (by rw [e21]; exact Ar24.1) (State.isArrayOf_alike hZ.alike Ar24.2.1) (g := (mkF m 11 #[rv r0, rv b2, iv (((0 : Int32) + (1 : Int32)) + (1 : Int32))] [(.ref r0), (.int (((0 : Int32) + (1 : Int32)) + (1 : Int32)))])) rfl rfl (hb hby d1_11) t_ k_) ?_
  rw [Sz24]
  show Go p.tables e below G (T21.setTop (mkF m 12 #[rv r0, rv b2, iv (((0 : Int32) + (1 : Int32)) + (1 : Int32))] [(.int (2 : Int32)), (.int (((0 : Int32) + (1 : Int32)) + (1 : Int32)))]))
  refine Go.stp (fun t_ k_ => XS.icmpYes X21.here hx rfl (pc0 := 12) (pc' := 44) rfl (hb hby d1_12) rfl (flt (by decide : ¬ ((((0 : Int32) + (1 : Int32)) + (1 : Int32)) < (2 : Int32)))).2.1 (by decide) (by decide) k_) ?_
  show Go p.tables e below G (T21.setTop (mkF m 44 #[rv r0, rv b2, iv (((0 : Int32) + (1 : Int32)) + (1 : Int32))] []))
  refine Go.stp (fun t_ k_ => XS.aloadN X21.here hx rfl (hb hby d1_44) rfl rfl k_) ?_
  show Go p.tables e below G (T21.setTop (mkF m 45 #[rv r0, rv b2, iv (((0 : Int32) + (1 : Int32)) + (1 : Int32))] [(.ref b2)]))
  obtain ⟨fs, hr, hrun, hended, hW, hsame⟩ := X21.leave (v := some (.ref b2)) (fun h => by rw [Bd.returns] at h; cases h)
  refine ⟨_, _, retR X21 hx rfl rfl Bd.returns (hb hby d1_45) hr, hrun, hended, hG _ _ _ ?_ ⟨⟨_, rfl⟩, hW, hsame.mono (by decide) (by decide)⟩⟩
  show Q1_2 Z r0 f h0 n0 _ T21.heap _
  rw [e21]
  exact ⟨_, rfl, N21, K21, g_b2, f22⟩
theorem ef_1_3 (m : MethodId) (r0 : Addr) : entryFrame m #[(.ref r0)] 3 = mkF m 0 #[rv r0, un, un] [] := by first | (simp [entryFrame, mkF, argsToLocals, Value.category, iv, rv, lv, un, sd]; done) | rfl
def Q1_3 (Z : State) (r0 : Addr) (f : Nat → Int32) (h0 : Heap) (n0 : Nat) (v : Option Value) (h : Heap) (L : List Loc) : Prop := ∃ b : Addr, v = some (.ref b) ∧ Fr n0 L ∧ Keep h0 h [] ∧ n0 ≤ b ∧ Ia Z h b .byte 6 Value.int (upf (upf (upf (upf (upf (upf (fun _ => (0 : Int32)) 0 (own_hi (f 0))) 1 (own_lo (f 0))) 2 (own_hi (f 1))) 3 (own_lo (f 1))) 4 (own_hi (f 2))) 5 (own_lo (f 2)))
set_option maxRecDepth 65536 in
set_option maxHeartbeats 40000000 in
theorem rm1_3 (l : Launch) (Z : State) (a0 : Array Value) (hw : ∀ d ∈ tables_1, d.before a0 Z = true) (ws : List Jvm.Cond) (r0 : Addr) (f : Nat → Int32) (h0 : Heap) (n0 : Nat) (Z0 : n0 ≤ h0.size) (I_r0 : Ia Z h0 r0 .int 3 Value.int f) :
    MetFree l (⟨"com/example/slot2/slot2/card/FileCommands", "fids", "([I)[B"⟩ : MethodName) (head1 (Jvm.Cond.code (⟨"com/example/slot2/slot2/card/FileCommands", "fids", "([I)[B"⟩ : MethodName) prog_6_method_11_code 3 (some (.array .byte)) :: ws) ({ frames := 0, cells := 1, slots := 6, locals := 0 } : Room)) (fun a U => a = #[(.ref r0)] ∧ Z.Warmed39 U.vm ∧ U.heap = h0) (fun _ _ _ _ _ => True) (fun _ U o U' => ∃ v L, o = .returned v ∧ Q1_3 Z r0 f h0 n0 v U'.heap L ∧ FrameEnd U o U' L ({ frames := 0, cells := 1, slots := 6, locals := 0 } : Room).cells ({ frames := 0, cells := 1, slots := 6, locals := 0 } : Room).slots) := by
  refine MetFree.of_bodySF (plainFor_of_name pn_1) hisR ?_
  intro p e s m args below meth c s₁ Bd hml0 hP hK
  obtain ⟨rfl, hZ, hh⟩ := hP
  have hx := Bd.exec
  have hby := Bd.bytes
  have hml : c.maxLocals = 3 := hml0
  have hown : s.vm.findClass "com/example/slot2/slot2/card/FileCommands" = some m.cls := findClass_of_methodNamed Bd.named
  have hnm := (name_of_methodNamed Bd.named Bd.method).1
  have X0 : Stand p l e ({ frames := 0, cells := 1, slots := 6, locals := 0 } : Room) s m #[(.ref r0)] below meth c s₁ [] 0 0 := Stand.of_body Bd
  have e0 : s₁.heap = h0 := by rw [← hh, Bd.state]; rfl
  have N0 := Fr.nil n0
  suffices HH : ∀ G : Outcome → State → Prop, (∀ v L U', Q1_3 Z r0 f h0 n0 v U'.heap L → FrameEnd s (.returned v) U' L ({ frames := 0, cells := 1, slots := 6, locals := 0 } : Room).cells ({ frames := 0, cells := 1, slots := 6, locals := 0 } : Room).slots → G (.returned v) U') → Go p.tables e below G (s₁.setTop (mkF m 0 #[rv r0, un, un] [])) by
    obtain ⟨s2, o, h1, h2, h3, h4⟩ := HH (fun o U' => ∃ v L, o = .returned v ∧ Q1_3 Z r0 f h0 n0 v U'.heap L ∧ FrameEnd s o U' L ({ frames := 0, cells := 1, slots := 6, locals := 0 } : Room).cells ({ frames := 0, cells := 1, slots := 6, locals := 0 } : Room).slots) (fun v L U' q f => ⟨v, L, rfl, q, f⟩)
    exact ⟨s2, o, castTop (ef_1_3 m r0) h1, h2, h3, h4⟩
  intro G hG
  have K0 := Keep.refl h0 []
  show Go p.tables e below G (s₁.setTop (mkF m 0 #[rv r0, un, un] []))
  refine Go.stp (fun t_ k_ => XS.aloadN X0.here hx rfl (hb hby d1_0) rfl rfl k_) ?_
  show Go p.tables e below G (s₁.setTop (mkF m 1 #[rv r0, un, un] [(.ref r0)]))
  obtain ⟨cl1, Ar1, Sz1, -, -⟩ := id I_r0
  refine Go.stp (fun t_ k_ => X0.arraylength hx (by rw [e0]; exact Ar1.1) (State.isArrayOf_alike hZ.alike Ar1.2.1) (g := (mkF m 1 #[rv r0, un, un] [(.ref r0)])) rfl rfl (hb hby d1_1) t_ k_) ?_
  rw [Sz1]
  show Go p.tables e below G (s₁.setTop (mkF m 2 #[rv r0, un, un] [(.int (3 : Int32))]))
  refine Go.stp (fun t_ k_ => XS.iconst X0.here hx rfl (hb hby d1_2) k_) ?_
  show Go p.tables e below G (s₁.setTop (mkF m 3 #[rv r0, un, un] [(.int (2 : Int32)), (.int (3 : Int32))]))
  refine Go.stp (fun t_ k_ => XS.imul X0.here hx rfl (hb hby d1_3) rfl k_) ?_
  show Go p.tables e below G (s₁.setTop (mkF m 4 #[rv r0, un, un] [(.int ((3 : Int32) * (2 : Int32)))]))
  obtain ⟨T2, h2, k2, X2, e2, E2, A2, st2⟩ := newP X0 hx hZ (hw _ (List.mem_of_getElem? (i := 5) rfl)) e0 (g := (mkF m 4 #[rv r0, un, un] [(.int ((3 : Int32) * (2 : Int32)))])) rfl (hb hby d1_4) rfl (by decide) (cap := 6) (by decide) (by decide) (by decide) (by decide)
  obtain ⟨b2, g2⟩ : ∃ z, z = h0.size := ⟨_, rfl⟩
  rw [← g2] at A2 st2
  have u3 : r0 ≠ b2 := Nat.ne_of_lt (Nat.lt_of_lt_of_le I_r0.lt (Nat.le_of_eq g2.symm))
  have g_b2 : n0 ≤ b2 := Nat.le_trans Z0 (Nat.le_of_eq g2.symm)
  have sz_b2 : h0.size ≤ b2 := Nat.le_trans K0.1 (Nat.le_of_eq g2.symm)
  have f4 : Ia Z h2 r0 .int 3 Value.int f := I_r0.ext E2
  have Z2 : n0 ≤ h2.size := Nat.le_trans Z0 E2.1
  have K2 := K0.ext E2
  have f5 : Ia Z h2 b2 .byte 6 Value.int (fun _ => (0 : Int32)) := Ia.new A2 (by decide) (by decide) rfl
  refine Go.stp (fun t_ k_ => st2 t_ k_) ?_
  show Go p.tables e below G (T2.setTop (mkF m 6 #[rv r0, un, un] [(.ref b2)]))
  refine Go.stp (fun t_ k_ => XS.astoreN X2.here hx rfl (hb hby d1_6) rfl rfl (l' := #[rv r0, rv b2, un]) rfl k_) ?_
  show Go p.tables e below G (T2.setTop (mkF m 7 #[rv r0, rv b2, un] []))
  refine Go.stp (fun t_ k_ => XS.iconst X2.here hx rfl (hb hby d1_7) k_) ?_
  show Go p.tables e below G (T2.setTop (mkF m 8 #[rv r0, rv b2, un] [(.int (0 : Int32))]))
  refine Go.stp (fun t_ k_ => XS.istoreN X2.here hx rfl (hb hby d1_8) rfl (l' := #[rv r0, rv b2, iv (0 : Int32)]) rfl k_) ?_
  show Go p.tables e below G (T2.setTop (mkF m 9 #[rv r0, rv b2, iv (0 : Int32)] []))
  refine Go.stp (fun t_ k_ => XS.iloadN X2.here hx rfl (hb hby d1_9) rfl k_) ?_
  show Go p.tables e below G (T2.setTop (mkF m 10 #[rv r0, rv b2, iv (0 : Int32)] [(.int (0 : Int32))]))
  refine Go.stp (fun t_ k_ => XS.aloadN X2.here hx rfl (hb hby d1_10) rfl rfl k_) ?_
  show Go p.tables e below G (T2.setTop (mkF m 11 #[rv r0, rv b2, iv (0 : Int32)] [(.ref r0), (.int (0 : Int32))]))
  obtain ⟨cl6, Ar6, Sz6, -, -⟩ := id f4
  refine Go.stp (fun t_ k_ => X2.arraylength hx (by rw [e2]; exact Ar6.1) (State.isArrayOf_alike hZ.alike Ar6.2.1) (g := (mkF m 11 #[rv r0, rv b2, iv (0 : Int32)] [(.ref r0), (.int (0 : Int32))])) rfl rfl (hb hby d1_11) t_ k_) ?_
  rw [Sz6]
  show Go p.tables e below G (T2.setTop (mkF m 12 #[rv r0, rv b2, iv (0 : Int32)] [(.int (3 : Int32)), (.int (0 : Int32))]))
  refine Go.stp (fun t_ k_ => XS.icmpNo X2.here hx rfl (hb hby d1_12) rfl (tlt (by decide : (0 : Int32) < (3 : Int32))).2.1 k_) ?_
  show Go p.tables e below G (T2.setTop (mkF m 15 #[rv r0, rv b2, iv (0 : Int32)] []))
  refine Go.stp (fun t_ k_ => XS.aloadN X2.here hx rfl (hb hby d1_15) rfl rfl k_) ?_
  show Go p.tables e below G (T2.setTop (mkF m 16 #[rv r0, rv b2, iv (0 : Int32)] [(.ref b2)]))
  refine Go.stp (fun t_ k_ => XS.iconst X2.here hx rfl (hb hby d1_16) k_) ?_
  show Go p.tables e below G (T2.setTop (mkF m 17 #[rv r0, rv b2, iv (0 : Int32)] [(.int (2 : Int32)), (.ref b2)]))
  refine Go.stp (fun t_ k_ => XS.iloadN X2.here hx rfl (hb hby d1_17) rfl k_) ?_
  show Go p.tables e below G (T2.setTop (mkF m 18 #[rv r0, rv b2, iv (0 : Int32)] [(.int (0 : Int32)), (.int (2 : Int32)), (.ref b2)]))
  refine Go.stp (fun t_ k_ => XS.imul X2.here hx rfl (hb hby d1_18) rfl k_) ?_
  show Go p.tables e below G (T2.setTop (mkF m 19 #[rv r0, rv b2, iv (0 : Int32)] [(.int ((2 : Int32) * (0 : Int32))), (.ref b2)]))
  refine Go.stp (fun t_ k_ => XS.aloadN X2.here hx rfl (hb hby d1_19) rfl rfl k_) ?_
  show Go p.tables e below G (T2.setTop (mkF m 20 #[rv r0, rv b2, iv (0 : Int32)] [(.ref r0), (.int ((2 : Int32) * (0 : Int32))), (.ref b2)]))
  refine Go.stp (fun t_ k_ => XS.iloadN X2.here hx rfl (hb hby d1_20) rfl k_) ?_
  show Go p.tables e below G (T2.setTop (mkF m 21 #[rv r0, rv b2, iv (0 : Int32)] [(.int (0 : Int32)), (.ref r0), (.int ((2 : Int32) * (0 : Int32))), (.ref b2)]))
  obtain ⟨cl7, Ar7, Sz7, -, Hs7⟩ := id f4
  have ib7 : 0 ≤ ((0 : Int32)).toInt ∧ ((0 : Int32)).toInt < ((3 : Nat) : Int) := (by decide)
  refine Go.stp (fun t_ k_ => X2.iaload hx (j := (0 : Int32)) (v := (Value.int (f 0))) (by rw [e2]; exact Ar7.1) (State.isArrayOf_alike hZ.alike Ar7.2.1) Ar7.2.2 (in_of Sz7 ib7) (Hs7 0 (by decide)) (g := (mkF m 21 #[rv r0, rv b2, iv (0 : Int32)] [(.int (0 : Int32)), (.ref r0), (.int ((2 : Int32) * (0 : Int32))), (.ref b2)])) rfl rfl (hb hby d1_21) t_ k_) ?_
  show Go p.tables e below G (T2.setTop (mkF m 22 #[rv r0, rv b2, iv (0 : Int32)] [(.int (f 0)), (.int ((2 : Int32) * (0 : Int32))), (.ref b2)]))
  refine Go.stp (fun t_ k_ => XS.bipush X2.here hx rfl (hb hby d1_22) k_) ?_
  show Go p.tables e below G (T2.setTop (mkF m 24 #[rv r0, rv b2, iv (0 : Int32)] [(.int (8 : Int32)), (.int (f 0)), (.int ((2 : Int32) * (0 : Int32))), (.ref b2)]))
  refine Go.stp (fun t_ k_ => XS.ishr X2.here hx rfl (hb hby d1_24) rfl k_) ?_
  show Go p.tables e below G (T2.setTop (mkF m 25 #[rv r0, rv b2, iv (0 : Int32)] [(.int ((f 0) >>> ((8 : Int32) &&& 31))), (.int ((2 : Int32) * (0 : Int32))), (.ref b2)]))
  refine Go.stp (fun t_ k_ => XS.i2b X2.here hx rfl (hb hby d1_25) rfl k_) ?_
  show Go p.tables e below G (T2.setTop (mkF m 26 #[rv r0, rv b2, iv (0 : Int32)] [(.int (((f 0) >>> ((8 : Int32) &&& 31)).toInt8.toInt32)), (.int ((2 : Int32) * (0 : Int32))), (.ref b2)]))
  have ib8 : 0 ≤ (((2 : Int32) * (0 : Int32))).toInt ∧ (((2 : Int32) * (0 : Int32))).toInt < ((6 : Nat) : Int) := (by decide)
  obtain ⟨cl8, Ar8, Sz8, -, -⟩ := id f5
  obtain ⟨T8, h8, X8, e8, W8, st8⟩ := stB X2 hx hZ e2 Ar8 (j := ((2 : Int32) * (0 : Int32))) (in_of Sz8 ib8) (g := (mkF m 26 #[rv r0, rv b2, iv (0 : Int32)] [(.int (((f 0) >>> ((8 : Int32) &&& 31)).toInt8.toInt32)), (.int ((2 : Int32) * (0 : Int32))), (.ref b2)])) rfl rfl (hb hby d1_26)
  have f9 : Ia Z h8 b2 .byte 6 Value.int (upf (fun _ => (0 : Int32)) 0 (nar .byte (((f 0) >>> ((8 : Int32) &&& 31)).toInt8.toInt32))) := f5.set W8 (by decide)
  have f10 : Ia Z h8 r0 .int 3 Value.int f := f4.other W8 u3
  have N8 := Fr.snoc X8 N0 g_b2
  have K8 := K2.wr W8 (Or.inr sz_b2)
  have Z8 : n0 ≤ h8.size := Nat.le_trans Z2 (Keep.of_wr W8).1
  refine Go.stp (fun t_ k_ => st8 t_ k_) ?_
  show Go p.tables e below G (T8.setTop (mkF m 27 #[rv r0, rv b2, iv (0 : Int32)] []))
  refine Go.stp (fun t_ k_ => XS.aloadN X8.here hx rfl (hb hby d1_27) rfl rfl k_) ?_
  show Go p.tables e below G (T8.setTop (mkF m 28 #[rv r0, rv b2, iv (0 : Int32)] [(.ref b2)]))
  refine Go.stp (fun t_ k_ => XS.iconst X8.here hx rfl (hb hby d1_28) k_) ?_
  show Go p.tables e below G (T8.setTop (mkF m 29 #[rv r0, rv b2, iv (0 : Int32)] [(.int (2 : Int32)), (.ref b2)]))
  refine Go.stp (fun t_ k_ => XS.iloadN X8.here hx rfl (hb hby d1_29) rfl k_) ?_
  show Go p.tables e below G (T8.setTop (mkF m 30 #[rv r0, rv b2, iv (0 : Int32)] [(.int (0 : Int32)), (.int (2 : Int32)), (.ref b2)]))
  refine Go.stp (fun t_ k_ => XS.imul X8.here hx rfl (hb hby d1_30) rfl k_) ?_
  show Go p.tables e below G (T8.setTop (mkF m 31 #[rv r0, rv b2, iv (0 : Int32)] [(.int ((2 : Int32) * (0 : Int32))), (.ref b2)]))
  refine Go.stp (fun t_ k_ => XS.iconst X8.here hx rfl (hb hby d1_31) k_) ?_
  show Go p.tables e below G (T8.setTop (mkF m 32 #[rv r0, rv b2, iv (0 : Int32)] [(.int (1 : Int32)), (.int ((2 : Int32) * (0 : Int32))), (.ref b2)]))
  refine Go.stp (fun t_ k_ => XS.iadd X8.here hx rfl (hb hby d1_32) rfl k_) ?_
  show Go p.tables e below G (T8.setTop (mkF m 33 #[rv r0, rv b2, iv (0 : Int32)] [(.int (((2 : Int32) * (0 : Int32)) + (1 : Int32))), (.ref b2)]))
  refine Go.stp (fun t_ k_ => XS.aloadN X8.here hx rfl (hb hby d1_33) rfl rfl k_) ?_
  show Go p.tables e below G (T8.setTop (mkF m 34 #[rv r0, rv b2, iv (0 : Int32)] [(.ref r0), (.int (((2 : Int32) * (0 : Int32)) + (1 : Int32))), (.ref b2)]))
  refine Go.stp (fun t_ k_ => XS.iloadN X8.here hx rfl (hb hby d1_34) rfl k_) ?_
  show Go p.tables e below G (T8.setTop (mkF m 35 #[rv r0, rv b2, iv (0 : Int32)] [(.int (0 : Int32)), (.ref r0), (.int (((2 : Int32) * (0 : Int32)) + (1 : Int32))), (.ref b2)]))
  obtain ⟨cl11, Ar11, Sz11, -, Hs11⟩ := id f10
  have ib11 : 0 ≤ ((0 : Int32)).toInt ∧ ((0 : Int32)).toInt < ((3 : Nat) : Int) := (by decide)
  refine Go.stp (fun t_ k_ => X8.iaload hx (j := (0 : Int32)) (v := (Value.int (f 0))) (by rw [e8]; exact Ar11.1) (State.isArrayOf_alike hZ.alike Ar11.2.1) Ar11.2.2 (in_of Sz11 ib11) (Hs11 0 (by decide)) (g := (mkF m 35 #[rv r0, rv b2, iv (0 : Int32)] [(.int (0 : Int32)), (.ref r0), (.int (((2 : Int32) * (0 : Int32)) + (1 : Int32))), (.ref b2)])) rfl rfl (hb hby d1_35) t_ k_) ?_
  show Go p.tables e below G (T8.setTop (mkF m 36 #[rv r0, rv b2, iv (0 : Int32)] [(.int (f 0)), (.int (((2 : Int32) * (0 : Int32)) + (1 : Int32))), (.ref b2)]))
  refine Go.stp (fun t_ k_ => XS.i2b X8.here hx rfl (hb hby d1_36) rfl k_) ?_
  show Go p.tables e below G (T8.setTop (mkF m 37 #[rv r0, rv b2, iv (0 : Int32)] [(.int ((f 0).toInt8.toInt32)), (.int (((2 : Int32) * (0 : Int32)) + (1 : Int32))), (.ref b2)]))
  have ib12 : 0 ≤ ((((2 : Int32) * (0 : Int32)) + (1 : Int32))).toInt ∧ ((((2 : Int32) * (0 : Int32)) + (1 : Int32))).toInt < ((6 : Nat) : Int) := (by decide)
  obtain ⟨cl12, Ar12, Sz12, -, -⟩ := id f9
  obtain ⟨T12, h12, X12, e12, W12, st12⟩ := stB X8 hx hZ e8 Ar12 (j := (((2 : Int32) * (0 : Int32)) + (1 : Int32))) (in_of Sz12 ib12) (g := (mkF m 37 #[rv r0, rv b2, iv (0 : Int32)] [(.int ((f 0).toInt8.toInt32)), (.int (((2 : Int32) * (0 : Int32)) + (1 : Int32))), (.ref b2)])) rfl rfl (hb hby d1_37)
  have f13 : Ia Z h12 b2 .byte 6 Value.int (upf (upf (fun _ => (0 : Int32)) 0 (nar .byte (((f 0) >>> ((8 : Int32) &&& 31)).toInt8.toInt32))) 1 (nar .byte ((f 0).toInt8.toInt32))) := f9.set W12 (by decide)
  have f14 : Ia Z h12 r0 .int 3 Value.int f := f10.other W12 u3
  have N12 := Fr.snoc X12 N8 g_b2
  have K12 := K8.wr W12 (Or.inr sz_b2)
  have Z12 : n0 ≤ h12.size := Nat.le_trans Z8 (Keep.of_wr W12).1
  refine Go.stp (fun t_ k_ => st12 t_ k_) ?_
  show Go p.tables e below G (T12.setTop (mkF m 38 #[rv r0, rv b2, iv (0 : Int32)] []))
  refine Go.stp (fun t_ k_ => XS.iinc X12.here hx rfl (hb hby d1_38) rfl (l' := #[rv r0, rv b2, iv ((0 : Int32) + (1 : Int32))]) rfl k_) ?_
  show Go p.tables e below G (T12.setTop (mkF m 41 #[rv r0, rv b2, iv ((0 : Int32) + (1 : Int32))] []))
  refine Go.stp (fun t_ k_ => XS.goto X12.here hx rfl (pc0 := 41) (pc' := 9) rfl (hb hby d1_41) (by decide) (by decide) k_) ?_
  show Go p.tables e below G (T12.setTop (mkF m 9 #[rv r0, rv b2, iv ((0 : Int32) + (1 : Int32))] []))
  refine Go.stp (fun t_ k_ => XS.iloadN X12.here hx rfl (hb hby d1_9) rfl k_) ?_
  show Go p.tables e below G (T12.setTop (mkF m 10 #[rv r0, rv b2, iv ((0 : Int32) + (1 : Int32))] [(.int ((0 : Int32) + (1 : Int32)))]))
  refine Go.stp (fun t_ k_ => XS.aloadN X12.here hx rfl (hb hby d1_10) rfl rfl k_) ?_
  show Go p.tables e below G (T12.setTop (mkF m 11 #[rv r0, rv b2, iv ((0 : Int32) + (1 : Int32))] [(.ref r0), (.int ((0 : Int32) + (1 : Int32)))]))
  obtain ⟨cl15, Ar15, Sz15, -, -⟩ := id f14
  refine Go.stp (fun t_ k_ => X12.arraylength hx (by rw [e12]; exact Ar15.1) (State.isArrayOf_alike hZ.alike Ar15.2.1) (g := (mkF m 11 #[rv r0, rv b2, iv ((0 : Int32) + (1 : Int32))] [(.ref r0), (.int ((0 : Int32) + (1 : Int32)))])) rfl rfl (hb hby d1_11) t_ k_) ?_
  rw [Sz15]
  show Go p.tables e below G (T12.setTop (mkF m 12 #[rv r0, rv b2, iv ((0 : Int32) + (1 : Int32))] [(.int (3 : Int32)), (.int ((0 : Int32) + (1 : Int32)))]))
  refine Go.stp (fun t_ k_ => XS.icmpNo X12.here hx rfl (hb hby d1_12) rfl (tlt (by decide : ((0 : Int32) + (1 : Int32)) < (3 : Int32))).2.1 k_) ?_
  show Go p.tables e below G (T12.setTop (mkF m 15 #[rv r0, rv b2, iv ((0 : Int32) + (1 : Int32))] []))
  refine Go.stp (fun t_ k_ => XS.aloadN X12.here hx rfl (hb hby d1_15) rfl rfl k_) ?_
  show Go p.tables e below G (T12.setTop (mkF m 16 #[rv r0, rv b2, iv ((0 : Int32) + (1 : Int32))] [(.ref b2)]))
  refine Go.stp (fun t_ k_ => XS.iconst X12.here hx rfl (hb hby d1_16) k_) ?_
  show Go p.tables e below G (T12.setTop (mkF m 17 #[rv r0, rv b2, iv ((0 : Int32) + (1 : Int32))] [(.int (2 : Int32)), (.ref b2)]))
  refine Go.stp (fun t_ k_ => XS.iloadN X12.here hx rfl (hb hby d1_17) rfl k_) ?_
  show Go p.tables e below G (T12.setTop (mkF m 18 #[rv r0, rv b2, iv ((0 : Int32) + (1 : Int32))] [(.int ((0 : Int32) + (1 : Int32))), (.int (2 : Int32)), (.ref b2)]))
  refine Go.stp (fun t_ k_ => XS.imul X12.here hx rfl (hb hby d1_18) rfl k_) ?_
  show Go p.tables e below G (T12.setTop (mkF m 19 #[rv r0, rv b2, iv ((0 : Int32) + (1 : Int32))] [(.int ((2 : Int32) * ((0 : Int32) + (1 : Int32)))), (.ref b2)]))
  refine Go.stp (fun t_ k_ => XS.aloadN X12.here hx rfl (hb hby d1_19) rfl rfl k_) ?_
  show Go p.tables e below G (T12.setTop (mkF m 20 #[rv r0, rv b2, iv ((0 : Int32) + (1 : Int32))] [(.ref r0), (.int ((2 : Int32) * ((0 : Int32) + (1 : Int32)))), (.ref b2)]))
  refine Go.stp (fun t_ k_ => XS.iloadN X12.here hx rfl (hb hby d1_20) rfl k_) ?_
  show Go p.tables e below G (T12.setTop (mkF m 21 #[rv r0, rv b2, iv ((0 : Int32) + (1 : Int32))] [(.int ((0 : Int32) + (1 : Int32))), (.ref r0), (.int ((2 : Int32) * ((0 : Int32) + (1 : Int32)))), (.ref b2)]))
  obtain ⟨cl16, Ar16, Sz16, -, Hs16⟩ := id f14
  have ib16 : 0 ≤ (((0 : Int32) + (1 : Int32))).toInt ∧ (((0 : Int32) + (1 : Int32))).toInt < ((3 : Nat) : Int) := (by decide)
  refine Go.stp (fun t_ k_ => X12.iaload hx (j := ((0 : Int32) + (1 : Int32))) (v := (Value.int (f 1))) (by rw [e12]; exact Ar16.1) (State.isArrayOf_alike hZ.alike Ar16.2.1) Ar16.2.2 (in_of Sz16 ib16) (Hs16 1 (by decide)) (g := (mkF m 21 #[rv r0, rv b2, iv ((0 : Int32) + (1 : Int32))] [(.int ((0 : Int32) + (1 : Int32))), (.ref r0), (.int ((2 : Int32) * ((0 : Int32) + (1 : Int32)))), (.ref b2)])) rfl rfl (hb hby d1_21) t_ k_) ?_
  show Go p.tables e below G (T12.setTop (mkF m 22 #[rv r0, rv b2, iv ((0 : Int32) + (1 : Int32))] [(.int (f 1)), (.int ((2 : Int32) * ((0 : Int32) + (1 : Int32)))), (.ref b2)]))
  refine Go.stp (fun t_ k_ => XS.bipush X12.here hx rfl (hb hby d1_22) k_) ?_
  show Go p.tables e below G (T12.setTop (mkF m 24 #[rv r0, rv b2, iv ((0 : Int32) + (1 : Int32))] [(.int (8 : Int32)), (.int (f 1)), (.int ((2 : Int32) * ((0 : Int32) + (1 : Int32)))), (.ref b2)]))
  refine Go.stp (fun t_ k_ => XS.ishr X12.here hx rfl (hb hby d1_24) rfl k_) ?_
  show Go p.tables e below G (T12.setTop (mkF m 25 #[rv r0, rv b2, iv ((0 : Int32) + (1 : Int32))] [(.int ((f 1) >>> ((8 : Int32) &&& 31))), (.int ((2 : Int32) * ((0 : Int32) + (1 : Int32)))), (.ref b2)]))
  refine Go.stp (fun t_ k_ => XS.i2b X12.here hx rfl (hb hby d1_25) rfl k_) ?_
  show Go p.tables e below G (T12.setTop (mkF m 26 #[rv r0, rv b2, iv ((0 : Int32) + (1 : Int32))] [(.int (((f 1) >>> ((8 : Int32) &&& 31)).toInt8.toInt32)), (.int ((2 : Int32) * ((0 : Int32) + (1 : Int32)))), (.ref b2)]))
  have ib17 : 0 ≤ (((2 : Int32) * ((0 : Int32) + (1 : Int32)))).toInt ∧ (((2 : Int32) * ((0 : Int32) + (1 : Int32)))).toInt < ((6 : Nat) : Int) := (by decide)
  obtain ⟨cl17, Ar17, Sz17, -, -⟩ := id f13
  obtain ⟨T17, h17, X17, e17, W17, st17⟩ := stB X12 hx hZ e12 Ar17 (j := ((2 : Int32) * ((0 : Int32) + (1 : Int32)))) (in_of Sz17 ib17) (g := (mkF m 26 #[rv r0, rv b2, iv ((0 : Int32) + (1 : Int32))] [(.int (((f 1) >>> ((8 : Int32) &&& 31)).toInt8.toInt32)), (.int ((2 : Int32) * ((0 : Int32) + (1 : Int32)))), (.ref b2)])) rfl rfl (hb hby d1_26)
  have f18 : Ia Z h17 b2 .byte 6 Value.int (upf (upf (upf (fun _ => (0 : Int32)) 0 (nar .byte (((f 0) >>> ((8 : Int32) &&& 31)).toInt8.toInt32))) 1 (nar .byte ((f 0).toInt8.toInt32))) 2 (nar .byte (((f 1) >>> ((8 : Int32) &&& 31)).toInt8.toInt32))) := f13.set W17 (by decide)
  have f19 : Ia Z h17 r0 .int 3 Value.int f := f14.other W17 u3
  have N17 := Fr.snoc X17 N12 g_b2
  have K17 := K12.wr W17 (Or.inr sz_b2)
  have Z17 : n0 ≤ h17.size := Nat.le_trans Z12 (Keep.of_wr W17).1
  refine Go.stp (fun t_ k_ => st17 t_ k_) ?_
  show Go p.tables e below G (T17.setTop (mkF m 27 #[rv r0, rv b2, iv ((0 : Int32) + (1 : Int32))] []))
  refine Go.stp (fun t_ k_ => XS.aloadN X17.here hx rfl (hb hby d1_27) rfl rfl k_) ?_
  show Go p.tables e below G (T17.setTop (mkF m 28 #[rv r0, rv b2, iv ((0 : Int32) + (1 : Int32))] [(.ref b2)]))
  refine Go.stp (fun t_ k_ => XS.iconst X17.here hx rfl (hb hby d1_28) k_) ?_
  show Go p.tables e below G (T17.setTop (mkF m 29 #[rv r0, rv b2, iv ((0 : Int32) + (1 : Int32))] [(.int (2 : Int32)), (.ref b2)]))
  refine Go.stp (fun t_ k_ => XS.iloadN X17.here hx rfl (hb hby d1_29) rfl k_) ?_
  show Go p.tables e below G (T17.setTop (mkF m 30 #[rv r0, rv b2, iv ((0 : Int32) + (1 : Int32))] [(.int ((0 : Int32) + (1 : Int32))), (.int (2 : Int32)), (.ref b2)]))
  refine Go.stp (fun t_ k_ => XS.imul X17.here hx rfl (hb hby d1_30) rfl k_) ?_
  show Go p.tables e below G (T17.setTop (mkF m 31 #[rv r0, rv b2, iv ((0 : Int32) + (1 : Int32))] [(.int ((2 : Int32) * ((0 : Int32) + (1 : Int32)))), (.ref b2)]))
  refine Go.stp (fun t_ k_ => XS.iconst X17.here hx rfl (hb hby d1_31) k_) ?_
  show Go p.tables e below G (T17.setTop (mkF m 32 #[rv r0, rv b2, iv ((0 : Int32) + (1 : Int32))] [(.int (1 : Int32)), (.int ((2 : Int32) * ((0 : Int32) + (1 : Int32)))), (.ref b2)]))
  refine Go.stp (fun t_ k_ => XS.iadd X17.here hx rfl (hb hby d1_32) rfl k_) ?_
  show Go p.tables e below G (T17.setTop (mkF m 33 #[rv r0, rv b2, iv ((0 : Int32) + (1 : Int32))] [(.int (((2 : Int32) * ((0 : Int32) + (1 : Int32))) + (1 : Int32))), (.ref b2)]))
  refine Go.stp (fun t_ k_ => XS.aloadN X17.here hx rfl (hb hby d1_33) rfl rfl k_) ?_
  show Go p.tables e below G (T17.setTop (mkF m 34 #[rv r0, rv b2, iv ((0 : Int32) + (1 : Int32))] [(.ref r0), (.int (((2 : Int32) * ((0 : Int32) + (1 : Int32))) + (1 : Int32))), (.ref b2)]))
  refine Go.stp (fun t_ k_ => XS.iloadN X17.here hx rfl (hb hby d1_34) rfl k_) ?_
  show Go p.tables e below G (T17.setTop (mkF m 35 #[rv r0, rv b2, iv ((0 : Int32) + (1 : Int32))] [(.int ((0 : Int32) + (1 : Int32))), (.ref r0), (.int (((2 : Int32) * ((0 : Int32) + (1 : Int32))) + (1 : Int32))), (.ref b2)]))
  obtain ⟨cl20, Ar20, Sz20, -, Hs20⟩ := id f19
  have ib20 : 0 ≤ (((0 : Int32) + (1 : Int32))).toInt ∧ (((0 : Int32) + (1 : Int32))).toInt < ((3 : Nat) : Int) := (by decide)
  refine Go.stp (fun t_ k_ => X17.iaload hx (j := ((0 : Int32) + (1 : Int32))) (v := (Value.int (f 1))) (by rw [e17]; exact Ar20.1) (State.isArrayOf_alike hZ.alike Ar20.2.1) Ar20.2.2 (in_of Sz20 ib20) (Hs20 1 (by decide)) (g := (mkF m 35 #[rv r0, rv b2, iv ((0 : Int32) + (1 : Int32))] [(.int ((0 : Int32) + (1 : Int32))), (.ref r0), (.int (((2 : Int32) * ((0 : Int32) + (1 : Int32))) + (1 : Int32))), (.ref b2)])) rfl rfl (hb hby d1_35) t_ k_) ?_
  show Go p.tables e below G (T17.setTop (mkF m 36 #[rv r0, rv b2, iv ((0 : Int32) + (1 : Int32))] [(.int (f 1)), (.int (((2 : Int32) * ((0 : Int32) + (1 : Int32))) + (1 : Int32))), (.ref b2)]))
  refine Go.stp (fun t_ k_ => XS.i2b X17.here hx rfl (hb hby d1_36) rfl k_) ?_
  show Go p.tables e below G (T17.setTop (mkF m 37 #[rv r0, rv b2, iv ((0 : Int32) + (1 : Int32))] [(.int ((f 1).toInt8.toInt32)), (.int (((2 : Int32) * ((0 : Int32) + (1 : Int32))) + (1 : Int32))), (.ref b2)]))
  have ib21 : 0 ≤ ((((2 : Int32) * ((0 : Int32) + (1 : Int32))) + (1 : Int32))).toInt ∧ ((((2 : Int32) * ((0 : Int32) + (1 : Int32))) + (1 : Int32))).toInt < ((6 : Nat) : Int) := (by decide)
  obtain ⟨cl21, Ar21, Sz21, -, -⟩ := id f18
  obtain ⟨T21, h21, X21, e21, W21, st21⟩ := stB X17 hx hZ e17 Ar21 (j := (((2 : Int32) * ((0 : Int32) + (1 : Int32))) + (1 : Int32))) (in_of Sz21 ib21) (g := (mkF m 37 #[rv r0, rv b2, iv ((0 : Int32) + (1 : Int32))] [(.int ((f 1).toInt8.toInt32)), (.int (((2 : Int32) * ((0 : Int32) + (1 : Int32))) + (1 : Int32))), (.ref b2)])) rfl rfl (hb hby d1_37)
  have f22 : Ia Z h21 b2 .byte 6 Value.int (upf (upf (upf (upf (fun _ => (0 : Int32)) 0 (nar .byte (((f 0) >>> ((8 : Int32) &&& 31)).toInt8.toInt32))) 1 (nar .byte ((f 0).toInt8.toInt32))) 2 (nar .byte (((f 1) >>> ((8 : Int32) &&& 31)).toInt8.toInt32))) 3 (nar .byte ((f 1).toInt8.toInt32))) := f18.set W21 (by decide)
  have f23 : Ia Z h21 r0 .int 3 Value.int f := f19.other W21 u3
  have N21 := Fr.snoc X21 N17 g_b2
  have K21 := K17.wr W21 (Or.inr sz_b2)
  have Z21 : n0 ≤ h21.size := Nat.le_trans Z17 (Keep.of_wr W21).1
  refine Go.stp (fun t_ k_ => st21 t_ k_) ?_
  show Go p.tables e below G (T21.setTop (mkF m 38 #[rv r0, rv b2, iv ((0 : Int32) + (1 : Int32))] []))
  refine Go.stp (fun t_ k_ => XS.iinc X21.here hx rfl (hb hby d1_38) rfl (l' := #[rv r0, rv b2, iv (((0 : Int32) + (1 : Int32)) + (1 : Int32))]) rfl k_) ?_
  show Go p.tables e below G (T21.setTop (mkF m 41 #[rv r0, rv b2, iv (((0 : Int32) + (1 : Int32)) + (1 : Int32))] []))
  refine Go.stp (fun t_ k_ => XS.goto X21.here hx rfl (pc0 := 41) (pc' := 9) rfl (hb hby d1_41) (by decide) (by decide) k_) ?_
  show Go p.tables e below G (T21.setTop (mkF m 9 #[rv r0, rv b2, iv (((0 : Int32) + (1 : Int32)) + (1 : Int32))] []))
  refine Go.stp (fun t_ k_ => XS.iloadN X21.here hx rfl (hb hby d1_9) rfl k_) ?_
  show Go p.tables e below G (T21.setTop (mkF m 10 #[rv r0, rv b2, iv (((0 : Int32) + (1 : Int32)) + (1 : Int32))] [(.int (((0 : Int32) + (1 : Int32)) + (1 : Int32)))]))
  refine Go.stp (fun t_ k_ => XS.aloadN X21.here hx rfl (hb hby d1_10) rfl rfl k_) ?_
  show Go p.tables e below G (T21.setTop (mkF m 11 #[rv r0, rv b2, iv (((0 : Int32) + (1 : Int32)) + (1 : Int32))] [(.ref r0), (.int (((0 : Int32) + (1 : Int32)) + (1 : Int32)))]))
  obtain ⟨cl24, Ar24, Sz24, -, -⟩ := id f23
  refine Go.stp (fun t_ k_ => X21.arraylength hx (by rw [e21]; exact Ar24.1) (State.isArrayOf_alike hZ.alike Ar24.2.1) (g := (mkF m 11 #[rv r0, rv b2, iv (((0 : Int32) + (1 : Int32)) + (1 : Int32))] [(.ref r0), (.int (((0 : Int32) + (1 : Int32)) + (1 : Int32)))])) rfl rfl (hb hby d1_11) t_ k_) ?_
  rw [Sz24]
  show Go p.tables e below G (T21.setTop (mkF m 12 #[rv r0, rv b2, iv (((0 : Int32) + (1 : Int32)) + (1 : Int32))] [(.int (3 : Int32)), (.int (((0 : Int32) + (1 : Int32)) + (1 : Int32)))]))
  refine Go.stp (fun t_ k_ => XS.icmpNo X21.here hx rfl (hb hby d1_12) rfl (tlt (by decide : (((0 : Int32) + (1 : Int32)) + (1 : Int32)) < (3 : Int32))).2.1 k_) ?_
  show Go p.tables e below G (T21.setTop (mkF m 15 #[rv r0, rv b2, iv (((0 : Int32) + (1 : Int32)) + (1 : Int32))] []))
  refine Go.stp (fun t_ k_ => XS.aloadN X21.here hx rfl (hb hby d1_15) rfl rfl k_) ?_
  show Go p.tables e below G (T21.setTop (mkF m 16 #[rv r0, rv b2, iv (((0 : Int32) + (1 : Int32)) + (1 : Int32))] [(.ref b2)]))
  refine Go.stp (fun t_ k_ => XS.iconst X21.here hx rfl (hb hby d1_16) k_) ?_
  show Go p.tables e below G (T21.setTop (mkF m 17 #[rv r0, rv b2, iv (((0 : Int32) + (1 : Int32)) + (1 : Int32))] [(.int (2 : Int32)), (.ref b2)]))
  refine Go.stp (fun t_ k_ => XS.iloadN X21.here hx rfl (hb hby d1_17) rfl k_) ?_
  show Go p.tables e below G (T21.setTop (mkF m 18 #[rv r0, rv b2, iv (((0 : Int32) + (1 : Int32)) + (1 : Int32))] [(.int (((0 : Int32) + (1 : Int32)) + (1 : Int32))), (.int (2 : Int32)), (.ref b2)]))
  refine Go.stp (fun t_ k_ => XS.imul X21.here hx rfl (hb hby d1_18) rfl k_) ?_
  show Go p.tables e below G (T21.setTop (mkF m 19 #[rv r0, rv b2, iv (((0 : Int32) + (1 : Int32)) + (1 : Int32))] [(.int ((2 : Int32) * (((0 : Int32) + (1 : Int32)) + (1 : Int32)))), (.ref b2)]))
  refine Go.stp (fun t_ k_ => XS.aloadN X21.here hx rfl (hb hby d1_19) rfl rfl k_) ?_
  show Go p.tables e below G (T21.setTop (mkF m 20 #[rv r0, rv b2, iv (((0 : Int32) + (1 : Int32)) + (1 : Int32))] [(.ref r0), (.int ((2 : Int32) * (((0 : Int32) + (1 : Int32)) + (1 : Int32)))), (.ref b2)]))
  refine Go.stp (fun t_ k_ => XS.iloadN X21.here hx rfl (hb hby d1_20) rfl k_) ?_
  show Go p.tables e below G (T21.setTop (mkF m 21 #[rv r0, rv b2, iv (((0 : Int32) + (1 : Int32)) + (1 : Int32))] [(.int (((0 : Int32) + (1 : Int32)) + (1 : Int32))), (.ref r0), (.int ((2 : Int32) * (((0 : Int32) + (1 : Int32)) + (1 : Int32)))), (.ref b2)]))
  obtain ⟨cl25, Ar25, Sz25, -, Hs25⟩ := id f23
  have ib25 : 0 ≤ ((((0 : Int32) + (1 : Int32)) + (1 : Int32))).toInt ∧ ((((0 : Int32) + (1 : Int32)) + (1 : Int32))).toInt < ((3 : Nat) : Int) := (by decide)
  refine Go.stp (fun t_ k_ => X21.iaload hx (j := (((0 : Int32) + (1 : Int32)) + (1 : Int32))) (v := (Value.int (f 2))) (by rw [e21]; exact Ar25.1) (State.isArrayOf_alike hZ.alike Ar25.2.1) Ar25.2.2 (in_of Sz25 ib25) (Hs25 2 (by decide)) (g := (mkF m 21 #[rv r0, rv b2, iv (((0 : Int32) + (1 : Int32)) + (1 : Int32))] [(.int (((0 : Int32) + (1 : Int32)) + (1 : Int32))), (.ref r0), (.int ((2 : Int32) * (((0 : Int32) + (1 : Int32)) + (1 : Int32)))), (.ref b2)])) rfl rfl (hb hby d1_21) t_ k_) ?_
  show Go p.tables e below G (T21.setTop (mkF m 22 #[rv r0, rv b2, iv (((0 : Int32) + (1 : Int32)) + (1 : Int32))] [(.int (f 2)), (.int ((2 : Int32) * (((0 : Int32) + (1 : Int32)) + (1 : Int32)))), (.ref b2)]))
  refine Go.stp (fun t_ k_ => XS.bipush X21.here hx rfl (hb hby d1_22) k_) ?_
  show Go p.tables e below G (T21.setTop (mkF m 24 #[rv r0, rv b2, iv (((0 : Int32) + (1 : Int32)) + (1 : Int32))] [(.int (8 : Int32)), (.int (f 2)), (.int ((2 : Int32) * (((0 : Int32) + (1 : Int32)) + (1 : Int32)))), (.ref b2)]))
  refine Go.stp (fun t_ k_ => XS.ishr X21.here hx rfl (hb hby d1_24) rfl k_) ?_
  show Go p.tables e below G (T21.setTop (mkF m 25 #[rv r0, rv b2, iv (((0 : Int32) + (1 : Int32)) + (1 : Int32))] [(.int ((f 2) >>> ((8 : Int32) &&& 31))), (.int ((2 : Int32) * (((0 : Int32) + (1 : Int32)) + (1 : Int32)))), (.ref b2)]))
  refine Go.stp (fun t_ k_ => XS.i2b X21.here hx rfl (hb hby d1_25) rfl k_) ?_
  show Go p.tables e below G (T21.setTop (mkF m 26 #[rv r0, rv b2, iv (((0 : Int32) + (1 : Int32)) + (1 : Int32))] [(.int (((f 2) >>> ((8 : Int32) &&& 31)).toInt8.toInt32)), (.int ((2 : Int32) * (((0 : Int32) + (1 : Int32)) + (1 : Int32)))), (.ref b2)]))
  have ib26 : 0 ≤ (((2 : Int32) * (((0 : Int32) + (1 : Int32)) + (1 : Int32)))).toInt ∧ (((2 : Int32) * (((0 : Int32) + (1 : Int32)) + (1 : Int32)))).toInt < ((6 : Nat) : Int) := (by decide)
  obtain ⟨cl26, Ar26, Sz26, -, -⟩ := id f22
  obtain ⟨T26, h26, X26, e26, W26, st26⟩ := stB X21 hx hZ e21 Ar26 (j := ((2 : Int32) * (((0 : Int32) + (1 : Int32)) + (1 : Int32)))) (in_of Sz26 ib26) (g := (mkF m 26 #[rv r0, rv b2, iv (((0 : Int32) + (1 : Int32)) + (1 : Int32))] [(.int (((f 2) >>> ((8 : Int32) &&& 31)).toInt8.toInt32)), (.int ((2 : Int32) * (((0 : Int32) + (1 : Int32)) + (1 : Int32)))), (.ref b2)])) rfl rfl (hb hby d1_26)
  have f27 : Ia Z h26 b2 .byte 6 Value.int (upf (upf (upf (upf (upf (fun _ => (0 : Int32)) 0 (nar .byte (((f 0) >>> ((8 : Int32) &&& 31)).toInt8.toInt32))) 1 (nar .byte ((f 0).toInt8.toInt32))) 2 (nar .byte (((f 1) >>> ((8 : Int32) &&& 31)).toInt8.toInt32))) 3 (nar .byte ((f 1).toInt8.toInt32))) 4 (nar .byte (((f 2) >>> ((8 : Int32) &&& 31)).toInt8.toInt32))) := f22.set W26 (by decide)
  have f28 : Ia Z h26 r0 .int 3 Value.int f := f23.other W26 u3
  have N26 := Fr.snoc X26 N21 g_b2
  have K26 := K21.wr W26 (Or.inr sz_b2)
  have Z26 : n0 ≤ h26.size := Nat.le_trans Z21 (Keep.of_wr W26).1
  refine Go.stp (fun t_ k_ => st26 t_ k_) ?_
  show Go p.tables e below G (T26.setTop (mkF m 27 #[rv r0, rv b2, iv (((0 : Int32) + (1 : Int32)) + (1 : Int32))] []))
  refine Go.stp (fun t_ k_ => XS.aloadN X26.here hx rfl (hb hby d1_27) rfl rfl k_) ?_
  show Go p.tables e below G (T26.setTop (mkF m 28 #[rv r0, rv b2, iv (((0 : Int32) + (1 : Int32)) + (1 : Int32))] [(.ref b2)]))
  refine Go.stp (fun t_ k_ => XS.iconst X26.here hx rfl (hb hby d1_28) k_) ?_
  show Go p.tables e below G (T26.setTop (mkF m 29 #[rv r0, rv b2, iv (((0 : Int32) + (1 : Int32)) + (1 : Int32))] [(.int (2 : Int32)), (.ref b2)]))
  refine Go.stp (fun t_ k_ => XS.iloadN X26.here hx rfl (hb hby d1_29) rfl k_) ?_
  show Go p.tables e below G (T26.setTop (mkF m 30 #[rv r0, rv b2, iv (((0 : Int32) + (1 : Int32)) + (1 : Int32))] [(.int (((0 : Int32) + (1 : Int32)) + (1 : Int32))), (.int (2 : Int32)), (.ref b2)]))
  refine Go.stp (fun t_ k_ => XS.imul X26.here hx rfl (hb hby d1_30) rfl k_) ?_
  show Go p.tables e below G (T26.setTop (mkF m 31 #[rv r0, rv b2, iv (((0 : Int32) + (1 : Int32)) + (1 : Int32))] [(.int ((2 : Int32) * (((0 : Int32) + (1 : Int32)) + (1 : Int32)))), (.ref b2)]))
  refine Go.stp (fun t_ k_ => XS.iconst X26.here hx rfl (hb hby d1_31) k_) ?_
  show Go p.tables e below G (T26.setTop (mkF m 32 #[rv r0, rv b2, iv (((0 : Int32) + (1 : Int32)) + (1 : Int32))] [(.int (1 : Int32)), (.int ((2 : Int32) * (((0 : Int32) + (1 : Int32)) + (1 : Int32)))), (.ref b2)]))
  refine Go.stp (fun t_ k_ => XS.iadd X26.here hx rfl (hb hby d1_32) rfl k_) ?_
  show Go p.tables e below G (T26.setTop (mkF m 33 #[rv r0, rv b2, iv (((0 : Int32) + (1 : Int32)) + (1 : Int32))] [(.int (((2 : Int32) * (((0 : Int32) + (1 : Int32)) + (1 : Int32))) + (1 : Int32))), (.ref b2)]))
  refine Go.stp (fun t_ k_ => XS.aloadN X26.here hx rfl (hb hby d1_33) rfl rfl k_) ?_
  show Go p.tables e below G (T26.setTop (mkF m 34 #[rv r0, rv b2, iv (((0 : Int32) + (1 : Int32)) + (1 : Int32))] [(.ref r0), (.int (((2 : Int32) * (((0 : Int32) + (1 : Int32)) + (1 : Int32))) + (1 : Int32))), (.ref b2)]))
  refine Go.stp (fun t_ k_ => XS.iloadN X26.here hx rfl (hb hby d1_34) rfl k_) ?_
  show Go p.tables e below G (T26.setTop (mkF m 35 #[rv r0, rv b2, iv (((0 : Int32) + (1 : Int32)) + (1 : Int32))] [(.int (((0 : Int32) + (1 : Int32)) + (1 : Int32))), (.ref r0), (.int (((2 : Int32) * (((0 : Int32) + (1 : Int32)) + (1 : Int32))) + (1 : Int32))), (.ref b2)]))
  obtain ⟨cl29, Ar29, Sz29, -, Hs29⟩ := id f28
  have ib29 : 0 ≤ ((((0 : Int32) + (1 : Int32)) + (1 : Int32))).toInt ∧ ((((0 : Int32) + (1 : Int32)) + (1 : Int32))).toInt < ((3 : Nat) : Int) := (by decide)
  refine Go.stp (fun t_ k_ => X26.iaload hx (j := (((0 : Int32) + (1 : Int32)) + (1 : Int32))) (v := (Value.int (f 2))) (by rw [e26]; exact Ar29.1) (State.isArrayOf_alike hZ.alike Ar29.2.1) Ar29.2.2 (in_of Sz29 ib29) (Hs29 2 (by decide)) (g := (mkF m 35 #[rv r0, rv b2, iv (((0 : Int32) + (1 : Int32)) + (1 : Int32))] [(.int (((0 : Int32) + (1 : Int32)) + (1 : Int32))), (.ref r0), (.int (((2 : Int32) * (((0 : Int32) + (1 : Int32)) + (1 : Int32))) + (1 : Int32))), (.ref b2)])) rfl rfl (hb hby d1_35) t_ k_) ?_
  show Go p.tables e below G (T26.setTop (mkF m 36 #[rv r0, rv b2, iv (((0 : Int32) + (1 : Int32)) + (1 : Int32))] [(.int (f 2)), (.int (((2 : Int32) * (((0 : Int32) + (1 : Int32)) + (1 : Int32))) + (1 : Int32))), (.ref b2)]))
  refine Go.stp (fun t_ k_ => XS.i2b X26.here hx rfl (hb hby d1_36) rfl k_) ?_
  show Go p.tables e below G (T26.setTop (mkF m 37 #[rv r0, rv b2, iv (((0 : Int32) + (1 : Int32)) + (1 : Int32))] [(.int ((f 2).toInt8.toInt32)), (.int (((2 : Int32) * (((0 : Int32) + (1 : Int32)) + (1 : Int32))) + (1 : Int32))), (.ref b2)]))
  have ib30 : 0 ≤ ((((2 : Int32) * (((0 : Int32) + (1 : Int32)) + (1 : Int32))) + (1 : Int32))).toInt ∧ ((((2 : Int32) * (((0 : Int32) + (1 : Int32)) + (1 : Int32))) + (1 : Int32))).toInt < ((6 : Nat) : Int) := (by decide)
  obtain ⟨cl30, Ar30, Sz30, -, -⟩ := id f27
  obtain ⟨T30, h30, X30, e30, W30, st30⟩ := stB X26 hx hZ e26 Ar30 (j := (((2 : Int32) * (((0 : Int32) + (1 : Int32)) + (1 : Int32))) + (1 : Int32))) (in_of Sz30 ib30) (g := (mkF m 37 #[rv r0, rv b2, iv (((0 : Int32) + (1 : Int32)) + (1 : Int32))] [(.int ((f 2).toInt8.toInt32)), (.int (((2 : Int32) * (((0 : Int32) + (1 : Int32)) + (1 : Int32))) + (1 : Int32))), (.ref b2)])) rfl rfl (hb hby d1_37)
  have f31 : Ia Z h30 b2 .byte 6 Value.int (upf (upf (upf (upf (upf (upf (fun _ => (0 : Int32)) 0 (nar .byte (((f 0) >>> ((8 : Int32) &&& 31)).toInt8.toInt32))) 1 (nar .byte ((f 0).toInt8.toInt32))) 2 (nar .byte (((f 1) >>> ((8 : Int32) &&& 31)).toInt8.toInt32))) 3 (nar .byte ((f 1).toInt8.toInt32))) 4 (nar .byte (((f 2) >>> ((8 : Int32) &&& 31)).toInt8.toInt32))) 5 (nar .byte ((f 2).toInt8.toInt32))) := f27.set W30 (by decide)
  have f32 : Ia Z h30 r0 .int 3 Value.int f := f28.other W30 u3
  have N30 := Fr.snoc X30 N26 g_b2
  have K30 := K26.wr W30 (Or.inr sz_b2)
  have Z30 : n0 ≤ h30.size := Nat.le_trans Z26 (Keep.of_wr W30).1
  refine Go.stp (fun t_ k_ => st30 t_ k_) ?_
  show Go p.tables e below G (T30.setTop (mkF m 38 #[rv r0, rv b2, iv (((0 : Int32) + (1 : Int32)) + (1 : Int32))] []))
  refine Go.stp (fun t_ k_ => XS.iinc X30.here hx rfl (hb hby d1_38) rfl (l' := #[rv r0, rv b2, iv ((((0 : Int32) + (1 : Int32)) + (1 : Int32)) + (1 : Int32))]) rfl k_) ?_
  show Go p.tables e below G (T30.setTop (mkF m 41 #[rv r0, rv b2, iv ((((0 : Int32) + (1 : Int32)) + (1 : Int32)) + (1 : Int32))] []))
  refine Go.stp (fun t_ k_ => XS.goto X30.here hx rfl (pc0 := 41) (pc' := 9) rfl (hb hby d1_41) (by decide) (by decide) k_) ?_
  show Go p.tables e below G (T30.setTop (mkF m 9 #[rv r0, rv b2, iv ((((0 : Int32) + (1 : Int32)) + (1 : Int32)) + (1 : Int32))] []))
  refine Go.stp (fun t_ k_ => XS.iloadN X30.here hx rfl (hb hby d1_9) rfl k_) ?_
  show Go p.tables e below G (T30.setTop (mkF m 10 #[rv r0, rv b2, iv ((((0 : Int32) + (1 : Int32)) + (1 : Int32)) + (1 : Int32))] [(.int ((((0 : Int32) + (1 : Int32)) + (1 : Int32)) + (1 : Int32)))]))
  refine Go.stp (fun t_ k_ => XS.aloadN X30.here hx rfl (hb hby d1_10) rfl rfl k_) ?_
  show Go p.tables e below G (T30.setTop (mkF m 11 #[rv r0, rv b2, iv ((((0 : Int32) + (1 : Int32)) + (1 : Int32)) + (1 : Int32))] [(.ref r0), (.int ((((0 : Int32) + (1 : Int32)) + (1 : Int32)) + (1 : Int32)))]))
  obtain ⟨cl33, Ar33, Sz33, -, -⟩ := id f32
  refine Go.stp (fun t_ k_ => X30.arraylength hx (by rw [e30]; exact Ar33.1) (State.isArrayOf_alike hZ.alike Ar33.2.1) (g := (mkF m 11 #[rv r0, rv b2, iv ((((0 : Int32) + (1 : Int32)) + (1 : Int32)) + (1 : Int32))] [(.ref r0), (.int ((((0 : Int32) + (1 : Int32)) + (1 : Int32)) + (1 : Int32)))])) rfl rfl (hb hby d1_11) t_ k_) ?_
  rw [Sz33]
  show Go p.tables e below G (T30.setTop (mkF m 12 #[rv r0, rv b2, iv ((((0 : Int32) + (1 : Int32)) + (1 : Int32)) + (1 : Int32))] [(.int (3 : Int32)), (.int ((((0 : Int32) + (1 : Int32)) + (1 : Int32)) + (1 : Int32)))]))
  refine Go.stp (fun t_ k_ => XS.icmpYes X30.here hx rfl (pc0 := 12) (pc' := 44) rfl (hb hby d1_12) rfl (flt (by decide : ¬ (((((0 : Int32) + (1 : Int32)) + (1 : Int32)) + (1 : Int32)) < (3 : Int32)))).2.1 (by decide) (by decide) k_) ?_
  show Go p.tables e below G (T30.setTop (mkF m 44 #[rv r0, rv b2, iv ((((0 : Int32) + (1 : Int32)) + (1 : Int32)) + (1 : Int32))] []))
  refine Go.stp (fun t_ k_ => XS.aloadN X30.here hx rfl (hb hby d1_44) rfl rfl k_) ?_
  show Go p.tables e below G (T30.setTop (mkF m 45 #[rv r0, rv b2, iv ((((0 : Int32) + (1 : Int32)) + (1 : Int32)) + (1 : Int32))] [(.ref b2)]))
  obtain ⟨fs, hr, hrun, hended, hW, hsame⟩ := X30.leave (v := some (.ref b2)) (fun h => by rw [Bd.returns] at h; cases h)
  refine ⟨_, _, retR X30 hx rfl rfl Bd.returns (hb hby d1_45) hr, hrun, hended, hG _ _ _ ?_ ⟨⟨_, rfl⟩, hW, hsame.mono (by decide) (by decide)⟩⟩
  show Q1_3 Z r0 f h0 n0 _ T30.heap _
  rw [e30]
  exact ⟨_, rfl, N30, K30, g_b2, f31⟩
theorem pn_2 : plainName "com/example/slot2/slot2/card/FileCommandsFidsPinLaw" = true := by first | (simp [plainName, overriddenIn]; done) | decide +kernel
theorem d2_0 : decode method_3_code 0 = .ok (.aload_n 0, 1) := by decide +kernel
theorem d2_1 : decode method_3_code 1 = .ok (.iconst 2, 1) := by decide +kernel
theorem d2_2 : decode method_3_code 2 = .ok (.iload_n 1, 1) := by decide +kernel
theorem d2_3 : decode method_3_code 3 = .ok (.imul, 1) := by decide +kernel
theorem d2_4 : decode method_3_code 4 = .ok (.baload, 1) := by decide +kernel
theorem d2_5 : decode method_3_code 5 = .ok (.sipush 255, 3) := by decide +kernel
theorem d2_8 : decode method_3_code 8 = .ok (.iand, 1) := by decide +kernel
theorem d2_9 : decode method_3_code 9 = .ok (.bipush 8, 2) := by decide +kernel
theorem d2_11 : decode method_3_code 11 = .ok (.ishl, 1) := by decide +kernel
theorem d2_12 : decode method_3_code 12 = .ok (.aload_n 0, 1) := by decide +kernel
theorem d2_13 : decode method_3_code 13 = .ok (.iconst 2, 1) := by decide +kernel
theorem d2_14 : decode method_3_code 14 = .ok (.iload_n 1, 1) := by decide +kernel
theorem d2_15 : decode method_3_code 15 = .ok (.imul, 1) := by decide +kernel
theorem d2_16 : decode method_3_code 16 = .ok (.iconst 1, 1) := by decide +kernel
theorem d2_17 : decode method_3_code 17 = .ok (.iadd, 1) := by decide +kernel
theorem d2_18 : decode method_3_code 18 = .ok (.baload, 1) := by decide +kernel
theorem d2_19 : decode method_3_code 19 = .ok (.sipush 255, 3) := by decide +kernel
theorem d2_22 : decode method_3_code 22 = .ok (.iand, 1) := by decide +kernel
theorem d2_23 : decode method_3_code 23 = .ok (.ior, 1) := by decide +kernel
theorem d2_24 : decode method_3_code 24 = .ok (.istore_n 3, 1) := by decide +kernel
theorem d2_25 : decode method_3_code 25 = .ok (.iload_n 3, 1) := by decide +kernel
theorem d2_26 : decode method_3_code 26 = .ok (.iload_n 2, 1) := by decide +kernel
theorem d2_27 : decode method_3_code 27 = .ok (.ldc 19, 2) := by decide +kernel
theorem d2_29 : decode method_3_code 29 = .ok (.iand, 1) := by decide +kernel
theorem d2_30 : decode method_3_code 30 = .ok (.if_icmp .ne 7, 3) := by decide +kernel
theorem d2_33 : decode method_3_code 33 = .ok (.iconst 1, 1) := by decide +kernel
theorem d2_34 : decode method_3_code 34 = .ok (.goto 4, 3) := by decide +kernel
theorem d2_37 : decode method_3_code 37 = .ok (.iconst 0, 1) := by decide +kernel
theorem d2_38 : decode method_3_code 38 = .ok (.ireturn, 1) := by decide +kernel
theorem ef_2_0 (m : MethodId) (r0 : Addr) (p2 : Int32) : entryFrame m #[(.ref r0), (.int (0 : Int32)), (.int p2)] 4 = mkF m 0 #[rv r0, iv (0 : Int32), iv p2, un] [] := by first | (simp [entryFrame, mkF, argsToLocals, Value.category, iv, rv, lv, un, sd]; done) | rfl
def Q2_0 (Z : State) (r0 : Addr) (p2 : Int32) (k : Nat) (f : Nat → Int32) (h0 : Heap) (n0 : Nat) (v : Option Value) (h : Heap) (L : List Loc) : Prop := v = some (.int (own_pr (f 0) (f 1) p2)) ∧ Fr n0 L ∧ h = h0
set_option maxRecDepth 65536 in
set_option maxHeartbeats 40000000 in
theorem rm2_0 (l : Launch) (Z : State) (a0 : Array Value) (hw : ∀ d ∈ tables_1, d.before a0 Z = true) (ws : List Jvm.Cond) (r0 : Addr) (p2 : Int32) (k : Nat) (f : Nat → Int32) (h0 : Heap) (n0 : Nat) (Z0 : n0 ≤ h0.size) (I_r0 : Ia Z h0 r0 .byte k Value.int f) (hk : 1 < k) :
    MetFree l (⟨"com/example/slot2/slot2/card/FileCommandsFidsPinLaw", "pair", "([BII)Z"⟩ : MethodName) (head1 (Jvm.Cond.code (⟨"com/example/slot2/slot2/card/FileCommandsFidsPinLaw", "pair", "([BII)Z"⟩ : MethodName) method_3_code 4 (some .boolean) :: ws) ({ frames := 0, cells := 0, slots := 0, locals := 0 } : Room)) (fun a U => a = #[(.ref r0), (.int (0 : Int32)), (.int p2)] ∧ Z.Warmed39 U.vm ∧ U.heap = h0) (fun _ _ _ _ _ => True) (fun _ U o U' => ∃ v L, o = .returned v ∧ Q2_0 Z r0 p2 k f h0 n0 v U'.heap L ∧ FrameEnd U o U' L ({ frames := 0, cells := 0, slots := 0, locals := 0 } : Room).cells ({ frames := 0, cells := 0, slots := 0, locals := 0 } : Room).slots) := by
  refine MetFree.of_bodySF (plainFor_of_name pn_2) hisR ?_
  intro p e s m args below meth c s₁ Bd hml0 hP hK
  obtain ⟨rfl, hZ, hh⟩ := hP
  have hx := Bd.exec
  have hby := Bd.bytes
  have hml : c.maxLocals = 4 := hml0
  have hown : s.vm.findClass "com/example/slot2/slot2/card/FileCommandsFidsPinLaw" = some m.cls := findClass_of_methodNamed Bd.named
  have hnm := (name_of_methodNamed Bd.named Bd.method).1
  have X0 : Stand p l e ({ frames := 0, cells := 0, slots := 0, locals := 0 } : Room) s m #[(.ref r0), (.int (0 : Int32)), (.int p2)] below meth c s₁ [] 0 0 := Stand.of_body Bd
  have e0 : s₁.heap = h0 := by rw [← hh, Bd.state]; rfl
  have N0 := Fr.nil n0
  suffices HH : ∀ G : Outcome → State → Prop, (∀ v L U', Q2_0 Z r0 p2 k f h0 n0 v U'.heap L → FrameEnd s (.returned v) U' L ({ frames := 0, cells := 0, slots := 0, locals := 0 } : Room).cells ({ frames := 0, cells := 0, slots := 0, locals := 0 } : Room).slots → G (.returned v) U') → Go p.tables e below G (s₁.setTop (mkF m 0 #[rv r0, iv (0 : Int32), iv p2, un] [])) by
    obtain ⟨s2, o, h1, h2, h3, h4⟩ := HH (fun o U' => ∃ v L, o = .returned v ∧ Q2_0 Z r0 p2 k f h0 n0 v U'.heap L ∧ FrameEnd s o U' L ({ frames := 0, cells := 0, slots := 0, locals := 0 } : Room).cells ({ frames := 0, cells := 0, slots := 0, locals := 0 } : Room).slots) (fun v L U' q f => ⟨v, L, rfl, q, f⟩)
    exact ⟨s2, o, castTop (ef_2_0 m r0 p2) h1, h2, h3, h4⟩
  intro G hG
  show Go p.tables e below G (s₁.setTop (mkF m 0 #[rv r0, iv (0 : Int32), iv p2, un] []))
  refine Go.stp (fun t_ k_ => XS.aloadN X0.here hx rfl (hb hby d2_0) rfl rfl k_) ?_
  show Go p.tables e below G (s₁.setTop (mkF m 1 #[rv r0, iv (0 : Int32), iv p2, un] [(.ref r0)]))
  refine Go.stp (fun t_ k_ => XS.iconst X0.here hx rfl (hb hby d2_1) k_) ?_
  show Go p.tables e below G (s₁.setTop (mkF m 2 #[rv r0, iv (0 : Int32), iv p2, un] [(.int (2 : Int32)), (.ref r0)]))
  refine Go.stp (fun t_ k_ => XS.iloadN X0.here hx rfl (hb hby d2_2) rfl k_) ?_
  show Go p.tables e below G (s₁.setTop (mkF m 3 #[rv r0, iv (0 : Int32), iv p2, un] [(.int (0 : Int32)), (.int (2 : Int32)), (.ref r0)]))
  refine Go.stp (fun t_ k_ => XS.imul X0.here hx rfl (hb hby d2_3) rfl k_) ?_
  show Go p.tables e below G (s₁.setTop (mkF m 4 #[rv r0, iv (0 : Int32), iv p2, un] [(.int ((2 : Int32) * (0 : Int32))), (.ref r0)]))
  obtain ⟨cl1, Ar1, Sz1, -, Hs1⟩ := id I_r0
  have ib1 : 0 ≤ (((2 : Int32) * (0 : Int32))).toInt ∧ (((2 : Int32) * (0 : Int32))).toInt < ((k : Nat) : Int) := ⟨by decide, by rw [show (((2 : Int32) * (0 : Int32))).toInt = 0 by decide]; omega⟩
  refine Go.stp (fun t_ k_ => X0.baloadBytes hx (j := ((2 : Int32) * (0 : Int32))) (v := (Value.int (f 0))) (by rw [e0]; exact Ar1.1) (State.isArrayOf_alike hZ.alike Ar1.2.1) Ar1.2.2 (in_of Sz1 ib1) (Hs1 0 (by omega)) (g := (mkF m 4 #[rv r0, iv (0 : Int32), iv p2, un] [(.int ((2 : Int32) * (0 : Int32))), (.ref r0)])) rfl rfl (hb hby d2_4) t_ k_) ?_
  show Go p.tables e below G (s₁.setTop (mkF m 5 #[rv r0, iv (0 : Int32), iv p2, un] [(.int (f 0))]))
  refine Go.stp (fun t_ k_ => XS.sipush X0.here hx rfl (hb hby d2_5) k_) ?_
  show Go p.tables e below G (s₁.setTop (mkF m 8 #[rv r0, iv (0 : Int32), iv p2, un] [(.int (255 : Int32)), (.int (f 0))]))
  refine Go.stp (fun t_ k_ => XS.iand X0.here hx rfl (hb hby d2_8) rfl k_) ?_
  show Go p.tables e below G (s₁.setTop (mkF m 9 #[rv r0, iv (0 : Int32), iv p2, un] [(.int ((f 0) &&& (255 : Int32)))]))
  refine Go.stp (fun t_ k_ => XS.bipush X0.here hx rfl (hb hby d2_9) k_) ?_
  show Go p.tables e below G (s₁.setTop (mkF m 11 #[rv r0, iv (0 : Int32), iv p2, un] [(.int (8 : Int32)), (.int ((f 0) &&& (255 : Int32)))]))
  refine Go.stp (fun t_ k_ => XS.ishl X0.here hx rfl (hb hby d2_11) rfl k_) ?_
  show Go p.tables e below G (s₁.setTop (mkF m 12 #[rv r0, iv (0 : Int32), iv p2, un] [(.int (((f 0) &&& (255 : Int32)) <<< ((8 : Int32) &&& 31)))]))
  refine Go.stp (fun t_ k_ => XS.aloadN X0.here hx rfl (hb hby d2_12) rfl rfl k_) ?_
  show Go p.tables e below G (s₁.setTop (mkF m 13 #[rv r0, iv (0 : Int32), iv p2, un] [(.ref r0), (.int (((f 0) &&& (255 : Int32)) <<< ((8 : Int32) &&& 31)))]))
  refine Go.stp (fun t_ k_ => XS.iconst X0.here hx rfl (hb hby d2_13) k_) ?_
  show Go p.tables e below G (s₁.setTop (mkF m 14 #[rv r0, iv (0 : Int32), iv p2, un] [(.int (2 : Int32)), (.ref r0), (.int (((f 0) &&& (255 : Int32)) <<< ((8 : Int32) &&& 31)))]))
  refine Go.stp (fun t_ k_ => XS.iloadN X0.here hx rfl (hb hby d2_14) rfl k_) ?_
  show Go p.tables e below G (s₁.setTop (mkF m 15 #[rv r0, iv (0 : Int32), iv p2, un] [(.int (0 : Int32)), (.int (2 : Int32)), (.ref r0), (.int (((f 0) &&& (255 : Int32)) <<< ((8 : Int32) &&& 31)))]))
  refine Go.stp (fun t_ k_ => XS.imul X0.here hx rfl (hb hby d2_15) rfl k_) ?_
  show Go p.tables e below G (s₁.setTop (mkF m 16 #[rv r0, iv (0 : Int32), iv p2, un] [(.int ((2 : Int32) * (0 : Int32))), (.ref r0), (.int (((f 0) &&& (255 : Int32)) <<< ((8 : Int32) &&& 31)))]))
  refine Go.stp (fun t_ k_ => XS.iconst X0.here hx rfl (hb hby d2_16) k_) ?_
  show Go p.tables e below G (s₁.setTop (mkF m 17 #[rv r0, iv (0 : Int32), iv p2, un] [(.int (1 : Int32)), (.int ((2 : Int32) * (0 : Int32))), (.ref r0), (.int (((f 0) &&& (255 : Int32)) <<< ((8 : Int32) &&& 31)))]))
  refine Go.stp (fun t_ k_ => XS.iadd X0.here hx rfl (hb hby d2_17) rfl k_) ?_
  show Go p.tables e below G (s₁.setTop (mkF m 18 #[rv r0, iv (0 : Int32), iv p2, un] [(.int (((2 : Int32) * (0 : Int32)) + (1 : Int32))), (.ref r0), (.int (((f 0) &&& (255 : Int32)) <<< ((8 : Int32) &&& 31)))]))
  obtain ⟨cl2, Ar2, Sz2, -, Hs2⟩ := id I_r0
  have ib2 : 0 ≤ ((((2 : Int32) * (0 : Int32)) + (1 : Int32))).toInt ∧ ((((2 : Int32) * (0 : Int32)) + (1 : Int32))).toInt < ((k : Nat) : Int) := ⟨by decide, by rw [show ((((2 : Int32) * (0 : Int32)) + (1 : Int32))).toInt = 1 by decide]; omega⟩
  refine Go.stp (fun t_ k_ => X0.baloadBytes hx (j := (((2 : Int32) * (0 : Int32)) + (1 : Int32))) (v := (Value.int (f 1))) (by rw [e0]; exact Ar2.1) (State.isArrayOf_alike hZ.alike Ar2.2.1) Ar2.2.2 (in_of Sz2 ib2) (Hs2 1 (by omega)) (g := (mkF m 18 #[rv r0, iv (0 : Int32), iv p2, un] [(.int (((2 : Int32) * (0 : Int32)) + (1 : Int32))), (.ref r0), (.int (((f 0) &&& (255 : Int32)) <<< ((8 : Int32) &&& 31)))])) rfl rfl (hb hby d2_18) t_ k_) ?_
  show Go p.tables e below G (s₁.setTop (mkF m 19 #[rv r0, iv (0 : Int32), iv p2, un] [(.int (f 1)), (.int (((f 0) &&& (255 : Int32)) <<< ((8 : Int32) &&& 31)))]))
  refine Go.stp (fun t_ k_ => XS.sipush X0.here hx rfl (hb hby d2_19) k_) ?_
  show Go p.tables e below G (s₁.setTop (mkF m 22 #[rv r0, iv (0 : Int32), iv p2, un] [(.int (255 : Int32)), (.int (f 1)), (.int (((f 0) &&& (255 : Int32)) <<< ((8 : Int32) &&& 31)))]))
  refine Go.stp (fun t_ k_ => XS.iand X0.here hx rfl (hb hby d2_22) rfl k_) ?_
  show Go p.tables e below G (s₁.setTop (mkF m 23 #[rv r0, iv (0 : Int32), iv p2, un] [(.int ((f 1) &&& (255 : Int32))), (.int (((f 0) &&& (255 : Int32)) <<< ((8 : Int32) &&& 31)))]))
  refine Go.stp (fun t_ k_ => XS.ior X0.here hx rfl (hb hby d2_23) rfl k_) ?_
  show Go p.tables e below G (s₁.setTop (mkF m 24 #[rv r0, iv (0 : Int32), iv p2, un] [(.int ((((f 0) &&& (255 : Int32)) <<< ((8 : Int32) &&& 31)) ||| ((f 1) &&& (255 : Int32))))]))
  refine Go.stp (fun t_ k_ => XS.istoreN X0.here hx rfl (hb hby d2_24) rfl (l' := #[rv r0, iv (0 : Int32), iv p2, iv ((((f 0) &&& (255 : Int32)) <<< ((8 : Int32) &&& 31)) ||| ((f 1) &&& (255 : Int32)))]) rfl k_) ?_
  show Go p.tables e below G (s₁.setTop (mkF m 25 #[rv r0, iv (0 : Int32), iv p2, iv ((((f 0) &&& (255 : Int32)) <<< ((8 : Int32) &&& 31)) ||| ((f 1) &&& (255 : Int32)))] []))
  refine Go.stp (fun t_ k_ => XS.iloadN X0.here hx rfl (hb hby d2_25) rfl k_) ?_
  show Go p.tables e below G (s₁.setTop (mkF m 26 #[rv r0, iv (0 : Int32), iv p2, iv ((((f 0) &&& (255 : Int32)) <<< ((8 : Int32) &&& 31)) ||| ((f 1) &&& (255 : Int32)))] [(.int ((((f 0) &&& (255 : Int32)) <<< ((8 : Int32) &&& 31)) ||| ((f 1) &&& (255 : Int32))))]))
  refine Go.stp (fun t_ k_ => XS.iloadN X0.here hx rfl (hb hby d2_26) rfl k_) ?_
  show Go p.tables e below G (s₁.setTop (mkF m 27 #[rv r0, iv (0 : Int32), iv p2, iv ((((f 0) &&& (255 : Int32)) <<< ((8 : Int32) &&& 31)) ||| ((f 1) &&& (255 : Int32)))] [(.int p2), (.int ((((f 0) &&& (255 : Int32)) <<< ((8 : Int32) &&& 31)) ||| ((f 1) &&& (255 : Int32))))]))
  refine Go.stp (fun t_ k_ => X0.ldcInt hx hown (mvT hZ (hw _ (List.mem_of_getElem? (i := 10) rfl))) (g := (mkF m 27 #[rv r0, iv (0 : Int32), iv p2, iv ((((f 0) &&& (255 : Int32)) <<< ((8 : Int32) &&& 31)) ||| ((f 1) &&& (255 : Int32)))] [(.int p2), (.int ((((f 0) &&& (255 : Int32)) <<< ((8 : Int32) &&& 31)) ||| ((f 1) &&& (255 : Int32))))])) rfl (hb hby d2_27) t_ k_) ?_
  show Go p.tables e below G (s₁.setTop (mkF m 29 #[rv r0, iv (0 : Int32), iv p2, iv ((((f 0) &&& (255 : Int32)) <<< ((8 : Int32) &&& 31)) ||| ((f 1) &&& (255 : Int32)))] [(.int (65535 : Int32)), (.int p2), (.int ((((f 0) &&& (255 : Int32)) <<< ((8 : Int32) &&& 31)) ||| ((f 1) &&& (255 : Int32))))]))
  refine Go.stp (fun t_ k_ => XS.iand X0.here hx rfl (hb hby d2_29) rfl k_) ?_
  show Go p.tables e below G (s₁.setTop (mkF m 30 #[rv r0, iv (0 : Int32), iv p2, iv ((((f 0) &&& (255 : Int32)) <<< ((8 : Int32) &&& 31)) ||| ((f 1) &&& (255 : Int32)))] [(.int (p2 &&& (65535 : Int32))), (.int ((((f 0) &&& (255 : Int32)) <<< ((8 : Int32) &&& 31)) ||| ((f 1) &&& (255 : Int32))))]))
  by_cases hc30 : ((((f 0) &&& (255 : Int32)) <<< ((8 : Int32) &&& 31)) ||| ((f 1) &&& (255 : Int32))) = (p2 &&& (65535 : Int32))
  · refine Go.stp (fun t_ k_ => XS.icmpNo X0.here hx rfl (hb hby d2_30) rfl (teq hc30).2 k_) ?_
    show Go p.tables e below G (s₁.setTop (mkF m 33 #[rv r0, iv (0 : Int32), iv p2, iv ((((f 0) &&& (255 : Int32)) <<< ((8 : Int32) &&& 31)) ||| ((f 1) &&& (255 : Int32)))] []))
    refine Go.stp (fun t_ k_ => XS.iconst X0.here hx rfl (hb hby d2_33) k_) ?_
    show Go p.tables e below G (s₁.setTop (mkF m 34 #[rv r0, iv (0 : Int32), iv p2, iv ((((f 0) &&& (255 : Int32)) <<< ((8 : Int32) &&& 31)) ||| ((f 1) &&& (255 : Int32)))] [(.int (1 : Int32))]))
    refine Go.stp (fun t_ k_ => XS.goto X0.here hx rfl (pc0 := 34) (pc' := 38) rfl (hb hby d2_34) (by decide) (by decide) k_) ?_
    show Go p.tables e below G (s₁.setTop (mkF m 38 #[rv r0, iv (0 : Int32), iv p2, iv ((((f 0) &&& (255 : Int32)) <<< ((8 : Int32) &&& 31)) ||| ((f 1) &&& (255 : Int32)))] [(.int (1 : Int32))]))
    obtain ⟨fs, hr, hrun, hended, hW, hsame⟩ := X0.leave (v := some (.int (1 : Int32))) (fun h => by rw [Bd.returns] at h; cases h)
    refine ⟨_, _, retN X0 hx (t := .boolean) Bd.returns (by simp) (hb hby d2_38) hr, hrun, hended, hG _ _ _ ?_ ⟨⟨_, rfl⟩, hW, hsame.mono (by decide) (by decide)⟩⟩
    show Q2_0 Z r0 p2 k f h0 n0 _ s₁.heap _
    rw [e0]
    exact ⟨by simp [own_pr, hc30], N0, rfl⟩
  · refine Go.stp (fun t_ k_ => XS.icmpYes X0.here hx rfl (pc0 := 30) (pc' := 37) rfl (hb hby d2_30) rfl (feq hc30).2 (by decide) (by decide) k_) ?_
    show Go p.tables e below G (s₁.setTop (mkF m 37 #[rv r0, iv (0 : Int32), iv p2, iv ((((f 0) &&& (255 : Int32)) <<< ((8 : Int32) &&& 31)) ||| ((f 1) &&& (255 : Int32)))] []))
    refine Go.stp (fun t_ k_ => XS.iconst X0.here hx rfl (hb hby d2_37) k_) ?_
    show Go p.tables e below G (s₁.setTop (mkF m 38 #[rv r0, iv (0 : Int32), iv p2, iv ((((f 0) &&& (255 : Int32)) <<< ((8 : Int32) &&& 31)) ||| ((f 1) &&& (255 : Int32)))] [(.int (0 : Int32))]))
    obtain ⟨fs, hr, hrun, hended, hW, hsame⟩ := X0.leave (v := some (.int (0 : Int32))) (fun h => by rw [Bd.returns] at h; cases h)
    refine ⟨_, _, retN X0 hx (t := .boolean) Bd.returns (by simp) (hb hby d2_38) hr, hrun, hended, hG _ _ _ ?_ ⟨⟨_, rfl⟩, hW, hsame.mono (by decide) (by decide)⟩⟩
    show Q2_0 Z r0 p2 k f h0 n0 _ s₁.heap _
    rw [e0]
    exact ⟨by simp [own_pr, hc30], N0, rfl⟩
theorem ef_2_1 (m : MethodId) (r0 : Addr) (p2 : Int32) : entryFrame m #[(.ref r0), (.int (1 : Int32)), (.int p2)] 4 = mkF m 0 #[rv r0, iv (1 : Int32), iv p2, un] [] := by first | (simp [entryFrame, mkF, argsToLocals, Value.category, iv, rv, lv, un, sd]; done) | rfl
def Q2_1 (Z : State) (r0 : Addr) (p2 : Int32) (k : Nat) (f : Nat → Int32) (h0 : Heap) (n0 : Nat) (v : Option Value) (h : Heap) (L : List Loc) : Prop := v = some (.int (own_pr (f 2) (f 3) p2)) ∧ Fr n0 L ∧ h = h0
set_option maxRecDepth 65536 in
set_option maxHeartbeats 40000000 in
theorem rm2_1 (l : Launch) (Z : State) (a0 : Array Value) (hw : ∀ d ∈ tables_1, d.before a0 Z = true) (ws : List Jvm.Cond) (r0 : Addr) (p2 : Int32) (k : Nat) (f : Nat → Int32) (h0 : Heap) (n0 : Nat) (Z0 : n0 ≤ h0.size) (I_r0 : Ia Z h0 r0 .byte k Value.int f) (hk : 3 < k) :
    MetFree l (⟨"com/example/slot2/slot2/card/FileCommandsFidsPinLaw", "pair", "([BII)Z"⟩ : MethodName) (head1 (Jvm.Cond.code (⟨"com/example/slot2/slot2/card/FileCommandsFidsPinLaw", "pair", "([BII)Z"⟩ : MethodName) method_3_code 4 (some .boolean) :: ws) ({ frames := 0, cells := 0, slots := 0, locals := 0 } : Room)) (fun a U => a = #[(.ref r0), (.int (1 : Int32)), (.int p2)] ∧ Z.Warmed39 U.vm ∧ U.heap = h0) (fun _ _ _ _ _ => True) (fun _ U o U' => ∃ v L, o = .returned v ∧ Q2_1 Z r0 p2 k f h0 n0 v U'.heap L ∧ FrameEnd U o U' L ({ frames := 0, cells := 0, slots := 0, locals := 0 } : Room).cells ({ frames := 0, cells := 0, slots := 0, locals := 0 } : Room).slots) := by
  refine MetFree.of_bodySF (plainFor_of_name pn_2) hisR ?_
  intro p e s m args below meth c s₁ Bd hml0 hP hK
  obtain ⟨rfl, hZ, hh⟩ := hP
  have hx := Bd.exec
  have hby := Bd.bytes
  have hml : c.maxLocals = 4 := hml0
  have hown : s.vm.findClass "com/example/slot2/slot2/card/FileCommandsFidsPinLaw" = some m.cls := findClass_of_methodNamed Bd.named
  have hnm := (name_of_methodNamed Bd.named Bd.method).1
  have X0 : Stand p l e ({ frames := 0, cells := 0, slots := 0, locals := 0 } : Room) s m #[(.ref r0), (.int (1 : Int32)), (.int p2)] below meth c s₁ [] 0 0 := Stand.of_body Bd
  have e0 : s₁.heap = h0 := by rw [← hh, Bd.state]; rfl
  have N0 := Fr.nil n0
  suffices HH : ∀ G : Outcome → State → Prop, (∀ v L U', Q2_1 Z r0 p2 k f h0 n0 v U'.heap L → FrameEnd s (.returned v) U' L ({ frames := 0, cells := 0, slots := 0, locals := 0 } : Room).cells ({ frames := 0, cells := 0, slots := 0, locals := 0 } : Room).slots → G (.returned v) U') → Go p.tables e below G (s₁.setTop (mkF m 0 #[rv r0, iv (1 : Int32), iv p2, un] [])) by
    obtain ⟨s2, o, h1, h2, h3, h4⟩ := HH (fun o U' => ∃ v L, o = .returned v ∧ Q2_1 Z r0 p2 k f h0 n0 v U'.heap L ∧ FrameEnd s o U' L ({ frames := 0, cells := 0, slots := 0, locals := 0 } : Room).cells ({ frames := 0, cells := 0, slots := 0, locals := 0 } : Room).slots) (fun v L U' q f => ⟨v, L, rfl, q, f⟩)
    exact ⟨s2, o, castTop (ef_2_1 m r0 p2) h1, h2, h3, h4⟩
  intro G hG
  show Go p.tables e below G (s₁.setTop (mkF m 0 #[rv r0, iv (1 : Int32), iv p2, un] []))
  refine Go.stp (fun t_ k_ => XS.aloadN X0.here hx rfl (hb hby d2_0) rfl rfl k_) ?_
  show Go p.tables e below G (s₁.setTop (mkF m 1 #[rv r0, iv (1 : Int32), iv p2, un] [(.ref r0)]))
  refine Go.stp (fun t_ k_ => XS.iconst X0.here hx rfl (hb hby d2_1) k_) ?_
  show Go p.tables e below G (s₁.setTop (mkF m 2 #[rv r0, iv (1 : Int32), iv p2, un] [(.int (2 : Int32)), (.ref r0)]))
  refine Go.stp (fun t_ k_ => XS.iloadN X0.here hx rfl (hb hby d2_2) rfl k_) ?_
  show Go p.tables e below G (s₁.setTop (mkF m 3 #[rv r0, iv (1 : Int32), iv p2, un] [(.int (1 : Int32)), (.int (2 : Int32)), (.ref r0)]))
  refine Go.stp (fun t_ k_ => XS.imul X0.here hx rfl (hb hby d2_3) rfl k_) ?_
  show Go p.tables e below G (s₁.setTop (mkF m 4 #[rv r0, iv (1 : Int32), iv p2, un] [(.int ((2 : Int32) * (1 : Int32))), (.ref r0)]))
  obtain ⟨cl1, Ar1, Sz1, -, Hs1⟩ := id I_r0
  have ib1 : 0 ≤ (((2 : Int32) * (1 : Int32))).toInt ∧ (((2 : Int32) * (1 : Int32))).toInt < ((k : Nat) : Int) := ⟨by decide, by rw [show (((2 : Int32) * (1 : Int32))).toInt = 2 by decide]; omega⟩
  refine Go.stp (fun t_ k_ => X0.baloadBytes hx (j := ((2 : Int32) * (1 : Int32))) (v := (Value.int (f 2))) (by rw [e0]; exact Ar1.1) (State.isArrayOf_alike hZ.alike Ar1.2.1) Ar1.2.2 (in_of Sz1 ib1) (Hs1 2 (by omega)) (g := (mkF m 4 #[rv r0, iv (1 : Int32), iv p2, un] [(.int ((2 : Int32) * (1 : Int32))), (.ref r0)])) rfl rfl (hb hby d2_4) t_ k_) ?_
  show Go p.tables e below G (s₁.setTop (mkF m 5 #[rv r0, iv (1 : Int32), iv p2, un] [(.int (f 2))]))
  refine Go.stp (fun t_ k_ => XS.sipush X0.here hx rfl (hb hby d2_5) k_) ?_
  show Go p.tables e below G (s₁.setTop (mkF m 8 #[rv r0, iv (1 : Int32), iv p2, un] [(.int (255 : Int32)), (.int (f 2))]))
  refine Go.stp (fun t_ k_ => XS.iand X0.here hx rfl (hb hby d2_8) rfl k_) ?_
  show Go p.tables e below G (s₁.setTop (mkF m 9 #[rv r0, iv (1 : Int32), iv p2, un] [(.int ((f 2) &&& (255 : Int32)))]))
  refine Go.stp (fun t_ k_ => XS.bipush X0.here hx rfl (hb hby d2_9) k_) ?_
  show Go p.tables e below G (s₁.setTop (mkF m 11 #[rv r0, iv (1 : Int32), iv p2, un] [(.int (8 : Int32)), (.int ((f 2) &&& (255 : Int32)))]))
  refine Go.stp (fun t_ k_ => XS.ishl X0.here hx rfl (hb hby d2_11) rfl k_) ?_
  show Go p.tables e below G (s₁.setTop (mkF m 12 #[rv r0, iv (1 : Int32), iv p2, un] [(.int (((f 2) &&& (255 : Int32)) <<< ((8 : Int32) &&& 31)))]))
  refine Go.stp (fun t_ k_ => XS.aloadN X0.here hx rfl (hb hby d2_12) rfl rfl k_) ?_
  show Go p.tables e below G (s₁.setTop (mkF m 13 #[rv r0, iv (1 : Int32), iv p2, un] [(.ref r0), (.int (((f 2) &&& (255 : Int32)) <<< ((8 : Int32) &&& 31)))]))
  refine Go.stp (fun t_ k_ => XS.iconst X0.here hx rfl (hb hby d2_13) k_) ?_
  show Go p.tables e below G (s₁.setTop (mkF m 14 #[rv r0, iv (1 : Int32), iv p2, un] [(.int (2 : Int32)), (.ref r0), (.int (((f 2) &&& (255 : Int32)) <<< ((8 : Int32) &&& 31)))]))
  refine Go.stp (fun t_ k_ => XS.iloadN X0.here hx rfl (hb hby d2_14) rfl k_) ?_
  show Go p.tables e below G (s₁.setTop (mkF m 15 #[rv r0, iv (1 : Int32), iv p2, un] [(.int (1 : Int32)), (.int (2 : Int32)), (.ref r0), (.int (((f 2) &&& (255 : Int32)) <<< ((8 : Int32) &&& 31)))]))
  refine Go.stp (fun t_ k_ => XS.imul X0.here hx rfl (hb hby d2_15) rfl k_) ?_
  show Go p.tables e below G (s₁.setTop (mkF m 16 #[rv r0, iv (1 : Int32), iv p2, un] [(.int ((2 : Int32) * (1 : Int32))), (.ref r0), (.int (((f 2) &&& (255 : Int32)) <<< ((8 : Int32) &&& 31)))]))
  refine Go.stp (fun t_ k_ => XS.iconst X0.here hx rfl (hb hby d2_16) k_) ?_
  show Go p.tables e below G (s₁.setTop (mkF m 17 #[rv r0, iv (1 : Int32), iv p2, un] [(.int (1 : Int32)), (.int ((2 : Int32) * (1 : Int32))), (.ref r0), (.int (((f 2) &&& (255 : Int32)) <<< ((8 : Int32) &&& 31)))]))
  refine Go.stp (fun t_ k_ => XS.iadd X0.here hx rfl (hb hby d2_17) rfl k_) ?_
  show Go p.tables e below G (s₁.setTop (mkF m 18 #[rv r0, iv (1 : Int32), iv p2, un] [(.int (((2 : Int32) * (1 : Int32)) + (1 : Int32))), (.ref r0), (.int (((f 2) &&& (255 : Int32)) <<< ((8 : Int32) &&& 31)))]))
  obtain ⟨cl2, Ar2, Sz2, -, Hs2⟩ := id I_r0
  have ib2 : 0 ≤ ((((2 : Int32) * (1 : Int32)) + (1 : Int32))).toInt ∧ ((((2 : Int32) * (1 : Int32)) + (1 : Int32))).toInt < ((k : Nat) : Int) := ⟨by decide, by rw [show ((((2 : Int32) * (1 : Int32)) + (1 : Int32))).toInt = 3 by decide]; omega⟩
  refine Go.stp (fun t_ k_ => X0.baloadBytes hx (j := (((2 : Int32) * (1 : Int32)) + (1 : Int32))) (v := (Value.int (f 3))) (by rw [e0]; exact Ar2.1) (State.isArrayOf_alike hZ.alike Ar2.2.1) Ar2.2.2 (in_of Sz2 ib2) (Hs2 3 (by omega)) (g := (mkF m 18 #[rv r0, iv (1 : Int32), iv p2, un] [(.int (((2 : Int32) * (1 : Int32)) + (1 : Int32))), (.ref r0), (.int (((f 2) &&& (255 : Int32)) <<< ((8 : Int32) &&& 31)))])) rfl rfl (hb hby d2_18) t_ k_) ?_
  show Go p.tables e below G (s₁.setTop (mkF m 19 #[rv r0, iv (1 : Int32), iv p2, un] [(.int (f 3)), (.int (((f 2) &&& (255 : Int32)) <<< ((8 : Int32) &&& 31)))]))
  refine Go.stp (fun t_ k_ => XS.sipush X0.here hx rfl (hb hby d2_19) k_) ?_
  show Go p.tables e below G (s₁.setTop (mkF m 22 #[rv r0, iv (1 : Int32), iv p2, un] [(.int (255 : Int32)), (.int (f 3)), (.int (((f 2) &&& (255 : Int32)) <<< ((8 : Int32) &&& 31)))]))
  refine Go.stp (fun t_ k_ => XS.iand X0.here hx rfl (hb hby d2_22) rfl k_) ?_
  show Go p.tables e below G (s₁.setTop (mkF m 23 #[rv r0, iv (1 : Int32), iv p2, un] [(.int ((f 3) &&& (255 : Int32))), (.int (((f 2) &&& (255 : Int32)) <<< ((8 : Int32) &&& 31)))]))
  refine Go.stp (fun t_ k_ => XS.ior X0.here hx rfl (hb hby d2_23) rfl k_) ?_
  show Go p.tables e below G (s₁.setTop (mkF m 24 #[rv r0, iv (1 : Int32), iv p2, un] [(.int ((((f 2) &&& (255 : Int32)) <<< ((8 : Int32) &&& 31)) ||| ((f 3) &&& (255 : Int32))))]))
  refine Go.stp (fun t_ k_ => XS.istoreN X0.here hx rfl (hb hby d2_24) rfl (l' := #[rv r0, iv (1 : Int32), iv p2, iv ((((f 2) &&& (255 : Int32)) <<< ((8 : Int32) &&& 31)) ||| ((f 3) &&& (255 : Int32)))]) rfl k_) ?_
  show Go p.tables e below G (s₁.setTop (mkF m 25 #[rv r0, iv (1 : Int32), iv p2, iv ((((f 2) &&& (255 : Int32)) <<< ((8 : Int32) &&& 31)) ||| ((f 3) &&& (255 : Int32)))] []))
  refine Go.stp (fun t_ k_ => XS.iloadN X0.here hx rfl (hb hby d2_25) rfl k_) ?_
  show Go p.tables e below G (s₁.setTop (mkF m 26 #[rv r0, iv (1 : Int32), iv p2, iv ((((f 2) &&& (255 : Int32)) <<< ((8 : Int32) &&& 31)) ||| ((f 3) &&& (255 : Int32)))] [(.int ((((f 2) &&& (255 : Int32)) <<< ((8 : Int32) &&& 31)) ||| ((f 3) &&& (255 : Int32))))]))
  refine Go.stp (fun t_ k_ => XS.iloadN X0.here hx rfl (hb hby d2_26) rfl k_) ?_
  show Go p.tables e below G (s₁.setTop (mkF m 27 #[rv r0, iv (1 : Int32), iv p2, iv ((((f 2) &&& (255 : Int32)) <<< ((8 : Int32) &&& 31)) ||| ((f 3) &&& (255 : Int32)))] [(.int p2), (.int ((((f 2) &&& (255 : Int32)) <<< ((8 : Int32) &&& 31)) ||| ((f 3) &&& (255 : Int32))))]))
  refine Go.stp (fun t_ k_ => X0.ldcInt hx hown (mvT hZ (hw _ (List.mem_of_getElem? (i := 10) rfl))) (g := (mkF m 27 #[rv r0, iv (1 : Int32), iv p2, iv ((((f 2) &&& (255 : Int32)) <<< ((8 : Int32) &&& 31)) ||| ((f 3) &&& (255 : Int32)))] [(.int p2), (.int ((((f 2) &&& (255 : Int32)) <<< ((8 : Int32) &&& 31)) ||| ((f 3) &&& (255 : Int32))))])) rfl (hb hby d2_27) t_ k_) ?_
  show Go p.tables e below G (s₁.setTop (mkF m 29 #[rv r0, iv (1 : Int32), iv p2, iv ((((f 2) &&& (255 : Int32)) <<< ((8 : Int32) &&& 31)) ||| ((f 3) &&& (255 : Int32)))] [(.int (65535 : Int32)), (.int p2), (.int ((((f 2) &&& (255 : Int32)) <<< ((8 : Int32) &&& 31)) ||| ((f 3) &&& (255 : Int32))))]))
  refine Go.stp (fun t_ k_ => XS.iand X0.here hx rfl (hb hby d2_29) rfl k_) ?_
  show Go p.tables e below G (s₁.setTop (mkF m 30 #[rv r0, iv (1 : Int32), iv p2, iv ((((f 2) &&& (255 : Int32)) <<< ((8 : Int32) &&& 31)) ||| ((f 3) &&& (255 : Int32)))] [(.int (p2 &&& (65535 : Int32))), (.int ((((f 2) &&& (255 : Int32)) <<< ((8 : Int32) &&& 31)) ||| ((f 3) &&& (255 : Int32))))]))
  by_cases hc30 : ((((f 2) &&& (255 : Int32)) <<< ((8 : Int32) &&& 31)) ||| ((f 3) &&& (255 : Int32))) = (p2 &&& (65535 : Int32))
  · refine Go.stp (fun t_ k_ => XS.icmpNo X0.here hx rfl (hb hby d2_30) rfl (teq hc30).2 k_) ?_
    show Go p.tables e below G (s₁.setTop (mkF m 33 #[rv r0, iv (1 : Int32), iv p2, iv ((((f 2) &&& (255 : Int32)) <<< ((8 : Int32) &&& 31)) ||| ((f 3) &&& (255 : Int32)))] []))
    refine Go.stp (fun t_ k_ => XS.iconst X0.here hx rfl (hb hby d2_33) k_) ?_
    show Go p.tables e below G (s₁.setTop (mkF m 34 #[rv r0, iv (1 : Int32), iv p2, iv ((((f 2) &&& (255 : Int32)) <<< ((8 : Int32) &&& 31)) ||| ((f 3) &&& (255 : Int32)))] [(.int (1 : Int32))]))
    refine Go.stp (fun t_ k_ => XS.goto X0.here hx rfl (pc0 := 34) (pc' := 38) rfl (hb hby d2_34) (by decide) (by decide) k_) ?_
    show Go p.tables e below G (s₁.setTop (mkF m 38 #[rv r0, iv (1 : Int32), iv p2, iv ((((f 2) &&& (255 : Int32)) <<< ((8 : Int32) &&& 31)) ||| ((f 3) &&& (255 : Int32)))] [(.int (1 : Int32))]))
    obtain ⟨fs, hr, hrun, hended, hW, hsame⟩ := X0.leave (v := some (.int (1 : Int32))) (fun h => by rw [Bd.returns] at h; cases h)
    refine ⟨_, _, retN X0 hx (t := .boolean) Bd.returns (by simp) (hb hby d2_38) hr, hrun, hended, hG _ _ _ ?_ ⟨⟨_, rfl⟩, hW, hsame.mono (by decide) (by decide)⟩⟩
    show Q2_1 Z r0 p2 k f h0 n0 _ s₁.heap _
    rw [e0]
    exact ⟨by simp [own_pr, hc30], N0, rfl⟩
  · refine Go.stp (fun t_ k_ => XS.icmpYes X0.here hx rfl (pc0 := 30) (pc' := 37) rfl (hb hby d2_30) rfl (feq hc30).2 (by decide) (by decide) k_) ?_
    show Go p.tables e below G (s₁.setTop (mkF m 37 #[rv r0, iv (1 : Int32), iv p2, iv ((((f 2) &&& (255 : Int32)) <<< ((8 : Int32) &&& 31)) ||| ((f 3) &&& (255 : Int32)))] []))
    refine Go.stp (fun t_ k_ => XS.iconst X0.here hx rfl (hb hby d2_37) k_) ?_
    show Go p.tables e below G (s₁.setTop (mkF m 38 #[rv r0, iv (1 : Int32), iv p2, iv ((((f 2) &&& (255 : Int32)) <<< ((8 : Int32) &&& 31)) ||| ((f 3) &&& (255 : Int32)))] [(.int (0 : Int32))]))
    obtain ⟨fs, hr, hrun, hended, hW, hsame⟩ := X0.leave (v := some (.int (0 : Int32))) (fun h => by rw [Bd.returns] at h; cases h)
    refine ⟨_, _, retN X0 hx (t := .boolean) Bd.returns (by simp) (hb hby d2_38) hr, hrun, hended, hG _ _ _ ?_ ⟨⟨_, rfl⟩, hW, hsame.mono (by decide) (by decide)⟩⟩
    show Q2_1 Z r0 p2 k f h0 n0 _ s₁.heap _
    rw [e0]
    exact ⟨by simp [own_pr, hc30], N0, rfl⟩
theorem ef_2_2 (m : MethodId) (r0 : Addr) (p2 : Int32) : entryFrame m #[(.ref r0), (.int (2 : Int32)), (.int p2)] 4 = mkF m 0 #[rv r0, iv (2 : Int32), iv p2, un] [] := by first | (simp [entryFrame, mkF, argsToLocals, Value.category, iv, rv, lv, un, sd]; done) | rfl
def Q2_2 (Z : State) (r0 : Addr) (p2 : Int32) (k : Nat) (f : Nat → Int32) (h0 : Heap) (n0 : Nat) (v : Option Value) (h : Heap) (L : List Loc) : Prop := v = some (.int (own_pr (f 4) (f 5) p2)) ∧ Fr n0 L ∧ h = h0
set_option maxRecDepth 65536 in
set_option maxHeartbeats 40000000 in
theorem rm2_2 (l : Launch) (Z : State) (a0 : Array Value) (hw : ∀ d ∈ tables_1, d.before a0 Z = true) (ws : List Jvm.Cond) (r0 : Addr) (p2 : Int32) (k : Nat) (f : Nat → Int32) (h0 : Heap) (n0 : Nat) (Z0 : n0 ≤ h0.size) (I_r0 : Ia Z h0 r0 .byte k Value.int f) (hk : 5 < k) :
    MetFree l (⟨"com/example/slot2/slot2/card/FileCommandsFidsPinLaw", "pair", "([BII)Z"⟩ : MethodName) (head1 (Jvm.Cond.code (⟨"com/example/slot2/slot2/card/FileCommandsFidsPinLaw", "pair", "([BII)Z"⟩ : MethodName) method_3_code 4 (some .boolean) :: ws) ({ frames := 0, cells := 0, slots := 0, locals := 0 } : Room)) (fun a U => a = #[(.ref r0), (.int (2 : Int32)), (.int p2)] ∧ Z.Warmed39 U.vm ∧ U.heap = h0) (fun _ _ _ _ _ => True) (fun _ U o U' => ∃ v L, o = .returned v ∧ Q2_2 Z r0 p2 k f h0 n0 v U'.heap L ∧ FrameEnd U o U' L ({ frames := 0, cells := 0, slots := 0, locals := 0 } : Room).cells ({ frames := 0, cells := 0, slots := 0, locals := 0 } : Room).slots) := by
  refine MetFree.of_bodySF (plainFor_of_name pn_2) hisR ?_
  intro p e s m args below meth c s₁ Bd hml0 hP hK
  obtain ⟨rfl, hZ, hh⟩ := hP
  have hx := Bd.exec
  have hby := Bd.bytes
  have hml : c.maxLocals = 4 := hml0
  have hown : s.vm.findClass "com/example/slot2/slot2/card/FileCommandsFidsPinLaw" = some m.cls := findClass_of_methodNamed Bd.named
  have hnm := (name_of_methodNamed Bd.named Bd.method).1
  have X0 : Stand p l e ({ frames := 0, cells := 0, slots := 0, locals := 0 } : Room) s m #[(.ref r0), (.int (2 : Int32)), (.int p2)] below meth c s₁ [] 0 0 := Stand.of_body Bd
  have e0 : s₁.heap = h0 := by rw [← hh, Bd.state]; rfl
  have N0 := Fr.nil n0
  suffices HH : ∀ G : Outcome → State → Prop, (∀ v L U', Q2_2 Z r0 p2 k f h0 n0 v U'.heap L → FrameEnd s (.returned v) U' L ({ frames := 0, cells := 0, slots := 0, locals := 0 } : Room).cells ({ frames := 0, cells := 0, slots := 0, locals := 0 } : Room).slots → G (.returned v) U') → Go p.tables e below G (s₁.setTop (mkF m 0 #[rv r0, iv (2 : Int32), iv p2, un] [])) by
    obtain ⟨s2, o, h1, h2, h3, h4⟩ := HH (fun o U' => ∃ v L, o = .returned v ∧ Q2_2 Z r0 p2 k f h0 n0 v U'.heap L ∧ FrameEnd s o U' L ({ frames := 0, cells := 0, slots := 0, locals := 0 } : Room).cells ({ frames := 0, cells := 0, slots := 0, locals := 0 } : Room).slots) (fun v L U' q f => ⟨v, L, rfl, q, f⟩)
    exact ⟨s2, o, castTop (ef_2_2 m r0 p2) h1, h2, h3, h4⟩
  intro G hG
  show Go p.tables e below G (s₁.setTop (mkF m 0 #[rv r0, iv (2 : Int32), iv p2, un] []))
  refine Go.stp (fun t_ k_ => XS.aloadN X0.here hx rfl (hb hby d2_0) rfl rfl k_) ?_
  show Go p.tables e below G (s₁.setTop (mkF m 1 #[rv r0, iv (2 : Int32), iv p2, un] [(.ref r0)]))
  refine Go.stp (fun t_ k_ => XS.iconst X0.here hx rfl (hb hby d2_1) k_) ?_
  show Go p.tables e below G (s₁.setTop (mkF m 2 #[rv r0, iv (2 : Int32), iv p2, un] [(.int (2 : Int32)), (.ref r0)]))
  refine Go.stp (fun t_ k_ => XS.iloadN X0.here hx rfl (hb hby d2_2) rfl k_) ?_
  show Go p.tables e below G (s₁.setTop (mkF m 3 #[rv r0, iv (2 : Int32), iv p2, un] [(.int (2 : Int32)), (.int (2 : Int32)), (.ref r0)]))
  refine Go.stp (fun t_ k_ => XS.imul X0.here hx rfl (hb hby d2_3) rfl k_) ?_
  show Go p.tables e below G (s₁.setTop (mkF m 4 #[rv r0, iv (2 : Int32), iv p2, un] [(.int ((2 : Int32) * (2 : Int32))), (.ref r0)]))
  obtain ⟨cl1, Ar1, Sz1, -, Hs1⟩ := id I_r0
  have ib1 : 0 ≤ (((2 : Int32) * (2 : Int32))).toInt ∧ (((2 : Int32) * (2 : Int32))).toInt < ((k : Nat) : Int) := ⟨by decide, by rw [show (((2 : Int32) * (2 : Int32))).toInt = 4 by decide]; omega⟩
  refine Go.stp (fun t_ k_ => X0.baloadBytes hx (j := ((2 : Int32) * (2 : Int32))) (v := (Value.int (f 4))) (by rw [e0]; exact Ar1.1) (State.isArrayOf_alike hZ.alike Ar1.2.1) Ar1.2.2 (in_of Sz1 ib1) (Hs1 4 (by omega)) (g := (mkF m 4 #[rv r0, iv (2 : Int32), iv p2, un] [(.int ((2 : Int32) * (2 : Int32))), (.ref r0)])) rfl rfl (hb hby d2_4) t_ k_) ?_
  show Go p.tables e below G (s₁.setTop (mkF m 5 #[rv r0, iv (2 : Int32), iv p2, un] [(.int (f 4))]))
  refine Go.stp (fun t_ k_ => XS.sipush X0.here hx rfl (hb hby d2_5) k_) ?_
  show Go p.tables e below G (s₁.setTop (mkF m 8 #[rv r0, iv (2 : Int32), iv p2, un] [(.int (255 : Int32)), (.int (f 4))]))
  refine Go.stp (fun t_ k_ => XS.iand X0.here hx rfl (hb hby d2_8) rfl k_) ?_
  show Go p.tables e below G (s₁.setTop (mkF m 9 #[rv r0, iv (2 : Int32), iv p2, un] [(.int ((f 4) &&& (255 : Int32)))]))
  refine Go.stp (fun t_ k_ => XS.bipush X0.here hx rfl (hb hby d2_9) k_) ?_
  show Go p.tables e below G (s₁.setTop (mkF m 11 #[rv r0, iv (2 : Int32), iv p2, un] [(.int (8 : Int32)), (.int ((f 4) &&& (255 : Int32)))]))
  refine Go.stp (fun t_ k_ => XS.ishl X0.here hx rfl (hb hby d2_11) rfl k_) ?_
  show Go p.tables e below G (s₁.setTop (mkF m 12 #[rv r0, iv (2 : Int32), iv p2, un] [(.int (((f 4) &&& (255 : Int32)) <<< ((8 : Int32) &&& 31)))]))
  refine Go.stp (fun t_ k_ => XS.aloadN X0.here hx rfl (hb hby d2_12) rfl rfl k_) ?_
  show Go p.tables e below G (s₁.setTop (mkF m 13 #[rv r0, iv (2 : Int32), iv p2, un] [(.ref r0), (.int (((f 4) &&& (255 : Int32)) <<< ((8 : Int32) &&& 31)))]))
  refine Go.stp (fun t_ k_ => XS.iconst X0.here hx rfl (hb hby d2_13) k_) ?_
  show Go p.tables e below G (s₁.setTop (mkF m 14 #[rv r0, iv (2 : Int32), iv p2, un] [(.int (2 : Int32)), (.ref r0), (.int (((f 4) &&& (255 : Int32)) <<< ((8 : Int32) &&& 31)))]))
  refine Go.stp (fun t_ k_ => XS.iloadN X0.here hx rfl (hb hby d2_14) rfl k_) ?_
  show Go p.tables e below G (s₁.setTop (mkF m 15 #[rv r0, iv (2 : Int32), iv p2, un] [(.int (2 : Int32)), (.int (2 : Int32)), (.ref r0), (.int (((f 4) &&& (255 : Int32)) <<< ((8 : Int32) &&& 31)))]))
  refine Go.stp (fun t_ k_ => XS.imul X0.here hx rfl (hb hby d2_15) rfl k_) ?_
  show Go p.tables e below G (s₁.setTop (mkF m 16 #[rv r0, iv (2 : Int32), iv p2, un] [(.int ((2 : Int32) * (2 : Int32))), (.ref r0), (.int (((f 4) &&& (255 : Int32)) <<< ((8 : Int32) &&& 31)))]))
  refine Go.stp (fun t_ k_ => XS.iconst X0.here hx rfl (hb hby d2_16) k_) ?_
  show Go p.tables e below G (s₁.setTop (mkF m 17 #[rv r0, iv (2 : Int32), iv p2, un] [(.int (1 : Int32)), (.int ((2 : Int32) * (2 : Int32))), (.ref r0), (.int (((f 4) &&& (255 : Int32)) <<< ((8 : Int32) &&& 31)))]))
  refine Go.stp (fun t_ k_ => XS.iadd X0.here hx rfl (hb hby d2_17) rfl k_) ?_
  show Go p.tables e below G (s₁.setTop (mkF m 18 #[rv r0, iv (2 : Int32), iv p2, un] [(.int (((2 : Int32) * (2 : Int32)) + (1 : Int32))), (.ref r0), (.int (((f 4) &&& (255 : Int32)) <<< ((8 : Int32) &&& 31)))]))
  obtain ⟨cl2, Ar2, Sz2, -, Hs2⟩ := id I_r0
  have ib2 : 0 ≤ ((((2 : Int32) * (2 : Int32)) + (1 : Int32))).toInt ∧ ((((2 : Int32) * (2 : Int32)) + (1 : Int32))).toInt < ((k : Nat) : Int) := ⟨by decide, by rw [show ((((2 : Int32) * (2 : Int32)) + (1 : Int32))).toInt = 5 by decide]; omega⟩
  refine Go.stp (fun t_ k_ => X0.baloadBytes hx (j := (((2 : Int32) * (2 : Int32)) + (1 : Int32))) (v := (Value.int (f 5))) (by rw [e0]; exact Ar2.1) (State.isArrayOf_alike hZ.alike Ar2.2.1) Ar2.2.2 (in_of Sz2 ib2) (Hs2 5 (by omega)) (g := (mkF m 18 #[rv r0, iv (2 : Int32), iv p2, un] [(.int (((2 : Int32) * (2 : Int32)) + (1 : Int32))), (.ref r0), (.int (((f 4) &&& (255 : Int32)) <<< ((8 : Int32) &&& 31)))])) rfl rfl (hb hby d2_18) t_ k_) ?_
  show Go p.tables e below G (s₁.setTop (mkF m 19 #[rv r0, iv (2 : Int32), iv p2, un] [(.int (f 5)), (.int (((f 4) &&& (255 : Int32)) <<< ((8 : Int32) &&& 31)))]))
  refine Go.stp (fun t_ k_ => XS.sipush X0.here hx rfl (hb hby d2_19) k_) ?_
  show Go p.tables e below G (s₁.setTop (mkF m 22 #[rv r0, iv (2 : Int32), iv p2, un] [(.int (255 : Int32)), (.int (f 5)), (.int (((f 4) &&& (255 : Int32)) <<< ((8 : Int32) &&& 31)))]))
  refine Go.stp (fun t_ k_ => XS.iand X0.here hx rfl (hb hby d2_22) rfl k_) ?_
  show Go p.tables e below G (s₁.setTop (mkF m 23 #[rv r0, iv (2 : Int32), iv p2, un] [(.int ((f 5) &&& (255 : Int32))), (.int (((f 4) &&& (255 : Int32)) <<< ((8 : Int32) &&& 31)))]))
  refine Go.stp (fun t_ k_ => XS.ior X0.here hx rfl (hb hby d2_23) rfl k_) ?_
  show Go p.tables e below G (s₁.setTop (mkF m 24 #[rv r0, iv (2 : Int32), iv p2, un] [(.int ((((f 4) &&& (255 : Int32)) <<< ((8 : Int32) &&& 31)) ||| ((f 5) &&& (255 : Int32))))]))
  refine Go.stp (fun t_ k_ => XS.istoreN X0.here hx rfl (hb hby d2_24) rfl (l' := #[rv r0, iv (2 : Int32), iv p2, iv ((((f 4) &&& (255 : Int32)) <<< ((8 : Int32) &&& 31)) ||| ((f 5) &&& (255 : Int32)))]) rfl k_) ?_
  show Go p.tables e below G (s₁.setTop (mkF m 25 #[rv r0, iv (2 : Int32), iv p2, iv ((((f 4) &&& (255 : Int32)) <<< ((8 : Int32) &&& 31)) ||| ((f 5) &&& (255 : Int32)))] []))
  refine Go.stp (fun t_ k_ => XS.iloadN X0.here hx rfl (hb hby d2_25) rfl k_) ?_
  show Go p.tables e below G (s₁.setTop (mkF m 26 #[rv r0, iv (2 : Int32), iv p2, iv ((((f 4) &&& (255 : Int32)) <<< ((8 : Int32) &&& 31)) ||| ((f 5) &&& (255 : Int32)))] [(.int ((((f 4) &&& (255 : Int32)) <<< ((8 : Int32) &&& 31)) ||| ((f 5) &&& (255 : Int32))))]))
  refine Go.stp (fun t_ k_ => XS.iloadN X0.here hx rfl (hb hby d2_26) rfl k_) ?_
  show Go p.tables e below G (s₁.setTop (mkF m 27 #[rv r0, iv (2 : Int32), iv p2, iv ((((f 4) &&& (255 : Int32)) <<< ((8 : Int32) &&& 31)) ||| ((f 5) &&& (255 : Int32)))] [(.int p2), (.int ((((f 4) &&& (255 : Int32)) <<< ((8 : Int32) &&& 31)) ||| ((f 5) &&& (255 : Int32))))]))
  refine Go.stp (fun t_ k_ => X0.ldcInt hx hown (mvT hZ (hw _ (List.mem_of_getElem? (i := 10) rfl))) (g := (mkF m 27 #[rv r0, iv (2 : Int32), iv p2, iv ((((f 4) &&& (255 : Int32)) <<< ((8 : Int32) &&& 31)) ||| ((f 5) &&& (255 : Int32)))] [(.int p2), (.int ((((f 4) &&& (255 : Int32)) <<< ((8 : Int32) &&& 31)) ||| ((f 5) &&& (255 : Int32))))])) rfl (hb hby d2_27) t_ k_) ?_
  show Go p.tables e below G (s₁.setTop (mkF m 29 #[rv r0, iv (2 : Int32), iv p2, iv ((((f 4) &&& (255 : Int32)) <<< ((8 : Int32) &&& 31)) ||| ((f 5) &&& (255 : Int32)))] [(.int (65535 : Int32)), (.int p2), (.int ((((f 4) &&& (255 : Int32)) <<< ((8 : Int32) &&& 31)) ||| ((f 5) &&& (255 : Int32))))]))
  refine Go.stp (fun t_ k_ => XS.iand X0.here hx rfl (hb hby d2_29) rfl k_) ?_
  show Go p.tables e below G (s₁.setTop (mkF m 30 #[rv r0, iv (2 : Int32), iv p2, iv ((((f 4) &&& (255 : Int32)) <<< ((8 : Int32) &&& 31)) ||| ((f 5) &&& (255 : Int32)))] [(.int (p2 &&& (65535 : Int32))), (.int ((((f 4) &&& (255 : Int32)) <<< ((8 : Int32) &&& 31)) ||| ((f 5) &&& (255 : Int32))))]))
  by_cases hc30 : ((((f 4) &&& (255 : Int32)) <<< ((8 : Int32) &&& 31)) ||| ((f 5) &&& (255 : Int32))) = (p2 &&& (65535 : Int32))
  · refine Go.stp (fun t_ k_ => XS.icmpNo X0.here hx rfl (hb hby d2_30) rfl (teq hc30).2 k_) ?_
    show Go p.tables e below G (s₁.setTop (mkF m 33 #[rv r0, iv (2 : Int32), iv p2, iv ((((f 4) &&& (255 : Int32)) <<< ((8 : Int32) &&& 31)) ||| ((f 5) &&& (255 : Int32)))] []))
    refine Go.stp (fun t_ k_ => XS.iconst X0.here hx rfl (hb hby d2_33) k_) ?_
    show Go p.tables e below G (s₁.setTop (mkF m 34 #[rv r0, iv (2 : Int32), iv p2, iv ((((f 4) &&& (255 : Int32)) <<< ((8 : Int32) &&& 31)) ||| ((f 5) &&& (255 : Int32)))] [(.int (1 : Int32))]))
    refine Go.stp (fun t_ k_ => XS.goto X0.here hx rfl (pc0 := 34) (pc' := 38) rfl (hb hby d2_34) (by decide) (by decide) k_) ?_
    show Go p.tables e below G (s₁.setTop (mkF m 38 #[rv r0, iv (2 : Int32), iv p2, iv ((((f 4) &&& (255 : Int32)) <<< ((8 : Int32) &&& 31)) ||| ((f 5) &&& (255 : Int32)))] [(.int (1 : Int32))]))
    obtain ⟨fs, hr, hrun, hended, hW, hsame⟩ := X0.leave (v := some (.int (1 : Int32))) (fun h => by rw [Bd.returns] at h; cases h)
    refine ⟨_, _, retN X0 hx (t := .boolean) Bd.returns (by simp) (hb hby d2_38) hr, hrun, hended, hG _ _ _ ?_ ⟨⟨_, rfl⟩, hW, hsame.mono (by decide) (by decide)⟩⟩
    show Q2_2 Z r0 p2 k f h0 n0 _ s₁.heap _
    rw [e0]
    exact ⟨by simp [own_pr, hc30], N0, rfl⟩
  · refine Go.stp (fun t_ k_ => XS.icmpYes X0.here hx rfl (pc0 := 30) (pc' := 37) rfl (hb hby d2_30) rfl (feq hc30).2 (by decide) (by decide) k_) ?_
    show Go p.tables e below G (s₁.setTop (mkF m 37 #[rv r0, iv (2 : Int32), iv p2, iv ((((f 4) &&& (255 : Int32)) <<< ((8 : Int32) &&& 31)) ||| ((f 5) &&& (255 : Int32)))] []))
    refine Go.stp (fun t_ k_ => XS.iconst X0.here hx rfl (hb hby d2_37) k_) ?_
    show Go p.tables e below G (s₁.setTop (mkF m 38 #[rv r0, iv (2 : Int32), iv p2, iv ((((f 4) &&& (255 : Int32)) <<< ((8 : Int32) &&& 31)) ||| ((f 5) &&& (255 : Int32)))] [(.int (0 : Int32))]))
    obtain ⟨fs, hr, hrun, hended, hW, hsame⟩ := X0.leave (v := some (.int (0 : Int32))) (fun h => by rw [Bd.returns] at h; cases h)
    refine ⟨_, _, retN X0 hx (t := .boolean) Bd.returns (by simp) (hb hby d2_38) hr, hrun, hended, hG _ _ _ ?_ ⟨⟨_, rfl⟩, hW, hsame.mono (by decide) (by decide)⟩⟩
    show Q2_2 Z r0 p2 k f h0 n0 _ s₁.heap _
    rw [e0]
    exact ⟨by simp [own_pr, hc30], N0, rfl⟩
theorem ef_0 (m : MethodId) (p0 : Int32) (p1 : Int32) (p2 : Int32) (p3 : Int32) : entryFrame m #[(.int p0), (.int p1), (.int p2), (.int p3)] maxLocals = mkF m 0 #[iv p0, iv p1, iv p2, iv p3, un, un, un, un] [] := by first | (simp [entryFrame, mkF, argsToLocals, Value.category, iv, rv, lv, un, sd, maxLocals]; done) | rfl
def Q0 (Z : State) (p0 : Int32) (p1 : Int32) (p2 : Int32) (p3 : Int32) (h0 : Heap) (n0 : Nat) (v : Option Value) (h : Heap) (L : List Loc) : Prop := v = some (.int (1 : Int32)) ∧ Fr n0 L
set_option maxRecDepth 65536 in
set_option maxHeartbeats 40000000 in
theorem rm0 (l : Launch) (Z : State) (a0 : Array Value) (hw : ∀ d ∈ tables_1, d.before a0 Z = true) (ws : List Jvm.Cond) (p0 : Int32) (p1 : Int32) (p2 : Int32) (p3 : Int32) (h0 : Heap) (n0 : Nat) (Z0 : n0 ≤ h0.size) :
    MetFree l x (head1 (Jvm.Cond.code x code maxLocals ret :: ws) room_1) (fun a U => a = #[(.int p0), (.int p1), (.int p2), (.int p3)] ∧ Z.Warmed39 U.vm ∧ U.heap = h0) (fun _ _ _ _ _ => True) (fun _ U o U' => ∃ v L, o = .returned v ∧ Q0 Z p0 p1 p2 p3 h0 n0 v U'.heap L ∧ FrameEnd U o U' L room_1.cells room_1.slots) := by
  refine MetFree.of_bodySF (plainFor_of_name pn_2) hisR ?_
  intro p e s m args below meth c s₁ Bd hml0 hP hK
  obtain ⟨rfl, hZ, hh⟩ := hP
  have hx := Bd.exec
  have hby := Bd.bytes
  have hml : c.maxLocals = 8 := hml0
  have hown : s.vm.findClass "com/example/slot2/slot2/card/FileCommandsFidsPinLaw" = some m.cls := findClass_of_methodNamed Bd.named
  have hnm := (name_of_methodNamed Bd.named Bd.method).1
  have X0 : Stand p l e room_1 s m #[(.int p0), (.int p1), (.int p2), (.int p3)] below meth c s₁ [] 0 0 := Stand.of_body Bd
  have e0 : s₁.heap = h0 := by rw [← hh, Bd.state]; rfl
  have N0 := Fr.nil n0
  suffices HH : ∀ G : Outcome → State → Prop, (∀ v L U', Q0 Z p0 p1 p2 p3 h0 n0 v U'.heap L → FrameEnd s (.returned v) U' L room_1.cells room_1.slots → G (.returned v) U') → Go p.tables e below G (s₁.setTop (mkF m 0 #[iv p0, iv p1, iv p2, iv p3, un, un, un, un] [])) by
    obtain ⟨s2, o, h1, h2, h3, h4⟩ := HH (fun o U' => ∃ v L, o = .returned v ∧ Q0 Z p0 p1 p2 p3 h0 n0 v U'.heap L ∧ FrameEnd s o U' L room_1.cells room_1.slots) (fun v L U' q f => ⟨v, L, rfl, q, f⟩)
    exact ⟨s2, o, castTop (ef_0 m p0 p1 p2 p3) h1, h2, h3, h4⟩
  intro G hG
  show Go p.tables e below G (s₁.setTop (mkF m 0 #[iv p0, iv p1, iv p2, iv p3, un, un, un, un] []))
  refine Go.stp (fun t_ k_ => XS.iloadN X0.here hx rfl (hb hby at_0) rfl k_) ?_
  show Go p.tables e below G (s₁.setTop (mkF m 1 #[iv p0, iv p1, iv p2, iv p3, un, un, un, un] [(.int p0)]))
  refine Go.stp (fun t_ k_ => XS.iconst X0.here hx rfl (hb hby at_1) k_) ?_
  show Go p.tables e below G (s₁.setTop (mkF m 2 #[iv p0, iv p1, iv p2, iv p3, un, un, un, un] [(.int (3 : Int32)), (.int p0)]))
  refine Go.stp (fun t_ k_ => XS.iand X0.here hx rfl (hb hby at_2) rfl k_) ?_
  show Go p.tables e below G (s₁.setTop (mkF m 3 #[iv p0, iv p1, iv p2, iv p3, un, un, un, un] [(.int (p0 &&& (3 : Int32)))]))
  refine Go.stp (fun t_ k_ => XS.istore X0.here hx rfl (hb hby at_3) rfl (l' := #[iv p0, iv p1, iv p2, iv p3, iv (p0 &&& (3 : Int32)), un, un, un]) rfl k_) ?_
  show Go p.tables e below G (s₁.setTop (mkF m 5 #[iv p0, iv p1, iv p2, iv p3, iv (p0 &&& (3 : Int32)), un, un, un] []))
  rcases own_n p0 with hn | hn | hn | hn
  · rw [hn]
    show Go p.tables e below G (s₁.setTop (mkF m 5 #[iv p0, iv p1, iv p2, iv p3, iv (0 : Int32), un, un, un] []))
    refine Go.stp (fun t_ k_ => XS.iload X0.here hx rfl (hb hby at_5) rfl k_) ?_
    show Go p.tables e below G (s₁.setTop (mkF m 7 #[iv p0, iv p1, iv p2, iv p3, iv (0 : Int32), un, un, un] [(.int (0 : Int32))]))
    obtain ⟨T1, h1, k1, X1, e1, E1, A1, st1⟩ := newP X0 hx hZ (hw _ (List.mem_of_getElem? (i := 0) rfl)) e0 (g := (mkF m 7 #[iv p0, iv p1, iv p2, iv p3, iv (0 : Int32), un, un, un] [(.int (0 : Int32))])) rfl (hb hby at_7) rfl (by decide) (cap := 0) (by decide) (by decide) (by decide) (by decide)
    obtain ⟨b1, g1⟩ : ∃ z, z = h0.size := ⟨_, rfl⟩
    rw [← g1] at A1 st1
    have g_b1 : n0 ≤ b1 := Nat.le_trans Z0 (Nat.le_of_eq g1.symm)
    have Z1 : n0 ≤ h1.size := Nat.le_trans Z0 E1.1
    have f2 : Ia Z h1 b1 .int 0 Value.int (fun _ => (0 : Int32)) := Ia.new A1 (by decide) (by decide) rfl
    refine Go.stp (fun t_ k_ => st1 t_ k_) ?_
    show Go p.tables e below G (T1.setTop (mkF m 9 #[iv p0, iv p1, iv p2, iv p3, iv (0 : Int32), un, un, un] [(.ref b1)]))
    refine Go.stp (fun t_ k_ => XS.astore X1.here hx rfl (hb hby at_9) rfl rfl (l' := #[iv p0, iv p1, iv p2, iv p3, iv (0 : Int32), rv b1, un, un]) rfl k_) ?_
    show Go p.tables e below G (T1.setTop (mkF m 11 #[iv p0, iv p1, iv p2, iv p3, iv (0 : Int32), rv b1, un, un] []))
    refine Go.stp (fun t_ k_ => XS.iload X1.here hx rfl (hb hby at_11) rfl k_) ?_
    show Go p.tables e below G (T1.setTop (mkF m 13 #[iv p0, iv p1, iv p2, iv p3, iv (0 : Int32), rv b1, un, un] [(.int (0 : Int32))]))
    refine Go.stp (fun t_ k_ => XS.ifYes X1.here hx rfl (pc0 := 13) (pc' := 21) rfl (hb hby at_13) rfl ((if0 _ _).trans (flt (by decide : ¬ ((0 : Int32) < (0 : Int32)))).2.2.2) (by decide) (by decide) k_) ?_
    show Go p.tables e below G (T1.setTop (mkF m 21 #[iv p0, iv p1, iv p2, iv p3, iv (0 : Int32), rv b1, un, un] []))
    refine Go.stp (fun t_ k_ => XS.iload X1.here hx rfl (hb hby at_21) rfl k_) ?_
    show Go p.tables e below G (T1.setTop (mkF m 23 #[iv p0, iv p1, iv p2, iv p3, iv (0 : Int32), rv b1, un, un] [(.int (0 : Int32))]))
    refine Go.stp (fun t_ k_ => XS.iconst X1.here hx rfl (hb hby at_23) k_) ?_
    show Go p.tables e below G (T1.setTop (mkF m 24 #[iv p0, iv p1, iv p2, iv p3, iv (0 : Int32), rv b1, un, un] [(.int (1 : Int32)), (.int (0 : Int32))]))
    refine Go.stp (fun t_ k_ => XS.icmpYes X1.here hx rfl (pc0 := 24) (pc' := 32) rfl (hb hby at_24) rfl (flt (by decide : ¬ ((1 : Int32) < (0 : Int32)))).2.2.2 (by decide) (by decide) k_) ?_
    show Go p.tables e below G (T1.setTop (mkF m 32 #[iv p0, iv p1, iv p2, iv p3, iv (0 : Int32), rv b1, un, un] []))
    refine Go.stp (fun t_ k_ => XS.iload X1.here hx rfl (hb hby at_32) rfl k_) ?_
    show Go p.tables e below G (T1.setTop (mkF m 34 #[iv p0, iv p1, iv p2, iv p3, iv (0 : Int32), rv b1, un, un] [(.int (0 : Int32))]))
    refine Go.stp (fun t_ k_ => XS.iconst X1.here hx rfl (hb hby at_34) k_) ?_
    show Go p.tables e below G (T1.setTop (mkF m 35 #[iv p0, iv p1, iv p2, iv p3, iv (0 : Int32), rv b1, un, un] [(.int (2 : Int32)), (.int (0 : Int32))]))
    refine Go.stp (fun t_ k_ => XS.icmpYes X1.here hx rfl (pc0 := 35) (pc' := 43) rfl (hb hby at_35) rfl (flt (by decide : ¬ ((2 : Int32) < (0 : Int32)))).2.2.2 (by decide) (by decide) k_) ?_
    show Go p.tables e below G (T1.setTop (mkF m 43 #[iv p0, iv p1, iv p2, iv p3, iv (0 : Int32), rv b1, un, un] []))
    refine Go.stp (fun t_ k_ => XS.aload X1.here hx rfl (hb hby at_43) rfl rfl k_) ?_
    show Go p.tables e below G (T1.setTop (mkF m 45 #[iv p0, iv p1, iv p2, iv p3, iv (0 : Int32), rv b1, un, un] [(.ref b1)]))
    obtain ⟨_, _, ⟨T3, L3, k3, n3⟩, -, X3, ⟨Lc3, hQ3, l3, y3, z3⟩, st3⟩ := Jvm.LawKit.callS X1 hx (y := (⟨"com/example/slot2/slot2/card/FileCommands", "fids", "([I)[B"⟩ : MethodName)) hown (mvT hZ (hw _ (List.mem_of_getElem? (i := 1) rfl))) (mvT hZ (hw _ (List.mem_of_getElem? (i := 2) rfl))) (mvT hZ (hw _ (List.mem_of_getElem? (i := 3) rfl))) (mvT hZ (hw _ (List.mem_of_getElem? (i := 4) rfl))) (by decide) (backOf (W := 0) (rm1_0 l Z a0 hw [] b1 (fun _ => (0 : Int32)) h1 n0 Z1 f2) hZ (hw _ (List.mem_of_getElem? (i := 4) rfl)) (hw _ (List.mem_of_getElem? (i := 3) rfl)) (by decide) (by decide)) (g := (mkF m 45 #[iv p0, iv p1, iv p2, iv p3, iv (0 : Int32), rv b1, un, un] [(.ref b1)])) rfl (by rw [hml]; rfl) (argsL := [(.ref b1)]) (rest := []) (lenOf pd_0 rfl) rfl (by show 2 * 0 + _ ≤ _; exact Nat.le_of_eq rfl) (hb hby at_45) (fun _ _ => ⟨rfl, e1, (by decide : 1 + 1 ≤ _), (by decide : 0 + 0 ≤ _)⟩)
    dsimp only [Pt.U, Pt.locs, Pt.cells, Pt.slots] at X3 l3 y3 z3 st3 hQ3
    subst l3 y3 z3
    obtain ⟨ob, rfl, Nq3, Kc3, g_ob, I_ob⟩ := hQ3
    have N3 := Fr.app N0 Nq3
    have f4 : Ia Z T3.heap b1 .int 0 Value.int (fun _ => (0 : Int32)) := f2.keep Kc3 (by simp)
    have Z3 : n0 ≤ T3.heap.size := Nat.le_trans Z1 Kc3.1
    refine Go.stp (fun t_ k_ => st3 t_ k_) ?_
    show Go p.tables e below G (T3.setTop (mkF m 48 #[iv p0, iv p1, iv p2, iv p3, iv (0 : Int32), rv b1, un, un] [(.ref ob)]))
    refine Go.stp (fun t_ k_ => XS.astore X3.here hx rfl (hb hby at_48) rfl rfl (l' := #[iv p0, iv p1, iv p2, iv p3, iv (0 : Int32), rv b1, rv ob, un]) rfl k_) ?_
    show Go p.tables e below G (T3.setTop (mkF m 50 #[iv p0, iv p1, iv p2, iv p3, iv (0 : Int32), rv b1, rv ob, un] []))
    refine Go.stp (fun t_ k_ => XS.aload X3.here hx rfl (hb hby at_50) rfl rfl k_) ?_
    show Go p.tables e below G (T3.setTop (mkF m 52 #[iv p0, iv p1, iv p2, iv p3, iv (0 : Int32), rv b1, rv ob, un] [(.ref ob)]))
    refine Go.stp (fun t_ k_ => XS.ifnullNo X3.here hx rfl (hb hby at_52) rfl k_) ?_
    show Go p.tables e below G (T3.setTop (mkF m 55 #[iv p0, iv p1, iv p2, iv p3, iv (0 : Int32), rv b1, rv ob, un] []))
    refine Go.stp (fun t_ k_ => XS.aload X3.here hx rfl (hb hby at_55) rfl rfl k_) ?_
    show Go p.tables e below G (T3.setTop (mkF m 57 #[iv p0, iv p1, iv p2, iv p3, iv (0 : Int32), rv b1, rv ob, un] [(.ref ob)]))
    obtain ⟨cl5, Ar5, Sz5, -, -⟩ := id I_ob
    refine Go.stp (fun t_ k_ => X3.arraylength hx Ar5.1 (State.isArrayOf_alike hZ.alike Ar5.2.1) (g := (mkF m 57 #[iv p0, iv p1, iv p2, iv p3, iv (0 : Int32), rv b1, rv ob, un] [(.ref ob)])) rfl rfl (hb hby at_57) t_ k_) ?_
    rw [Sz5]
    show Go p.tables e below G (T3.setTop (mkF m 58 #[iv p0, iv p1, iv p2, iv p3, iv (0 : Int32), rv b1, rv ob, un] [(.int (0 : Int32))]))
    refine Go.stp (fun t_ k_ => XS.iconst X3.here hx rfl (hb hby at_58) k_) ?_
    show Go p.tables e below G (T3.setTop (mkF m 59 #[iv p0, iv p1, iv p2, iv p3, iv (0 : Int32), rv b1, rv ob, un] [(.int (2 : Int32)), (.int (0 : Int32))]))
    refine Go.stp (fun t_ k_ => XS.iload X3.here hx rfl (hb hby at_59) rfl k_) ?_
    show Go p.tables e below G (T3.setTop (mkF m 61 #[iv p0, iv p1, iv p2, iv p3, iv (0 : Int32), rv b1, rv ob, un] [(.int (0 : Int32)), (.int (2 : Int32)), (.int (0 : Int32))]))
    refine Go.stp (fun t_ k_ => XS.imul X3.here hx rfl (hb hby at_61) rfl k_) ?_
    show Go p.tables e below G (T3.setTop (mkF m 62 #[iv p0, iv p1, iv p2, iv p3, iv (0 : Int32), rv b1, rv ob, un] [(.int ((2 : Int32) * (0 : Int32))), (.int (0 : Int32))]))
    refine Go.stp (fun t_ k_ => XS.icmpYes X3.here hx rfl (pc0 := 62) (pc' := 67) rfl (hb hby at_62) rfl (teq (by decide : (0 : Int32) = ((2 : Int32) * (0 : Int32)))).1 (by decide) (by decide) k_) ?_
    show Go p.tables e below G (T3.setTop (mkF m 67 #[iv p0, iv p1, iv p2, iv p3, iv (0 : Int32), rv b1, rv ob, un] []))
    refine Go.stp (fun t_ k_ => XS.iconst X3.here hx rfl (hb hby at_67) k_) ?_
    show Go p.tables e below G (T3.setTop (mkF m 68 #[iv p0, iv p1, iv p2, iv p3, iv (0 : Int32), rv b1, rv ob, un] [(.int (1 : Int32))]))
    refine Go.stp (fun t_ k_ => XS.istore X3.here hx rfl (hb hby at_68) rfl (l' := #[iv p0, iv p1, iv p2, iv p3, iv (0 : Int32), rv b1, rv ob, iv (1 : Int32)]) rfl k_) ?_
    show Go p.tables e below G (T3.setTop (mkF m 70 #[iv p0, iv p1, iv p2, iv p3, iv (0 : Int32), rv b1, rv ob, iv (1 : Int32)] []))
    refine Go.stp (fun t_ k_ => XS.iload X3.here hx rfl (hb hby at_70) rfl k_) ?_
    show Go p.tables e below G (T3.setTop (mkF m 72 #[iv p0, iv p1, iv p2, iv p3, iv (0 : Int32), rv b1, rv ob, iv (1 : Int32)] [(.int (0 : Int32))]))
    refine Go.stp (fun t_ k_ => XS.ifYes X3.here hx rfl (pc0 := 72) (pc' := 97) rfl (hb hby at_72) rfl ((if0 _ _).trans (flt (by decide : ¬ ((0 : Int32) < (0 : Int32)))).2.2.2) (by decide) (by decide) k_) ?_
    show Go p.tables e below G (T3.setTop (mkF m 97 #[iv p0, iv p1, iv p2, iv p3, iv (0 : Int32), rv b1, rv ob, iv (1 : Int32)] []))
    refine Go.stp (fun t_ k_ => XS.iload X3.here hx rfl (hb hby at_97) rfl k_) ?_
    show Go p.tables e below G (T3.setTop (mkF m 99 #[iv p0, iv p1, iv p2, iv p3, iv (0 : Int32), rv b1, rv ob, iv (1 : Int32)] [(.int (0 : Int32))]))
    refine Go.stp (fun t_ k_ => XS.iconst X3.here hx rfl (hb hby at_99) k_) ?_
    show Go p.tables e below G (T3.setTop (mkF m 100 #[iv p0, iv p1, iv p2, iv p3, iv (0 : Int32), rv b1, rv ob, iv (1 : Int32)] [(.int (1 : Int32)), (.int (0 : Int32))]))
    refine Go.stp (fun t_ k_ => XS.icmpYes X3.here hx rfl (pc0 := 100) (pc' := 125) rfl (hb hby at_100) rfl (flt (by decide : ¬ ((1 : Int32) < (0 : Int32)))).2.2.2 (by decide) (by decide) k_) ?_
    show Go p.tables e below G (T3.setTop (mkF m 125 #[iv p0, iv p1, iv p2, iv p3, iv (0 : Int32), rv b1, rv ob, iv (1 : Int32)] []))
    refine Go.stp (fun t_ k_ => XS.iload X3.here hx rfl (hb hby at_125) rfl k_) ?_
    show Go p.tables e below G (T3.setTop (mkF m 127 #[iv p0, iv p1, iv p2, iv p3, iv (0 : Int32), rv b1, rv ob, iv (1 : Int32)] [(.int (0 : Int32))]))
    refine Go.stp (fun t_ k_ => XS.iconst X3.here hx rfl (hb hby at_127) k_) ?_
    show Go p.tables e below G (T3.setTop (mkF m 128 #[iv p0, iv p1, iv p2, iv p3, iv (0 : Int32), rv b1, rv ob, iv (1 : Int32)] [(.int (2 : Int32)), (.int (0 : Int32))]))
    refine Go.stp (fun t_ k_ => XS.icmpYes X3.here hx rfl (pc0 := 128) (pc' := 153) rfl (hb hby at_128) rfl (flt (by decide : ¬ ((2 : Int32) < (0 : Int32)))).2.2.2 (by decide) (by decide) k_) ?_
    show Go p.tables e below G (T3.setTop (mkF m 153 #[iv p0, iv p1, iv p2, iv p3, iv (0 : Int32), rv b1, rv ob, iv (1 : Int32)] []))
    refine Go.stp (fun t_ k_ => XS.iload X3.here hx rfl (hb hby at_153) rfl k_) ?_
    show Go p.tables e below G (T3.setTop (mkF m 155 #[iv p0, iv p1, iv p2, iv p3, iv (0 : Int32), rv b1, rv ob, iv (1 : Int32)] [(.int (1 : Int32))]))
    obtain ⟨fs, hr, hrun, hended, hW, hsame⟩ := X3.leave (v := some (.int (1 : Int32))) (fun h => by rw [Bd.returns] at h; cases h)
    refine ⟨_, _, retN X3 hx (t := .boolean) Bd.returns (by simp) (hb hby at_155) hr, hrun, hended, hG _ _ _ ?_ ⟨⟨_, rfl⟩, hW, hsame.mono (by decide) (by decide)⟩⟩
    show Q0 Z p0 p1 p2 p3 h0 n0 _ T3.heap _
    exact ⟨rfl, N3⟩
  · rw [hn]
    show Go p.tables e below G (s₁.setTop (mkF m 5 #[iv p0, iv p1, iv p2, iv p3, iv (1 : Int32), un, un, un] []))
    refine Go.stp (fun t_ k_ => XS.iload X0.here hx rfl (hb hby at_5) rfl k_) ?_
    show Go p.tables e below G (s₁.setTop (mkF m 7 #[iv p0, iv p1, iv p2, iv p3, iv (1 : Int32), un, un, un] [(.int (1 : Int32))]))
    obtain ⟨T6, h6, k6, X6, e6, E6, A6, st6⟩ := newP X0 hx hZ (hw _ (List.mem_of_getElem? (i := 0) rfl)) e0 (g := (mkF m 7 #[iv p0, iv p1, iv p2, iv p3, iv (1 : Int32), un, un, un] [(.int (1 : Int32))])) rfl (hb hby at_7) rfl (by decide) (cap := 1) (by decide) (by decide) (by decide) (by decide)
    obtain ⟨b6, g6⟩ : ∃ z, z = h0.size := ⟨_, rfl⟩
    rw [← g6] at A6 st6
    have g_b6 : n0 ≤ b6 := Nat.le_trans Z0 (Nat.le_of_eq g6.symm)
    have Z6 : n0 ≤ h6.size := Nat.le_trans Z0 E6.1
    have f7 : Ia Z h6 b6 .int 1 Value.int (fun _ => (0 : Int32)) := Ia.new A6 (by decide) (by decide) rfl
    refine Go.stp (fun t_ k_ => st6 t_ k_) ?_
    show Go p.tables e below G (T6.setTop (mkF m 9 #[iv p0, iv p1, iv p2, iv p3, iv (1 : Int32), un, un, un] [(.ref b6)]))
    refine Go.stp (fun t_ k_ => XS.astore X6.here hx rfl (hb hby at_9) rfl rfl (l' := #[iv p0, iv p1, iv p2, iv p3, iv (1 : Int32), rv b6, un, un]) rfl k_) ?_
    show Go p.tables e below G (T6.setTop (mkF m 11 #[iv p0, iv p1, iv p2, iv p3, iv (1 : Int32), rv b6, un, un] []))
    refine Go.stp (fun t_ k_ => XS.iload X6.here hx rfl (hb hby at_11) rfl k_) ?_
    show Go p.tables e below G (T6.setTop (mkF m 13 #[iv p0, iv p1, iv p2, iv p3, iv (1 : Int32), rv b6, un, un] [(.int (1 : Int32))]))
    refine Go.stp (fun t_ k_ => XS.ifNo X6.here hx rfl (hb hby at_13) rfl ((if0 _ _).trans (tlt (by decide : (0 : Int32) < (1 : Int32))).2.2.2) k_) ?_
    show Go p.tables e below G (T6.setTop (mkF m 16 #[iv p0, iv p1, iv p2, iv p3, iv (1 : Int32), rv b6, un, un] []))
    refine Go.stp (fun t_ k_ => XS.aload X6.here hx rfl (hb hby at_16) rfl rfl k_) ?_
    show Go p.tables e below G (T6.setTop (mkF m 18 #[iv p0, iv p1, iv p2, iv p3, iv (1 : Int32), rv b6, un, un] [(.ref b6)]))
    refine Go.stp (fun t_ k_ => XS.iconst X6.here hx rfl (hb hby at_18) k_) ?_
    show Go p.tables e below G (T6.setTop (mkF m 19 #[iv p0, iv p1, iv p2, iv p3, iv (1 : Int32), rv b6, un, un] [(.int (0 : Int32)), (.ref b6)]))
    refine Go.stp (fun t_ k_ => XS.iloadN X6.here hx rfl (hb hby at_19) rfl k_) ?_
    show Go p.tables e below G (T6.setTop (mkF m 20 #[iv p0, iv p1, iv p2, iv p3, iv (1 : Int32), rv b6, un, un] [(.int p1), (.int (0 : Int32)), (.ref b6)]))
    have ib8 : 0 ≤ ((0 : Int32)).toInt ∧ ((0 : Int32)).toInt < ((1 : Nat) : Int) := (by decide)
    obtain ⟨cl8, Ar8, Sz8, -, -⟩ := id f7
    obtain ⟨T8, h8, X8, e8, W8, st8⟩ := stI X6 hx hZ e6 Ar8 (j := (0 : Int32)) (in_of Sz8 ib8) (g := (mkF m 20 #[iv p0, iv p1, iv p2, iv p3, iv (1 : Int32), rv b6, un, un] [(.int p1), (.int (0 : Int32)), (.ref b6)])) rfl rfl (hb hby at_20)
    have f9 : Ia Z h8 b6 .int 1 Value.int (upf (fun _ => (0 : Int32)) 0 p1) := f7.set W8 (by decide)
    have N8 := Fr.snoc X8 N0 g_b6
    have Z8 : n0 ≤ h8.size := Nat.le_trans Z6 (Keep.of_wr W8).1
    refine Go.stp (fun t_ k_ => st8 t_ k_) ?_
    show Go p.tables e below G (T8.setTop (mkF m 21 #[iv p0, iv p1, iv p2, iv p3, iv (1 : Int32), rv b6, un, un] []))
    refine Go.stp (fun t_ k_ => XS.iload X8.here hx rfl (hb hby at_21) rfl k_) ?_
    show Go p.tables e below G (T8.setTop (mkF m 23 #[iv p0, iv p1, iv p2, iv p3, iv (1 : Int32), rv b6, un, un] [(.int (1 : Int32))]))
    refine Go.stp (fun t_ k_ => XS.iconst X8.here hx rfl (hb hby at_23) k_) ?_
    show Go p.tables e below G (T8.setTop (mkF m 24 #[iv p0, iv p1, iv p2, iv p3, iv (1 : Int32), rv b6, un, un] [(.int (1 : Int32)), (.int (1 : Int32))]))
    refine Go.stp (fun t_ k_ => XS.icmpYes X8.here hx rfl (pc0 := 24) (pc' := 32) rfl (hb hby at_24) rfl (flt (by decide : ¬ ((1 : Int32) < (1 : Int32)))).2.2.2 (by decide) (by decide) k_) ?_
    show Go p.tables e below G (T8.setTop (mkF m 32 #[iv p0, iv p1, iv p2, iv p3, iv (1 : Int32), rv b6, un, un] []))
    refine Go.stp (fun t_ k_ => XS.iload X8.here hx rfl (hb hby at_32) rfl k_) ?_
    show Go p.tables e below G (T8.setTop (mkF m 34 #[iv p0, iv p1, iv p2, iv p3, iv (1 : Int32), rv b6, un, un] [(.int (1 : Int32))]))
    refine Go.stp (fun t_ k_ => XS.iconst X8.here hx rfl (hb hby at_34) k_) ?_
    show Go p.tables e below G (T8.setTop (mkF m 35 #[iv p0, iv p1, iv p2, iv p3, iv (1 : Int32), rv b6, un, un] [(.int (2 : Int32)), (.int (1 : Int32))]))
    refine Go.stp (fun t_ k_ => XS.icmpYes X8.here hx rfl (pc0 := 35) (pc' := 43) rfl (hb hby at_35) rfl (flt (by decide : ¬ ((2 : Int32) < (1 : Int32)))).2.2.2 (by decide) (by decide) k_) ?_
    show Go p.tables e below G (T8.setTop (mkF m 43 #[iv p0, iv p1, iv p2, iv p3, iv (1 : Int32), rv b6, un, un] []))
    refine Go.stp (fun t_ k_ => XS.aload X8.here hx rfl (hb hby at_43) rfl rfl k_) ?_
    show Go p.tables e below G (T8.setTop (mkF m 45 #[iv p0, iv p1, iv p2, iv p3, iv (1 : Int32), rv b6, un, un] [(.ref b6)]))
    obtain ⟨_, _, ⟨T10, L10, k10, n10⟩, -, X10, ⟨Lc10, hQ10, l10, y10, z10⟩, st10⟩ := Jvm.LawKit.callS X8 hx (y := (⟨"com/example/slot2/slot2/card/FileCommands", "fids", "([I)[B"⟩ : MethodName)) hown (mvT hZ (hw _ (List.mem_of_getElem? (i := 1) rfl))) (mvT hZ (hw _ (List.mem_of_getElem? (i := 2) rfl))) (mvT hZ (hw _ (List.mem_of_getElem? (i := 3) rfl))) (mvT hZ (hw _ (List.mem_of_getElem? (i := 4) rfl))) (by decide) (backOf (W := 0) (rm1_1 l Z a0 hw [] b6 (upf (fun _ => (0 : Int32)) 0 p1) h8 n0 Z8 f9) hZ (hw _ (List.mem_of_getElem? (i := 4) rfl)) (hw _ (List.mem_of_getElem? (i := 3) rfl)) (by decide) (by decide)) (g := (mkF m 45 #[iv p0, iv p1, iv p2, iv p3, iv (1 : Int32), rv b6, un, un] [(.ref b6)])) rfl (by rw [hml]; rfl) (argsL := [(.ref b6)]) (rest := []) (lenOf pd_0 rfl) rfl (by show 2 * 0 + _ ≤ _; exact Nat.le_of_eq rfl) (hb hby at_45) (fun _ _ => ⟨rfl, e8, (by decide : 1 + 1 ≤ _), (by decide : 1 + 2 ≤ _)⟩)
    dsimp only [Pt.U, Pt.locs, Pt.cells, Pt.slots] at X10 l10 y10 z10 st10 hQ10
    subst l10 y10 z10
    obtain ⟨ob, rfl, Nq10, Kc10, g_ob, I_ob⟩ := hQ10
    have N10 := Fr.app N8 Nq10
    have f11 : Ia Z T10.heap b6 .int 1 Value.int (upf (fun _ => (0 : Int32)) 0 p1) := f9.keep Kc10 (by simp)
    have Z10 : n0 ≤ T10.heap.size := Nat.le_trans Z8 Kc10.1
    refine Go.stp (fun t_ k_ => st10 t_ k_) ?_
    show Go p.tables e below G (T10.setTop (mkF m 48 #[iv p0, iv p1, iv p2, iv p3, iv (1 : Int32), rv b6, un, un] [(.ref ob)]))
    refine Go.stp (fun t_ k_ => XS.astore X10.here hx rfl (hb hby at_48) rfl rfl (l' := #[iv p0, iv p1, iv p2, iv p3, iv (1 : Int32), rv b6, rv ob, un]) rfl k_) ?_
    show Go p.tables e below G (T10.setTop (mkF m 50 #[iv p0, iv p1, iv p2, iv p3, iv (1 : Int32), rv b6, rv ob, un] []))
    refine Go.stp (fun t_ k_ => XS.aload X10.here hx rfl (hb hby at_50) rfl rfl k_) ?_
    show Go p.tables e below G (T10.setTop (mkF m 52 #[iv p0, iv p1, iv p2, iv p3, iv (1 : Int32), rv b6, rv ob, un] [(.ref ob)]))
    refine Go.stp (fun t_ k_ => XS.ifnullNo X10.here hx rfl (hb hby at_52) rfl k_) ?_
    show Go p.tables e below G (T10.setTop (mkF m 55 #[iv p0, iv p1, iv p2, iv p3, iv (1 : Int32), rv b6, rv ob, un] []))
    refine Go.stp (fun t_ k_ => XS.aload X10.here hx rfl (hb hby at_55) rfl rfl k_) ?_
    show Go p.tables e below G (T10.setTop (mkF m 57 #[iv p0, iv p1, iv p2, iv p3, iv (1 : Int32), rv b6, rv ob, un] [(.ref ob)]))
    obtain ⟨cl12, Ar12, Sz12, -, -⟩ := id I_ob
    refine Go.stp (fun t_ k_ => X10.arraylength hx Ar12.1 (State.isArrayOf_alike hZ.alike Ar12.2.1) (g := (mkF m 57 #[iv p0, iv p1, iv p2, iv p3, iv (1 : Int32), rv b6, rv ob, un] [(.ref ob)])) rfl rfl (hb hby at_57) t_ k_) ?_
    rw [Sz12]
    show Go p.tables e below G (T10.setTop (mkF m 58 #[iv p0, iv p1, iv p2, iv p3, iv (1 : Int32), rv b6, rv ob, un] [(.int (2 : Int32))]))
    refine Go.stp (fun t_ k_ => XS.iconst X10.here hx rfl (hb hby at_58) k_) ?_
    show Go p.tables e below G (T10.setTop (mkF m 59 #[iv p0, iv p1, iv p2, iv p3, iv (1 : Int32), rv b6, rv ob, un] [(.int (2 : Int32)), (.int (2 : Int32))]))
    refine Go.stp (fun t_ k_ => XS.iload X10.here hx rfl (hb hby at_59) rfl k_) ?_
    show Go p.tables e below G (T10.setTop (mkF m 61 #[iv p0, iv p1, iv p2, iv p3, iv (1 : Int32), rv b6, rv ob, un] [(.int (1 : Int32)), (.int (2 : Int32)), (.int (2 : Int32))]))
    refine Go.stp (fun t_ k_ => XS.imul X10.here hx rfl (hb hby at_61) rfl k_) ?_
    show Go p.tables e below G (T10.setTop (mkF m 62 #[iv p0, iv p1, iv p2, iv p3, iv (1 : Int32), rv b6, rv ob, un] [(.int ((2 : Int32) * (1 : Int32))), (.int (2 : Int32))]))
    refine Go.stp (fun t_ k_ => XS.icmpYes X10.here hx rfl (pc0 := 62) (pc' := 67) rfl (hb hby at_62) rfl (teq (by decide : (2 : Int32) = ((2 : Int32) * (1 : Int32)))).1 (by decide) (by decide) k_) ?_
    show Go p.tables e below G (T10.setTop (mkF m 67 #[iv p0, iv p1, iv p2, iv p3, iv (1 : Int32), rv b6, rv ob, un] []))
    refine Go.stp (fun t_ k_ => XS.iconst X10.here hx rfl (hb hby at_67) k_) ?_
    show Go p.tables e below G (T10.setTop (mkF m 68 #[iv p0, iv p1, iv p2, iv p3, iv (1 : Int32), rv b6, rv ob, un] [(.int (1 : Int32))]))
    refine Go.stp (fun t_ k_ => XS.istore X10.here hx rfl (hb hby at_68) rfl (l' := #[iv p0, iv p1, iv p2, iv p3, iv (1 : Int32), rv b6, rv ob, iv (1 : Int32)]) rfl k_) ?_
    show Go p.tables e below G (T10.setTop (mkF m 70 #[iv p0, iv p1, iv p2, iv p3, iv (1 : Int32), rv b6, rv ob, iv (1 : Int32)] []))
    refine Go.stp (fun t_ k_ => XS.iload X10.here hx rfl (hb hby at_70) rfl k_) ?_
    show Go p.tables e below G (T10.setTop (mkF m 72 #[iv p0, iv p1, iv p2, iv p3, iv (1 : Int32), rv b6, rv ob, iv (1 : Int32)] [(.int (1 : Int32))]))
    refine Go.stp (fun t_ k_ => XS.ifNo X10.here hx rfl (hb hby at_72) rfl ((if0 _ _).trans (tlt (by decide : (0 : Int32) < (1 : Int32))).2.2.2) k_) ?_
    show Go p.tables e below G (T10.setTop (mkF m 75 #[iv p0, iv p1, iv p2, iv p3, iv (1 : Int32), rv b6, rv ob, iv (1 : Int32)] []))
    refine Go.stp (fun t_ k_ => XS.iload X10.here hx rfl (hb hby at_75) rfl k_) ?_
    show Go p.tables e below G (T10.setTop (mkF m 77 #[iv p0, iv p1, iv p2, iv p3, iv (1 : Int32), rv b6, rv ob, iv (1 : Int32)] [(.int (1 : Int32))]))
    refine Go.stp (fun t_ k_ => XS.ifNo X10.here hx rfl (hb hby at_77) rfl ((if0 _ _).trans (feq (by decide : ¬ ((1 : Int32) = (0 : Int32)))).1) k_) ?_
    show Go p.tables e below G (T10.setTop (mkF m 80 #[iv p0, iv p1, iv p2, iv p3, iv (1 : Int32), rv b6, rv ob, iv (1 : Int32)] []))
    refine Go.stp (fun t_ k_ => XS.aload X10.here hx rfl (hb hby at_80) rfl rfl k_) ?_
    show Go p.tables e below G (T10.setTop (mkF m 82 #[iv p0, iv p1, iv p2, iv p3, iv (1 : Int32), rv b6, rv ob, iv (1 : Int32)] [(.ref ob)]))
    refine Go.stp (fun t_ k_ => XS.iconst X10.here hx rfl (hb hby at_82) k_) ?_
    show Go p.tables e below G (T10.setTop (mkF m 83 #[iv p0, iv p1, iv p2, iv p3, iv (1 : Int32), rv b6, rv ob, iv (1 : Int32)] [(.int (0 : Int32)), (.ref ob)]))
    refine Go.stp (fun t_ k_ => XS.iloadN X10.here hx rfl (hb hby at_83) rfl k_) ?_
    show Go p.tables e below G (T10.setTop (mkF m 84 #[iv p0, iv p1, iv p2, iv p3, iv (1 : Int32), rv b6, rv ob, iv (1 : Int32)] [(.int p1), (.int (0 : Int32)), (.ref ob)]))
    obtain ⟨_, _, ⟨T13, L13, k13, n13⟩, -, X13, ⟨Lc13, hQ13, l13, y13, z13⟩, st13⟩ := Jvm.LawKit.callS X10 hx (y := (⟨"com/example/slot2/slot2/card/FileCommandsFidsPinLaw", "pair", "([BII)Z"⟩ : MethodName)) hown (mvT hZ (hw _ (List.mem_of_getElem? (i := 6) rfl))) (mvT hZ (hw _ (List.mem_of_getElem? (i := 7) rfl))) (mvT hZ (hw _ (List.mem_of_getElem? (i := 8) rfl))) (mvT hZ (hw _ (List.mem_of_getElem? (i := 9) rfl))) (by decide) (backOf (W := 0) (rm2_0 l Z a0 hw [] ob p1 2 (upf (upf (fun _ => (0 : Int32)) 0 (own_hi ((upf (fun _ => (0 : Int32)) 0 p1) 0))) 1 (own_lo ((upf (fun _ => (0 : Int32)) 0 p1) 0))) T10.heap n0 Z10 I_ob (by decide)) hZ (hw _ (List.mem_of_getElem? (i := 9) rfl)) (hw _ (List.mem_of_getElem? (i := 8) rfl)) (by decide) (by decide)) (g := (mkF m 84 #[iv p0, iv p1, iv p2, iv p3, iv (1 : Int32), rv b6, rv ob, iv (1 : Int32)] [(.int p1), (.int (0 : Int32)), (.ref ob)])) rfl (by rw [hml]; rfl) (argsL := [(.ref ob), (.int (0 : Int32)), (.int p1)]) (rest := []) (lenOf pd_1 rfl) rfl (by show 2 * 0 + _ ≤ _; exact Nat.le_of_eq rfl) (hb hby at_84) (fun _ _ => ⟨rfl, rfl, (by decide : 2 + 0 ≤ _), (by decide : 3 + 0 ≤ _)⟩)
    dsimp only [Pt.U, Pt.locs, Pt.cells, Pt.slots] at X13 l13 y13 z13 st13 hQ13
    subst l13 y13 z13
    obtain ⟨rfl, Nq13, e13⟩ := hQ13
    have N13 := Fr.app N10 Nq13
    have pp13 : (own_pr ((upf (upf (fun _ => (0 : Int32)) 0 (own_hi ((upf (fun _ => (0 : Int32)) 0 p1) 0))) 1 (own_lo ((upf (fun _ => (0 : Int32)) 0 p1) 0))) 0) ((upf (upf (fun _ => (0 : Int32)) 0 (own_hi ((upf (fun _ => (0 : Int32)) 0 p1) 0))) 1 (own_lo ((upf (fun _ => (0 : Int32)) 0 p1) 0))) 1) p1) = 1 := by simp [upf, own_bits]
    rw [pp13] at st13
    refine Go.stp (fun t_ k_ => st13 t_ k_) ?_
    show Go p.tables e below G (T13.setTop (mkF m 87 #[iv p0, iv p1, iv p2, iv p3, iv (1 : Int32), rv b6, rv ob, iv (1 : Int32)] [(.int (1 : Int32))]))
    refine Go.stp (fun t_ k_ => XS.ifNo X13.here hx rfl (hb hby at_87) rfl ((if0 _ _).trans (feq (by decide : ¬ ((1 : Int32) = (0 : Int32)))).1) k_) ?_
    show Go p.tables e below G (T13.setTop (mkF m 90 #[iv p0, iv p1, iv p2, iv p3, iv (1 : Int32), rv b6, rv ob, iv (1 : Int32)] []))
    refine Go.stp (fun t_ k_ => XS.iconst X13.here hx rfl (hb hby at_90) k_) ?_
    show Go p.tables e below G (T13.setTop (mkF m 91 #[iv p0, iv p1, iv p2, iv p3, iv (1 : Int32), rv b6, rv ob, iv (1 : Int32)] [(.int (1 : Int32))]))
    refine Go.stp (fun t_ k_ => XS.goto X13.here hx rfl (pc0 := 91) (pc' := 95) rfl (hb hby at_91) (by decide) (by decide) k_) ?_
    show Go p.tables e below G (T13.setTop (mkF m 95 #[iv p0, iv p1, iv p2, iv p3, iv (1 : Int32), rv b6, rv ob, iv (1 : Int32)] [(.int (1 : Int32))]))
    refine Go.stp (fun t_ k_ => XS.istore X13.here hx rfl (hb hby at_95) rfl (l' := #[iv p0, iv p1, iv p2, iv p3, iv (1 : Int32), rv b6, rv ob, iv (1 : Int32)]) rfl k_) ?_
    show Go p.tables e below G (T13.setTop (mkF m 97 #[iv p0, iv p1, iv p2, iv p3, iv (1 : Int32), rv b6, rv ob, iv (1 : Int32)] []))
    refine Go.stp (fun t_ k_ => XS.iload X13.here hx rfl (hb hby at_97) rfl k_) ?_
    show Go p.tables e below G (T13.setTop (mkF m 99 #[iv p0, iv p1, iv p2, iv p3, iv (1 : Int32), rv b6, rv ob, iv (1 : Int32)] [(.int (1 : Int32))]))
    refine Go.stp (fun t_ k_ => XS.iconst X13.here hx rfl (hb hby at_99) k_) ?_
    show Go p.tables e below G (T13.setTop (mkF m 100 #[iv p0, iv p1, iv p2, iv p3, iv (1 : Int32), rv b6, rv ob, iv (1 : Int32)] [(.int (1 : Int32)), (.int (1 : Int32))]))
    refine Go.stp (fun t_ k_ => XS.icmpYes X13.here hx rfl (pc0 := 100) (pc' := 125) rfl (hb hby at_100) rfl (flt (by decide : ¬ ((1 : Int32) < (1 : Int32)))).2.2.2 (by decide) (by decide) k_) ?_
    show Go p.tables e below G (T13.setTop (mkF m 125 #[iv p0, iv p1, iv p2, iv p3, iv (1 : Int32), rv b6, rv ob, iv (1 : Int32)] []))
    refine Go.stp (fun t_ k_ => XS.iload X13.here hx rfl (hb hby at_125) rfl k_) ?_
    show Go p.tables e below G (T13.setTop (mkF m 127 #[iv p0, iv p1, iv p2, iv p3, iv (1 : Int32), rv b6, rv ob, iv (1 : Int32)] [(.int (1 : Int32))]))
    refine Go.stp (fun t_ k_ => XS.iconst X13.here hx rfl (hb hby at_127) k_) ?_
    show Go p.tables e below G (T13.setTop (mkF m 128 #[iv p0, iv p1, iv p2, iv p3, iv (1 : Int32), rv b6, rv ob, iv (1 : Int32)] [(.int (2 : Int32)), (.int (1 : Int32))]))
    refine Go.stp (fun t_ k_ => XS.icmpYes X13.here hx rfl (pc0 := 128) (pc' := 153) rfl (hb hby at_128) rfl (flt (by decide : ¬ ((2 : Int32) < (1 : Int32)))).2.2.2 (by decide) (by decide) k_) ?_
    show Go p.tables e below G (T13.setTop (mkF m 153 #[iv p0, iv p1, iv p2, iv p3, iv (1 : Int32), rv b6, rv ob, iv (1 : Int32)] []))
    refine Go.stp (fun t_ k_ => XS.iload X13.here hx rfl (hb hby at_153) rfl k_) ?_
    show Go p.tables e below G (T13.setTop (mkF m 155 #[iv p0, iv p1, iv p2, iv p3, iv (1 : Int32), rv b6, rv ob, iv (1 : Int32)] [(.int (1 : Int32))]))
    obtain ⟨fs, hr, hrun, hended, hW, hsame⟩ := X13.leave (v := some (.int (1 : Int32))) (fun h => by rw [Bd.returns] at h; cases h)
    refine ⟨_, _, retN X13 hx (t := .boolean) Bd.returns (by simp) (hb hby at_155) hr, hrun, hended, hG _ _ _ ?_ ⟨⟨_, rfl⟩, hW, hsame.mono (by decide) (by decide)⟩⟩
    show Q0 Z p0 p1 p2 p3 h0 n0 _ T13.heap _
    rw [e13]
    exact ⟨rfl, N13⟩
  · rw [hn]
    show Go p.tables e below G (s₁.setTop (mkF m 5 #[iv p0, iv p1, iv p2, iv p3, iv (2 : Int32), un, un, un] []))
    refine Go.stp (fun t_ k_ => XS.iload X0.here hx rfl (hb hby at_5) rfl k_) ?_
    show Go p.tables e below G (s₁.setTop (mkF m 7 #[iv p0, iv p1, iv p2, iv p3, iv (2 : Int32), un, un, un] [(.int (2 : Int32))]))
    obtain ⟨T14, h14, k14, X14, e14, E14, A14, st14⟩ := newP X0 hx hZ (hw _ (List.mem_of_getElem? (i := 0) rfl)) e0 (g := (mkF m 7 #[iv p0, iv p1, iv p2, iv p3, iv (2 : Int32), un, un, un] [(.int (2 : Int32))])) rfl (hb hby at_7) rfl (by decide) (cap := 2) (by decide) (by decide) (by decide) (by decide)
    obtain ⟨b14, g14⟩ : ∃ z, z = h0.size := ⟨_, rfl⟩
    rw [← g14] at A14 st14
    have g_b14 : n0 ≤ b14 := Nat.le_trans Z0 (Nat.le_of_eq g14.symm)
    have Z14 : n0 ≤ h14.size := Nat.le_trans Z0 E14.1
    have f15 : Ia Z h14 b14 .int 2 Value.int (fun _ => (0 : Int32)) := Ia.new A14 (by decide) (by decide) rfl
    refine Go.stp (fun t_ k_ => st14 t_ k_) ?_
    show Go p.tables e below G (T14.setTop (mkF m 9 #[iv p0, iv p1, iv p2, iv p3, iv (2 : Int32), un, un, un] [(.ref b14)]))
    refine Go.stp (fun t_ k_ => XS.astore X14.here hx rfl (hb hby at_9) rfl rfl (l' := #[iv p0, iv p1, iv p2, iv p3, iv (2 : Int32), rv b14, un, un]) rfl k_) ?_
    show Go p.tables e below G (T14.setTop (mkF m 11 #[iv p0, iv p1, iv p2, iv p3, iv (2 : Int32), rv b14, un, un] []))
    refine Go.stp (fun t_ k_ => XS.iload X14.here hx rfl (hb hby at_11) rfl k_) ?_
    show Go p.tables e below G (T14.setTop (mkF m 13 #[iv p0, iv p1, iv p2, iv p3, iv (2 : Int32), rv b14, un, un] [(.int (2 : Int32))]))
    refine Go.stp (fun t_ k_ => XS.ifNo X14.here hx rfl (hb hby at_13) rfl ((if0 _ _).trans (tlt (by decide : (0 : Int32) < (2 : Int32))).2.2.2) k_) ?_
    show Go p.tables e below G (T14.setTop (mkF m 16 #[iv p0, iv p1, iv p2, iv p3, iv (2 : Int32), rv b14, un, un] []))
    refine Go.stp (fun t_ k_ => XS.aload X14.here hx rfl (hb hby at_16) rfl rfl k_) ?_
    show Go p.tables e below G (T14.setTop (mkF m 18 #[iv p0, iv p1, iv p2, iv p3, iv (2 : Int32), rv b14, un, un] [(.ref b14)]))
    refine Go.stp (fun t_ k_ => XS.iconst X14.here hx rfl (hb hby at_18) k_) ?_
    show Go p.tables e below G (T14.setTop (mkF m 19 #[iv p0, iv p1, iv p2, iv p3, iv (2 : Int32), rv b14, un, un] [(.int (0 : Int32)), (.ref b14)]))
    refine Go.stp (fun t_ k_ => XS.iloadN X14.here hx rfl (hb hby at_19) rfl k_) ?_
    show Go p.tables e below G (T14.setTop (mkF m 20 #[iv p0, iv p1, iv p2, iv p3, iv (2 : Int32), rv b14, un, un] [(.int p1), (.int (0 : Int32)), (.ref b14)]))
    have ib16 : 0 ≤ ((0 : Int32)).toInt ∧ ((0 : Int32)).toInt < ((2 : Nat) : Int) := (by decide)
    obtain ⟨cl16, Ar16, Sz16, -, -⟩ := id f15
    obtain ⟨T16, h16, X16, e16, W16, st16⟩ := stI X14 hx hZ e14 Ar16 (j := (0 : Int32)) (in_of Sz16 ib16) (g := (mkF m 20 #[iv p0, iv p1, iv p2, iv p3, iv (2 : Int32), rv b14, un, un] [(.int p1), (.int (0 : Int32)), (.ref b14)])) rfl rfl (hb hby at_20)
    have f17 : Ia Z h16 b14 .int 2 Value.int (upf (fun _ => (0 : Int32)) 0 p1) := f15.set W16 (by decide)
    have N16 := Fr.snoc X16 N0 g_b14
    have Z16 : n0 ≤ h16.size := Nat.le_trans Z14 (Keep.of_wr W16).1
    refine Go.stp (fun t_ k_ => st16 t_ k_) ?_
    show Go p.tables e below G (T16.setTop (mkF m 21 #[iv p0, iv p1, iv p2, iv p3, iv (2 : Int32), rv b14, un, un] []))
    refine Go.stp (fun t_ k_ => XS.iload X16.here hx rfl (hb hby at_21) rfl k_) ?_
    show Go p.tables e below G (T16.setTop (mkF m 23 #[iv p0, iv p1, iv p2, iv p3, iv (2 : Int32), rv b14, un, un] [(.int (2 : Int32))]))
    refine Go.stp (fun t_ k_ => XS.iconst X16.here hx rfl (hb hby at_23) k_) ?_
    show Go p.tables e below G (T16.setTop (mkF m 24 #[iv p0, iv p1, iv p2, iv p3, iv (2 : Int32), rv b14, un, un] [(.int (1 : Int32)), (.int (2 : Int32))]))
    refine Go.stp (fun t_ k_ => XS.icmpNo X16.here hx rfl (hb hby at_24) rfl (tlt (by decide : (1 : Int32) < (2 : Int32))).2.2.2 k_) ?_
    show Go p.tables e below G (T16.setTop (mkF m 27 #[iv p0, iv p1, iv p2, iv p3, iv (2 : Int32), rv b14, un, un] []))
    refine Go.stp (fun t_ k_ => XS.aload X16.here hx rfl (hb hby at_27) rfl rfl k_) ?_
    show Go p.tables e below G (T16.setTop (mkF m 29 #[iv p0, iv p1, iv p2, iv p3, iv (2 : Int32), rv b14, un, un] [(.ref b14)]))
    refine Go.stp (fun t_ k_ => XS.iconst X16.here hx rfl (hb hby at_29) k_) ?_
    show Go p.tables e below G (T16.setTop (mkF m 30 #[iv p0, iv p1, iv p2, iv p3, iv (2 : Int32), rv b14, un, un] [(.int (1 : Int32)), (.ref b14)]))
    refine Go.stp (fun t_ k_ => XS.iloadN X16.here hx rfl (hb hby at_30) rfl k_) ?_
    show Go p.tables e below G (T16.setTop (mkF m 31 #[iv p0, iv p1, iv p2, iv p3, iv (2 : Int32), rv b14, un, un] [(.int p2), (.int (1 : Int32)), (.ref b14)]))
    have ib18 : 0 ≤ ((1 : Int32)).toInt ∧ ((1 : Int32)).toInt < ((2 : Nat) : Int) := (by decide)
    obtain ⟨cl18, Ar18, Sz18, -, -⟩ := id f17
    obtain ⟨T18, h18, X18, e18, W18, st18⟩ := stI X16 hx hZ e16 Ar18 (j := (1 : Int32)) (in_of Sz18 ib18) (g := (mkF m 31 #[iv p0, iv p1, iv p2, iv p3, iv (2 : Int32), rv b14, un, un] [(.int p2), (.int (1 : Int32)), (.ref b14)])) rfl rfl (hb hby at_31)
    have f19 : Ia Z h18 b14 .int 2 Value.int (upf (upf (fun _ => (0 : Int32)) 0 p1) 1 p2) := f17.set W18 (by decide)
    have N18 := Fr.snoc X18 N16 g_b14
    have Z18 : n0 ≤ h18.size := Nat.le_trans Z16 (Keep.of_wr W18).1
    refine Go.stp (fun t_ k_ => st18 t_ k_) ?_
    show Go p.tables e below G (T18.setTop (mkF m 32 #[iv p0, iv p1, iv p2, iv p3, iv (2 : Int32), rv b14, un, un] []))
    refine Go.stp (fun t_ k_ => XS.iload X18.here hx rfl (hb hby at_32) rfl k_) ?_
    show Go p.tables e below G (T18.setTop (mkF m 34 #[iv p0, iv p1, iv p2, iv p3, iv (2 : Int32), rv b14, un, un] [(.int (2 : Int32))]))
    refine Go.stp (fun t_ k_ => XS.iconst X18.here hx rfl (hb hby at_34) k_) ?_
    show Go p.tables e below G (T18.setTop (mkF m 35 #[iv p0, iv p1, iv p2, iv p3, iv (2 : Int32), rv b14, un, un] [(.int (2 : Int32)), (.int (2 : Int32))]))
    refine Go.stp (fun t_ k_ => XS.icmpYes X18.here hx rfl (pc0 := 35) (pc' := 43) rfl (hb hby at_35) rfl (flt (by decide : ¬ ((2 : Int32) < (2 : Int32)))).2.2.2 (by decide) (by decide) k_) ?_
    show Go p.tables e below G (T18.setTop (mkF m 43 #[iv p0, iv p1, iv p2, iv p3, iv (2 : Int32), rv b14, un, un] []))
    refine Go.stp (fun t_ k_ => XS.aload X18.here hx rfl (hb hby at_43) rfl rfl k_) ?_
    show Go p.tables e below G (T18.setTop (mkF m 45 #[iv p0, iv p1, iv p2, iv p3, iv (2 : Int32), rv b14, un, un] [(.ref b14)]))
    obtain ⟨_, _, ⟨T20, L20, k20, n20⟩, -, X20, ⟨Lc20, hQ20, l20, y20, z20⟩, st20⟩ := Jvm.LawKit.callS X18 hx (y := (⟨"com/example/slot2/slot2/card/FileCommands", "fids", "([I)[B"⟩ : MethodName)) hown (mvT hZ (hw _ (List.mem_of_getElem? (i := 1) rfl))) (mvT hZ (hw _ (List.mem_of_getElem? (i := 2) rfl))) (mvT hZ (hw _ (List.mem_of_getElem? (i := 3) rfl))) (mvT hZ (hw _ (List.mem_of_getElem? (i := 4) rfl))) (by decide) (backOf (W := 0) (rm1_2 l Z a0 hw [] b14 (upf (upf (fun _ => (0 : Int32)) 0 p1) 1 p2) h18 n0 Z18 f19) hZ (hw _ (List.mem_of_getElem? (i := 4) rfl)) (hw _ (List.mem_of_getElem? (i := 3) rfl)) (by decide) (by decide)) (g := (mkF m 45 #[iv p0, iv p1, iv p2, iv p3, iv (2 : Int32), rv b14, un, un] [(.ref b14)])) rfl (by rw [hml]; rfl) (argsL := [(.ref b14)]) (rest := []) (lenOf pd_0 rfl) rfl (by show 2 * 0 + _ ≤ _; exact Nat.le_of_eq rfl) (hb hby at_45) (fun _ _ => ⟨rfl, e18, (by decide : 1 + 1 ≤ _), (by decide : 2 + 4 ≤ _)⟩)
    dsimp only [Pt.U, Pt.locs, Pt.cells, Pt.slots] at X20 l20 y20 z20 st20 hQ20
    subst l20 y20 z20
    obtain ⟨ob, rfl, Nq20, Kc20, g_ob, I_ob⟩ := hQ20
    have N20 := Fr.app N18 Nq20
    have f21 : Ia Z T20.heap b14 .int 2 Value.int (upf (upf (fun _ => (0 : Int32)) 0 p1) 1 p2) := f19.keep Kc20 (by simp)
    have Z20 : n0 ≤ T20.heap.size := Nat.le_trans Z18 Kc20.1
    refine Go.stp (fun t_ k_ => st20 t_ k_) ?_
    show Go p.tables e below G (T20.setTop (mkF m 48 #[iv p0, iv p1, iv p2, iv p3, iv (2 : Int32), rv b14, un, un] [(.ref ob)]))
    refine Go.stp (fun t_ k_ => XS.astore X20.here hx rfl (hb hby at_48) rfl rfl (l' := #[iv p0, iv p1, iv p2, iv p3, iv (2 : Int32), rv b14, rv ob, un]) rfl k_) ?_
    show Go p.tables e below G (T20.setTop (mkF m 50 #[iv p0, iv p1, iv p2, iv p3, iv (2 : Int32), rv b14, rv ob, un] []))
    refine Go.stp (fun t_ k_ => XS.aload X20.here hx rfl (hb hby at_50) rfl rfl k_) ?_
    show Go p.tables e below G (T20.setTop (mkF m 52 #[iv p0, iv p1, iv p2, iv p3, iv (2 : Int32), rv b14, rv ob, un] [(.ref ob)]))
    refine Go.stp (fun t_ k_ => XS.ifnullNo X20.here hx rfl (hb hby at_52) rfl k_) ?_
    show Go p.tables e below G (T20.setTop (mkF m 55 #[iv p0, iv p1, iv p2, iv p3, iv (2 : Int32), rv b14, rv ob, un] []))
    refine Go.stp (fun t_ k_ => XS.aload X20.here hx rfl (hb hby at_55) rfl rfl k_) ?_
    show Go p.tables e below G (T20.setTop (mkF m 57 #[iv p0, iv p1, iv p2, iv p3, iv (2 : Int32), rv b14, rv ob, un] [(.ref ob)]))
    obtain ⟨cl22, Ar22, Sz22, -, -⟩ := id I_ob
    refine Go.stp (fun t_ k_ => X20.arraylength hx Ar22.1 (State.isArrayOf_alike hZ.alike Ar22.2.1) (g := (mkF m 57 #[iv p0, iv p1, iv p2, iv p3, iv (2 : Int32), rv b14, rv ob, un] [(.ref ob)])) rfl rfl (hb hby at_57) t_ k_) ?_
    rw [Sz22]
    show Go p.tables e below G (T20.setTop (mkF m 58 #[iv p0, iv p1, iv p2, iv p3, iv (2 : Int32), rv b14, rv ob, un] [(.int (4 : Int32))]))
    refine Go.stp (fun t_ k_ => XS.iconst X20.here hx rfl (hb hby at_58) k_) ?_
    show Go p.tables e below G (T20.setTop (mkF m 59 #[iv p0, iv p1, iv p2, iv p3, iv (2 : Int32), rv b14, rv ob, un] [(.int (2 : Int32)), (.int (4 : Int32))]))
    refine Go.stp (fun t_ k_ => XS.iload X20.here hx rfl (hb hby at_59) rfl k_) ?_
    show Go p.tables e below G (T20.setTop (mkF m 61 #[iv p0, iv p1, iv p2, iv p3, iv (2 : Int32), rv b14, rv ob, un] [(.int (2 : Int32)), (.int (2 : Int32)), (.int (4 : Int32))]))
    refine Go.stp (fun t_ k_ => XS.imul X20.here hx rfl (hb hby at_61) rfl k_) ?_
    show Go p.tables e below G (T20.setTop (mkF m 62 #[iv p0, iv p1, iv p2, iv p3, iv (2 : Int32), rv b14, rv ob, un] [(.int ((2 : Int32) * (2 : Int32))), (.int (4 : Int32))]))
    refine Go.stp (fun t_ k_ => XS.icmpYes X20.here hx rfl (pc0 := 62) (pc' := 67) rfl (hb hby at_62) rfl (teq (by decide : (4 : Int32) = ((2 : Int32) * (2 : Int32)))).1 (by decide) (by decide) k_) ?_
    show Go p.tables e below G (T20.setTop (mkF m 67 #[iv p0, iv p1, iv p2, iv p3, iv (2 : Int32), rv b14, rv ob, un] []))
    refine Go.stp (fun t_ k_ => XS.iconst X20.here hx rfl (hb hby at_67) k_) ?_
    show Go p.tables e below G (T20.setTop (mkF m 68 #[iv p0, iv p1, iv p2, iv p3, iv (2 : Int32), rv b14, rv ob, un] [(.int (1 : Int32))]))
    refine Go.stp (fun t_ k_ => XS.istore X20.here hx rfl (hb hby at_68) rfl (l' := #[iv p0, iv p1, iv p2, iv p3, iv (2 : Int32), rv b14, rv ob, iv (1 : Int32)]) rfl k_) ?_
    show Go p.tables e below G (T20.setTop (mkF m 70 #[iv p0, iv p1, iv p2, iv p3, iv (2 : Int32), rv b14, rv ob, iv (1 : Int32)] []))
    refine Go.stp (fun t_ k_ => XS.iload X20.here hx rfl (hb hby at_70) rfl k_) ?_
    show Go p.tables e below G (T20.setTop (mkF m 72 #[iv p0, iv p1, iv p2, iv p3, iv (2 : Int32), rv b14, rv ob, iv (1 : Int32)] [(.int (2 : Int32))]))
    refine Go.stp (fun t_ k_ => XS.ifNo X20.here hx rfl (hb hby at_72) rfl ((if0 _ _).trans (tlt (by decide : (0 : Int32) < (2 : Int32))).2.2.2) k_) ?_
    show Go p.tables e below G (T20.setTop (mkF m 75 #[iv p0, iv p1, iv p2, iv p3, iv (2 : Int32), rv b14, rv ob, iv (1 : Int32)] []))
    refine Go.stp (fun t_ k_ => XS.iload X20.here hx rfl (hb hby at_75) rfl k_) ?_
    show Go p.tables e below G (T20.setTop (mkF m 77 #[iv p0, iv p1, iv p2, iv p3, iv (2 : Int32), rv b14, rv ob, iv (1 : Int32)] [(.int (1 : Int32))]))
    refine Go.stp (fun t_ k_ => XS.ifNo X20.here hx rfl (hb hby at_77) rfl ((if0 _ _).trans (feq (by decide : ¬ ((1 : Int32) = (0 : Int32)))).1) k_) ?_
    show Go p.tables e below G (T20.setTop (mkF m 80 #[iv p0, iv p1, iv p2, iv p3, iv (2 : Int32), rv b14, rv ob, iv (1 : Int32)] []))
    refine Go.stp (fun t_ k_ => XS.aload X20.here hx rfl (hb hby at_80) rfl rfl k_) ?_
    show Go p.tables e below G (T20.setTop (mkF m 82 #[iv p0, iv p1, iv p2, iv p3, iv (2 : Int32), rv b14, rv ob, iv (1 : Int32)] [(.ref ob)]))
    refine Go.stp (fun t_ k_ => XS.iconst X20.here hx rfl (hb hby at_82) k_) ?_
    show Go p.tables e below G (T20.setTop (mkF m 83 #[iv p0, iv p1, iv p2, iv p3, iv (2 : Int32), rv b14, rv ob, iv (1 : Int32)] [(.int (0 : Int32)), (.ref ob)]))
    refine Go.stp (fun t_ k_ => XS.iloadN X20.here hx rfl (hb hby at_83) rfl k_) ?_
    show Go p.tables e below G (T20.setTop (mkF m 84 #[iv p0, iv p1, iv p2, iv p3, iv (2 : Int32), rv b14, rv ob, iv (1 : Int32)] [(.int p1), (.int (0 : Int32)), (.ref ob)]))
    obtain ⟨_, _, ⟨T23, L23, k23, n23⟩, -, X23, ⟨Lc23, hQ23, l23, y23, z23⟩, st23⟩ := Jvm.LawKit.callS X20 hx (y := (⟨"com/example/slot2/slot2/card/FileCommandsFidsPinLaw", "pair", "([BII)Z"⟩ : MethodName)) hown (mvT hZ (hw _ (List.mem_of_getElem? (i := 6) rfl))) (mvT hZ (hw _ (List.mem_of_getElem? (i := 7) rfl))) (mvT hZ (hw _ (List.mem_of_getElem? (i := 8) rfl))) (mvT hZ (hw _ (List.mem_of_getElem? (i := 9) rfl))) (by decide) (backOf (W := 0) (rm2_0 l Z a0 hw [] ob p1 4 (upf (upf (upf (upf (fun _ => (0 : Int32)) 0 (own_hi ((upf (upf (fun _ => (0 : Int32)) 0 p1) 1 p2) 0))) 1 (own_lo ((upf (upf (fun _ => (0 : Int32)) 0 p1) 1 p2) 0))) 2 (own_hi ((upf (upf (fun _ => (0 : Int32)) 0 p1) 1 p2) 1))) 3 (own_lo ((upf (upf (fun _ => (0 : Int32)) 0 p1) 1 p2) 1))) T20.heap n0 Z20 I_ob (by decide)) hZ (hw _ (List.mem_of_getElem? (i := 9) rfl)) (hw _ (List.mem_of_getElem? (i := 8) rfl)) (by decide) (by decide)) (g := (mkF m 84 #[iv p0, iv p1, iv p2, iv p3, iv (2 : Int32), rv b14, rv ob, iv (1 : Int32)] [(.int p1), (.int (0 : Int32)), (.ref ob)])) rfl (by rw [hml]; rfl) (argsL := [(.ref ob), (.int (0 : Int32)), (.int p1)]) (rest := []) (lenOf pd_1 rfl) rfl (by show 2 * 0 + _ ≤ _; exact Nat.le_of_eq rfl) (hb hby at_84) (fun _ _ => ⟨rfl, rfl, (by decide : 2 + 0 ≤ _), (by decide : 6 + 0 ≤ _)⟩)
    dsimp only [Pt.U, Pt.locs, Pt.cells, Pt.slots] at X23 l23 y23 z23 st23 hQ23
    subst l23 y23 z23
    obtain ⟨rfl, Nq23, e23⟩ := hQ23
    have N23 := Fr.app N20 Nq23
    have pp23 : (own_pr ((upf (upf (upf (upf (fun _ => (0 : Int32)) 0 (own_hi ((upf (upf (fun _ => (0 : Int32)) 0 p1) 1 p2) 0))) 1 (own_lo ((upf (upf (fun _ => (0 : Int32)) 0 p1) 1 p2) 0))) 2 (own_hi ((upf (upf (fun _ => (0 : Int32)) 0 p1) 1 p2) 1))) 3 (own_lo ((upf (upf (fun _ => (0 : Int32)) 0 p1) 1 p2) 1))) 0) ((upf (upf (upf (upf (fun _ => (0 : Int32)) 0 (own_hi ((upf (upf (fun _ => (0 : Int32)) 0 p1) 1 p2) 0))) 1 (own_lo ((upf (upf (fun _ => (0 : Int32)) 0 p1) 1 p2) 0))) 2 (own_hi ((upf (upf (fun _ => (0 : Int32)) 0 p1) 1 p2) 1))) 3 (own_lo ((upf (upf (fun _ => (0 : Int32)) 0 p1) 1 p2) 1))) 1) p1) = 1 := by simp [upf, own_bits]
    rw [pp23] at st23
    refine Go.stp (fun t_ k_ => st23 t_ k_) ?_
    show Go p.tables e below G (T23.setTop (mkF m 87 #[iv p0, iv p1, iv p2, iv p3, iv (2 : Int32), rv b14, rv ob, iv (1 : Int32)] [(.int (1 : Int32))]))
    refine Go.stp (fun t_ k_ => XS.ifNo X23.here hx rfl (hb hby at_87) rfl ((if0 _ _).trans (feq (by decide : ¬ ((1 : Int32) = (0 : Int32)))).1) k_) ?_
    show Go p.tables e below G (T23.setTop (mkF m 90 #[iv p0, iv p1, iv p2, iv p3, iv (2 : Int32), rv b14, rv ob, iv (1 : Int32)] []))
    refine Go.stp (fun t_ k_ => XS.iconst X23.here hx rfl (hb hby at_90) k_) ?_
    show Go p.tables e below G (T23.setTop (mkF m 91 #[iv p0, iv p1, iv p2, iv p3, iv (2 : Int32), rv b14, rv ob, iv (1 : Int32)] [(.int (1 : Int32))]))
    refine Go.stp (fun t_ k_ => XS.goto X23.here hx rfl (pc0 := 91) (pc' := 95) rfl (hb hby at_91) (by decide) (by decide) k_) ?_
    show Go p.tables e below G (T23.setTop (mkF m 95 #[iv p0, iv p1, iv p2, iv p3, iv (2 : Int32), rv b14, rv ob, iv (1 : Int32)] [(.int (1 : Int32))]))
    refine Go.stp (fun t_ k_ => XS.istore X23.here hx rfl (hb hby at_95) rfl (l' := #[iv p0, iv p1, iv p2, iv p3, iv (2 : Int32), rv b14, rv ob, iv (1 : Int32)]) rfl k_) ?_
    show Go p.tables e below G (T23.setTop (mkF m 97 #[iv p0, iv p1, iv p2, iv p3, iv (2 : Int32), rv b14, rv ob, iv (1 : Int32)] []))
    refine Go.stp (fun t_ k_ => XS.iload X23.here hx rfl (hb hby at_97) rfl k_) ?_
    show Go p.tables e below G (T23.setTop (mkF m 99 #[iv p0, iv p1, iv p2, iv p3, iv (2 : Int32), rv b14, rv ob, iv (1 : Int32)] [(.int (2 : Int32))]))
    refine Go.stp (fun t_ k_ => XS.iconst X23.here hx rfl (hb hby at_99) k_) ?_
    show Go p.tables e below G (T23.setTop (mkF m 100 #[iv p0, iv p1, iv p2, iv p3, iv (2 : Int32), rv b14, rv ob, iv (1 : Int32)] [(.int (1 : Int32)), (.int (2 : Int32))]))
    refine Go.stp (fun t_ k_ => XS.icmpNo X23.here hx rfl (hb hby at_100) rfl (tlt (by decide : (1 : Int32) < (2 : Int32))).2.2.2 k_) ?_
    show Go p.tables e below G (T23.setTop (mkF m 103 #[iv p0, iv p1, iv p2, iv p3, iv (2 : Int32), rv b14, rv ob, iv (1 : Int32)] []))
    refine Go.stp (fun t_ k_ => XS.iload X23.here hx rfl (hb hby at_103) rfl k_) ?_
    show Go p.tables e below G (T23.setTop (mkF m 105 #[iv p0, iv p1, iv p2, iv p3, iv (2 : Int32), rv b14, rv ob, iv (1 : Int32)] [(.int (1 : Int32))]))
    refine Go.stp (fun t_ k_ => XS.ifNo X23.here hx rfl (hb hby at_105) rfl ((if0 _ _).trans (feq (by decide : ¬ ((1 : Int32) = (0 : Int32)))).1) k_) ?_
    show Go p.tables e below G (T23.setTop (mkF m 108 #[iv p0, iv p1, iv p2, iv p3, iv (2 : Int32), rv b14, rv ob, iv (1 : Int32)] []))
    refine Go.stp (fun t_ k_ => XS.aload X23.here hx rfl (hb hby at_108) rfl rfl k_) ?_
    show Go p.tables e below G (T23.setTop (mkF m 110 #[iv p0, iv p1, iv p2, iv p3, iv (2 : Int32), rv b14, rv ob, iv (1 : Int32)] [(.ref ob)]))
    refine Go.stp (fun t_ k_ => XS.iconst X23.here hx rfl (hb hby at_110) k_) ?_
    show Go p.tables e below G (T23.setTop (mkF m 111 #[iv p0, iv p1, iv p2, iv p3, iv (2 : Int32), rv b14, rv ob, iv (1 : Int32)] [(.int (1 : Int32)), (.ref ob)]))
    refine Go.stp (fun t_ k_ => XS.iloadN X23.here hx rfl (hb hby at_111) rfl k_) ?_
    show Go p.tables e below G (T23.setTop (mkF m 112 #[iv p0, iv p1, iv p2, iv p3, iv (2 : Int32), rv b14, rv ob, iv (1 : Int32)] [(.int p2), (.int (1 : Int32)), (.ref ob)]))
    obtain ⟨_, _, ⟨T24, L24, k24, n24⟩, -, X24, ⟨Lc24, hQ24, l24, y24, z24⟩, st24⟩ := Jvm.LawKit.callS X23 hx (y := (⟨"com/example/slot2/slot2/card/FileCommandsFidsPinLaw", "pair", "([BII)Z"⟩ : MethodName)) hown (mvT hZ (hw _ (List.mem_of_getElem? (i := 6) rfl))) (mvT hZ (hw _ (List.mem_of_getElem? (i := 7) rfl))) (mvT hZ (hw _ (List.mem_of_getElem? (i := 8) rfl))) (mvT hZ (hw _ (List.mem_of_getElem? (i := 9) rfl))) (by decide) (backOf (W := 0) (rm2_1 l Z a0 hw [] ob p2 4 (upf (upf (upf (upf (fun _ => (0 : Int32)) 0 (own_hi ((upf (upf (fun _ => (0 : Int32)) 0 p1) 1 p2) 0))) 1 (own_lo ((upf (upf (fun _ => (0 : Int32)) 0 p1) 1 p2) 0))) 2 (own_hi ((upf (upf (fun _ => (0 : Int32)) 0 p1) 1 p2) 1))) 3 (own_lo ((upf (upf (fun _ => (0 : Int32)) 0 p1) 1 p2) 1))) T20.heap n0 Z20 I_ob (by decide)) hZ (hw _ (List.mem_of_getElem? (i := 9) rfl)) (hw _ (List.mem_of_getElem? (i := 8) rfl)) (by decide) (by decide)) (g := (mkF m 112 #[iv p0, iv p1, iv p2, iv p3, iv (2 : Int32), rv b14, rv ob, iv (1 : Int32)] [(.int p2), (.int (1 : Int32)), (.ref ob)])) rfl (by rw [hml]; rfl) (argsL := [(.ref ob), (.int (1 : Int32)), (.int p2)]) (rest := []) (lenOf pd_1 rfl) rfl (by show 2 * 0 + _ ≤ _; exact Nat.le_of_eq rfl) (hb hby at_112) (fun _ _ => ⟨rfl, e23, (by decide : 2 + 0 ≤ _), (by decide : 6 + 0 ≤ _)⟩)
    dsimp only [Pt.U, Pt.locs, Pt.cells, Pt.slots] at X24 l24 y24 z24 st24 hQ24
    subst l24 y24 z24
    obtain ⟨rfl, Nq24, e24⟩ := hQ24
    have N24 := Fr.app N23 Nq24
    have pp24 : (own_pr ((upf (upf (upf (upf (fun _ => (0 : Int32)) 0 (own_hi ((upf (upf (fun _ => (0 : Int32)) 0 p1) 1 p2) 0))) 1 (own_lo ((upf (upf (fun _ => (0 : Int32)) 0 p1) 1 p2) 0))) 2 (own_hi ((upf (upf (fun _ => (0 : Int32)) 0 p1) 1 p2) 1))) 3 (own_lo ((upf (upf (fun _ => (0 : Int32)) 0 p1) 1 p2) 1))) 2) ((upf (upf (upf (upf (fun _ => (0 : Int32)) 0 (own_hi ((upf (upf (fun _ => (0 : Int32)) 0 p1) 1 p2) 0))) 1 (own_lo ((upf (upf (fun _ => (0 : Int32)) 0 p1) 1 p2) 0))) 2 (own_hi ((upf (upf (fun _ => (0 : Int32)) 0 p1) 1 p2) 1))) 3 (own_lo ((upf (upf (fun _ => (0 : Int32)) 0 p1) 1 p2) 1))) 3) p2) = 1 := by simp [upf, own_bits]
    rw [pp24] at st24
    refine Go.stp (fun t_ k_ => st24 t_ k_) ?_
    show Go p.tables e below G (T24.setTop (mkF m 115 #[iv p0, iv p1, iv p2, iv p3, iv (2 : Int32), rv b14, rv ob, iv (1 : Int32)] [(.int (1 : Int32))]))
    refine Go.stp (fun t_ k_ => XS.ifNo X24.here hx rfl (hb hby at_115) rfl ((if0 _ _).trans (feq (by decide : ¬ ((1 : Int32) = (0 : Int32)))).1) k_) ?_
    show Go p.tables e below G (T24.setTop (mkF m 118 #[iv p0, iv p1, iv p2, iv p3, iv (2 : Int32), rv b14, rv ob, iv (1 : Int32)] []))
    refine Go.stp (fun t_ k_ => XS.iconst X24.here hx rfl (hb hby at_118) k_) ?_
    show Go p.tables e below G (T24.setTop (mkF m 119 #[iv p0, iv p1, iv p2, iv p3, iv (2 : Int32), rv b14, rv ob, iv (1 : Int32)] [(.int (1 : Int32))]))
    refine Go.stp (fun t_ k_ => XS.goto X24.here hx rfl (pc0 := 119) (pc' := 123) rfl (hb hby at_119) (by decide) (by decide) k_) ?_
    show Go p.tables e below G (T24.setTop (mkF m 123 #[iv p0, iv p1, iv p2, iv p3, iv (2 : Int32), rv b14, rv ob, iv (1 : Int32)] [(.int (1 : Int32))]))
    refine Go.stp (fun t_ k_ => XS.istore X24.here hx rfl (hb hby at_123) rfl (l' := #[iv p0, iv p1, iv p2, iv p3, iv (2 : Int32), rv b14, rv ob, iv (1 : Int32)]) rfl k_) ?_
    show Go p.tables e below G (T24.setTop (mkF m 125 #[iv p0, iv p1, iv p2, iv p3, iv (2 : Int32), rv b14, rv ob, iv (1 : Int32)] []))
    refine Go.stp (fun t_ k_ => XS.iload X24.here hx rfl (hb hby at_125) rfl k_) ?_
    show Go p.tables e below G (T24.setTop (mkF m 127 #[iv p0, iv p1, iv p2, iv p3, iv (2 : Int32), rv b14, rv ob, iv (1 : Int32)] [(.int (2 : Int32))]))
    refine Go.stp (fun t_ k_ => XS.iconst X24.here hx rfl (hb hby at_127) k_) ?_
    show Go p.tables e below G (T24.setTop (mkF m 128 #[iv p0, iv p1, iv p2, iv p3, iv (2 : Int32), rv b14, rv ob, iv (1 : Int32)] [(.int (2 : Int32)), (.int (2 : Int32))]))
    refine Go.stp (fun t_ k_ => XS.icmpYes X24.here hx rfl (pc0 := 128) (pc' := 153) rfl (hb hby at_128) rfl (flt (by decide : ¬ ((2 : Int32) < (2 : Int32)))).2.2.2 (by decide) (by decide) k_) ?_
    show Go p.tables e below G (T24.setTop (mkF m 153 #[iv p0, iv p1, iv p2, iv p3, iv (2 : Int32), rv b14, rv ob, iv (1 : Int32)] []))
    refine Go.stp (fun t_ k_ => XS.iload X24.here hx rfl (hb hby at_153) rfl k_) ?_
    show Go p.tables e below G (T24.setTop (mkF m 155 #[iv p0, iv p1, iv p2, iv p3, iv (2 : Int32), rv b14, rv ob, iv (1 : Int32)] [(.int (1 : Int32))]))
    obtain ⟨fs, hr, hrun, hended, hW, hsame⟩ := X24.leave (v := some (.int (1 : Int32))) (fun h => by rw [Bd.returns] at h; cases h)
    refine ⟨_, _, retN X24 hx (t := .boolean) Bd.returns (by simp) (hb hby at_155) hr, hrun, hended, hG _ _ _ ?_ ⟨⟨_, rfl⟩, hW, hsame.mono (by decide) (by decide)⟩⟩
    show Q0 Z p0 p1 p2 p3 h0 n0 _ T24.heap _
    rw [e24]
    exact ⟨rfl, N24⟩
  · rw [hn]
    show Go p.tables e below G (s₁.setTop (mkF m 5 #[iv p0, iv p1, iv p2, iv p3, iv (3 : Int32), un, un, un] []))
    refine Go.stp (fun t_ k_ => XS.iload X0.here hx rfl (hb hby at_5) rfl k_) ?_
    show Go p.tables e below G (s₁.setTop (mkF m 7 #[iv p0, iv p1, iv p2, iv p3, iv (3 : Int32), un, un, un] [(.int (3 : Int32))]))
    obtain ⟨T25, h25, k25, X25, e25, E25, A25, st25⟩ := newP X0 hx hZ (hw _ (List.mem_of_getElem? (i := 0) rfl)) e0 (g := (mkF m 7 #[iv p0, iv p1, iv p2, iv p3, iv (3 : Int32), un, un, un] [(.int (3 : Int32))])) rfl (hb hby at_7) rfl (by decide) (cap := 3) (by decide) (by decide) (by decide) (by decide)
    obtain ⟨b25, g25⟩ : ∃ z, z = h0.size := ⟨_, rfl⟩
    rw [← g25] at A25 st25
    have g_b25 : n0 ≤ b25 := Nat.le_trans Z0 (Nat.le_of_eq g25.symm)
    have Z25 : n0 ≤ h25.size := Nat.le_trans Z0 E25.1
    have f26 : Ia Z h25 b25 .int 3 Value.int (fun _ => (0 : Int32)) := Ia.new A25 (by decide) (by decide) rfl
    refine Go.stp (fun t_ k_ => st25 t_ k_) ?_
    show Go p.tables e below G (T25.setTop (mkF m 9 #[iv p0, iv p1, iv p2, iv p3, iv (3 : Int32), un, un, un] [(.ref b25)]))
    refine Go.stp (fun t_ k_ => XS.astore X25.here hx rfl (hb hby at_9) rfl rfl (l' := #[iv p0, iv p1, iv p2, iv p3, iv (3 : Int32), rv b25, un, un]) rfl k_) ?_
    show Go p.tables e below G (T25.setTop (mkF m 11 #[iv p0, iv p1, iv p2, iv p3, iv (3 : Int32), rv b25, un, un] []))
    refine Go.stp (fun t_ k_ => XS.iload X25.here hx rfl (hb hby at_11) rfl k_) ?_
    show Go p.tables e below G (T25.setTop (mkF m 13 #[iv p0, iv p1, iv p2, iv p3, iv (3 : Int32), rv b25, un, un] [(.int (3 : Int32))]))
    refine Go.stp (fun t_ k_ => XS.ifNo X25.here hx rfl (hb hby at_13) rfl ((if0 _ _).trans (tlt (by decide : (0 : Int32) < (3 : Int32))).2.2.2) k_) ?_
    show Go p.tables e below G (T25.setTop (mkF m 16 #[iv p0, iv p1, iv p2, iv p3, iv (3 : Int32), rv b25, un, un] []))
    refine Go.stp (fun t_ k_ => XS.aload X25.here hx rfl (hb hby at_16) rfl rfl k_) ?_
    show Go p.tables e below G (T25.setTop (mkF m 18 #[iv p0, iv p1, iv p2, iv p3, iv (3 : Int32), rv b25, un, un] [(.ref b25)]))
    refine Go.stp (fun t_ k_ => XS.iconst X25.here hx rfl (hb hby at_18) k_) ?_
    show Go p.tables e below G (T25.setTop (mkF m 19 #[iv p0, iv p1, iv p2, iv p3, iv (3 : Int32), rv b25, un, un] [(.int (0 : Int32)), (.ref b25)]))
    refine Go.stp (fun t_ k_ => XS.iloadN X25.here hx rfl (hb hby at_19) rfl k_) ?_
    show Go p.tables e below G (T25.setTop (mkF m 20 #[iv p0, iv p1, iv p2, iv p3, iv (3 : Int32), rv b25, un, un] [(.int p1), (.int (0 : Int32)), (.ref b25)]))
    have ib27 : 0 ≤ ((0 : Int32)).toInt ∧ ((0 : Int32)).toInt < ((3 : Nat) : Int) := (by decide)
    obtain ⟨cl27, Ar27, Sz27, -, -⟩ := id f26
    obtain ⟨T27, h27, X27, e27, W27, st27⟩ := stI X25 hx hZ e25 Ar27 (j := (0 : Int32)) (in_of Sz27 ib27) (g := (mkF m 20 #[iv p0, iv p1, iv p2, iv p3, iv (3 : Int32), rv b25, un, un] [(.int p1), (.int (0 : Int32)), (.ref b25)])) rfl rfl (hb hby at_20)
    have f28 : Ia Z h27 b25 .int 3 Value.int (upf (fun _ => (0 : Int32)) 0 p1) := f26.set W27 (by decide)
    have N27 := Fr.snoc X27 N0 g_b25
    have Z27 : n0 ≤ h27.size := Nat.le_trans Z25 (Keep.of_wr W27).1
    refine Go.stp (fun t_ k_ => st27 t_ k_) ?_
    show Go p.tables e below G (T27.setTop (mkF m 21 #[iv p0, iv p1, iv p2, iv p3, iv (3 : Int32), rv b25, un, un] []))
    refine Go.stp (fun t_ k_ => XS.iload X27.here hx rfl (hb hby at_21) rfl k_) ?_
    show Go p.tables e below G (T27.setTop (mkF m 23 #[iv p0, iv p1, iv p2, iv p3, iv (3 : Int32), rv b25, un, un] [(.int (3 : Int32))]))
    refine Go.stp (fun t_ k_ => XS.iconst X27.here hx rfl (hb hby at_23) k_) ?_
    show Go p.tables e below G (T27.setTop (mkF m 24 #[iv p0, iv p1, iv p2, iv p3, iv (3 : Int32), rv b25, un, un] [(.int (1 : Int32)), (.int (3 : Int32))]))
    refine Go.stp (fun t_ k_ => XS.icmpNo X27.here hx rfl (hb hby at_24) rfl (tlt (by decide : (1 : Int32) < (3 : Int32))).2.2.2 k_) ?_
    show Go p.tables e below G (T27.setTop (mkF m 27 #[iv p0, iv p1, iv p2, iv p3, iv (3 : Int32), rv b25, un, un] []))
    refine Go.stp (fun t_ k_ => XS.aload X27.here hx rfl (hb hby at_27) rfl rfl k_) ?_
    show Go p.tables e below G (T27.setTop (mkF m 29 #[iv p0, iv p1, iv p2, iv p3, iv (3 : Int32), rv b25, un, un] [(.ref b25)]))
    refine Go.stp (fun t_ k_ => XS.iconst X27.here hx rfl (hb hby at_29) k_) ?_
    show Go p.tables e below G (T27.setTop (mkF m 30 #[iv p0, iv p1, iv p2, iv p3, iv (3 : Int32), rv b25, un, un] [(.int (1 : Int32)), (.ref b25)]))
    refine Go.stp (fun t_ k_ => XS.iloadN X27.here hx rfl (hb hby at_30) rfl k_) ?_
    show Go p.tables e below G (T27.setTop (mkF m 31 #[iv p0, iv p1, iv p2, iv p3, iv (3 : Int32), rv b25, un, un] [(.int p2), (.int (1 : Int32)), (.ref b25)]))
    have ib29 : 0 ≤ ((1 : Int32)).toInt ∧ ((1 : Int32)).toInt < ((3 : Nat) : Int) := (by decide)
    obtain ⟨cl29, Ar29, Sz29, -, -⟩ := id f28
    obtain ⟨T29, h29, X29, e29, W29, st29⟩ := stI X27 hx hZ e27 Ar29 (j := (1 : Int32)) (in_of Sz29 ib29) (g := (mkF m 31 #[iv p0, iv p1, iv p2, iv p3, iv (3 : Int32), rv b25, un, un] [(.int p2), (.int (1 : Int32)), (.ref b25)])) rfl rfl (hb hby at_31)
    have f30 : Ia Z h29 b25 .int 3 Value.int (upf (upf (fun _ => (0 : Int32)) 0 p1) 1 p2) := f28.set W29 (by decide)
    have N29 := Fr.snoc X29 N27 g_b25
    have Z29 : n0 ≤ h29.size := Nat.le_trans Z27 (Keep.of_wr W29).1
    refine Go.stp (fun t_ k_ => st29 t_ k_) ?_
    show Go p.tables e below G (T29.setTop (mkF m 32 #[iv p0, iv p1, iv p2, iv p3, iv (3 : Int32), rv b25, un, un] []))
    refine Go.stp (fun t_ k_ => XS.iload X29.here hx rfl (hb hby at_32) rfl k_) ?_
    show Go p.tables e below G (T29.setTop (mkF m 34 #[iv p0, iv p1, iv p2, iv p3, iv (3 : Int32), rv b25, un, un] [(.int (3 : Int32))]))
    refine Go.stp (fun t_ k_ => XS.iconst X29.here hx rfl (hb hby at_34) k_) ?_
    show Go p.tables e below G (T29.setTop (mkF m 35 #[iv p0, iv p1, iv p2, iv p3, iv (3 : Int32), rv b25, un, un] [(.int (2 : Int32)), (.int (3 : Int32))]))
    refine Go.stp (fun t_ k_ => XS.icmpNo X29.here hx rfl (hb hby at_35) rfl (tlt (by decide : (2 : Int32) < (3 : Int32))).2.2.2 k_) ?_
    show Go p.tables e below G (T29.setTop (mkF m 38 #[iv p0, iv p1, iv p2, iv p3, iv (3 : Int32), rv b25, un, un] []))
    refine Go.stp (fun t_ k_ => XS.aload X29.here hx rfl (hb hby at_38) rfl rfl k_) ?_
    show Go p.tables e below G (T29.setTop (mkF m 40 #[iv p0, iv p1, iv p2, iv p3, iv (3 : Int32), rv b25, un, un] [(.ref b25)]))
    refine Go.stp (fun t_ k_ => XS.iconst X29.here hx rfl (hb hby at_40) k_) ?_
    show Go p.tables e below G (T29.setTop (mkF m 41 #[iv p0, iv p1, iv p2, iv p3, iv (3 : Int32), rv b25, un, un] [(.int (2 : Int32)), (.ref b25)]))
    refine Go.stp (fun t_ k_ => XS.iloadN X29.here hx rfl (hb hby at_41) rfl k_) ?_
    show Go p.tables e below G (T29.setTop (mkF m 42 #[iv p0, iv p1, iv p2, iv p3, iv (3 : Int32), rv b25, un, un] [(.int p3), (.int (2 : Int32)), (.ref b25)]))
    have ib31 : 0 ≤ ((2 : Int32)).toInt ∧ ((2 : Int32)).toInt < ((3 : Nat) : Int) := (by decide)
    obtain ⟨cl31, Ar31, Sz31, -, -⟩ := id f30
    obtain ⟨T31, h31, X31, e31, W31, st31⟩ := stI X29 hx hZ e29 Ar31 (j := (2 : Int32)) (in_of Sz31 ib31) (g := (mkF m 42 #[iv p0, iv p1, iv p2, iv p3, iv (3 : Int32), rv b25, un, un] [(.int p3), (.int (2 : Int32)), (.ref b25)])) rfl rfl (hb hby at_42)
    have f32 : Ia Z h31 b25 .int 3 Value.int (upf (upf (upf (fun _ => (0 : Int32)) 0 p1) 1 p2) 2 p3) := f30.set W31 (by decide)
    have N31 := Fr.snoc X31 N29 g_b25
    have Z31 : n0 ≤ h31.size := Nat.le_trans Z29 (Keep.of_wr W31).1
    refine Go.stp (fun t_ k_ => st31 t_ k_) ?_
    show Go p.tables e below G (T31.setTop (mkF m 43 #[iv p0, iv p1, iv p2, iv p3, iv (3 : Int32), rv b25, un, un] []))
    refine Go.stp (fun t_ k_ => XS.aload X31.here hx rfl (hb hby at_43) rfl rfl k_) ?_
    show Go p.tables e below G (T31.setTop (mkF m 45 #[iv p0, iv p1, iv p2, iv p3, iv (3 : Int32), rv b25, un, un] [(.ref b25)]))
    obtain ⟨_, _, ⟨T33, L33, k33, n33⟩, -, X33, ⟨Lc33, hQ33, l33, y33, z33⟩, st33⟩ := Jvm.LawKit.callS X31 hx (y := (⟨"com/example/slot2/slot2/card/FileCommands", "fids", "([I)[B"⟩ : MethodName)) hown (mvT hZ (hw _ (List.mem_of_getElem? (i := 1) rfl))) (mvT hZ (hw _ (List.mem_of_getElem? (i := 2) rfl))) (mvT hZ (hw _ (List.mem_of_getElem? (i := 3) rfl))) (mvT hZ (hw _ (List.mem_of_getElem? (i := 4) rfl))) (by decide) (backOf (W := 0) (rm1_3 l Z a0 hw [] b25 (upf (upf (upf (fun _ => (0 : Int32)) 0 p1) 1 p2) 2 p3) h31 n0 Z31 f32) hZ (hw _ (List.mem_of_getElem? (i := 4) rfl)) (hw _ (List.mem_of_getElem? (i := 3) rfl)) (by decide) (by decide)) (g := (mkF m 45 #[iv p0, iv p1, iv p2, iv p3, iv (3 : Int32), rv b25, un, un] [(.ref b25)])) rfl (by rw [hml]; rfl) (argsL := [(.ref b25)]) (rest := []) (lenOf pd_0 rfl) rfl (by show 2 * 0 + _ ≤ _; exact Nat.le_of_eq rfl) (hb hby at_45) (fun _ _ => ⟨rfl, e31, (by decide : 1 + 1 ≤ _), (by decide : 3 + 6 ≤ _)⟩)
    dsimp only [Pt.U, Pt.locs, Pt.cells, Pt.slots] at X33 l33 y33 z33 st33 hQ33
    subst l33 y33 z33
    obtain ⟨ob, rfl, Nq33, Kc33, g_ob, I_ob⟩ := hQ33
    have N33 := Fr.app N31 Nq33
    have f34 : Ia Z T33.heap b25 .int 3 Value.int (upf (upf (upf (fun _ => (0 : Int32)) 0 p1) 1 p2) 2 p3) := f32.keep Kc33 (by simp)
    have Z33 : n0 ≤ T33.heap.size := Nat.le_trans Z31 Kc33.1
    refine Go.stp (fun t_ k_ => st33 t_ k_) ?_
    show Go p.tables e below G (T33.setTop (mkF m 48 #[iv p0, iv p1, iv p2, iv p3, iv (3 : Int32), rv b25, un, un] [(.ref ob)]))
    refine Go.stp (fun t_ k_ => XS.astore X33.here hx rfl (hb hby at_48) rfl rfl (l' := #[iv p0, iv p1, iv p2, iv p3, iv (3 : Int32), rv b25, rv ob, un]) rfl k_) ?_
    show Go p.tables e below G (T33.setTop (mkF m 50 #[iv p0, iv p1, iv p2, iv p3, iv (3 : Int32), rv b25, rv ob, un] []))
    refine Go.stp (fun t_ k_ => XS.aload X33.here hx rfl (hb hby at_50) rfl rfl k_) ?_
    show Go p.tables e below G (T33.setTop (mkF m 52 #[iv p0, iv p1, iv p2, iv p3, iv (3 : Int32), rv b25, rv ob, un] [(.ref ob)]))
    refine Go.stp (fun t_ k_ => XS.ifnullNo X33.here hx rfl (hb hby at_52) rfl k_) ?_
    show Go p.tables e below G (T33.setTop (mkF m 55 #[iv p0, iv p1, iv p2, iv p3, iv (3 : Int32), rv b25, rv ob, un] []))
    refine Go.stp (fun t_ k_ => XS.aload X33.here hx rfl (hb hby at_55) rfl rfl k_) ?_
    show Go p.tables e below G (T33.setTop (mkF m 57 #[iv p0, iv p1, iv p2, iv p3, iv (3 : Int32), rv b25, rv ob, un] [(.ref ob)]))
    obtain ⟨cl35, Ar35, Sz35, -, -⟩ := id I_ob
    refine Go.stp (fun t_ k_ => X33.arraylength hx Ar35.1 (State.isArrayOf_alike hZ.alike Ar35.2.1) (g := (mkF m 57 #[iv p0, iv p1, iv p2, iv p3, iv (3 : Int32), rv b25, rv ob, un] [(.ref ob)])) rfl rfl (hb hby at_57) t_ k_) ?_
    rw [Sz35]
    show Go p.tables e below G (T33.setTop (mkF m 58 #[iv p0, iv p1, iv p2, iv p3, iv (3 : Int32), rv b25, rv ob, un] [(.int (6 : Int32))]))
    refine Go.stp (fun t_ k_ => XS.iconst X33.here hx rfl (hb hby at_58) k_) ?_
    show Go p.tables e below G (T33.setTop (mkF m 59 #[iv p0, iv p1, iv p2, iv p3, iv (3 : Int32), rv b25, rv ob, un] [(.int (2 : Int32)), (.int (6 : Int32))]))
    refine Go.stp (fun t_ k_ => XS.iload X33.here hx rfl (hb hby at_59) rfl k_) ?_
    show Go p.tables e below G (T33.setTop (mkF m 61 #[iv p0, iv p1, iv p2, iv p3, iv (3 : Int32), rv b25, rv ob, un] [(.int (3 : Int32)), (.int (2 : Int32)), (.int (6 : Int32))]))
    refine Go.stp (fun t_ k_ => XS.imul X33.here hx rfl (hb hby at_61) rfl k_) ?_
    show Go p.tables e below G (T33.setTop (mkF m 62 #[iv p0, iv p1, iv p2, iv p3, iv (3 : Int32), rv b25, rv ob, un] [(.int ((2 : Int32) * (3 : Int32))), (.int (6 : Int32))]))
    refine Go.stp (fun t_ k_ => XS.icmpYes X33.here hx rfl (pc0 := 62) (pc' := 67) rfl (hb hby at_62) rfl (teq (by decide : (6 : Int32) = ((2 : Int32) * (3 : Int32)))).1 (by decide) (by decide) k_) ?_
    show Go p.tables e below G (T33.setTop (mkF m 67 #[iv p0, iv p1, iv p2, iv p3, iv (3 : Int32), rv b25, rv ob, un] []))
    refine Go.stp (fun t_ k_ => XS.iconst X33.here hx rfl (hb hby at_67) k_) ?_
    show Go p.tables e below G (T33.setTop (mkF m 68 #[iv p0, iv p1, iv p2, iv p3, iv (3 : Int32), rv b25, rv ob, un] [(.int (1 : Int32))]))
    refine Go.stp (fun t_ k_ => XS.istore X33.here hx rfl (hb hby at_68) rfl (l' := #[iv p0, iv p1, iv p2, iv p3, iv (3 : Int32), rv b25, rv ob, iv (1 : Int32)]) rfl k_) ?_
    show Go p.tables e below G (T33.setTop (mkF m 70 #[iv p0, iv p1, iv p2, iv p3, iv (3 : Int32), rv b25, rv ob, iv (1 : Int32)] []))
    refine Go.stp (fun t_ k_ => XS.iload X33.here hx rfl (hb hby at_70) rfl k_) ?_
    show Go p.tables e below G (T33.setTop (mkF m 72 #[iv p0, iv p1, iv p2, iv p3, iv (3 : Int32), rv b25, rv ob, iv (1 : Int32)] [(.int (3 : Int32))]))
    refine Go.stp (fun t_ k_ => XS.ifNo X33.here hx rfl (hb hby at_72) rfl ((if0 _ _).trans (tlt (by decide : (0 : Int32) < (3 : Int32))).2.2.2) k_) ?_
    show Go p.tables e below G (T33.setTop (mkF m 75 #[iv p0, iv p1, iv p2, iv p3, iv (3 : Int32), rv b25, rv ob, iv (1 : Int32)] []))
    refine Go.stp (fun t_ k_ => XS.iload X33.here hx rfl (hb hby at_75) rfl k_) ?_
    show Go p.tables e below G (T33.setTop (mkF m 77 #[iv p0, iv p1, iv p2, iv p3, iv (3 : Int32), rv b25, rv ob, iv (1 : Int32)] [(.int (1 : Int32))]))
    refine Go.stp (fun t_ k_ => XS.ifNo X33.here hx rfl (hb hby at_77) rfl ((if0 _ _).trans (feq (by decide : ¬ ((1 : Int32) = (0 : Int32)))).1) k_) ?_
    show Go p.tables e below G (T33.setTop (mkF m 80 #[iv p0, iv p1, iv p2, iv p3, iv (3 : Int32), rv b25, rv ob, iv (1 : Int32)] []))
    refine Go.stp (fun t_ k_ => XS.aload X33.here hx rfl (hb hby at_80) rfl rfl k_) ?_
    show Go p.tables e below G (T33.setTop (mkF m 82 #[iv p0, iv p1, iv p2, iv p3, iv (3 : Int32), rv b25, rv ob, iv (1 : Int32)] [(.ref ob)]))
    refine Go.stp (fun t_ k_ => XS.iconst X33.here hx rfl (hb hby at_82) k_) ?_
    show Go p.tables e below G (T33.setTop (mkF m 83 #[iv p0, iv p1, iv p2, iv p3, iv (3 : Int32), rv b25, rv ob, iv (1 : Int32)] [(.int (0 : Int32)), (.ref ob)]))
    refine Go.stp (fun t_ k_ => XS.iloadN X33.here hx rfl (hb hby at_83) rfl k_) ?_
    show Go p.tables e below G (T33.setTop (mkF m 84 #[iv p0, iv p1, iv p2, iv p3, iv (3 : Int32), rv b25, rv ob, iv (1 : Int32)] [(.int p1), (.int (0 : Int32)), (.ref ob)]))
    obtain ⟨_, _, ⟨T36, L36, k36, n36⟩, -, X36, ⟨Lc36, hQ36, l36, y36, z36⟩, st36⟩ := Jvm.LawKit.callS X33 hx (y := (⟨"com/example/slot2/slot2/card/FileCommandsFidsPinLaw", "pair", "([BII)Z"⟩ : MethodName)) hown (mvT hZ (hw _ (List.mem_of_getElem? (i := 6) rfl))) (mvT hZ (hw _ (List.mem_of_getElem? (i := 7) rfl))) (mvT hZ (hw _ (List.mem_of_getElem? (i := 8) rfl))) (mvT hZ (hw _ (List.mem_of_getElem? (i := 9) rfl))) (by decide) (backOf (W := 0) (rm2_0 l Z a0 hw [] ob p1 6 (upf (upf (upf (upf (upf (upf (fun _ => (0 : Int32)) 0 (own_hi ((upf (upf (upf (fun _ => (0 : Int32)) 0 p1) 1 p2) 2 p3) 0))) 1 (own_lo ((upf (upf (upf (fun _ => (0 : Int32)) 0 p1) 1 p2) 2 p3) 0))) 2 (own_hi ((upf (upf (upf (fun _ => (0 : Int32)) 0 p1) 1 p2) 2 p3) 1))) 3 (own_lo ((upf (upf (upf (fun _ => (0 : Int32)) 0 p1) 1 p2) 2 p3) 1))) 4 (own_hi ((upf (upf (upf (fun _ => (0 : Int32)) 0 p1) 1 p2) 2 p3) 2))) 5 (own_lo ((upf (upf (upf (fun _ => (0 : Int32)) 0 p1) 1 p2) 2 p3) 2))) T33.heap n0 Z33 I_ob (by decide)) hZ (hw _ (List.mem_of_getElem? (i := 9) rfl)) (hw _ (List.mem_of_getElem? (i := 8) rfl)) (by decide) (by decide)) (g := (mkF m 84 #[iv p0, iv p1, iv p2, iv p3, iv (3 : Int32), rv b25, rv ob, iv (1 : Int32)] [(.int p1), (.int (0 : Int32)), (.ref ob)])) rfl (by rw [hml]; rfl) (argsL := [(.ref ob), (.int (0 : Int32)), (.int p1)]) (rest := []) (lenOf pd_1 rfl) rfl (by show 2 * 0 + _ ≤ _; exact Nat.le_of_eq rfl) (hb hby at_84) (fun _ _ => ⟨rfl, rfl, (by decide : 2 + 0 ≤ _), (by decide : 9 + 0 ≤ _)⟩)
    dsimp only [Pt.U, Pt.locs, Pt.cells, Pt.slots] at X36 l36 y36 z36 st36 hQ36
    subst l36 y36 z36
    obtain ⟨rfl, Nq36, e36⟩ := hQ36
    have N36 := Fr.app N33 Nq36
    have pp36 : (own_pr ((upf (upf (upf (upf (upf (upf (fun _ => (0 : Int32)) 0 (own_hi ((upf (upf (upf (fun _ => (0 : Int32)) 0 p1) 1 p2) 2 p3) 0))) 1 (own_lo ((upf (upf (upf (fun _ => (0 : Int32)) 0 p1) 1 p2) 2 p3) 0))) 2 (own_hi ((upf (upf (upf (fun _ => (0 : Int32)) 0 p1) 1 p2) 2 p3) 1))) 3 (own_lo ((upf (upf (upf (fun _ => (0 : Int32)) 0 p1) 1 p2) 2 p3) 1))) 4 (own_hi ((upf (upf (upf (fun _ => (0 : Int32)) 0 p1) 1 p2) 2 p3) 2))) 5 (own_lo ((upf (upf (upf (fun _ => (0 : Int32)) 0 p1) 1 p2) 2 p3) 2))) 0) ((upf (upf (upf (upf (upf (upf (fun _ => (0 : Int32)) 0 (own_hi ((upf (upf (upf (fun _ => (0 : Int32)) 0 p1) 1 p2) 2 p3) 0))) 1 (own_lo ((upf (upf (upf (fun _ => (0 : Int32)) 0 p1) 1 p2) 2 p3) 0))) 2 (own_hi ((upf (upf (upf (fun _ => (0 : Int32)) 0 p1) 1 p2) 2 p3) 1))) 3 (own_lo ((upf (upf (upf (fun _ => (0 : Int32)) 0 p1) 1 p2) 2 p3) 1))) 4 (own_hi ((upf (upf (upf (fun _ => (0 : Int32)) 0 p1) 1 p2) 2 p3) 2))) 5 (own_lo ((upf (upf (upf (fun _ => (0 : Int32)) 0 p1) 1 p2) 2 p3) 2))) 1) p1) = 1 := by simp [upf, own_bits]
    rw [pp36] at st36
    refine Go.stp (fun t_ k_ => st36 t_ k_) ?_
    show Go p.tables e below G (T36.setTop (mkF m 87 #[iv p0, iv p1, iv p2, iv p3, iv (3 : Int32), rv b25, rv ob, iv (1 : Int32)] [(.int (1 : Int32))]))
    refine Go.stp (fun t_ k_ => XS.ifNo X36.here hx rfl (hb hby at_87) rfl ((if0 _ _).trans (feq (by decide : ¬ ((1 : Int32) = (0 : Int32)))).1) k_) ?_
    show Go p.tables e below G (T36.setTop (mkF m 90 #[iv p0, iv p1, iv p2, iv p3, iv (3 : Int32), rv b25, rv ob, iv (1 : Int32)] []))
    refine Go.stp (fun t_ k_ => XS.iconst X36.here hx rfl (hb hby at_90) k_) ?_
    show Go p.tables e below G (T36.setTop (mkF m 91 #[iv p0, iv p1, iv p2, iv p3, iv (3 : Int32), rv b25, rv ob, iv (1 : Int32)] [(.int (1 : Int32))]))
    refine Go.stp (fun t_ k_ => XS.goto X36.here hx rfl (pc0 := 91) (pc' := 95) rfl (hb hby at_91) (by decide) (by decide) k_) ?_
    show Go p.tables e below G (T36.setTop (mkF m 95 #[iv p0, iv p1, iv p2, iv p3, iv (3 : Int32), rv b25, rv ob, iv (1 : Int32)] [(.int (1 : Int32))]))
    refine Go.stp (fun t_ k_ => XS.istore X36.here hx rfl (hb hby at_95) rfl (l' := #[iv p0, iv p1, iv p2, iv p3, iv (3 : Int32), rv b25, rv ob, iv (1 : Int32)]) rfl k_) ?_
    show Go p.tables e below G (T36.setTop (mkF m 97 #[iv p0, iv p1, iv p2, iv p3, iv (3 : Int32), rv b25, rv ob, iv (1 : Int32)] []))
    refine Go.stp (fun t_ k_ => XS.iload X36.here hx rfl (hb hby at_97) rfl k_) ?_
    show Go p.tables e below G (T36.setTop (mkF m 99 #[iv p0, iv p1, iv p2, iv p3, iv (3 : Int32), rv b25, rv ob, iv (1 : Int32)] [(.int (3 : Int32))]))
    refine Go.stp (fun t_ k_ => XS.iconst X36.here hx rfl (hb hby at_99) k_) ?_
    show Go p.tables e below G (T36.setTop (mkF m 100 #[iv p0, iv p1, iv p2, iv p3, iv (3 : Int32), rv b25, rv ob, iv (1 : Int32)] [(.int (1 : Int32)), (.int (3 : Int32))]))
    refine Go.stp (fun t_ k_ => XS.icmpNo X36.here hx rfl (hb hby at_100) rfl (tlt (by decide : (1 : Int32) < (3 : Int32))).2.2.2 k_) ?_
    show Go p.tables e below G (T36.setTop (mkF m 103 #[iv p0, iv p1, iv p2, iv p3, iv (3 : Int32), rv b25, rv ob, iv (1 : Int32)] []))
    refine Go.stp (fun t_ k_ => XS.iload X36.here hx rfl (hb hby at_103) rfl k_) ?_
    show Go p.tables e below G (T36.setTop (mkF m 105 #[iv p0, iv p1, iv p2, iv p3, iv (3 : Int32), rv b25, rv ob, iv (1 : Int32)] [(.int (1 : Int32))]))
    refine Go.stp (fun t_ k_ => XS.ifNo X36.here hx rfl (hb hby at_105) rfl ((if0 _ _).trans (feq (by decide : ¬ ((1 : Int32) = (0 : Int32)))).1) k_) ?_
    show Go p.tables e below G (T36.setTop (mkF m 108 #[iv p0, iv p1, iv p2, iv p3, iv (3 : Int32), rv b25, rv ob, iv (1 : Int32)] []))
    refine Go.stp (fun t_ k_ => XS.aload X36.here hx rfl (hb hby at_108) rfl rfl k_) ?_
    show Go p.tables e below G (T36.setTop (mkF m 110 #[iv p0, iv p1, iv p2, iv p3, iv (3 : Int32), rv b25, rv ob, iv (1 : Int32)] [(.ref ob)]))
    refine Go.stp (fun t_ k_ => XS.iconst X36.here hx rfl (hb hby at_110) k_) ?_
    show Go p.tables e below G (T36.setTop (mkF m 111 #[iv p0, iv p1, iv p2, iv p3, iv (3 : Int32), rv b25, rv ob, iv (1 : Int32)] [(.int (1 : Int32)), (.ref ob)]))
    refine Go.stp (fun t_ k_ => XS.iloadN X36.here hx rfl (hb hby at_111) rfl k_) ?_
    show Go p.tables e below G (T36.setTop (mkF m 112 #[iv p0, iv p1, iv p2, iv p3, iv (3 : Int32), rv b25, rv ob, iv (1 : Int32)] [(.int p2), (.int (1 : Int32)), (.ref ob)]))
    obtain ⟨_, _, ⟨T37, L37, k37, n37⟩, -, X37, ⟨Lc37, hQ37, l37, y37, z37⟩, st37⟩ := Jvm.LawKit.callS X36 hx (y := (⟨"com/example/slot2/slot2/card/FileCommandsFidsPinLaw", "pair", "([BII)Z"⟩ : MethodName)) hown (mvT hZ (hw _ (List.mem_of_getElem? (i := 6) rfl))) (mvT hZ (hw _ (List.mem_of_getElem? (i := 7) rfl))) (mvT hZ (hw _ (List.mem_of_getElem? (i := 8) rfl))) (mvT hZ (hw _ (List.mem_of_getElem? (i := 9) rfl))) (by decide) (backOf (W := 0) (rm2_1 l Z a0 hw [] ob p2 6 (upf (upf (upf (upf (upf (upf (fun _ => (0 : Int32)) 0 (own_hi ((upf (upf (upf (fun _ => (0 : Int32)) 0 p1) 1 p2) 2 p3) 0))) 1 (own_lo ((upf (upf (upf (fun _ => (0 : Int32)) 0 p1) 1 p2) 2 p3) 0))) 2 (own_hi ((upf (upf (upf (fun _ => (0 : Int32)) 0 p1) 1 p2) 2 p3) 1))) 3 (own_lo ((upf (upf (upf (fun _ => (0 : Int32)) 0 p1) 1 p2) 2 p3) 1))) 4 (own_hi ((upf (upf (upf (fun _ => (0 : Int32)) 0 p1) 1 p2) 2 p3) 2))) 5 (own_lo ((upf (upf (upf (fun _ => (0 : Int32)) 0 p1) 1 p2) 2 p3) 2))) T33.heap n0 Z33 I_ob (by decide)) hZ (hw _ (List.mem_of_getElem? (i := 9) rfl)) (hw _ (List.mem_of_getElem? (i := 8) rfl)) (by decide) (by decide)) (g := (mkF m 112 #[iv p0, iv p1, iv p2, iv p3, iv (3 : Int32), rv b25, rv ob, iv (1 : Int32)] [(.int p2), (.int (1 : Int32)), (.ref ob)])) rfl (by rw [hml]; rfl) (argsL := [(.ref ob), (.int (1 : Int32)), (.int p2)]) (rest := []) (lenOf pd_1 rfl) rfl (by show 2 * 0 + _ ≤ _; exact Nat.le_of_eq rfl) (hb hby at_112) (fun _ _ => ⟨rfl, e36, (by decide : 2 + 0 ≤ _), (by decide : 9 + 0 ≤ _)⟩)
    dsimp only [Pt.U, Pt.locs, Pt.cells, Pt.slots] at X37 l37 y37 z37 st37 hQ37
    subst l37 y37 z37
    obtain ⟨rfl, Nq37, e37⟩ := hQ37
    have N37 := Fr.app N36 Nq37
    have pp37 : (own_pr ((upf (upf (upf (upf (upf (upf (fun _ => (0 : Int32)) 0 (own_hi ((upf (upf (upf (fun _ => (0 : Int32)) 0 p1) 1 p2) 2 p3) 0))) 1 (own_lo ((upf (upf (upf (fun _ => (0 : Int32)) 0 p1) 1 p2) 2 p3) 0))) 2 (own_hi ((upf (upf (upf (fun _ => (0 : Int32)) 0 p1) 1 p2) 2 p3) 1))) 3 (own_lo ((upf (upf (upf (fun _ => (0 : Int32)) 0 p1) 1 p2) 2 p3) 1))) 4 (own_hi ((upf (upf (upf (fun _ => (0 : Int32)) 0 p1) 1 p2) 2 p3) 2))) 5 (own_lo ((upf (upf (upf (fun _ => (0 : Int32)) 0 p1) 1 p2) 2 p3) 2))) 2) ((upf (upf (upf (upf (upf (upf (fun _ => (0 : Int32)) 0 (own_hi ((upf (upf (upf (fun _ => (0 : Int32)) 0 p1) 1 p2) 2 p3) 0))) 1 (own_lo ((upf (upf (upf (fun _ => (0 : Int32)) 0 p1) 1 p2) 2 p3) 0))) 2 (own_hi ((upf (upf (upf (fun _ => (0 : Int32)) 0 p1) 1 p2) 2 p3) 1))) 3 (own_lo ((upf (upf (upf (fun _ => (0 : Int32)) 0 p1) 1 p2) 2 p3) 1))) 4 (own_hi ((upf (upf (upf (fun _ => (0 : Int32)) 0 p1) 1 p2) 2 p3) 2))) 5 (own_lo ((upf (upf (upf (fun _ => (0 : Int32)) 0 p1) 1 p2) 2 p3) 2))) 3) p2) = 1 := by simp [upf, own_bits]
    rw [pp37] at st37
    refine Go.stp (fun t_ k_ => st37 t_ k_) ?_
    show Go p.tables e below G (T37.setTop (mkF m 115 #[iv p0, iv p1, iv p2, iv p3, iv (3 : Int32), rv b25, rv ob, iv (1 : Int32)] [(.int (1 : Int32))]))
    refine Go.stp (fun t_ k_ => XS.ifNo X37.here hx rfl (hb hby at_115) rfl ((if0 _ _).trans (feq (by decide : ¬ ((1 : Int32) = (0 : Int32)))).1) k_) ?_
    show Go p.tables e below G (T37.setTop (mkF m 118 #[iv p0, iv p1, iv p2, iv p3, iv (3 : Int32), rv b25, rv ob, iv (1 : Int32)] []))
    refine Go.stp (fun t_ k_ => XS.iconst X37.here hx rfl (hb hby at_118) k_) ?_
    show Go p.tables e below G (T37.setTop (mkF m 119 #[iv p0, iv p1, iv p2, iv p3, iv (3 : Int32), rv b25, rv ob, iv (1 : Int32)] [(.int (1 : Int32))]))
    refine Go.stp (fun t_ k_ => XS.goto X37.here hx rfl (pc0 := 119) (pc' := 123) rfl (hb hby at_119) (by decide) (by decide) k_) ?_
    show Go p.tables e below G (T37.setTop (mkF m 123 #[iv p0, iv p1, iv p2, iv p3, iv (3 : Int32), rv b25, rv ob, iv (1 : Int32)] [(.int (1 : Int32))]))
    refine Go.stp (fun t_ k_ => XS.istore X37.here hx rfl (hb hby at_123) rfl (l' := #[iv p0, iv p1, iv p2, iv p3, iv (3 : Int32), rv b25, rv ob, iv (1 : Int32)]) rfl k_) ?_
    show Go p.tables e below G (T37.setTop (mkF m 125 #[iv p0, iv p1, iv p2, iv p3, iv (3 : Int32), rv b25, rv ob, iv (1 : Int32)] []))
    refine Go.stp (fun t_ k_ => XS.iload X37.here hx rfl (hb hby at_125) rfl k_) ?_
    show Go p.tables e below G (T37.setTop (mkF m 127 #[iv p0, iv p1, iv p2, iv p3, iv (3 : Int32), rv b25, rv ob, iv (1 : Int32)] [(.int (3 : Int32))]))
    refine Go.stp (fun t_ k_ => XS.iconst X37.here hx rfl (hb hby at_127) k_) ?_
    show Go p.tables e below G (T37.setTop (mkF m 128 #[iv p0, iv p1, iv p2, iv p3, iv (3 : Int32), rv b25, rv ob, iv (1 : Int32)] [(.int (2 : Int32)), (.int (3 : Int32))]))
    refine Go.stp (fun t_ k_ => XS.icmpNo X37.here hx rfl (hb hby at_128) rfl (tlt (by decide : (2 : Int32) < (3 : Int32))).2.2.2 k_) ?_
    show Go p.tables e below G (T37.setTop (mkF m 131 #[iv p0, iv p1, iv p2, iv p3, iv (3 : Int32), rv b25, rv ob, iv (1 : Int32)] []))
    refine Go.stp (fun t_ k_ => XS.iload X37.here hx rfl (hb hby at_131) rfl k_) ?_
    show Go p.tables e below G (T37.setTop (mkF m 133 #[iv p0, iv p1, iv p2, iv p3, iv (3 : Int32), rv b25, rv ob, iv (1 : Int32)] [(.int (1 : Int32))]))
    refine Go.stp (fun t_ k_ => XS.ifNo X37.here hx rfl (hb hby at_133) rfl ((if0 _ _).trans (feq (by decide : ¬ ((1 : Int32) = (0 : Int32)))).1) k_) ?_
    show Go p.tables e below G (T37.setTop (mkF m 136 #[iv p0, iv p1, iv p2, iv p3, iv (3 : Int32), rv b25, rv ob, iv (1 : Int32)] []))
    refine Go.stp (fun t_ k_ => XS.aload X37.here hx rfl (hb hby at_136) rfl rfl k_) ?_
    show Go p.tables e below G (T37.setTop (mkF m 138 #[iv p0, iv p1, iv p2, iv p3, iv (3 : Int32), rv b25, rv ob, iv (1 : Int32)] [(.ref ob)]))
    refine Go.stp (fun t_ k_ => XS.iconst X37.here hx rfl (hb hby at_138) k_) ?_
    show Go p.tables e below G (T37.setTop (mkF m 139 #[iv p0, iv p1, iv p2, iv p3, iv (3 : Int32), rv b25, rv ob, iv (1 : Int32)] [(.int (2 : Int32)), (.ref ob)]))
    refine Go.stp (fun t_ k_ => XS.iloadN X37.here hx rfl (hb hby at_139) rfl k_) ?_
    show Go p.tables e below G (T37.setTop (mkF m 140 #[iv p0, iv p1, iv p2, iv p3, iv (3 : Int32), rv b25, rv ob, iv (1 : Int32)] [(.int p3), (.int (2 : Int32)), (.ref ob)]))
    obtain ⟨_, _, ⟨T38, L38, k38, n38⟩, -, X38, ⟨Lc38, hQ38, l38, y38, z38⟩, st38⟩ := Jvm.LawKit.callS X37 hx (y := (⟨"com/example/slot2/slot2/card/FileCommandsFidsPinLaw", "pair", "([BII)Z"⟩ : MethodName)) hown (mvT hZ (hw _ (List.mem_of_getElem? (i := 6) rfl))) (mvT hZ (hw _ (List.mem_of_getElem? (i := 7) rfl))) (mvT hZ (hw _ (List.mem_of_getElem? (i := 8) rfl))) (mvT hZ (hw _ (List.mem_of_getElem? (i := 9) rfl))) (by decide) (backOf (W := 0) (rm2_2 l Z a0 hw [] ob p3 6 (upf (upf (upf (upf (upf (upf (fun _ => (0 : Int32)) 0 (own_hi ((upf (upf (upf (fun _ => (0 : Int32)) 0 p1) 1 p2) 2 p3) 0))) 1 (own_lo ((upf (upf (upf (fun _ => (0 : Int32)) 0 p1) 1 p2) 2 p3) 0))) 2 (own_hi ((upf (upf (upf (fun _ => (0 : Int32)) 0 p1) 1 p2) 2 p3) 1))) 3 (own_lo ((upf (upf (upf (fun _ => (0 : Int32)) 0 p1) 1 p2) 2 p3) 1))) 4 (own_hi ((upf (upf (upf (fun _ => (0 : Int32)) 0 p1) 1 p2) 2 p3) 2))) 5 (own_lo ((upf (upf (upf (fun _ => (0 : Int32)) 0 p1) 1 p2) 2 p3) 2))) T33.heap n0 Z33 I_ob (by decide)) hZ (hw _ (List.mem_of_getElem? (i := 9) rfl)) (hw _ (List.mem_of_getElem? (i := 8) rfl)) (by decide) (by decide)) (g := (mkF m 140 #[iv p0, iv p1, iv p2, iv p3, iv (3 : Int32), rv b25, rv ob, iv (1 : Int32)] [(.int p3), (.int (2 : Int32)), (.ref ob)])) rfl (by rw [hml]; rfl) (argsL := [(.ref ob), (.int (2 : Int32)), (.int p3)]) (rest := []) (lenOf pd_1 rfl) rfl (by show 2 * 0 + _ ≤ _; exact Nat.le_of_eq rfl) (hb hby at_140) (fun _ _ => ⟨rfl, e37, (by decide : 2 + 0 ≤ _), (by decide : 9 + 0 ≤ _)⟩)
    dsimp only [Pt.U, Pt.locs, Pt.cells, Pt.slots] at X38 l38 y38 z38 st38 hQ38
    subst l38 y38 z38
    obtain ⟨rfl, Nq38, e38⟩ := hQ38
    have N38 := Fr.app N37 Nq38
    have pp38 : (own_pr ((upf (upf (upf (upf (upf (upf (fun _ => (0 : Int32)) 0 (own_hi ((upf (upf (upf (fun _ => (0 : Int32)) 0 p1) 1 p2) 2 p3) 0))) 1 (own_lo ((upf (upf (upf (fun _ => (0 : Int32)) 0 p1) 1 p2) 2 p3) 0))) 2 (own_hi ((upf (upf (upf (fun _ => (0 : Int32)) 0 p1) 1 p2) 2 p3) 1))) 3 (own_lo ((upf (upf (upf (fun _ => (0 : Int32)) 0 p1) 1 p2) 2 p3) 1))) 4 (own_hi ((upf (upf (upf (fun _ => (0 : Int32)) 0 p1) 1 p2) 2 p3) 2))) 5 (own_lo ((upf (upf (upf (fun _ => (0 : Int32)) 0 p1) 1 p2) 2 p3) 2))) 4) ((upf (upf (upf (upf (upf (upf (fun _ => (0 : Int32)) 0 (own_hi ((upf (upf (upf (fun _ => (0 : Int32)) 0 p1) 1 p2) 2 p3) 0))) 1 (own_lo ((upf (upf (upf (fun _ => (0 : Int32)) 0 p1) 1 p2) 2 p3) 0))) 2 (own_hi ((upf (upf (upf (fun _ => (0 : Int32)) 0 p1) 1 p2) 2 p3) 1))) 3 (own_lo ((upf (upf (upf (fun _ => (0 : Int32)) 0 p1) 1 p2) 2 p3) 1))) 4 (own_hi ((upf (upf (upf (fun _ => (0 : Int32)) 0 p1) 1 p2) 2 p3) 2))) 5 (own_lo ((upf (upf (upf (fun _ => (0 : Int32)) 0 p1) 1 p2) 2 p3) 2))) 5) p3) = 1 := by simp [upf, own_bits]
    rw [pp38] at st38
    refine Go.stp (fun t_ k_ => st38 t_ k_) ?_
    show Go p.tables e below G (T38.setTop (mkF m 143 #[iv p0, iv p1, iv p2, iv p3, iv (3 : Int32), rv b25, rv ob, iv (1 : Int32)] [(.int (1 : Int32))]))
    refine Go.stp (fun t_ k_ => XS.ifNo X38.here hx rfl (hb hby at_143) rfl ((if0 _ _).trans (feq (by decide : ¬ ((1 : Int32) = (0 : Int32)))).1) k_) ?_
    show Go p.tables e below G (T38.setTop (mkF m 146 #[iv p0, iv p1, iv p2, iv p3, iv (3 : Int32), rv b25, rv ob, iv (1 : Int32)] []))
    refine Go.stp (fun t_ k_ => XS.iconst X38.here hx rfl (hb hby at_146) k_) ?_
    show Go p.tables e below G (T38.setTop (mkF m 147 #[iv p0, iv p1, iv p2, iv p3, iv (3 : Int32), rv b25, rv ob, iv (1 : Int32)] [(.int (1 : Int32))]))
    refine Go.stp (fun t_ k_ => XS.goto X38.here hx rfl (pc0 := 147) (pc' := 151) rfl (hb hby at_147) (by decide) (by decide) k_) ?_
    show Go p.tables e below G (T38.setTop (mkF m 151 #[iv p0, iv p1, iv p2, iv p3, iv (3 : Int32), rv b25, rv ob, iv (1 : Int32)] [(.int (1 : Int32))]))
    refine Go.stp (fun t_ k_ => XS.istore X38.here hx rfl (hb hby at_151) rfl (l' := #[iv p0, iv p1, iv p2, iv p3, iv (3 : Int32), rv b25, rv ob, iv (1 : Int32)]) rfl k_) ?_
    show Go p.tables e below G (T38.setTop (mkF m 153 #[iv p0, iv p1, iv p2, iv p3, iv (3 : Int32), rv b25, rv ob, iv (1 : Int32)] []))
    refine Go.stp (fun t_ k_ => XS.iload X38.here hx rfl (hb hby at_153) rfl k_) ?_
    show Go p.tables e below G (T38.setTop (mkF m 155 #[iv p0, iv p1, iv p2, iv p3, iv (3 : Int32), rv b25, rv ob, iv (1 : Int32)] [(.int (1 : Int32))]))
    obtain ⟨fs, hr, hrun, hended, hW, hsame⟩ := X38.leave (v := some (.int (1 : Int32))) (fun h => by rw [Bd.returns] at h; cases h)
    refine ⟨_, _, retN X38 hx (t := .boolean) Bd.returns (by simp) (hb hby at_155) hr, hrun, hended, hG _ _ _ ?_ ⟨⟨_, rfl⟩, hW, hsame.mono (by decide) (by decide)⟩⟩
    show Q0 Z p0 p1 p2 p3 h0 n0 _ T38.heap _
    rw [e38]
    exact ⟨rfl, N38⟩
set_option maxRecDepth 65536 in
set_option maxHeartbeats 40000000 in
theorem comes_1 {Post : Tables → Env → Array Value → State → Outcome → State → Prop} (hpost : ∀ tb e args s v u, (limb_1_1.after args s (.returned v) u = true ∧ limb_1_2.after args s (.returned v) u = true ∧ True) → FrameEnd s (.returned v) u (Jvm.fieldLocs frame_1_writes args s ++ Jvm.arrayLocs frame_1_arrays args s ++ Jvm.staticLocs frame_1_statics s) 16 128 → Post tb e args s (.returned v) u) :
    ArmFor flags0 classFile x code maxLocals ret World_1 tables_1 room_1 Calls_1 rest_1 Pre_1 Post := by
  intro l hfl _ _ p e ha hc hk s m args below hf hA hF happ hP
  obtain ⟨hcalls, hrest, hpre⟩ := hP
  obtain ⟨-, -, -, hnamed, -, -, -, hat⟩ := (Spec.applies_iff hf).mp happ
  obtain ⟨hg, hn⟩ := and_e (Cond.before_iff.mp (show (Jvm.Cond.and given_1 narrow_1).before args s = true from hpre))
  obtain ⟨g1a, g1b⟩ := and_e hg
  obtain ⟨g2a, g2b⟩ := and_e g1b
  obtain ⟨g3a, g3b⟩ := and_e g2b
  obtain ⟨g4a, g4b⟩ := and_e g3b
  obtain ⟨w0, w1, w2, w3, rfl⟩ : ∃ w0 w1 w2 w3 : Value, args = #[w0, w1, w2, w3] := by
    have hs : args.size = 4 := by simpa [Cond.value, given_1] using g1a
    obtain ⟨L⟩ := args
    match L, hs with
    | [w0, w1, w2, w3], _ => exact ⟨w0, w1, w2, w3, rfl⟩
  have hw := fun d (hd : d ∈ tables_1) => atoms_spec (ws := Jvm.Cond.code x code maxLocals ret :: tables_1) hat d (List.mem_cons_of_mem _ hd)
  have hfit : Fit s := fun {y c} hc i hi => by
    obtain ⟨ha, rfl⟩ := Array.getElem?_eq_some_iff.mp hc
    have q := List.all_eq_true.mp ((Array.all_eq_true_iff_forall_mem.mp hF) _ (Array.getElem_mem ha)) i (List.mem_range.mpr hi)
    simpa [Array.getElem?_eq_getElem hi] using q
  obtain ⟨i0, ei0⟩ := is_v g2a
  obtain rfl : w0 = (.int i0) := Option.some.inj ei0
  obtain ⟨i1, ei1⟩ := is_v g3a
  obtain rfl : w1 = (.int i1) := Option.some.inj ei1
  obtain ⟨i2, ei2⟩ := is_v g4a
  obtain rfl : w2 = (.int i2) := Option.some.inj ei2
  obtain ⟨i3, ei3⟩ := is_v g4b
  obtain rfl : w3 = (.int i3) := Option.some.inj ei3
  obtain ⟨n, o, h1, h2, h3, _, L, rfl, ⟨rfl, N⟩, hq⟩ := rm0 l s _ hw tables_1 i0 i1 i2 i3  s.heap s.heap.size (Nat.le_refl _)  p e ha hc hk s m _ below hf ((Spec.applies_iff_loose hf).mp happ).1 ⟨rfl, State.Warmed39.refl s, rfl⟩ trivial
  refine ⟨n, _, h1, h2, h3, hpost _ _ _ _ _ _ ⟨Cond.after_iff.mpr rfl, Cond.after_iff.mpr (eq_i res_at (Term.int_eval (1)) rfl), trivial⟩ ⟨hq.1, hq.2.1, (hq.2.2.sift fun y hy => Or.inr (N y hy)).mono (by decide) (by decide)⟩⟩
theorem main_1_1 : Claimed_1_1 := comes_1 fun _ _ _ _ _ _ h hF => ⟨h.1, hF⟩
theorem main_1_2 : Claimed_1_2 := comes_1 fun _ _ _ _ _ _ h hF => ⟨h.2.1, hF⟩
end Jvm.Pilot.@@N@@
namespace Jvm.Pilot.@@N@@
open Jvm Jvm.ClassFile Sem Op Lib Jvm.Free Jvm.Stand Jvm.Pilot.@@N@@.Jvm.D
/-! MADE BY PROGRAM (witnessworld.py) out of the Statement's table words and the real class files: 9 classes; the members and pool entries that the words name. The judged class is class 1, her method 1. -/
namespace start1
open Jvm.ClassFile
def u (s : String) : CpInfo := .utf8 (stringToUtf16 s)
/-- a pool by its gaps: so many unusable entries, then the entry; so many at the end -/
def gap : Nat → List CpInfo → List CpInfo
  | 0, r => r
  | n + 1, r => .unusable :: gap n r
def poolList (es : List (Nat × CpInfo)) (last : Nat) : List CpInfo := es.foldr (fun e r => gap e.1 (e.2 :: r)) (gap last [])
def pool (es : List (Nat × CpInfo)) (last : Nat) : Array CpInfo := ⟨poolList es last⟩
def fileOf (pool : Array CpInfo) (this : Nat) (attrs : Array Attribute := #[]) (ms : Array MethodInfo := #[]) (fl : Nat := 33) (sup : Nat := 0) (ifs : Array Nat := #[]) (fds : Array FieldInfo := #[]) : ClassFile where
  minorVersion := 0
  majorVersion := 65
  constantPool := pool
  accessFlags := fl
  thisClass := this
  superClass := sup
  interfaces := ifs
  fields := fds
  methods := ms
  attributes := attrs
def plain (name : String) (sup : Option ClassId) : Class where
  name := name
  kind := .ordinary
  loader := none
  accessFlags := 33
  super := sup
  interfaces := #[]
  cf := none
  fields := #[]
  methods := #[]
  instanceTypes := #[]
  staticTypes := #[]
  resolved := #[]
  callSites := []
  init := .initialized
  statics := none
  mirror := none

def pool0 : Array CpInfo := pool [(5, u "<init>"), (0, u "()V"), (1, .class_ 10), (1, u "java/lang/Object")] 113

def k0m0 : Method := { name := "<init>", desc := "()V", sig := { parameters := [], returnType := none }, accessFlags := 1, code := none }
/-- java/lang/Object -/
def k0 : Class := { plain "java/lang/Object" none with
  accessFlags := 33
  interfaces := #[]
  cf := some (fileOf pool0 8 #[] #[{ accessFlags := 1, nameIndex := 5, descriptorIndex := 6, attributes := #[] }] 33 0 #[] #[])
  fields := #[]
  methods := #[k0m0]
  instanceTypes := #[]
  staticTypes := #[]
  resolved := Array.replicate 124 none
  statics := none }

def pool1 : Array CpInfo := pool [(2, .class_ 4), (1, u "java/lang/Object"), (0, u "<init>"), (0, u "()V"), (0, .methodref 8 9), (0, .class_ 10), (0, .nameAndType 11 12), (0, u "com/example/slot2/slot2/card/FileCommands"), (0, u "fids"), (0, u "([I)[B"), (0, .methodref 14 15), (0, .class_ 16), (0, .nameAndType 17 18), (0, u "com/example/slot2/slot2/card/FileCommandsFidsPinLaw"), (0, u "pair"), (0, u "([BII)Z"), (0, .integer 65535), (2, u "law"), (0, u "(IIII)Z")] 7

def k1m0 : Method := { name := "<init>", desc := "()V", sig := { parameters := [], returnType := none }, accessFlags := 1, code := none }
def k1c1 : Code := { maxStack := 3, maxLocals := 8, code := code, exceptionTable := #[], attributes := #[] }
def k1m1 : Method := { name := "law", desc := "(IIII)Z", sig := { parameters := [.int, .int, .int, .int], returnType := some .boolean }, accessFlags := 9, code := some k1c1 }
def k1c2 : Code := { maxStack := 4, maxLocals := 4, code := method_3_code, exceptionTable := #[], attributes := #[] }
def k1m2 : Method := { name := "pair", desc := "([BII)Z", sig := { parameters := [(.array .byte), .int, .int], returnType := some .boolean }, accessFlags := 10, code := some k1c2 }
/-- com/example/slot2/slot2/card/FileCommandsFidsPinLaw -/
def k1 : Class := { plain "com/example/slot2/slot2/card/FileCommandsFidsPinLaw" (some 0) with
  accessFlags := 49
  interfaces := #[]
  cf := some (fileOf pool1 14 #[] #[{ accessFlags := 1, nameIndex := 5, descriptorIndex := 6, attributes := #[] }, { accessFlags := 9, nameIndex := 22, descriptorIndex := 23, attributes := #[] }, { accessFlags := 10, nameIndex := 17, descriptorIndex := 18, attributes := #[] }] 49 2 #[] #[])
  fields := #[]
  methods := #[k1m0, k1m1, k1m2]
  instanceTypes := #[]
  staticTypes := #[]
  resolved := Array.replicate 31 none
  statics := none }

def pool2 : Array CpInfo := pool [(4, .class_ 6), (1, u "java/lang/Object"), (3, u "card"), (9, .class_ 22), (1, u "com/example/slot2/slot2/card/FileCommands"), (0, u "Lcom/example/slot2/slot2/card/Card;"), (2, u "commands"), (0, u "Lcom/example/slot2/slot2/codec/CommandSet;"), (8, u "fids"), (0, u "([I)[B"), (114, u "MAX_BINARY_SIZE"), (0, u "I"), (1, u "MAX_GET_RESPONSES")] 42

def k2c0 : Code := { maxStack := 4, maxLocals := 3, code := prog_6_method_11_code, exceptionTable := #[], attributes := #[] }
def k2m0 : Method := { name := "fids", desc := "([I)[B", sig := { parameters := [(.array .int)], returnType := some (.array .byte) }, accessFlags := 136, code := some k2c0 }
/-- com/example/slot2/slot2/card/FileCommands -/
def k2 : Class := { plain "com/example/slot2/slot2/card/FileCommands" (some 0) with
  accessFlags := 1057
  interfaces := #[]
  cf := some (fileOf pool2 20 #[] #[{ accessFlags := 136, nameIndex := 36, descriptorIndex := 37, attributes := #[] }] 1057 4 #[] #[{ accessFlags := 25, nameIndex := 152, descriptorIndex := 153, attributes := #[] }, { accessFlags := 26, nameIndex := 155, descriptorIndex := 153, attributes := #[] }, { accessFlags := 18, nameIndex := 10, descriptorIndex := 23, attributes := #[] }, { accessFlags := 18, nameIndex := 26, descriptorIndex := 27, attributes := #[] }])
  fields := #[{ name := "MAX_BINARY_SIZE", type := .int, accessFlags := 25, slot := 0, constantValue := 0 }, { name := "MAX_GET_RESPONSES", type := .int, accessFlags := 26, slot := 1, constantValue := 0 }, { name := "card", type := (.object "com/example/slot2/slot2/card/Card"), accessFlags := 18, slot := 0, constantValue := 0 }, { name := "commands", type := (.object "com/example/slot2/slot2/codec/CommandSet"), accessFlags := 18, slot := 1, constantValue := 0 }]
  methods := #[k2m0]
  instanceTypes := #[(.object "com/example/slot2/slot2/card/Card"), (.object "com/example/slot2/slot2/codec/CommandSet")]
  staticTypes := #[.int, .int]
  resolved := Array.replicate 198 none
  statics := none }

def pool3 : Array CpInfo := pool [(1, u "java/lang/Cloneable"), (0, .class_ 1), (0, u "java/lang/Object"), (0, .class_ 3)] 3

/-- java/lang/Cloneable -/
def k3 : Class := { plain "java/lang/Cloneable" (some 0) with
  accessFlags := 1537
  interfaces := #[]
  cf := some (fileOf pool3 2 #[] #[] 1537 4 #[] #[])
  fields := #[]
  methods := #[]
  instanceTypes := #[]
  staticTypes := #[]
  resolved := Array.replicate 8 none
  statics := none }

def pool4 : Array CpInfo := pool [(1, u "java/io/Serializable"), (0, .class_ 1), (0, u "java/lang/Object"), (0, .class_ 3)] 3

/-- java/io/Serializable -/
def k4 : Class := { plain "java/io/Serializable" (some 0) with
  accessFlags := 1537
  interfaces := #[]
  cf := some (fileOf pool4 2 #[] #[] 1537 4 #[] #[])
  fields := #[]
  methods := #[]
  instanceTypes := #[]
  staticTypes := #[]
  resolved := Array.replicate 8 none
  statics := none }

/-- the primitive byte -/
def k5 : Class := { plain "byte" none with kind := .primitive 'B', accessFlags := 0x411 }
/-- [B -/
def k6 : Class := { plain "[B" (some 0) with kind := .array 5 .byte, interfaces := #[3, 4], accessFlags := 1041 }

/-- the primitive int -/
def k7 : Class := { plain "int" none with kind := .primitive 'I', accessFlags := 0x411 }
/-- [I -/
def k8 : Class := { plain "[I" (some 0) with kind := .array 7 .int, interfaces := #[3, 4], accessFlags := 1041 }

def heap : Heap := #[]
def classes : Array Class := #[k0, k1, k2, k3, k4, k5, k6, k7, k8]
def interned : List (Array UInt16 × Addr) := []
def slotsUsed : Nat := 0
def theMethod : MethodId := ⟨1, 1⟩
def args0 : Array Value := #[.int 5, .int 9, .int 7, .int 3]
def aboutOver (below : List Frame) : State where
  vm := { classes := classes, interned := interned.toArray }
  heap := heap
  slotsUsed := slotsUsed
  threads := #[{ frames := .invoking theMethod args0 :: below }]
def below0 : List Frame := [.native { method := ⟨0, 0⟩, args := #[] }]
def about1 : State := aboutOver below0
def p0 : Program := .bare "" "" ""
def e0 : Env := launch0.env 0 0 0
theorem w_frames : about1.frames = Frame.invoking theMethod args0 :: below0 := rfl
set_option maxRecDepth 65536 in
theorem w_args : argsFit about1.vm theMethod args0 = true := by decide +kernel
set_option maxRecDepth 65536 in
theorem w_heap : heapFits about1 = true := by decide +kernel
set_option maxRecDepth 65536 in
theorem w_runnable : about1.curStatus? = some .runnable := by decide +kernel
set_option maxRecDepth 65536 in
theorem w_alone : about1.alone = true := by decide +kernel
set_option maxRecDepth 65536 in
theorem w_named : about1.methodNamed? x = some theMethod := by decide +kernel
set_option maxRecDepth 65536 in
theorem w_hears : about1.hears theMethod below0 = true := by decide +kernel
set_option maxRecDepth 65536 in
theorem w_ripe : about1.ripe theMethod args0 below0 = true := by decide +kernel
theorem w_running : about1.status = .running := rfl
set_option maxRecDepth 65536 in
theorem w_room : about1.hasRoom e0.platform room_1 = true :=
  launch0.hasRoom_least _ room_1 (by decide +kernel) (by decide +kernel) (by decide +kernel) (by decide +kernel) (by decide +kernel) (by decide +kernel)
theorem allAtoms_all (ts : List Jvm.Cond) (a : Array Jvm.Value) (st : Jvm.State) : (allAtoms ts).before a st = ts.all (fun c => c.before a st) := by
  induction ts with
  | nil => rfl
  | cons c t ih =>
    show (Jvm.Cond.and c (allAtoms t)).before a st = _
    rw [Jvm.Cond.before_and, ih, List.all_cons]
def words1 : List Jvm.Cond := Jvm.Cond.code x code maxLocals ret :: tables_1
/-- a 'code' word, met by the world's own term for the bytes: nothing is compared byte by byte -/
theorem code_word {y : MethodName} {bytes : ByteArray} {mx : Nat} {rt : Option FieldType} {a : Array Value} {s : State} {m : MethodId} {meth : Method} {c : Code} (h1 : s.methodNamed? y = some m) (h2 : s.vm.method? m = some meth) (h3 : meth.code = some c) (h4 : c.code = bytes)
    (h5 : (c.maxLocals == mx && c.exceptionTable.isEmpty && decide (c.maxStack ≤ mostOperands) && decide (meth.sig.returnType = rt) && !meth.locks && decide (parseMethodDescriptor y.desc = some meth.sig)) = true) : (Jvm.Cond.code y bytes mx rt).before a s = true := by
  simp only [Bool.and_eq_true, beq_iff_eq, Bool.not_eq_true', decide_eq_true_eq] at h5
  obtain ⟨⟨⟨⟨⟨g1, g2⟩, g3⟩, g4⟩, g5⟩, g6⟩ := h5
  simp [Cond.before, Cond.holds, Cond.value, h1, h2, h3, h4, g1, g2, g3, g4, g5, g6]
def isCode : Jvm.Cond → Bool
  | .code _ _ _ _ => true
  | _ => false
theorem all_split {L : List Jvm.Cond} {P : Jvm.Cond → Bool} (h1 : L.all (fun c => isCode c || P c) = true) (h2 : ∀ c ∈ L.filter isCode, P c = true) : L.all P = true := by
  refine List.all_eq_true.mpr fun c hc => ?_
  have h := List.all_eq_true.mp h1 c hc
  rcases Bool.eq_false_or_eq_true (isCode c) with hi | hi
  · exact h2 c (List.mem_filter.mpr ⟨hc, hi⟩)
  · simpa [hi] using h
set_option maxRecDepth 65536 in
theorem w_c0 : (Jvm.Cond.code x code maxLocals ret).before args0 about1 = true := code_word (m := ⟨1, 1⟩) (meth := k1m1) (c := k1c1) (by decide +kernel) rfl rfl rfl (by decide +kernel)
set_option maxRecDepth 65536 in
theorem w_c1 : (Jvm.Cond.code ({ cls := "com/example/slot2/slot2/card/FileCommands", name := "fids", desc := "([I)[B" } : Jvm.MethodName) prog_6_method_11_code (3 : Nat) (Option.some (Jvm.ClassFile.FieldType.array Jvm.ClassFile.FieldType.byte))).before args0 about1 = true := code_word (m := ⟨2, 0⟩) (meth := k2m0) (c := k2c0) (by decide +kernel) rfl rfl rfl (by decide +kernel)
set_option maxRecDepth 65536 in
theorem w_c2 : (Jvm.Cond.code ({ cls := "com/example/slot2/slot2/card/FileCommandsFidsPinLaw", name := "pair", desc := "([BII)Z" } : Jvm.MethodName) method_3_code (4 : Nat) (Option.some Jvm.ClassFile.FieldType.boolean)).before args0 about1 = true := code_word (m := ⟨1, 2⟩) (meth := k1m2) (c := k1c2) (by decide +kernel) rfl rfl rfl (by decide +kernel)
def codes1 : List Jvm.Cond := [Jvm.Cond.code x code maxLocals ret, Jvm.Cond.code ({ cls := "com/example/slot2/slot2/card/FileCommands", name := "fids", desc := "([I)[B" } : Jvm.MethodName) prog_6_method_11_code (3 : Nat) (Option.some (Jvm.ClassFile.FieldType.array Jvm.ClassFile.FieldType.byte)), Jvm.Cond.code ({ cls := "com/example/slot2/slot2/card/FileCommandsFidsPinLaw", name := "pair", desc := "([BII)Z" } : Jvm.MethodName) method_3_code (4 : Nat) (Option.some Jvm.ClassFile.FieldType.boolean)]
set_option maxRecDepth 65536 in
theorem codes_eq : words1.filter isCode = codes1 := rfl
theorem w_codes : ∀ c ∈ words1.filter isCode, c.before args0 about1 = true := by
  rw [codes_eq]
  intro c hc
  simp only [codes1, List.mem_cons, List.not_mem_nil, or_false] at hc
  rcases hc with rfl | rfl | rfl
  · exact w_c0
  · exact w_c1
  · exact w_c2
set_option maxRecDepth 65536 in
theorem w_t1 : words1.all (fun c => isCode c || c.before args0 about1) = true := by decide +kernel
theorem w_tables : (allAtoms (Jvm.Cond.code x code maxLocals ret :: tables_1)).before args0 about1 = true := by
  rw [allAtoms_all]
  show words1.all (fun c => c.before args0 about1) = true
  refine all_split ?_ w_codes
  rw [w_t1]
set_option maxRecDepth 65536 in
theorem w_case : (Jvm.Cond.and given_1 narrow_1).before args0 about1 = true := by decide +kernel
theorem w_applies : (headSpec (Jvm.Cond.code x code maxLocals ret :: tables_1) room_1).applies x e0.platform about1 = true :=
  (Spec.applies_iff w_frames).mpr ⟨w_running, w_runnable, w_alone, w_named, w_hears, w_ripe, w_room, w_tables⟩
theorem atStart : AtStart classFile x code maxLocals ret World_1 tables_1 room_1 Calls_1 rest_1 Pre_1 launch0 p0 e0 about1 theMethod args0 below0 :=
  ⟨lists_1, trivial, launch0.admits_env _ _ _, launch0.least_env, fairChoices_fair.cas, fairChoices_fair.clock, w_frames, w_args, w_heap, w_applies, trivial, trivial, w_case⟩
end start1
theorem witness_1 : WitnessClaimed_1 := ⟨start1.p0, start1.e0, start1.about1, start1.theMethod, start1.args0, start1.below0, start1.atStart⟩
end Jvm.Pilot.@@N@@
