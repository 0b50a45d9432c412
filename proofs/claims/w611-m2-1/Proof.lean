import JvmDerived
import JvmDerived.Pilot.@@N@@Statement
import JvmDerived.Pilot.@@N@@Code
set_option linter.unusedVariables false
set_option linter.unusedSimpArgs false
namespace Jvm.RoadKit
open Sem ClassFile Op Lib Jvm.Stand Jvm.Free Jvm.LawKit
section New
variable {p : Program} {l : Launch} {e : Env} {R : Room} {s : State} {m : MethodId} {args : Array Value} {below : List Frame} {meth : Method} {c : Code} {T : State} {locs : List Loc} {cells slots : Nat}
theorem retI (X : Stand p l e R s m args below meth c T locs cells slots) (hx : p.tables.exec = Jvm.exec) {pc : Nat} {Ls : Array Slot} {z : Int32} {rest : List Value} (hret : meth.sig.returnType = some .int) (hd : decode c.code pc = .ok (.ireturn, 1)) {fs : List Frame}
    (hl : ∀ (f : JFrame) (acts : List Action), f.method = m → f.locked = none → f.entered = [] → (doReturn e (T.setTop f) acts (some (.int z))).1 = T.setFrames fs) : Steps p.tables e below (T.setTop (mkF m pc Ls (.int z :: rest))) (T.setFrames fs) := by
  have hm' : T.vm.method? m = some meth := X.method'
  have hn : narrow .int (.int z) = .int z := rfl
  show Steps p.tables e below (T.setTop { method := m, pc := pc, locals := Ls, stack := _ :: rest, locked := none }) _
  jvm_step X.here [X.here.top, hx, hd, hm', hret, hn]
  first | (intro acts; rw [hl _ acts rfl rfl rfl]) | rw [hl _ _ rfl rfl rfl]
  exact Steps.refl _
theorem retL (X : Stand p l e R s m args below meth c T locs cells slots) (hx : p.tables.exec = Jvm.exec) {pc : Nat} {Ls : Array Slot} {z : Int64} {rest : List Value} (hret : meth.sig.returnType = some .long) (hd : decode c.code pc = .ok (.lreturn, 1)) {fs : List Frame}
    (hl : ∀ (f : JFrame) (acts : List Action), f.method = m → f.locked = none → f.entered = [] → (doReturn e (T.setTop f) acts (some (.long z))).1 = T.setFrames fs) : Steps p.tables e below (T.setTop (mkF m pc Ls (.long z :: rest))) (T.setFrames fs) := by
  have hm' : T.vm.method? m = some meth := X.method'
  show Steps p.tables e below (T.setTop { method := m, pc := pc, locals := Ls, stack := _ :: rest, locked := none }) _
  jvm_step X.here [X.here.top, hx, hd, hm', hret, narrow]
  first | (intro acts; rw [hl _ acts rfl rfl rfl]) | rw [hl _ _ rfl rfl rfl]
  exact Steps.refl _
theorem retR (X : Stand p l e R s m args below meth c T locs cells slots) (hx : p.tables.exec = Jvm.exec) {pc : Nat} {Ls : Array Slot} {z : Value} {rest : List Value} {ty : FieldType} (hz : z.isRef = true) (hty : ty.isReference = true) (hret : meth.sig.returnType = some ty) (hd : decode c.code pc = .ok (.areturn, 1)) {fs : List Frame}
    (hl : ∀ (f : JFrame) (acts : List Action), f.method = m → f.locked = none → f.entered = [] → (doReturn e (T.setTop f) acts (some z)).1 = T.setFrames fs) : Steps p.tables e below (T.setTop (mkF m pc Ls (z :: rest))) (T.setFrames fs) := by
  have hm' : T.vm.method? m = some meth := X.method'
  show Steps p.tables e below (T.setTop { method := m, pc := pc, locals := Ls, stack := _ :: rest, locked := none }) _
  jvm_step X.here [X.here.top, hx, hd, hm', hret, hz, hty]
  first | (intro acts; rw [hl _ acts rfl rfl rfl]) | rw [hl _ _ rfl rfl rfl]
  exact Steps.refl _
end New
abbrev lv (x : Int64) : Slot := .val (.long x)
abbrev un : Slot := .unset
abbrev sd : Slot := .second
/-- where the run stands, it comes to an end that G likes -/
def Go (tb : Tables) (e : Env) (below : List Frame) (G : Outcome → State → Prop) (F : State) : Prop := ∃ t o, Steps tb e below F t ∧ t.status = .running ∧ Ended t below o ∧ G o t
theorem Go.stp {tb : Tables} {e : Env} {below : List Frame} {G : Outcome → State → Prop} {F F' : State} (h : ∀ t, Steps tb e below F' t → Steps tb e below F t) (g : Go tb e below G F') : Go tb e below G F := by
  obtain ⟨t, o, h1, r⟩ := g
  exact ⟨t, o, h _ h1, r⟩
end Jvm.RoadKit
namespace Jvm.RoadKit
open Sem ClassFile Op Lib Jvm.Stand Jvm.Free Jvm.LawKit
/-- the array at a has n places of the sort ty; place j holds f j -/
def Ia {α : Type} (Z : State) (h : Heap) (a : Addr) (ty : FieldType) (n : Nat) (mk : α → Value) (f : Nat → α) : Prop := ∃ c : Cell, Arr Z h a c ty ∧ c.slots.size = n ∧ n < 2147483648 ∧ ∀ j, j < n → c.slots[j]? = some (mk (f j))
def upf {α : Type} (f : Nat → α) (i : Nat) (x : α) : Nat → α := fun j => if j = i then x else f j
theorem upf_same {α : Type} (f : Nat → α) (i : Nat) (x : α) : upf f i x i = x := by simp [upf]
theorem upf_ne {α : Type} (f : Nat → α) (i j : Nat) (x : α) (h : j ≠ i) : upf f i x j = f j := by simp [upf, h]
section IaS
variable {α : Type} {Z : State} {h h' : Heap} {a b : Addr} {ty : FieldType} {n sl : Nat} {mk : α → Value} {f : Nat → α} {v : Value} {ws : List Addr}
theorem Ia.lt (F : Ia Z h a ty n mk f) : a < h.size := by obtain ⟨c, A, -⟩ := F; exact A.lt
theorem Ia.ext (F : Ia Z h a ty n mk f) (E : Ext h h') : Ia Z h' a ty n mk f := by obtain ⟨c, A, r⟩ := F; exact ⟨c, A.ext E, r⟩
theorem Ia.other (F : Ia Z h b ty n mk f) (W : Wr h h' a sl v) (q : b ≠ a) : Ia Z h' b ty n mk f := by obtain ⟨c, A, r⟩ := F; exact ⟨c, A.other W q, r⟩
theorem Ia.keep (F : Ia Z h a ty n mk f) (K : Keep h h' ws) (q : a ∉ ws) : Ia Z h' a ty n mk f := by obtain ⟨c, A, r⟩ := F; exact ⟨c, ⟨K.2.1 a c A.1 q, A.2⟩, r⟩
theorem Ia.new {k : ClassId} {z : Int32} {x : α} (A : Arr Z h a (newA k ty z) ty) (hz : z.toNatClampNeg = n) (hn : n < 2147483648) (hx : defaultValue ty = mk x) : Ia Z h a ty n mk (fun _ => x) := by
  refine ⟨_, A, by rw [sz_new, hz], hn, fun j hj => ?_⟩
  simp [newA, hz, hj, hx]
theorem Ia.set {x : α} {j : Int32} {i : Nat} (F : Ia Z h a ty n mk f) (W : Wr h h' a j.toNatClampNeg (mk x)) (hj : j.toNatClampNeg = i) : Ia Z h' a ty n mk (upf f i x) := by
  obtain ⟨c, A, s1, s2, s3⟩ := F
  refine ⟨_, A.same W, by simpa [Cell.setSlot] using s1, s2, fun k hk => ?_⟩
  subst hj
  have q := s3 k hk
  simp only [Cell.setSlot, upf]
  by_cases e : k = j.toNatClampNeg
  · subst e
    rw [Array.getElem?_setIfInBounds_self]
    simp [s1, hk]
  · rw [Array.getElem?_setIfInBounds_ne (by omega), q]
    simp [e]
end IaS
theorem in_of {c : Cell} {n : Nat} {j : Int32} (S : c.slots.size = n) (h : 0 ≤ j.toInt ∧ j.toInt < n) : ¬ (j < 0 ∨ c.slots.size ≤ j.toNatClampNeg) := by
  rw [S, Int32.lt_iff_toInt_lt]
  have e0 : (0 : Int32).toInt = 0 := rfl
  simp only [Int32.toNatClampNeg]
  omega
theorem at_of {n : Nat} {j : Int32} (h : 0 ≤ j.toInt ∧ j.toInt < n) : j.toNatClampNeg < n := by
  simp only [Int32.toNatClampNeg]
  omega
end Jvm.RoadKit
namespace Jvm.RoadKit
open Sem ClassFile Op Lib Jvm.Stand Jvm.Free Jvm.LawKit
theorem sta_keep {Z : State} {h h' : Heap} {a : Addr} {C C' n d : String} {v : Value} (F : Sta Z h C n d v) (K : Keep h h' [a]) (E : Exa Z h a C') : Sta Z h' C n d v := by
  obtain ⟨cf, i, k, f, st, cell, h1, h2, h3, h4, h5, h6, h7⟩ := F
  obtain ⟨ce, ke, g1, g2, g3, g4, g5⟩ := E
  refine ⟨cf, i, k, f, st, cell, h1, h2, h3, h4, K.2.1 st cell h5 (fun q => ?_), h6, h7⟩
  rw [List.mem_singleton.mp q, g1] at h5
  rw [Option.some.inj h5] at g4
  rw [g4] at h6
  cases h6
end Jvm.RoadKit
namespace Jvm.Pilot.@@N@@
open Jvm Jvm.ClassFile Sem Op Lib Jvm.Free Jvm.Stand Jvm.LawKit Jvm.RoadKit Bundle Jvm.Pilot.@@N@@.Jvm.D
def own_pk (i : Int32) (a b c d : Addr) : Addr := if i = (0 : Int32) then a else if i = (1 : Int32) then b else if i = (2 : Int32) then c else d
theorem own_n (x : Int32) : (x &&& (3 : Int32)) = (0 : Int32) ∨ (x &&& (3 : Int32)) = (1 : Int32) ∨ (x &&& (3 : Int32)) = (2 : Int32) ∨ (x &&& (3 : Int32)) = (3 : Int32) := by
  have h := c_mask x 3 2 (by decide) (by decide)
  have e0 : (0 : Int32).toInt = 0 := by decide
  have e1 : (1 : Int32).toInt = 1 := by decide
  have e2 : (2 : Int32).toInt = 2 := by decide
  have e3 : (3 : Int32).toInt = 3 := by decide
  simp only [← Int32.toInt_inj]
  omega
theorem own_sz (x : Int32) : ¬ ((x &&& (7 : Int32)) + (0 : Int32) < 0) ∧ ((x &&& (7 : Int32)) + (0 : Int32)).toNatClampNeg ≤ 7 := by
  have h := c_mask x 7 3 (by decide) (by decide)
  have e0 : (0 : Int32).toInt = 0 := by decide
  have a := c_iadd (x &&& (7 : Int32)) 0
  have r := rng32 ((x &&& (7 : Int32)) + 0)
  rw [Int32.lt_iff_toInt_lt]
  simp only [Int32.toNatClampNeg]
  omega
theorem own_rem (x m : Int32) (k : Int) (hm : m.toInt = k) (hk : 0 < k) : 0 ≤ ((x &&& (2147483647 : Int32)) - ((x &&& (2147483647 : Int32)) / m) * m).toInt ∧ ((x &&& (2147483647 : Int32)) - ((x &&& (2147483647 : Int32)) / m) * m).toInt < k := by
  rw [irem_eq_mod]
  have h1 := c_mask x 2147483647 31 (by decide) (by decide)
  have h2 := (c_irem (x &&& (2147483647 : Int32)) m k hm).1 (by omega)
  rw [h2]
  exact ⟨Int.emod_nonneg _ (by omega), Int.emod_lt_of_pos _ hk⟩
theorem own_d (x : Int32) (h0 : 0 ≤ x.toInt) (h : x.toInt < 4) : x = (0 : Int32) ∨ x = (1 : Int32) ∨ x = (2 : Int32) ∨ x = (3 : Int32) := by
  have e0 : (0 : Int32).toInt = 0 := by decide
  have e1 : (1 : Int32).toInt = 1 := by decide
  have e2 : (2 : Int32).toInt = 2 := by decide
  have e3 : (3 : Int32).toInt = 3 := by decide
  simp only [← Int32.toInt_inj]
  omega
theorem own_d1 (x : Int32) (h0 : 0 ≤ x.toInt) (h : x.toInt < 1) : x = (0 : Int32) := by
  have e0 : (0 : Int32).toInt = 0 := by decide
  simp only [← Int32.toInt_inj]
  omega
theorem own_d2 (x : Int32) (h0 : 0 ≤ x.toInt) (h : x.toInt < 2) : x = (0 : Int32) ∨ x = (1 : Int32) := by
  have e0 : (0 : Int32).toInt = 0 := by decide
  have e1 : (1 : Int32).toInt = 1 := by decide
  simp only [← Int32.toInt_inj]
  omega
theorem own_d3 (x : Int32) (h0 : 0 ≤ x.toInt) (h : x.toInt < 3) : x = (0 : Int32) ∨ x = (1 : Int32) ∨ x = (2 : Int32) := by
  have e0 : (0 : Int32).toInt = 0 := by decide
  have e1 : (1 : Int32).toInt = 1 := by decide
  have e2 : (2 : Int32).toInt = 2 := by decide
  simp only [← Int32.toInt_inj]
  omega
theorem own_eqi {A : Term} {args : Array Value} {s : State} {k : Int32} (h : (Jvm.Cond.eq A (Term.int k)).value args s none s [] = some true) : A.eval args s none [] s = some (.int k) := by
  cases hf : A.eval args s none [] s with
  | none => simp [Jvm.Cond.value, hf] at h
  | some v => cases v <;> simp [Jvm.Cond.value, hf, Term.eval] at h ⊢ <;> exact h
theorem own_arr {args : Array Value} {s : State} {t : Term} {C : String} (h1 : (Jvm.Cond.arrayOf t (.object C)).value args s none s [] = some true) (h2 : (Jvm.Cond.eq (Term.length t) (Term.int (0 : Int32))).value args s none s [] = some true) : ∃ a, t.eval args s none [] s = some (.ref a) ∧ ∃ f : Nat → Value, Ia s s.heap a (.object C) 0 id f := by
  obtain ⟨a, ev⟩ := arr_v h1
  obtain ⟨cl, A⟩ := Arr.start ev h1
  refine ⟨a, ev, fun _ => .null, cl, A, ?_, by decide, fun j hj => absurd hj (Nat.not_lt_zero _)⟩
  have hA : s.arrayAt? a = some cl := Arr.fin (U := s) (State.Warmed39.refl s).alike A
  have q := own_eqi h2
  by_cases hl : cl.slots.size < 2 ^ 31
  · rw [len_f ev hA hl] at q
    have q' := congrArg Int32.toInt (Value.int.inj (Option.some.inj q))
    rw [len_toInt hl] at q'
    have e0 : (0 : Int32).toInt = 0 := by decide
    omega
  · simp [Term.eval, ev, hA] at q
    omega
theorem pd_0 : parseMethodDescriptor "([Lcom/example/stutter/stutter/value/Value;[Lcom/example/stutter/stutter/eval/Node;Lcom/example/stutter/stutter/eval/Frame;Lcom/example/stutter/stutter/eval/Frame;)V" = some ⟨[(.array (.object "com/example/stutter/stutter/value/Value")), (.array (.object "com/example/stutter/stutter/eval/Node")), (.object "com/example/stutter/stutter/eval/Frame"), (.object "com/example/stutter/stutter/eval/Frame")], none⟩ := by decide +kernel
theorem pd_1 : parseMethodDescriptor "(I[Lcom/example/stutter/stutter/eval/Node;Lcom/example/stutter/stutter/eval/Frame;Lcom/example/stutter/stutter/eval/Frame;)V" = some ⟨[.int, (.array (.object "com/example/stutter/stutter/eval/Node")), (.object "com/example/stutter/stutter/eval/Frame"), (.object "com/example/stutter/stutter/eval/Frame")], none⟩ := by decide +kernel
theorem pd_2 : parseMethodDescriptor "(I)V" = some ⟨[.int], none⟩ := by decide +kernel
theorem pd_3 : parseMethodDescriptor "(ILcom/example/stutter/stutter/eval/Frame;Lcom/example/stutter/stutter/eval/Frame;Lcom/example/stutter/stutter/eval/Frame;Lcom/example/stutter/stutter/eval/Frame;)Lcom/example/stutter/stutter/eval/Frame;" = some ⟨[.int, (.object "com/example/stutter/stutter/eval/Frame"), (.object "com/example/stutter/stutter/eval/Frame"), (.object "com/example/stutter/stutter/eval/Frame"), (.object "com/example/stutter/stutter/eval/Frame")], some (.object "com/example/stutter/stutter/eval/Frame")⟩ := by decide +kernel
theorem pd_4 : parseMethodDescriptor "(I)Lcom/example/stutter/stutter/eval/Frame;" = some ⟨[.int], some (.object "com/example/stutter/stutter/eval/Frame")⟩ := by decide +kernel
theorem pn_3 : plainName "com/example/stutter/stutter/eval/Frame" = true := by first | (simp [plainName, overriddenIn]; done) | decide +kernel
theorem d3_0 : decode prog_56_method_3_code 0 = .ok (.aload_n 0, 1) := by decide +kernel
theorem d3_1 : decode prog_56_method_3_code 1 = .ok (.invokespecial 16, 3) := by decide +kernel
theorem d3_4 : decode prog_56_method_3_code 4 = .ok (.aload_n 0, 1) := by decide +kernel
theorem d3_5 : decode prog_56_method_3_code 5 = .ok (.aload_n 1, 1) := by decide +kernel
theorem d3_6 : decode prog_56_method_3_code 6 = .ok (.putfield 21, 3) := by decide +kernel
theorem d3_9 : decode prog_56_method_3_code 9 = .ok (.aload_n 0, 1) := by decide +kernel
theorem d3_10 : decode prog_56_method_3_code 10 = .ok (.aload_n 2, 1) := by decide +kernel
theorem d3_11 : decode prog_56_method_3_code 11 = .ok (.putfield 25, 3) := by decide +kernel
theorem d3_14 : decode prog_56_method_3_code 14 = .ok (.aload_n 0, 1) := by decide +kernel
theorem d3_15 : decode prog_56_method_3_code 15 = .ok (.aload_n 3, 1) := by decide +kernel
theorem d3_16 : decode prog_56_method_3_code 16 = .ok (.putfield 28, 3) := by decide +kernel
theorem d3_19 : decode prog_56_method_3_code 19 = .ok (.aload_n 0, 1) := by decide +kernel
theorem d3_20 : decode prog_56_method_3_code 20 = .ok (.aload 4, 2) := by decide +kernel
theorem d3_22 : decode prog_56_method_3_code 22 = .ok (.putfield 32, 3) := by decide +kernel
theorem d3_25 : decode prog_56_method_3_code 25 = .ok (.return_, 1) := by decide +kernel
theorem ef_3n (m : MethodId) (r0 : Addr) (r1 : Addr) (r2 : Addr) : entryFrame m #[(.ref r0), (.ref r1), (.ref r2), .null, .null] 5 = mkF m 0 #[rv r0, rv r1, rv r2, .val .null, .val .null] [] := by first | (simp [entryFrame, mkF, argsToLocals, Value.category, iv, rv, lv, un, sd]; done) | rfl
def Q3n (Z : State) (r0 : Addr) (r1 : Addr) (r2 : Addr) (h0 : Heap) (n0 : Nat) (v : Option Value) (h : Heap) (L : List Loc) : Prop := v = none ∧ Fr n0 L ∧ Keep h0 h [r0] ∧ Exa Z h r0 "com/example/stutter/stutter/eval/Frame" ∧ Fld Z h r0 "com/example/stutter/stutter/eval/Frame" "parent" "Lcom/example/stutter/stutter/eval/Frame;" .null
set_option maxRecDepth 65536 in
set_option maxHeartbeats 40000000 in
theorem rm3n (l : Launch) (Z : State) (a0 : Array Value) (hw : ∀ d ∈ tables_1, d.before a0 Z = true) (ws : List Jvm.Cond) (r0 : Addr) (r1 : Addr) (r2 : Addr) (h0 : Heap) (n0 : Nat) (Z0 : n0 ≤ h0.size) (E_r0 : Exa Z h0 r0 "com/example/stutter/stutter/eval/Frame") (F_slots : Fld Z h0 r0 "com/example/stutter/stutter/eval/Frame" "slots" "[Lcom/example/stutter/stutter/value/Value;" .null) (F_arguments : Fld Z h0 r0 "com/example/stutter/stutter/eval/Frame" "arguments" "[Lcom/example/stutter/stutter/eval/Node;" .null) (F_caller : Fld Z h0 r0 "com/example/stutter/stutter/eval/Frame" "caller" "Lcom/example/stutter/stutter/eval/Frame;" .null) (F_parent : Fld Z h0 r0 "com/example/stutter/stutter/eval/Frame" "parent" "Lcom/example/stutter/stutter/eval/Frame;" .null) (g_r0 : n0 ≤ r0) :
    MetFree l (⟨"com/example/stutter/stutter/eval/Frame", "<init>", "([Lcom/example/stutter/stutter/value/Value;[Lcom/example/stutter/stutter/eval/Node;Lcom/example/stutter/stutter/eval/Frame;Lcom/example/stutter/stutter/eval/Frame;)V"⟩ : MethodName) (head1 (Jvm.Cond.code (⟨"com/example/stutter/stutter/eval/Frame", "<init>", "([Lcom/example/stutter/stutter/value/Value;[Lcom/example/stutter/stutter/eval/Node;Lcom/example/stutter/stutter/eval/Frame;Lcom/example/stutter/stutter/eval/Frame;)V"⟩ : MethodName) prog_56_method_3_code 5 none :: ws) ({ frames := 1, cells := 0, slots := 0, locals := 12 } : Room)) (fun a U => a = #[(.ref r0), (.ref r1), (.ref r2), .null, .null] ∧ Z.Warmed39 U.vm ∧ U.heap = h0) (fun _ _ _ _ _ => True) (fun _ U o U' => ∃ v L, o = .returned v ∧ Q3n Z r0 r1 r2 h0 n0 v U'.heap L ∧ FrameEnd U o U' L ({ frames := 1, cells := 0, slots := 0, locals := 12 } : Room).cells ({ frames := 1, cells := 0, slots := 0, locals := 12 } : Room).slots) := by
  refine MetFree.of_bodySF (plainFor_of_name pn_3) hisR ?_
  intro p e s m args below meth c s₁ Bd hml0 hP hK
  obtain ⟨rfl, hZ, hh⟩ := hP
  have hx := Bd.exec
  have hby := Bd.bytes
  have hml : c.maxLocals = 5 := hml0
  have hown : s.vm.findClass "com/example/stutter/stutter/eval/Frame" = some m.cls := findClass_of_methodNamed Bd.named
  have hnm := (name_of_methodNamed Bd.named Bd.method).1
  have X0 : Stand p l e ({ frames := 1, cells := 0, slots := 0, locals := 12 } : Room) s m #[(.ref r0), (.ref r1), (.ref r2), .null, .null] below meth c s₁ [] 0 0 := Stand.of_body Bd
  have e0 : s₁.heap = h0 := by rw [← hh, Bd.state]; rfl
  have N0 := Fr.nil n0
  suffices HH : ∀ G : Outcome → State → Prop, (∀ v L U', Q3n Z r0 r1 r2 h0 n0 v U'.heap L → FrameEnd s (.returned v) U' L ({ frames := 1, cells := 0, slots := 0, locals := 12 } : Room).cells ({ frames := 1, cells := 0, slots := 0, locals := 12 } : Room).slots → G (.returned v) U') → Go p.tables e below G (s₁.setTop (mkF m 0 #[rv r0, rv r1, rv r2, .val .null, .val .null] [])) by
    obtain ⟨s2, o, h1, h2, h3, h4⟩ := HH (fun o U' => ∃ v L, o = .returned v ∧ Q3n Z r0 r1 r2 h0 n0 v U'.heap L ∧ FrameEnd s o U' L ({ frames := 1, cells := 0, slots := 0, locals := 12 } : Room).cells ({ frames := 1, cells := 0, slots := 0, locals := 12 } : Room).slots) (fun v L U' q f => ⟨v, L, rfl, q, f⟩)
    exact ⟨s2, o, castTop (ef_3n m r0 r1 r2) h1, h2, h3, h4⟩
  intro G hG
  have K0 := Keep.refl h0 [r0]
  show Go p.tables e below G (s₁.setTop (mkF m 0 #[rv r0, rv r1, rv r2, .val .null, .val .null] []))
  refine Go.stp (fun t_ k_ => XS.aloadN X0.here hx rfl (hb hby d3_0) rfl rfl k_) ?_
  show Go p.tables e below G (s₁.setTop (mkF m 1 #[rv r0, rv r1, rv r2, .val .null, .val .null] [(.ref r0)]))
  obtain ⟨T1, X1, e1, st1⟩ := initO X0 hx hZ hown (hw _ (List.mem_of_getElem? (i := 18) rfl)) (hw _ (List.mem_of_getElem? (i := 19) rfl)) (hw _ (List.mem_of_getElem? (i := 20) rfl)) e0 (g := (mkF m 1 #[rv r0, rv r1, rv r2, .val .null, .val .null] [(.ref r0)])) rfl (by rw [hml]; rfl) rfl (hb hby d3_1) (by decide) (W := 0) (by show 2 * 0 + _ ≤ _; exact Nat.le_of_eq rfl) (by decide)
  refine Go.stp (fun t_ k_ => st1 t_ k_) ?_
  show Go p.tables e below G (T1.setTop (mkF m 4 #[rv r0, rv r1, rv r2, .val .null, .val .null] []))
  refine Go.stp (fun t_ k_ => XS.aloadN X1.here hx rfl (hb hby d3_4) rfl rfl k_) ?_
  show Go p.tables e below G (T1.setTop (mkF m 5 #[rv r0, rv r1, rv r2, .val .null, .val .null] [(.ref r0)]))
  refine Go.stp (fun t_ k_ => XS.aloadN X1.here hx rfl (hb hby d3_5) rfl rfl k_) ?_
  show Go p.tables e below G (T1.setTop (mkF m 6 #[rv r0, rv r1, rv r2, .val .null, .val .null] [(.ref r1), (.ref r0)]))
  obtain ⟨T2, h2, X2, e2, W2, st2⟩ := putF X1 hx hZ hown (host := "") (Or.inl (hw _ (List.mem_of_getElem? (i := 21) rfl))) Via.refl e1 F_slots E_r0 (Or.inr ⟨(hw _ (List.mem_of_getElem? (i := 22) rfl)), rfl, hnm⟩) (hw _ (List.mem_of_getElem? (i := 3) rfl)) (ty := (.array (.object "com/example/stutter/stutter/value/Value"))) (by decide) rfl rfl (g := (mkF m 6 #[rv r0, rv r1, rv r2, .val .null, .val .null] [(.ref r1), (.ref r0)])) rfl rfl (hb hby d3_6)
  have f3 : Fld Z h2 r0 "com/example/stutter/stutter/eval/Frame" "slots" "[Lcom/example/stutter/stutter/value/Value;" (.ref r1) := F_slots.same W2
  have f4 : Exa Z h2 r0 "com/example/stutter/stutter/eval/Frame" := E_r0.wr W2
  have f5 : Fld Z h2 r0 "com/example/stutter/stutter/eval/Frame" "arguments" "[Lcom/example/stutter/stutter/eval/Node;" .null := F_arguments.other W2 (Or.inr (slot_ne (Or.inr (hw _ (List.mem_of_getElem? (i := 24) rfl))) (Or.inr (hw _ (List.mem_of_getElem? (i := 22) rfl))) (by decide) (t := (.array (.object "com/example/stutter/stutter/eval/Node"))) (t' := (.array (.object "com/example/stutter/stutter/value/Value"))) (by decide) (by decide)))
  have f6 : Fld Z h2 r0 "com/example/stutter/stutter/eval/Frame" "caller" "Lcom/example/stutter/stutter/eval/Frame;" .null := F_caller.other W2 (Or.inr (slot_ne (Or.inr (hw _ (List.mem_of_getElem? (i := 26) rfl))) (Or.inr (hw _ (List.mem_of_getElem? (i := 22) rfl))) (by decide) (t := (.object "com/example/stutter/stutter/eval/Frame")) (t' := (.array (.object "com/example/stutter/stutter/value/Value"))) (by decide) (by decide)))
  have f7 : Fld Z h2 r0 "com/example/stutter/stutter/eval/Frame" "parent" "Lcom/example/stutter/stutter/eval/Frame;" .null := F_parent.other W2 (Or.inr (slot_ne (Or.inr (hw _ (List.mem_of_getElem? (i := 28) rfl))) (Or.inr (hw _ (List.mem_of_getElem? (i := 22) rfl))) (by decide) (t := (.object "com/example/stutter/stutter/eval/Frame")) (t' := (.array (.object "com/example/stutter/stutter/value/Value"))) (by decide) (by decide)))
  have N2 := Fr.snoc X2 N0 g_r0
  have K2 := K0.wr W2 (Or.inl (List.mem_of_getElem? (i := 0) rfl))
  have Z2 : n0 ≤ h2.size := Nat.le_trans Z0 (Keep.of_wr W2).1
  refine Go.stp (fun t_ k_ => st2 t_ k_) ?_
  show Go p.tables e below G (T2.setTop (mkF m 9 #[rv r0, rv r1, rv r2, .val .null, .val .null] []))
  refine Go.stp (fun t_ k_ => XS.aloadN X2.here hx rfl (hb hby d3_9) rfl rfl k_) ?_
  show Go p.tables e below G (T2.setTop (mkF m 10 #[rv r0, rv r1, rv r2, .val .null, .val .null] [(.ref r0)]))
  refine Go.stp (fun t_ k_ => XS.aloadN X2.here hx rfl (hb hby d3_10) rfl rfl k_) ?_
  show Go p.tables e below G (T2.setTop (mkF m 11 #[rv r0, rv r1, rv r2, .val .null, .val .null] [(.ref r2), (.ref r0)]))
  obtain ⟨T8, h8, X8, e8, W8, st8⟩ := putF X2 hx hZ hown (host := "") (Or.inl (hw _ (List.mem_of_getElem? (i := 23) rfl))) Via.refl e2 f5 f4 (Or.inr ⟨(hw _ (List.mem_of_getElem? (i := 24) rfl)), rfl, hnm⟩) (hw _ (List.mem_of_getElem? (i := 3) rfl)) (ty := (.array (.object "com/example/stutter/stutter/eval/Node"))) (by decide) rfl rfl (g := (mkF m 11 #[rv r0, rv r1, rv r2, .val .null, .val .null] [(.ref r2), (.ref r0)])) rfl rfl (hb hby d3_11)
  have f9 : Fld Z h8 r0 "com/example/stutter/stutter/eval/Frame" "arguments" "[Lcom/example/stutter/stutter/eval/Node;" (.ref r2) := f5.same W8
  have f10 : Exa Z h8 r0 "com/example/stutter/stutter/eval/Frame" := f4.wr W8
  have f11 : Fld Z h8 r0 "com/example/stutter/stutter/eval/Frame" "caller" "Lcom/example/stutter/stutter/eval/Frame;" .null := f6.other W8 (Or.inr (slot_ne (Or.inr (hw _ (List.mem_of_getElem? (i := 26) rfl))) (Or.inr (hw _ (List.mem_of_getElem? (i := 24) rfl))) (by decide) (t := (.object "com/example/stutter/stutter/eval/Frame")) (t' := (.array (.object "com/example/stutter/stutter/eval/Node"))) (by decide) (by decide)))
  have f12 : Fld Z h8 r0 "com/example/stutter/stutter/eval/Frame" "parent" "Lcom/example/stutter/stutter/eval/Frame;" .null := f7.other W8 (Or.inr (slot_ne (Or.inr (hw _ (List.mem_of_getElem? (i := 28) rfl))) (Or.inr (hw _ (List.mem_of_getElem? (i := 24) rfl))) (by decide) (t := (.object "com/example/stutter/stutter/eval/Frame")) (t' := (.array (.object "com/example/stutter/stutter/eval/Node"))) (by decide) (by decide)))
  have f13 : Fld Z h8 r0 "com/example/stutter/stutter/eval/Frame" "slots" "[Lcom/example/stutter/stutter/value/Value;" (.ref r1) := f3.other W8 (Or.inr (slot_ne (Or.inr (hw _ (List.mem_of_getElem? (i := 22) rfl))) (Or.inr (hw _ (List.mem_of_getElem? (i := 24) rfl))) (by decide) (t := (.array (.object "com/example/stutter/stutter/value/Value"))) (t' := (.array (.object "com/example/stutter/stutter/eval/Node"))) (by decide) (by decide)))
  have N8 := Fr.snoc X8 N2 g_r0
  have K8 := K2.wr W8 (Or.inl (List.mem_of_getElem? (i := 0) rfl))
  have Z8 : n0 ≤ h8.size := Nat.le_trans Z2 (Keep.of_wr W8).1
  refine Go.stp (fun t_ k_ => st8 t_ k_) ?_
  show Go p.tables e below G (T8.setTop (mkF m 14 #[rv r0, rv r1, rv r2, .val .null, .val .null] []))
  refine Go.stp (fun t_ k_ => XS.aloadN X8.here hx rfl (hb hby d3_14) rfl rfl k_) ?_
  show Go p.tables e below G (T8.setTop (mkF m 15 #[rv r0, rv r1, rv r2, .val .null, .val .null] [(.ref r0)]))
  refine Go.stp (fun t_ k_ => XS.aloadN X8.here hx rfl (hb hby d3_15) rfl rfl k_) ?_
  show Go p.tables e below G (T8.setTop (mkF m 16 #[rv r0, rv r1, rv r2, .val .null, .val .null] [.null, (.ref r0)]))
  obtain ⟨T14, h14, X14, e14, W14, st14⟩ := putF X8 hx hZ hown (host := "") (Or.inl (hw _ (List.mem_of_getElem? (i := 25) rfl))) Via.refl e8 f11 f10 (Or.inr ⟨(hw _ (List.mem_of_getElem? (i := 26) rfl)), rfl, hnm⟩) (hw _ (List.mem_of_getElem? (i := 3) rfl)) (ty := (.object "com/example/stutter/stutter/eval/Frame")) (by decide) rfl rfl (g := (mkF m 16 #[rv r0, rv r1, rv r2, .val .null, .val .null] [.null, (.ref r0)])) rfl rfl (hb hby d3_16)
  have f15 : Fld Z h14 r0 "com/example/stutter/stutter/eval/Frame" "caller" "Lcom/example/stutter/stutter/eval/Frame;" .null := f11.same W14
  have f16 : Exa Z h14 r0 "com/example/stutter/stutter/eval/Frame" := f10.wr W14
  have f17 : Fld Z h14 r0 "com/example/stutter/stutter/eval/Frame" "parent" "Lcom/example/stutter/stutter/eval/Frame;" .null := f12.other W14 (Or.inr (slot_ne (Or.inr (hw _ (List.mem_of_getElem? (i := 28) rfl))) (Or.inr (hw _ (List.mem_of_getElem? (i := 26) rfl))) (by decide) (t := (.object "com/example/stutter/stutter/eval/Frame")) (t' := (.object "com/example/stutter/stutter/eval/Frame")) (by decide) (by decide)))
  have f18 : Fld Z h14 r0 "com/example/stutter/stutter/eval/Frame" "slots" "[Lcom/example/stutter/stutter/value/Value;" (.ref r1) := f13.other W14 (Or.inr (slot_ne (Or.inr (hw _ (List.mem_of_getElem? (i := 22) rfl))) (Or.inr (hw _ (List.mem_of_getElem? (i := 26) rfl))) (by decide) (t := (.array (.object "com/example/stutter/stutter/value/Value"))) (t' := (.object "com/example/stutter/stutter/eval/Frame")) (by decide) (by decide)))
  have f19 : Fld Z h14 r0 "com/example/stutter/stutter/eval/Frame" "arguments" "[Lcom/example/stutter/stutter/eval/Node;" (.ref r2) := f9.other W14 (Or.inr (slot_ne (Or.inr (hw _ (List.mem_of_getElem? (i := 24) rfl))) (Or.inr (hw _ (List.mem_of_getElem? (i := 26) rfl))) (by decide) (t := (.array (.object "com/example/stutter/stutter/eval/Node"))) (t' := (.object "com/example/stutter/stutter/eval/Frame")) (by decide) (by decide)))
  have N14 := Fr.snoc X14 N8 g_r0
  have K14 := K8.wr W14 (Or.inl (List.mem_of_getElem? (i := 0) rfl))
  have Z14 : n0 ≤ h14.size := Nat.le_trans Z8 (Keep.of_wr W14).1
  refine Go.stp (fun t_ k_ => st14 t_ k_) ?_
  show Go p.tables e below G (T14.setTop (mkF m 19 #[rv r0, rv r1, rv r2, .val .null, .val .null] []))
  refine Go.stp (fun t_ k_ => XS.aloadN X14.here hx rfl (hb hby d3_19) rfl rfl k_) ?_
  show Go p.tables e below G (T14.setTop (mkF m 20 #[rv r0, rv r1, rv r2, .val .null, .val .null] [(.ref r0)]))
  refine Go.stp (fun t_ k_ => XS.aload X14.here hx rfl (hb hby d3_20) rfl rfl k_) ?_
  show Go p.tables e below G (T14.setTop (mkF m 22 #[rv r0, rv r1, rv r2, .val .null, .val .null] [.null, (.ref r0)]))
  obtain ⟨T20, h20, X20, e20, W20, st20⟩ := putF X14 hx hZ hown (host := "") (Or.inl (hw _ (List.mem_of_getElem? (i := 27) rfl))) Via.refl e14 f17 f16 (Or.inr ⟨(hw _ (List.mem_of_getElem? (i := 28) rfl)), rfl, hnm⟩) (hw _ (List.mem_of_getElem? (i := 3) rfl)) (ty := (.object "com/example/stutter/stutter/eval/Frame")) (by decide) rfl rfl (g := (mkF m 22 #[rv r0, rv r1, rv r2, .val .null, .val .null] [.null, (.ref r0)])) rfl rfl (hb hby d3_22)
  have f21 : Fld Z h20 r0 "com/example/stutter/stutter/eval/Frame" "parent" "Lcom/example/stutter/stutter/eval/Frame;" .null := f17.same W20
  have f22 : Exa Z h20 r0 "com/example/stutter/stutter/eval/Frame" := f16.wr W20
  have f23 : Fld Z h20 r0 "com/example/stutter/stutter/eval/Frame" "slots" "[Lcom/example/stutter/stutter/value/Value;" (.ref r1) := f18.other W20 (Or.inr (slot_ne (Or.inr (hw _ (List.mem_of_getElem? (i := 22) rfl))) (Or.inr (hw _ (List.mem_of_getElem? (i := 28) rfl))) (by decide) (t := (.array (.object "com/example/stutter/stutter/value/Value"))) (t' := (.object "com/example/stutter/stutter/eval/Frame")) (by decide) (by decide)))
  have f24 : Fld Z h20 r0 "com/example/stutter/stutter/eval/Frame" "arguments" "[Lcom/example/stutter/stutter/eval/Node;" (.ref r2) := f19.other W20 (Or.inr (slot_ne (Or.inr (hw _ (List.mem_of_getElem? (i := 24) rfl))) (Or.inr (hw _ (List.mem_of_getElem? (i := 28) rfl))) (by decide) (t := (.array (.object "com/example/stutter/stutter/eval/Node"))) (t' := (.object "com/example/stutter/stutter/eval/Frame")) (by decide) (by decide)))
  have f25 : Fld Z h20 r0 "com/example/stutter/stutter/eval/Frame" "caller" "Lcom/example/stutter/stutter/eval/Frame;" .null := f15.other W20 (Or.inr (slot_ne (Or.inr (hw _ (List.mem_of_getElem? (i := 26) rfl))) (Or.inr (hw _ (List.mem_of_getElem? (i := 28) rfl))) (by decide) (t := (.object "com/example/stutter/stutter/eval/Frame")) (t' := (.object "com/example/stutter/stutter/eval/Frame")) (by decide) (by decide)))
  have N20 := Fr.snoc X20 N14 g_r0
  have K20 := K14.wr W20 (Or.inl (List.mem_of_getElem? (i := 0) rfl))
  have Z20 : n0 ≤ h20.size := Nat.le_trans Z14 (Keep.of_wr W20).1
  refine Go.stp (fun t_ k_ => st20 t_ k_) ?_
  show Go p.tables e below G (T20.setTop (mkF m 25 #[rv r0, rv r1, rv r2, .val .null, .val .null] []))
  obtain ⟨fs, hr, hrun, hended, hW, hsame⟩ := X20.leave (v := none) (fun _ => rfl)
  refine ⟨_, _, X20.returnOut hx Bd.returns (hb hby d3_25) hr, hrun, hended, hG _ _ _ ?_ ⟨⟨_, rfl⟩, hW, hsame.mono (by decide) (by decide)⟩⟩
  show Q3n Z r0 r1 r2 h0 n0 _ T20.heap _
  rw [e20]
  exact ⟨rfl, N20, K20, f22, f21⟩
theorem d2_0 : decode prog_56_method_2_code 0 = .ok (.aload_n 0, 1) := by decide +kernel
theorem d2_1 : decode prog_56_method_2_code 1 = .ok (.iload_n 1, 1) := by decide +kernel
theorem d2_2 : decode prog_56_method_2_code 2 = .ok (.aload_n 2, 1) := by decide +kernel
theorem d2_3 : decode prog_56_method_2_code 3 = .ok (.arraylength, 1) := by decide +kernel
theorem d2_4 : decode prog_56_method_2_code 4 = .ok (.iadd, 1) := by decide +kernel
theorem d2_5 : decode prog_56_method_2_code 5 = .ok (.anewarray 11, 3) := by decide +kernel
theorem d2_8 : decode prog_56_method_2_code 8 = .ok (.aload_n 2, 1) := by decide +kernel
theorem d2_9 : decode prog_56_method_2_code 9 = .ok (.aload_n 3, 1) := by decide +kernel
theorem d2_10 : decode prog_56_method_2_code 10 = .ok (.aload 4, 2) := by decide +kernel
theorem d2_12 : decode prog_56_method_2_code 12 = .ok (.invokespecial 13, 3) := by decide +kernel
theorem d2_15 : decode prog_56_method_2_code 15 = .ok (.return_, 1) := by decide +kernel
theorem ef_2n (m : MethodId) (r0 : Addr) (p1 : Int32) (r2 : Addr) : entryFrame m #[(.ref r0), (.int p1), (.ref r2), .null, .null] 5 = mkF m 0 #[rv r0, iv p1, rv r2, .val .null, .val .null] [] := by first | (simp [entryFrame, mkF, argsToLocals, Value.category, iv, rv, lv, un, sd]; done) | rfl
def Q2n (Z : State) (r0 : Addr) (p1 : Int32) (r2 : Addr) (f : Nat → Value) (h0 : Heap) (n0 : Nat) (v : Option Value) (h : Heap) (L : List Loc) : Prop := v = none ∧ Fr n0 L ∧ Keep h0 h [r0] ∧ Exa Z h r0 "com/example/stutter/stutter/eval/Frame" ∧ Fld Z h r0 "com/example/stutter/stutter/eval/Frame" "parent" "Lcom/example/stutter/stutter/eval/Frame;" .null
set_option maxRecDepth 65536 in
set_option maxHeartbeats 40000000 in
theorem rm2n (l : Launch) (Z : State) (a0 : Array Value) (hw : ∀ d ∈ tables_1, d.before a0 Z = true) (ws : List Jvm.Cond) (r0 : Addr) (p1 : Int32) (r2 : Addr) (f : Nat → Value) (h0 : Heap) (n0 : Nat) (Z0 : n0 ≤ h0.size) (E_r0 : Exa Z h0 r0 "com/example/stutter/stutter/eval/Frame") (F_slots : Fld Z h0 r0 "com/example/stutter/stutter/eval/Frame" "slots" "[Lcom/example/stutter/stutter/value/Value;" .null) (F_arguments : Fld Z h0 r0 "com/example/stutter/stutter/eval/Frame" "arguments" "[Lcom/example/stutter/stutter/eval/Node;" .null) (F_caller : Fld Z h0 r0 "com/example/stutter/stutter/eval/Frame" "caller" "Lcom/example/stutter/stutter/eval/Frame;" .null) (F_parent : Fld Z h0 r0 "com/example/stutter/stutter/eval/Frame" "parent" "Lcom/example/stutter/stutter/eval/Frame;" .null) (g_r0 : n0 ≤ r0) (I_r2 : Ia Z h0 r2 (.object "com/example/stutter/stutter/eval/Node") 0 id f) (hp0 : ¬ (p1 + (0 : Int32) < 0)) (hp7 : (p1 + (0 : Int32)).toNatClampNeg ≤ 7) :
    MetFree l (⟨"com/example/stutter/stutter/eval/Frame", "<init>", "(I[Lcom/example/stutter/stutter/eval/Node;Lcom/example/stutter/stutter/eval/Frame;Lcom/example/stutter/stutter/eval/Frame;)V"⟩ : MethodName) (head1 (Jvm.Cond.code (⟨"com/example/stutter/stutter/eval/Frame", "<init>", "(I[Lcom/example/stutter/stutter/eval/Node;Lcom/example/stutter/stutter/eval/Frame;Lcom/example/stutter/stutter/eval/Frame;)V"⟩ : MethodName) prog_56_method_2_code 5 none :: ws) ({ frames := 2, cells := 1, slots := 7, locals := 28 } : Room)) (fun a U => a = #[(.ref r0), (.int p1), (.ref r2), .null, .null] ∧ Z.Warmed39 U.vm ∧ U.heap = h0) (fun _ _ _ _ _ => True) (fun _ U o U' => ∃ v L, o = .returned v ∧ Q2n Z r0 p1 r2 f h0 n0 v U'.heap L ∧ FrameEnd U o U' L ({ frames := 2, cells := 1, slots := 7, locals := 28 } : Room).cells ({ frames := 2, cells := 1, slots := 7, locals := 28 } : Room).slots) := by
  refine MetFree.of_bodySF (plainFor_of_name pn_3) hisR ?_
  intro p e s m args below meth c s₁ Bd hml0 hP hK
  obtain ⟨rfl, hZ, hh⟩ := hP
  have hx := Bd.exec
  have hby := Bd.bytes
  have hml : c.maxLocals = 5 := hml0
  have hown : s.vm.findClass "com/example/stutter/stutter/eval/Frame" = some m.cls := findClass_of_methodNamed Bd.named
  have hnm := (name_of_methodNamed Bd.named Bd.method).1
  have X0 : Stand p l e ({ frames := 2, cells := 1, slots := 7, locals := 28 } : Room) s m #[(.ref r0), (.int p1), (.ref r2), .null, .null] below meth c s₁ [] 0 0 := Stand.of_body Bd
  have e0 : s₁.heap = h0 := by rw [← hh, Bd.state]; rfl
  have N0 := Fr.nil n0
  suffices HH : ∀ G : Outcome → State → Prop, (∀ v L U', Q2n Z r0 p1 r2 f h0 n0 v U'.heap L → FrameEnd s (.returned v) U' L ({ frames := 2, cells := 1, slots := 7, locals := 28 } : Room).cells ({ frames := 2, cells := 1, slots := 7, locals := 28 } : Room).slots → G (.returned v) U') → Go p.tables e below G (s₁.setTop (mkF m 0 #[rv r0, iv p1, rv r2, .val .null, .val .null] [])) by
    obtain ⟨s2, o, h1, h2, h3, h4⟩ := HH (fun o U' => ∃ v L, o = .returned v ∧ Q2n Z r0 p1 r2 f h0 n0 v U'.heap L ∧ FrameEnd s o U' L ({ frames := 2, cells := 1, slots := 7, locals := 28 } : Room).cells ({ frames := 2, cells := 1, slots := 7, locals := 28 } : Room).slots) (fun v L U' q f => ⟨v, L, rfl, q, f⟩)
    exact ⟨s2, o, castTop (ef_2n m r0 p1 r2) h1, h2, h3, h4⟩
  intro G hG
  have K0 := Keep.refl h0 [r0]
  show Go p.tables e below G (s₁.setTop (mkF m 0 #[rv r0, iv p1, rv r2, .val .null, .val .null] []))
  refine Go.stp (fun t_ k_ => XS.aloadN X0.here hx rfl (hb hby d2_0) rfl rfl k_) ?_
  show Go p.tables e below G (s₁.setTop (mkF m 1 #[rv r0, iv p1, rv r2, .val .null, .val .null] [(.ref r0)]))
  refine Go.stp (fun t_ k_ => XS.iloadN X0.here hx rfl (hb hby d2_1) rfl k_) ?_
  show Go p.tables e below G (s₁.setTop (mkF m 2 #[rv r0, iv p1, rv r2, .val .null, .val .null] [(.int p1), (.ref r0)]))
  refine Go.stp (fun t_ k_ => XS.aloadN X0.here hx rfl (hb hby d2_2) rfl rfl k_) ?_
  show Go p.tables e below G (s₁.setTop (mkF m 3 #[rv r0, iv p1, rv r2, .val .null, .val .null] [(.ref r2), (.int p1), (.ref r0)]))
  obtain ⟨cl1, Ar1, Sz1, -, -⟩ := id I_r2
  refine Go.stp (fun t_ k_ => X0.arraylength hx (by rw [e0]; exact Ar1.1) (State.isArrayOf_alike hZ.alike Ar1.2.1) (g := (mkF m 3 #[rv r0, iv p1, rv r2, .val .null, .val .null] [(.ref r2), (.int p1), (.ref r0)])) rfl rfl (hb hby d2_3) t_ k_) ?_
  rw [Sz1]
  show Go p.tables e below G (s₁.setTop (mkF m 4 #[rv r0, iv p1, rv r2, .val .null, .val .null] [(.int (0 : Int32)), (.int p1), (.ref r0)]))
  refine Go.stp (fun t_ k_ => XS.iadd X0.here hx rfl (hb hby d2_4) rfl k_) ?_
  show Go p.tables e below G (s₁.setTop (mkF m 5 #[rv r0, iv p1, rv r2, .val .null, .val .null] [(.int (p1 + (0 : Int32))), (.ref r0)]))
  obtain ⟨T2, h2, k2, X2, e2, E2, A2, O2, st2⟩ := newR X0 hx hZ hown (hw _ (List.mem_of_getElem? (i := 13) rfl)) (hw _ (List.mem_of_getElem? (i := 14) rfl)) e0 (g := (mkF m 5 #[rv r0, iv p1, rv r2, .val .null, .val .null] [(.int (p1 + (0 : Int32))), (.ref r0)])) rfl (hb hby d2_5) rfl hp0 (cap := 7) hp7 (by decide) (by decide) (by decide)
  obtain ⟨b2, g2⟩ : ∃ z, z = h0.size := ⟨_, rfl⟩
  rw [← g2] at A2 st2
  have u3 : r0 ≠ b2 := Nat.ne_of_lt (Nat.lt_of_lt_of_le E_r0.lt (Nat.le_of_eq g2.symm))
  have u4 : r2 ≠ b2 := Nat.ne_of_lt (Nat.lt_of_lt_of_le I_r2.lt (Nat.le_of_eq g2.symm))
  have g_b2 : n0 ≤ b2 := Nat.le_trans Z0 (Nat.le_of_eq g2.symm)
  have sz_b2 : h0.size ≤ b2 := Nat.le_trans K0.1 (Nat.le_of_eq g2.symm)
  have f5 : Exa Z h2 r0 "com/example/stutter/stutter/eval/Frame" := E_r0.ext E2
  have f6 : Fld Z h2 r0 "com/example/stutter/stutter/eval/Frame" "slots" "[Lcom/example/stutter/stutter/value/Value;" .null := F_slots.ext E2
  have f7 : Fld Z h2 r0 "com/example/stutter/stutter/eval/Frame" "arguments" "[Lcom/example/stutter/stutter/eval/Node;" .null := F_arguments.ext E2
  have f8 : Fld Z h2 r0 "com/example/stutter/stutter/eval/Frame" "caller" "Lcom/example/stutter/stutter/eval/Frame;" .null := F_caller.ext E2
  have f9 : Fld Z h2 r0 "com/example/stutter/stutter/eval/Frame" "parent" "Lcom/example/stutter/stutter/eval/Frame;" .null := F_parent.ext E2
  have f10 : Ia Z h2 r2 (.object "com/example/stutter/stutter/eval/Node") 0 id f := I_r2.ext E2
  have Z2 : n0 ≤ h2.size := Nat.le_trans Z0 E2.1
  have K2 := K0.ext E2
  have f11 : Ia Z h2 b2 (.object "com/example/stutter/stutter/value/Value") (p1 + (0 : Int32)).toNatClampNeg id (fun _ => .null) := Ia.new A2 rfl (Nat.lt_of_le_of_lt hp7 (by decide)) rfl
  refine Go.stp (fun t_ k_ => st2 t_ k_) ?_
  show Go p.tables e below G (T2.setTop (mkF m 8 #[rv r0, iv p1, rv r2, .val .null, .val .null] [(.ref b2), (.ref r0)]))
  refine Go.stp (fun t_ k_ => XS.aloadN X2.here hx rfl (hb hby d2_8) rfl rfl k_) ?_
  show Go p.tables e below G (T2.setTop (mkF m 9 #[rv r0, iv p1, rv r2, .val .null, .val .null] [(.ref r2), (.ref b2), (.ref r0)]))
  refine Go.stp (fun t_ k_ => XS.aloadN X2.here hx rfl (hb hby d2_9) rfl rfl k_) ?_
  show Go p.tables e below G (T2.setTop (mkF m 10 #[rv r0, iv p1, rv r2, .val .null, .val .null] [.null, (.ref r2), (.ref b2), (.ref r0)]))
  refine Go.stp (fun t_ k_ => XS.aload X2.here hx rfl (hb hby d2_10) rfl rfl k_) ?_
  show Go p.tables e below G (T2.setTop (mkF m 12 #[rv r0, iv p1, rv r2, .val .null, .val .null] [.null, .null, (.ref r2), (.ref b2), (.ref r0)]))
  obtain ⟨_, _, ⟨T12, L12, k12, n12⟩, -, X12, ⟨Lc12, hQ12, l12, y12, z12⟩, st12⟩ := X2.specialBack hx (y := (⟨"com/example/stutter/stutter/eval/Frame", "<init>", "([Lcom/example/stutter/stutter/value/Value;[Lcom/example/stutter/stutter/eval/Node;Lcom/example/stutter/stutter/eval/Frame;Lcom/example/stutter/stutter/eval/Frame;)V"⟩ : MethodName)) rfl hown (mvT hZ (hw _ (List.mem_of_getElem? (i := 15) rfl))) (mvT hZ (hw _ (List.mem_of_getElem? (i := 16) rfl))) (mvT hZ (hw _ (List.mem_of_getElem? (i := 17) rfl))) (by decide) (backOf (W := 0) (rm3n l Z a0 hw [] r0 b2 r2 h2 n0 Z2 f5 f6 f7 f8 f9 g_r0) hZ (hw _ (List.mem_of_getElem? (i := 17) rfl)) (hw _ (List.mem_of_getElem? (i := 4) rfl)) (by decide) (by decide)) (g := (mkF m 12 #[rv r0, iv p1, rv r2, .val .null, .val .null] [.null, .null, (.ref r2), (.ref b2), (.ref r0)])) rfl (by rw [hml]; rfl) (Steps.refl _) (a := r0) (argsL := [(.ref b2), (.ref r2), .null, .null]) (rest := []) (lenOf pd_0 rfl) rfl (by show 2 * 0 + _ ≤ _; exact Nat.le_of_eq rfl) (hb hby d2_12) (fun _ _ => ⟨rfl, e2, (by decide : 1 + 0 ≤ _), (by decide : 7 + 0 ≤ _)⟩)
  dsimp only [Pt.U, Pt.locs, Pt.cells, Pt.slots] at X12 l12 y12 z12 st12 hQ12
  subst l12 y12 z12
  obtain ⟨rfl, Nq12, Kc12, Ex12, Fp12⟩ := hQ12
  have N12 := Fr.app N0 Nq12
  have f13 : Exa Z T12.heap r0 "com/example/stutter/stutter/eval/Frame" := f5.keep Kc12
  have f14 : Ia Z T12.heap b2 (.object "com/example/stutter/stutter/value/Value") (p1 + (0 : Int32)).toNatClampNeg id (fun _ => .null) := f11.keep Kc12 (fun q => by simp only [List.mem_cons, List.not_mem_nil, or_false] at q; exact (Ne.symm u3) q)
  have Z12 : n0 ≤ T12.heap.size := Nat.le_trans Z2 Kc12.1
  have K12 := K2.trans Kc12 (fun x q => by
      simp only [List.mem_cons, List.not_mem_nil, or_false] at q
      rw [q]; exact (Or.inl (List.mem_of_getElem? (i := 0) rfl)))
  refine Go.stp (fun t_ k_ => st12.trans k_) ?_
  show Go p.tables e below G (T12.setTop (mkF m 15 #[rv r0, iv p1, rv r2, .val .null, .val .null] []))
  obtain ⟨fs, hr, hrun, hended, hW, hsame⟩ := X12.leave (v := none) (fun _ => rfl)
  refine ⟨_, _, X12.returnOut hx Bd.returns (hb hby d2_15) hr, hrun, hended, hG _ _ _ ?_ ⟨⟨_, rfl⟩, hW, hsame.mono (by decide) (by decide)⟩⟩
  show Q2n Z r0 p1 r2 f h0 n0 _ T12.heap _
  exact ⟨rfl, N12, K12, Ex12, Fp12⟩
theorem ef_3r (m : MethodId) (r0 : Addr) (r1 : Addr) (r2 : Addr) (r3 : Addr) (r4 : Addr) : entryFrame m #[(.ref r0), (.ref r1), (.ref r2), (.ref r3), (.ref r4)] 5 = mkF m 0 #[rv r0, rv r1, rv r2, rv r3, rv r4] [] := by first | (simp [entryFrame, mkF, argsToLocals, Value.category, iv, rv, lv, un, sd]; done) | rfl
def Q3r (Z : State) (r0 : Addr) (r1 : Addr) (r2 : Addr) (r3 : Addr) (r4 : Addr) (h0 : Heap) (n0 : Nat) (v : Option Value) (h : Heap) (L : List Loc) : Prop := v = none ∧ Fr n0 L ∧ Keep h0 h [r0] ∧ Exa Z h r0 "com/example/stutter/stutter/eval/Frame" ∧ Fld Z h r0 "com/example/stutter/stutter/eval/Frame" "parent" "Lcom/example/stutter/stutter/eval/Frame;" (.ref r4)
set_option maxRecDepth 65536 in
set_option maxHeartbeats 40000000 in
theorem rm3r (l : Launch) (Z : State) (a0 : Array Value) (hw : ∀ d ∈ tables_1, d.before a0 Z = true) (ws : List Jvm.Cond) (r0 : Addr) (r1 : Addr) (r2 : Addr) (r3 : Addr) (r4 : Addr) (h0 : Heap) (n0 : Nat) (Z0 : n0 ≤ h0.size) (E_r0 : Exa Z h0 r0 "com/example/stutter/stutter/eval/Frame") (F_slots : Fld Z h0 r0 "com/example/stutter/stutter/eval/Frame" "slots" "[Lcom/example/stutter/stutter/value/Value;" .null) (F_arguments : Fld Z h0 r0 "com/example/stutter/stutter/eval/Frame" "arguments" "[Lcom/example/stutter/stutter/eval/Node;" .null) (F_caller : Fld Z h0 r0 "com/example/stutter/stutter/eval/Frame" "caller" "Lcom/example/stutter/stutter/eval/Frame;" .null) (F_parent : Fld Z h0 r0 "com/example/stutter/stutter/eval/Frame" "parent" "Lcom/example/stutter/stutter/eval/Frame;" .null) (g_r0 : n0 ≤ r0) :
    MetFree l (⟨"com/example/stutter/stutter/eval/Frame", "<init>", "([Lcom/example/stutter/stutter/value/Value;[Lcom/example/stutter/stutter/eval/Node;Lcom/example/stutter/stutter/eval/Frame;Lcom/example/stutter/stutter/eval/Frame;)V"⟩ : MethodName) (head1 (Jvm.Cond.code (⟨"com/example/stutter/stutter/eval/Frame", "<init>", "([Lcom/example/stutter/stutter/value/Value;[Lcom/example/stutter/stutter/eval/Node;Lcom/example/stutter/stutter/eval/Frame;Lcom/example/stutter/stutter/eval/Frame;)V"⟩ : MethodName) prog_56_method_3_code 5 none :: ws) ({ frames := 1, cells := 0, slots := 0, locals := 12 } : Room)) (fun a U => a = #[(.ref r0), (.ref r1), (.ref r2), (.ref r3), (.ref r4)] ∧ Z.Warmed39 U.vm ∧ U.heap = h0) (fun _ _ _ _ _ => True) (fun _ U o U' => ∃ v L, o = .returned v ∧ Q3r Z r0 r1 r2 r3 r4 h0 n0 v U'.heap L ∧ FrameEnd U o U' L ({ frames := 1, cells := 0, slots := 0, locals := 12 } : Room).cells ({ frames := 1, cells := 0, slots := 0, locals := 12 } : Room).slots) := by
  refine MetFree.of_bodySF (plainFor_of_name pn_3) hisR ?_
  intro p e s m args below meth c s₁ Bd hml0 hP hK
  obtain ⟨rfl, hZ, hh⟩ := hP
  have hx := Bd.exec
  have hby := Bd.bytes
  have hml : c.maxLocals = 5 := hml0
  have hown : s.vm.findClass "com/example/stutter/stutter/eval/Frame" = some m.cls := findClass_of_methodNamed Bd.named
  have hnm := (name_of_methodNamed Bd.named Bd.method).1
  have X0 : Stand p l e ({ frames := 1, cells := 0, slots := 0, locals := 12 } : Room) s m #[(.ref r0), (.ref r1), (.ref r2), (.ref r3), (.ref r4)] below meth c s₁ [] 0 0 := Stand.of_body Bd
  have e0 : s₁.heap = h0 := by rw [← hh, Bd.state]; rfl
  have N0 := Fr.nil n0
  suffices HH : ∀ G : Outcome → State → Prop, (∀ v L U', Q3r Z r0 r1 r2 r3 r4 h0 n0 v U'.heap L → FrameEnd s (.returned v) U' L ({ frames := 1, cells := 0, slots := 0, locals := 12 } : Room).cells ({ frames := 1, cells := 0, slots := 0, locals := 12 } : Room).slots → G (.returned v) U') → Go p.tables e below G (s₁.setTop (mkF m 0 #[rv r0, rv r1, rv r2, rv r3, rv r4] [])) by
    obtain ⟨s2, o, h1, h2, h3, h4⟩ := HH (fun o U' => ∃ v L, o = .returned v ∧ Q3r Z r0 r1 r2 r3 r4 h0 n0 v U'.heap L ∧ FrameEnd s o U' L ({ frames := 1, cells := 0, slots := 0, locals := 12 } : Room).cells ({ frames := 1, cells := 0, slots := 0, locals := 12 } : Room).slots) (fun v L U' q f => ⟨v, L, rfl, q, f⟩)
    exact ⟨s2, o, castTop (ef_3r m r0 r1 r2 r3 r4) h1, h2, h3, h4⟩
  intro G hG
  have K0 := Keep.refl h0 [r0]
  show Go p.tables e below G (s₁.setTop (mkF m 0 #[rv r0, rv r1, rv r2, rv r3, rv r4] []))
  refine Go.stp (fun t_ k_ => XS.aloadN X0.here hx rfl (hb hby d3_0) rfl rfl k_) ?_
  show Go p.tables e below G (s₁.setTop (mkF m 1 #[rv r0, rv r1, rv r2, rv r3, rv r4] [(.ref r0)]))
  obtain ⟨T1, X1, e1, st1⟩ := initO X0 hx hZ hown (hw _ (List.mem_of_getElem? (i := 18) rfl)) (hw _ (List.mem_of_getElem? (i := 19) rfl)) (hw _ (List.mem_of_getElem? (i := 20) rfl)) e0 (g := (mkF m 1 #[rv r0, rv r1, rv r2, rv r3, rv r4] [(.ref r0)])) rfl (by rw [hml]; rfl) rfl (hb hby d3_1) (by decide) (W := 0) (by show 2 * 0 + _ ≤ _; exact Nat.le_of_eq rfl) (by decide)
  refine Go.stp (fun t_ k_ => st1 t_ k_) ?_
  show Go p.tables e below G (T1.setTop (mkF m 4 #[rv r0, rv r1, rv r2, rv r3, rv r4] []))
  refine Go.stp (fun t_ k_ => XS.aloadN X1.here hx rfl (hb hby d3_4) rfl rfl k_) ?_
  show Go p.tables e below G (T1.setTop (mkF m 5 #[rv r0, rv r1, rv r2, rv r3, rv r4] [(.ref r0)]))
  refine Go.stp (fun t_ k_ => XS.aloadN X1.here hx rfl (hb hby d3_5) rfl rfl k_) ?_
  show Go p.tables e below G (T1.setTop (mkF m 6 #[rv r0, rv r1, rv r2, rv r3, rv r4] [(.ref r1), (.ref r0)]))
  obtain ⟨T2, h2, X2, e2, W2, st2⟩ := putF X1 hx hZ hown (host := "") (Or.inl (hw _ (List.mem_of_getElem? (i := 21) rfl))) Via.refl e1 F_slots E_r0 (Or.inr ⟨(hw _ (List.mem_of_getElem? (i := 22) rfl)), rfl, hnm⟩) (hw _ (List.mem_of_getElem? (i := 3) rfl)) (ty := (.array (.object "com/example/stutter/stutter/value/Value"))) (by decide) rfl rfl (g := (mkF m 6 #[rv r0, rv r1, rv r2, rv r3, rv r4] [(.ref r1), (.ref r0)])) rfl rfl (hb hby d3_6)
  have f3 : Fld Z h2 r0 "com/example/stutter/stutter/eval/Frame" "slots" "[Lcom/example/stutter/stutter/value/Value;" (.ref r1) := F_slots.same W2
  have f4 : Exa Z h2 r0 "com/example/stutter/stutter/eval/Frame" := E_r0.wr W2
  have f5 : Fld Z h2 r0 "com/example/stutter/stutter/eval/Frame" "arguments" "[Lcom/example/stutter/stutter/eval/Node;" .null := F_arguments.other W2 (Or.inr (slot_ne (Or.inr (hw _ (List.mem_of_getElem? (i := 24) rfl))) (Or.inr (hw _ (List.mem_of_getElem? (i := 22) rfl))) (by decide) (t := (.array (.object "com/example/stutter/stutter/eval/Node"))) (t' := (.array (.object "com/example/stutter/stutter/value/Value"))) (by decide) (by decide)))
  have f6 : Fld Z h2 r0 "com/example/stutter/stutter/eval/Frame" "caller" "Lcom/example/stutter/stutter/eval/Frame;" .null := F_caller.other W2 (Or.inr (slot_ne (Or.inr (hw _ (List.mem_of_getElem? (i := 26) rfl))) (Or.inr (hw _ (List.mem_of_getElem? (i := 22) rfl))) (by decide) (t := (.object "com/example/stutter/stutter/eval/Frame")) (t' := (.array (.object "com/example/stutter/stutter/value/Value"))) (by decide) (by decide)))
  have f7 : Fld Z h2 r0 "com/example/stutter/stutter/eval/Frame" "parent" "Lcom/example/stutter/stutter/eval/Frame;" .null := F_parent.other W2 (Or.inr (slot_ne (Or.inr (hw _ (List.mem_of_getElem? (i := 28) rfl))) (Or.inr (hw _ (List.mem_of_getElem? (i := 22) rfl))) (by decide) (t := (.object "com/example/stutter/stutter/eval/Frame")) (t' := (.array (.object "com/example/stutter/stutter/value/Value"))) (by decide) (by decide)))
  have N2 := Fr.snoc X2 N0 g_r0
  have K2 := K0.wr W2 (Or.inl (List.mem_of_getElem? (i := 0) rfl))
  have Z2 : n0 ≤ h2.size := Nat.le_trans Z0 (Keep.of_wr W2).1
  refine Go.stp (fun t_ k_ => st2 t_ k_) ?_
  show Go p.tables e below G (T2.setTop (mkF m 9 #[rv r0, rv r1, rv r2, rv r3, rv r4] []))
  refine Go.stp (fun t_ k_ => XS.aloadN X2.here hx rfl (hb hby d3_9) rfl rfl k_) ?_
  show Go p.tables e below G (T2.setTop (mkF m 10 #[rv r0, rv r1, rv r2, rv r3, rv r4] [(.ref r0)]))
  refine Go.stp (fun t_ k_ => XS.aloadN X2.here hx rfl (hb hby d3_10) rfl rfl k_) ?_
  show Go p.tables e below G (T2.setTop (mkF m 11 #[rv r0, rv r1, rv r2, rv r3, rv r4] [(.ref r2), (.ref r0)]))
  obtain ⟨T8, h8, X8, e8, W8, st8⟩ := putF X2 hx hZ hown (host := "") (Or.inl (hw _ (List.mem_of_getElem? (i := 23) rfl))) Via.refl e2 f5 f4 (Or.inr ⟨(hw _ (List.mem_of_getElem? (i := 24) rfl)), rfl, hnm⟩) (hw _ (List.mem_of_getElem? (i := 3) rfl)) (ty := (.array (.object "com/example/stutter/stutter/eval/Node"))) (by decide) rfl rfl (g := (mkF m 11 #[rv r0, rv r1, rv r2, rv r3, rv r4] [(.ref r2), (.ref r0)])) rfl rfl (hb hby d3_11)
  have f9 : Fld Z h8 r0 "com/example/stutter/stutter/eval/Frame" "arguments" "[Lcom/example/stutter/stutter/eval/Node;" (.ref r2) := f5.same W8
  have f10 : Exa Z h8 r0 "com/example/stutter/stutter/eval/Frame" := f4.wr W8
  have f11 : Fld Z h8 r0 "com/example/stutter/stutter/eval/Frame" "caller" "Lcom/example/stutter/stutter/eval/Frame;" .null := f6.other W8 (Or.inr (slot_ne (Or.inr (hw _ (List.mem_of_getElem? (i := 26) rfl))) (Or.inr (hw _ (List.mem_of_getElem? (i := 24) rfl))) (by decide) (t := (.object "com/example/stutter/stutter/eval/Frame")) (t' := (.array (.object "com/example/stutter/stutter/eval/Node"))) (by decide) (by decide)))
  have f12 : Fld Z h8 r0 "com/example/stutter/stutter/eval/Frame" "parent" "Lcom/example/stutter/stutter/eval/Frame;" .null := f7.other W8 (Or.inr (slot_ne (Or.inr (hw _ (List.mem_of_getElem? (i := 28) rfl))) (Or.inr (hw _ (List.mem_of_getElem? (i := 24) rfl))) (by decide) (t := (.object "com/example/stutter/stutter/eval/Frame")) (t' := (.array (.object "com/example/stutter/stutter/eval/Node"))) (by decide) (by decide)))
  have f13 : Fld Z h8 r0 "com/example/stutter/stutter/eval/Frame" "slots" "[Lcom/example/stutter/stutter/value/Value;" (.ref r1) := f3.other W8 (Or.inr (slot_ne (Or.inr (hw _ (List.mem_of_getElem? (i := 22) rfl))) (Or.inr (hw _ (List.mem_of_getElem? (i := 24) rfl))) (by decide) (t := (.array (.object "com/example/stutter/stutter/value/Value"))) (t' := (.array (.object "com/example/stutter/stutter/eval/Node"))) (by decide) (by decide)))
  have N8 := Fr.snoc X8 N2 g_r0
  have K8 := K2.wr W8 (Or.inl (List.mem_of_getElem? (i := 0) rfl))
  have Z8 : n0 ≤ h8.size := Nat.le_trans Z2 (Keep.of_wr W8).1
  refine Go.stp (fun t_ k_ => st8 t_ k_) ?_
  show Go p.tables e below G (T8.setTop (mkF m 14 #[rv r0, rv r1, rv r2, rv r3, rv r4] []))
  refine Go.stp (fun t_ k_ => XS.aloadN X8.here hx rfl (hb hby d3_14) rfl rfl k_) ?_
  show Go p.tables e below G (T8.setTop (mkF m 15 #[rv r0, rv r1, rv r2, rv r3, rv r4] [(.ref r0)]))
  refine Go.stp (fun t_ k_ => XS.aloadN X8.here hx rfl (hb hby d3_15) rfl rfl k_) ?_
  show Go p.tables e below G (T8.setTop (mkF m 16 #[rv r0, rv r1, rv r2, rv r3, rv r4] [(.ref r3), (.ref r0)]))
  obtain ⟨T14, h14, X14, e14, W14, st14⟩ := putF X8 hx hZ hown (host := "") (Or.inl (hw _ (List.mem_of_getElem? (i := 25) rfl))) Via.refl e8 f11 f10 (Or.inr ⟨(hw _ (List.mem_of_getElem? (i := 26) rfl)), rfl, hnm⟩) (hw _ (List.mem_of_getElem? (i := 3) rfl)) (ty := (.object "com/example/stutter/stutter/eval/Frame")) (by decide) rfl rfl (g := (mkF m 16 #[rv r0, rv r1, rv r2, rv r3, rv r4] [(.ref r3), (.ref r0)])) rfl rfl (hb hby d3_16)
  have f15 : Fld Z h14 r0 "com/example/stutter/stutter/eval/Frame" "caller" "Lcom/example/stutter/stutter/eval/Frame;" (.ref r3) := f11.same W14
  have f16 : Exa Z h14 r0 "com/example/stutter/stutter/eval/Frame" := f10.wr W14
  have f17 : Fld Z h14 r0 "com/example/stutter/stutter/eval/Frame" "parent" "Lcom/example/stutter/stutter/eval/Frame;" .null := f12.other W14 (Or.inr (slot_ne (Or.inr (hw _ (List.mem_of_getElem? (i := 28) rfl))) (Or.inr (hw _ (List.mem_of_getElem? (i := 26) rfl))) (by decide) (t := (.object "com/example/stutter/stutter/eval/Frame")) (t' := (.object "com/example/stutter/stutter/eval/Frame")) (by decide) (by decide)))
  have f18 : Fld Z h14 r0 "com/example/stutter/stutter/eval/Frame" "slots" "[Lcom/example/stutter/stutter/value/Value;" (.ref r1) := f13.other W14 (Or.inr (slot_ne (Or.inr (hw _ (List.mem_of_getElem? (i := 22) rfl))) (Or.inr (hw _ (List.mem_of_getElem? (i := 26) rfl))) (by decide) (t := (.array (.object "com/example/stutter/stutter/value/Value"))) (t' := (.object "com/example/stutter/stutter/eval/Frame")) (by decide) (by decide)))
  have f19 : Fld Z h14 r0 "com/example/stutter/stutter/eval/Frame" "arguments" "[Lcom/example/stutter/stutter/eval/Node;" (.ref r2) := f9.other W14 (Or.inr (slot_ne (Or.inr (hw _ (List.mem_of_getElem? (i := 24) rfl))) (Or.inr (hw _ (List.mem_of_getElem? (i := 26) rfl))) (by decide) (t := (.array (.object "com/example/stutter/stutter/eval/Node"))) (t' := (.object "com/example/stutter/stutter/eval/Frame")) (by decide) (by decide)))
  have N14 := Fr.snoc X14 N8 g_r0
  have K14 := K8.wr W14 (Or.inl (List.mem_of_getElem? (i := 0) rfl))
  have Z14 : n0 ≤ h14.size := Nat.le_trans Z8 (Keep.of_wr W14).1
  refine Go.stp (fun t_ k_ => st14 t_ k_) ?_
  show Go p.tables e below G (T14.setTop (mkF m 19 #[rv r0, rv r1, rv r2, rv r3, rv r4] []))
  refine Go.stp (fun t_ k_ => XS.aloadN X14.here hx rfl (hb hby d3_19) rfl rfl k_) ?_
  show Go p.tables e below G (T14.setTop (mkF m 20 #[rv r0, rv r1, rv r2, rv r3, rv r4] [(.ref r0)]))
  refine Go.stp (fun t_ k_ => XS.aload X14.here hx rfl (hb hby d3_20) rfl rfl k_) ?_
  show Go p.tables e below G (T14.setTop (mkF m 22 #[rv r0, rv r1, rv r2, rv r3, rv r4] [(.ref r4), (.ref r0)]))
  obtain ⟨T20, h20, X20, e20, W20, st20⟩ := putF X14 hx hZ hown (host := "") (Or.inl (hw _ (List.mem_of_getElem? (i := 27) rfl))) Via.refl e14 f17 f16 (Or.inr ⟨(hw _ (List.mem_of_getElem? (i := 28) rfl)), rfl, hnm⟩) (hw _ (List.mem_of_getElem? (i := 3) rfl)) (ty := (.object "com/example/stutter/stutter/eval/Frame")) (by decide) rfl rfl (g := (mkF m 22 #[rv r0, rv r1, rv r2, rv r3, rv r4] [(.ref r4), (.ref r0)])) rfl rfl (hb hby d3_22)
  have f21 : Fld Z h20 r0 "com/example/stutter/stutter/eval/Frame" "parent" "Lcom/example/stutter/stutter/eval/Frame;" (.ref r4) := f17.same W20
  have f22 : Exa Z h20 r0 "com/example/stutter/stutter/eval/Frame" := f16.wr W20
  have f23 : Fld Z h20 r0 "com/example/stutter/stutter/eval/Frame" "slots" "[Lcom/example/stutter/stutter/value/Value;" (.ref r1) := f18.other W20 (Or.inr (slot_ne (Or.inr (hw _ (List.mem_of_getElem? (i := 22) rfl))) (Or.inr (hw _ (List.mem_of_getElem? (i := 28) rfl))) (by decide) (t := (.array (.object "com/example/stutter/stutter/value/Value"))) (t' := (.object "com/example/stutter/stutter/eval/Frame")) (by decide) (by decide)))
  have f24 : Fld Z h20 r0 "com/example/stutter/stutter/eval/Frame" "arguments" "[Lcom/example/stutter/stutter/eval/Node;" (.ref r2) := f19.other W20 (Or.inr (slot_ne (Or.inr (hw _ (List.mem_of_getElem? (i := 24) rfl))) (Or.inr (hw _ (List.mem_of_getElem? (i := 28) rfl))) (by decide) (t := (.array (.object "com/example/stutter/stutter/eval/Node"))) (t' := (.object "com/example/stutter/stutter/eval/Frame")) (by decide) (by decide)))
  have f25 : Fld Z h20 r0 "com/example/stutter/stutter/eval/Frame" "caller" "Lcom/example/stutter/stutter/eval/Frame;" (.ref r3) := f15.other W20 (Or.inr (slot_ne (Or.inr (hw _ (List.mem_of_getElem? (i := 26) rfl))) (Or.inr (hw _ (List.mem_of_getElem? (i := 28) rfl))) (by decide) (t := (.object "com/example/stutter/stutter/eval/Frame")) (t' := (.object "com/example/stutter/stutter/eval/Frame")) (by decide) (by decide)))
  have N20 := Fr.snoc X20 N14 g_r0
  have K20 := K14.wr W20 (Or.inl (List.mem_of_getElem? (i := 0) rfl))
  have Z20 : n0 ≤ h20.size := Nat.le_trans Z14 (Keep.of_wr W20).1
  refine Go.stp (fun t_ k_ => st20 t_ k_) ?_
  show Go p.tables e below G (T20.setTop (mkF m 25 #[rv r0, rv r1, rv r2, rv r3, rv r4] []))
  obtain ⟨fs, hr, hrun, hended, hW, hsame⟩ := X20.leave (v := none) (fun _ => rfl)
  refine ⟨_, _, X20.returnOut hx Bd.returns (hb hby d3_25) hr, hrun, hended, hG _ _ _ ?_ ⟨⟨_, rfl⟩, hW, hsame.mono (by decide) (by decide)⟩⟩
  show Q3r Z r0 r1 r2 r3 r4 h0 n0 _ T20.heap _
  rw [e20]
  exact ⟨rfl, N20, K20, f22, f21⟩
theorem ef_2r (m : MethodId) (r0 : Addr) (p1 : Int32) (r2 : Addr) (r3 : Addr) (r4 : Addr) : entryFrame m #[(.ref r0), (.int p1), (.ref r2), (.ref r3), (.ref r4)] 5 = mkF m 0 #[rv r0, iv p1, rv r2, rv r3, rv r4] [] := by first | (simp [entryFrame, mkF, argsToLocals, Value.category, iv, rv, lv, un, sd]; done) | rfl
def Q2r (Z : State) (r0 : Addr) (p1 : Int32) (r2 : Addr) (r3 : Addr) (r4 : Addr) (f : Nat → Value) (h0 : Heap) (n0 : Nat) (v : Option Value) (h : Heap) (L : List Loc) : Prop := v = none ∧ Fr n0 L ∧ Keep h0 h [r0] ∧ Exa Z h r0 "com/example/stutter/stutter/eval/Frame" ∧ Fld Z h r0 "com/example/stutter/stutter/eval/Frame" "parent" "Lcom/example/stutter/stutter/eval/Frame;" (.ref r4)
set_option maxRecDepth 65536 in
set_option maxHeartbeats 40000000 in
theorem rm2r (l : Launch) (Z : State) (a0 : Array Value) (hw : ∀ d ∈ tables_1, d.before a0 Z = true) (ws : List Jvm.Cond) (r0 : Addr) (p1 : Int32) (r2 : Addr) (r3 : Addr) (r4 : Addr) (f : Nat → Value) (h0 : Heap) (n0 : Nat) (Z0 : n0 ≤ h0.size) (E_r0 : Exa Z h0 r0 "com/example/stutter/stutter/eval/Frame") (F_slots : Fld Z h0 r0 "com/example/stutter/stutter/eval/Frame" "slots" "[Lcom/example/stutter/stutter/value/Value;" .null) (F_arguments : Fld Z h0 r0 "com/example/stutter/stutter/eval/Frame" "arguments" "[Lcom/example/stutter/stutter/eval/Node;" .null) (F_caller : Fld Z h0 r0 "com/example/stutter/stutter/eval/Frame" "caller" "Lcom/example/stutter/stutter/eval/Frame;" .null) (F_parent : Fld Z h0 r0 "com/example/stutter/stutter/eval/Frame" "parent" "Lcom/example/stutter/stutter/eval/Frame;" .null) (g_r0 : n0 ≤ r0) (I_r2 : Ia Z h0 r2 (.object "com/example/stutter/stutter/eval/Node") 0 id f) (hp0 : ¬ (p1 + (0 : Int32) < 0)) (hp7 : (p1 + (0 : Int32)).toNatClampNeg ≤ 7) :
    MetFree l (⟨"com/example/stutter/stutter/eval/Frame", "<init>", "(I[Lcom/example/stutter/stutter/eval/Node;Lcom/example/stutter/stutter/eval/Frame;Lcom/example/stutter/stutter/eval/Frame;)V"⟩ : MethodName) (head1 (Jvm.Cond.code (⟨"com/example/stutter/stutter/eval/Frame", "<init>", "(I[Lcom/example/stutter/stutter/eval/Node;Lcom/example/stutter/stutter/eval/Frame;Lcom/example/stutter/stutter/eval/Frame;)V"⟩ : MethodName) prog_56_method_2_code 5 none :: ws) ({ frames := 2, cells := 1, slots := 7, locals := 28 } : Room)) (fun a U => a = #[(.ref r0), (.int p1), (.ref r2), (.ref r3), (.ref r4)] ∧ Z.Warmed39 U.vm ∧ U.heap = h0) (fun _ _ _ _ _ => True) (fun _ U o U' => ∃ v L, o = .returned v ∧ Q2r Z r0 p1 r2 r3 r4 f h0 n0 v U'.heap L ∧ FrameEnd U o U' L ({ frames := 2, cells := 1, slots := 7, locals := 28 } : Room).cells ({ frames := 2, cells := 1, slots := 7, locals := 28 } : Room).slots) := by
  refine MetFree.of_bodySF (plainFor_of_name pn_3) hisR ?_
  intro p e s m args below meth c s₁ Bd hml0 hP hK
  obtain ⟨rfl, hZ, hh⟩ := hP
  have hx := Bd.exec
  have hby := Bd.bytes
  have hml : c.maxLocals = 5 := hml0
  have hown : s.vm.findClass "com/example/stutter/stutter/eval/Frame" = some m.cls := findClass_of_methodNamed Bd.named
  have hnm := (name_of_methodNamed Bd.named Bd.method).1
  have X0 : Stand p l e ({ frames := 2, cells := 1, slots := 7, locals := 28 } : Room) s m #[(.ref r0), (.int p1), (.ref r2), (.ref r3), (.ref r4)] below meth c s₁ [] 0 0 := Stand.of_body Bd
  have e0 : s₁.heap = h0 := by rw [← hh, Bd.state]; rfl
  have N0 := Fr.nil n0
  suffices HH : ∀ G : Outcome → State → Prop, (∀ v L U', Q2r Z r0 p1 r2 r3 r4 f h0 n0 v U'.heap L → FrameEnd s (.returned v) U' L ({ frames := 2, cells := 1, slots := 7, locals := 28 } : Room).cells ({ frames := 2, cells := 1, slots := 7, locals := 28 } : Room).slots → G (.returned v) U') → Go p.tables e below G (s₁.setTop (mkF m 0 #[rv r0, iv p1, rv r2, rv r3, rv r4] [])) by
    obtain ⟨s2, o, h1, h2, h3, h4⟩ := HH (fun o U' => ∃ v L, o = .returned v ∧ Q2r Z r0 p1 r2 r3 r4 f h0 n0 v U'.heap L ∧ FrameEnd s o U' L ({ frames := 2, cells := 1, slots := 7, locals := 28 } : Room).cells ({ frames := 2, cells := 1, slots := 7, locals := 28 } : Room).slots) (fun v L U' q f => ⟨v, L, rfl, q, f⟩)
    exact ⟨s2, o, castTop (ef_2r m r0 p1 r2 r3 r4) h1, h2, h3, h4⟩
  intro G hG
  have K0 := Keep.refl h0 [r0]
  show Go p.tables e below G (s₁.setTop (mkF m 0 #[rv r0, iv p1, rv r2, rv r3, rv r4] []))
  refine Go.stp (fun t_ k_ => XS.aloadN X0.here hx rfl (hb hby d2_0) rfl rfl k_) ?_
  show Go p.tables e below G (s₁.setTop (mkF m 1 #[rv r0, iv p1, rv r2, rv r3, rv r4] [(.ref r0)]))
  refine Go.stp (fun t_ k_ => XS.iloadN X0.here hx rfl (hb hby d2_1) rfl k_) ?_
  show Go p.tables e below G (s₁.setTop (mkF m 2 #[rv r0, iv p1, rv r2, rv r3, rv r4] [(.int p1), (.ref r0)]))
  refine Go.stp (fun t_ k_ => XS.aloadN X0.here hx rfl (hb hby d2_2) rfl rfl k_) ?_
  show Go p.tables e below G (s₁.setTop (mkF m 3 #[rv r0, iv p1, rv r2, rv r3, rv r4] [(.ref r2), (.int p1), (.ref r0)]))
  obtain ⟨cl1, Ar1, Sz1, -, -⟩ := id I_r2
  refine Go.stp (fun t_ k_ => X0.arraylength hx (by rw [e0]; exact Ar1.1) (State.isArrayOf_alike hZ.alike Ar1.2.1) (g := (mkF m 3 #[rv r0, iv p1, rv r2, rv r3, rv r4] [(.ref r2), (.int p1), (.ref r0)])) rfl rfl (hb hby d2_3) t_ k_) ?_
  rw [Sz1]
  show Go p.tables e below G (s₁.setTop (mkF m 4 #[rv r0, iv p1, rv r2, rv r3, rv r4] [(.int (0 : Int32)), (.int p1), (.ref r0)]))
  refine Go.stp (fun t_ k_ => XS.iadd X0.here hx rfl (hb hby d2_4) rfl k_) ?_
  show Go p.tables e below G (s₁.setTop (mkF m 5 #[rv r0, iv p1, rv r2, rv r3, rv r4] [(.int (p1 + (0 : Int32))), (.ref r0)]))
  obtain ⟨T2, h2, k2, X2, e2, E2, A2, O2, st2⟩ := newR X0 hx hZ hown (hw _ (List.mem_of_getElem? (i := 13) rfl)) (hw _ (List.mem_of_getElem? (i := 14) rfl)) e0 (g := (mkF m 5 #[rv r0, iv p1, rv r2, rv r3, rv r4] [(.int (p1 + (0 : Int32))), (.ref r0)])) rfl (hb hby d2_5) rfl hp0 (cap := 7) hp7 (by decide) (by decide) (by decide)
  obtain ⟨b2, g2⟩ : ∃ z, z = h0.size := ⟨_, rfl⟩
  rw [← g2] at A2 st2
  have u3 : r0 ≠ b2 := Nat.ne_of_lt (Nat.lt_of_lt_of_le E_r0.lt (Nat.le_of_eq g2.symm))
  have u4 : r2 ≠ b2 := Nat.ne_of_lt (Nat.lt_of_lt_of_le I_r2.lt (Nat.le_of_eq g2.symm))
  have g_b2 : n0 ≤ b2 := Nat.le_trans Z0 (Nat.le_of_eq g2.symm)
  have sz_b2 : h0.size ≤ b2 := Nat.le_trans K0.1 (Nat.le_of_eq g2.symm)
  have f5 : Exa Z h2 r0 "com/example/stutter/stutter/eval/Frame" := E_r0.ext E2
  have f6 : Fld Z h2 r0 "com/example/stutter/stutter/eval/Frame" "slots" "[Lcom/example/stutter/stutter/value/Value;" .null := F_slots.ext E2
  have f7 : Fld Z h2 r0 "com/example/stutter/stutter/eval/Frame" "arguments" "[Lcom/example/stutter/stutter/eval/Node;" .null := F_arguments.ext E2
  have f8 : Fld Z h2 r0 "com/example/stutter/stutter/eval/Frame" "caller" "Lcom/example/stutter/stutter/eval/Frame;" .null := F_caller.ext E2
  have f9 : Fld Z h2 r0 "com/example/stutter/stutter/eval/Frame" "parent" "Lcom/example/stutter/stutter/eval/Frame;" .null := F_parent.ext E2
  have f10 : Ia Z h2 r2 (.object "com/example/stutter/stutter/eval/Node") 0 id f := I_r2.ext E2
  have Z2 : n0 ≤ h2.size := Nat.le_trans Z0 E2.1
  have K2 := K0.ext E2
  have f11 : Ia Z h2 b2 (.object "com/example/stutter/stutter/value/Value") (p1 + (0 : Int32)).toNatClampNeg id (fun _ => .null) := Ia.new A2 rfl (Nat.lt_of_le_of_lt hp7 (by decide)) rfl
  refine Go.stp (fun t_ k_ => st2 t_ k_) ?_
  show Go p.tables e below G (T2.setTop (mkF m 8 #[rv r0, iv p1, rv r2, rv r3, rv r4] [(.ref b2), (.ref r0)]))
  refine Go.stp (fun t_ k_ => XS.aloadN X2.here hx rfl (hb hby d2_8) rfl rfl k_) ?_
  show Go p.tables e below G (T2.setTop (mkF m 9 #[rv r0, iv p1, rv r2, rv r3, rv r4] [(.ref r2), (.ref b2), (.ref r0)]))
  refine Go.stp (fun t_ k_ => XS.aloadN X2.here hx rfl (hb hby d2_9) rfl rfl k_) ?_
  show Go p.tables e below G (T2.setTop (mkF m 10 #[rv r0, iv p1, rv r2, rv r3, rv r4] [(.ref r3), (.ref r2), (.ref b2), (.ref r0)]))
  refine Go.stp (fun t_ k_ => XS.aload X2.here hx rfl (hb hby d2_10) rfl rfl k_) ?_
  show Go p.tables e below G (T2.setTop (mkF m 12 #[rv r0, iv p1, rv r2, rv r3, rv r4] [(.ref r4), (.ref r3), (.ref r2), (.ref b2), (.ref r0)]))
  obtain ⟨_, _, ⟨T12, L12, k12, n12⟩, -, X12, ⟨Lc12, hQ12, l12, y12, z12⟩, st12⟩ := X2.specialBack hx (y := (⟨"com/example/stutter/stutter/eval/Frame", "<init>", "([Lcom/example/stutter/stutter/value/Value;[Lcom/example/stutter/stutter/eval/Node;Lcom/example/stutter/stutter/eval/Frame;Lcom/example/stutter/stutter/eval/Frame;)V"⟩ : MethodName)) rfl hown (mvT hZ (hw _ (List.mem_of_getElem? (i := 15) rfl))) (mvT hZ (hw _ (List.mem_of_getElem? (i := 16) rfl))) (mvT hZ (hw _ (List.mem_of_getElem? (i := 17) rfl))) (by decide) (backOf (W := 0) (rm3r l Z a0 hw [] r0 b2 r2 r3 r4 h2 n0 Z2 f5 f6 f7 f8 f9 g_r0) hZ (hw _ (List.mem_of_getElem? (i := 17) rfl)) (hw _ (List.mem_of_getElem? (i := 4) rfl)) (by decide) (by decide)) (g := (mkF m 12 #[rv r0, iv p1, rv r2, rv r3, rv r4] [(.ref r4), (.ref r3), (.ref r2), (.ref b2), (.ref r0)])) rfl (by rw [hml]; rfl) (Steps.refl _) (a := r0) (argsL := [(.ref b2), (.ref r2), (.ref r3), (.ref r4)]) (rest := []) (lenOf pd_0 rfl) rfl (by show 2 * 0 + _ ≤ _; exact Nat.le_of_eq rfl) (hb hby d2_12) (fun _ _ => ⟨rfl, e2, (by decide : 1 + 0 ≤ _), (by decide : 7 + 0 ≤ _)⟩)
  dsimp only [Pt.U, Pt.locs, Pt.cells, Pt.slots] at X12 l12 y12 z12 st12 hQ12
  subst l12 y12 z12
  obtain ⟨rfl, Nq12, Kc12, Ex12, Fp12⟩ := hQ12
  have N12 := Fr.app N0 Nq12
  have f13 : Exa Z T12.heap r0 "com/example/stutter/stutter/eval/Frame" := f5.keep Kc12
  have f14 : Ia Z T12.heap b2 (.object "com/example/stutter/stutter/value/Value") (p1 + (0 : Int32)).toNatClampNeg id (fun _ => .null) := f11.keep Kc12 (fun q => by simp only [List.mem_cons, List.not_mem_nil, or_false] at q; exact (Ne.symm u3) q)
  have Z12 : n0 ≤ T12.heap.size := Nat.le_trans Z2 Kc12.1
  have K12 := K2.trans Kc12 (fun x q => by
      simp only [List.mem_cons, List.not_mem_nil, or_false] at q
      rw [q]; exact (Or.inl (List.mem_of_getElem? (i := 0) rfl)))
  refine Go.stp (fun t_ k_ => st12.trans k_) ?_
  show Go p.tables e below G (T12.setTop (mkF m 15 #[rv r0, iv p1, rv r2, rv r3, rv r4] []))
  obtain ⟨fs, hr, hrun, hended, hW, hsame⟩ := X12.leave (v := none) (fun _ => rfl)
  refine ⟨_, _, X12.returnOut hx Bd.returns (hb hby d2_15) hr, hrun, hended, hG _ _ _ ?_ ⟨⟨_, rfl⟩, hW, hsame.mono (by decide) (by decide)⟩⟩
  show Q2r Z r0 p1 r2 r3 r4 f h0 n0 _ T12.heap _
  exact ⟨rfl, N12, K12, Ex12, Fp12⟩
theorem d1_0 : decode prog_56_method_1_code 0 = .ok (.aload_n 0, 1) := by decide +kernel
theorem d1_1 : decode prog_56_method_1_code 1 = .ok (.iload_n 1, 1) := by decide +kernel
theorem d1_2 : decode prog_56_method_1_code 2 = .ok (.getstatic 1, 3) := by decide +kernel
theorem d1_5 : decode prog_56_method_1_code 5 = .ok (.aconst_null, 1) := by decide +kernel
theorem d1_6 : decode prog_56_method_1_code 6 = .ok (.aconst_null, 1) := by decide +kernel
theorem d1_7 : decode prog_56_method_1_code 7 = .ok (.invokespecial 7, 3) := by decide +kernel
theorem d1_10 : decode prog_56_method_1_code 10 = .ok (.return_, 1) := by decide +kernel
theorem ef_1 (m : MethodId) (r0 : Addr) (p1 : Int32) : entryFrame m #[(.ref r0), (.int p1)] 2 = mkF m 0 #[rv r0, iv p1] [] := by first | (simp [entryFrame, mkF, argsToLocals, Value.category, iv, rv, lv, un, sd]; done) | rfl
def Q1 (Z : State) (r0 : Addr) (p1 : Int32) (aN : Addr) (f : Nat → Value) (h0 : Heap) (n0 : Nat) (v : Option Value) (h : Heap) (L : List Loc) : Prop := v = none ∧ Fr n0 L ∧ Keep h0 h [r0] ∧ Exa Z h r0 "com/example/stutter/stutter/eval/Frame" ∧ Fld Z h r0 "com/example/stutter/stutter/eval/Frame" "parent" "Lcom/example/stutter/stutter/eval/Frame;" .null
set_option maxRecDepth 65536 in
set_option maxHeartbeats 40000000 in
theorem rm1 (l : Launch) (Z : State) (a0 : Array Value) (hw : ∀ d ∈ tables_1, d.before a0 Z = true) (ws : List Jvm.Cond) (r0 : Addr) (p1 : Int32) (aN : Addr) (f : Nat → Value) (h0 : Heap) (n0 : Nat) (Z0 : n0 ≤ h0.size) (E_r0 : Exa Z h0 r0 "com/example/stutter/stutter/eval/Frame") (F_slots : Fld Z h0 r0 "com/example/stutter/stutter/eval/Frame" "slots" "[Lcom/example/stutter/stutter/value/Value;" .null) (F_arguments : Fld Z h0 r0 "com/example/stutter/stutter/eval/Frame" "arguments" "[Lcom/example/stutter/stutter/eval/Node;" .null) (F_caller : Fld Z h0 r0 "com/example/stutter/stutter/eval/Frame" "caller" "Lcom/example/stutter/stutter/eval/Frame;" .null) (F_parent : Fld Z h0 r0 "com/example/stutter/stutter/eval/Frame" "parent" "Lcom/example/stutter/stutter/eval/Frame;" .null) (g_r0 : n0 ≤ r0) (S_aN : Sta Z h0 "com/example/stutter/stutter/eval/Frame" "NO_ARGUMENTS" "[Lcom/example/stutter/stutter/eval/Node;" (.ref aN)) (I_aN : Ia Z h0 aN (.object "com/example/stutter/stutter/eval/Node") 0 id f) (hp0 : ¬ (p1 + (0 : Int32) < 0)) (hp7 : (p1 + (0 : Int32)).toNatClampNeg ≤ 7) :
    MetFree l (⟨"com/example/stutter/stutter/eval/Frame", "<init>", "(I)V"⟩ : MethodName) (head1 (Jvm.Cond.code (⟨"com/example/stutter/stutter/eval/Frame", "<init>", "(I)V"⟩ : MethodName) prog_56_method_1_code 2 none :: ws) ({ frames := 3, cells := 1, slots := 7, locals := 44 } : Room)) (fun a U => a = #[(.ref r0), (.int p1)] ∧ Z.Warmed39 U.vm ∧ U.heap = h0) (fun _ _ _ _ _ => True) (fun _ U o U' => ∃ v L, o = .returned v ∧ Q1 Z r0 p1 aN f h0 n0 v U'.heap L ∧ FrameEnd U o U' L ({ frames := 3, cells := 1, slots := 7, locals := 44 } : Room).cells ({ frames := 3, cells := 1, slots := 7, locals := 44 } : Room).slots) := by
  refine MetFree.of_bodySF (plainFor_of_name pn_3) hisR ?_
  intro p e s m args below meth c s₁ Bd hml0 hP hK
  obtain ⟨rfl, hZ, hh⟩ := hP
  have hx := Bd.exec
  have hby := Bd.bytes
  have hml : c.maxLocals = 2 := hml0
  have hown : s.vm.findClass "com/example/stutter/stutter/eval/Frame" = some m.cls := findClass_of_methodNamed Bd.named
  have hnm := (name_of_methodNamed Bd.named Bd.method).1
  have X0 : Stand p l e ({ frames := 3, cells := 1, slots := 7, locals := 44 } : Room) s m #[(.ref r0), (.int p1)] below meth c s₁ [] 0 0 := Stand.of_body Bd
  have e0 : s₁.heap = h0 := by rw [← hh, Bd.state]; rfl
  have N0 := Fr.nil n0
  suffices HH : ∀ G : Outcome → State → Prop, (∀ v L U', Q1 Z r0 p1 aN f h0 n0 v U'.heap L → FrameEnd s (.returned v) U' L ({ frames := 3, cells := 1, slots := 7, locals := 44 } : Room).cells ({ frames := 3, cells := 1, slots := 7, locals := 44 } : Room).slots → G (.returned v) U') → Go p.tables e below G (s₁.setTop (mkF m 0 #[rv r0, iv p1] [])) by
    obtain ⟨s2, o, h1, h2, h3, h4⟩ := HH (fun o U' => ∃ v L, o = .returned v ∧ Q1 Z r0 p1 aN f h0 n0 v U'.heap L ∧ FrameEnd s o U' L ({ frames := 3, cells := 1, slots := 7, locals := 44 } : Room).cells ({ frames := 3, cells := 1, slots := 7, locals := 44 } : Room).slots) (fun v L U' q f => ⟨v, L, rfl, q, f⟩)
    exact ⟨s2, o, castTop (ef_1 m r0 p1) h1, h2, h3, h4⟩
  intro G hG
  have K0 := Keep.refl h0 [r0]
  show Go p.tables e below G (s₁.setTop (mkF m 0 #[rv r0, iv p1] []))
  refine Go.stp (fun t_ k_ => XS.aloadN X0.here hx rfl (hb hby d1_0) rfl rfl k_) ?_
  show Go p.tables e below G (s₁.setTop (mkF m 1 #[rv r0, iv p1] [(.ref r0)]))
  refine Go.stp (fun t_ k_ => XS.iloadN X0.here hx rfl (hb hby d1_1) rfl k_) ?_
  show Go p.tables e below G (s₁.setTop (mkF m 2 #[rv r0, iv p1] [(.int p1), (.ref r0)]))
  obtain ⟨T1, X1, e1, st1⟩ := getS2 X0 hx hZ hown (host := "") (Or.inl (hw _ (List.mem_of_getElem? (i := 8) rfl))) Via.refl e0 S_aN (g := (mkF m 2 #[rv r0, iv p1] [(.int p1), (.ref r0)])) rfl (hb hby d1_2)
  refine Go.stp (fun t_ k_ => st1 t_ k_) ?_
  show Go p.tables e below G (T1.setTop (mkF m 5 #[rv r0, iv p1] [(.ref aN), (.int p1), (.ref r0)]))
  refine Go.stp (fun t_ k_ => XS.aconstNull X1.here hx rfl (hb hby d1_5) k_) ?_
  show Go p.tables e below G (T1.setTop (mkF m 6 #[rv r0, iv p1] [.null, (.ref aN), (.int p1), (.ref r0)]))
  refine Go.stp (fun t_ k_ => XS.aconstNull X1.here hx rfl (hb hby d1_6) k_) ?_
  show Go p.tables e below G (T1.setTop (mkF m 7 #[rv r0, iv p1] [.null, .null, (.ref aN), (.int p1), (.ref r0)]))
  obtain ⟨_, _, ⟨T2, L2, k2, n2⟩, -, X2, ⟨Lc2, hQ2, l2, y2, z2⟩, st2⟩ := X1.specialBack hx (y := (⟨"com/example/stutter/stutter/eval/Frame", "<init>", "(I[Lcom/example/stutter/stutter/eval/Node;Lcom/example/stutter/stutter/eval/Frame;Lcom/example/stutter/stutter/eval/Frame;)V"⟩ : MethodName)) rfl hown (mvT hZ (hw _ (List.mem_of_getElem? (i := 10) rfl))) (mvT hZ (hw _ (List.mem_of_getElem? (i := 11) rfl))) (mvT hZ (hw _ (List.mem_of_getElem? (i := 12) rfl))) (by decide) (backOf (W := 0) (rm2n l Z a0 hw [] r0 p1 aN f h0 n0 Z0 E_r0 F_slots F_arguments F_caller F_parent g_r0 I_aN hp0 hp7) hZ (hw _ (List.mem_of_getElem? (i := 12) rfl)) (hw _ (List.mem_of_getElem? (i := 4) rfl)) (by decide) (by decide)) (g := (mkF m 7 #[rv r0, iv p1] [.null, .null, (.ref aN), (.int p1), (.ref r0)])) rfl (by rw [hml]; rfl) (Steps.refl _) (a := r0) (argsL := [(.int p1), (.ref aN), .null, .null]) (rest := []) (lenOf pd_1 rfl) rfl (by show 2 * 0 + _ ≤ _; exact Nat.le_of_eq rfl) (hb hby d1_7) (fun _ _ => ⟨rfl, e1, (by decide : 0 + 1 ≤ _), (by decide : 0 + 7 ≤ _)⟩)
  dsimp only [Pt.U, Pt.locs, Pt.cells, Pt.slots] at X2 l2 y2 z2 st2 hQ2
  subst l2 y2 z2
  obtain ⟨rfl, Nq2, Kc2, Ex2, Fp2⟩ := hQ2
  have N2 := Fr.app N0 Nq2
  have f3 : Exa Z T2.heap r0 "com/example/stutter/stutter/eval/Frame" := E_r0.keep Kc2
  have f4 : Sta Z T2.heap "com/example/stutter/stutter/eval/Frame" "NO_ARGUMENTS" "[Lcom/example/stutter/stutter/eval/Node;" (.ref aN) := sta_keep S_aN Kc2 E_r0
  have Z2 : n0 ≤ T2.heap.size := Nat.le_trans Z0 Kc2.1
  have K2 := K0.trans Kc2 (fun x q => by
      simp only [List.mem_cons, List.not_mem_nil, or_false] at q
      rw [q]; exact (Or.inl (List.mem_of_getElem? (i := 0) rfl)))
  refine Go.stp (fun t_ k_ => st2.trans k_) ?_
  show Go p.tables e below G (T2.setTop (mkF m 10 #[rv r0, iv p1] []))
  obtain ⟨fs, hr, hrun, hended, hW, hsame⟩ := X2.leave (v := none) (fun _ => rfl)
  refine ⟨_, _, X2.returnOut hx Bd.returns (hb hby d1_10) hr, hrun, hended, hG _ _ _ ?_ ⟨⟨_, rfl⟩, hW, hsame.mono (by decide) (by decide)⟩⟩
  show Q1 Z r0 p1 aN f h0 n0 _ T2.heap _
  exact ⟨rfl, N2, K2, Ex2, Fp2⟩
theorem pn_5 : plainName "com/example/stutter/stutter/eval/FrameUpPinLaw" = true := by first | (simp [plainName, overriddenIn]; done) | decide +kernel
theorem d5_0 : decode method_3_code 0 = .ok (.iload_n 0, 1) := by decide +kernel
theorem d5_1 : decode method_3_code 1 = .ok (.ifCond .ne 5, 3) := by decide +kernel
theorem d5_4 : decode method_3_code 4 = .ok (.aload_n 1, 1) := by decide +kernel
theorem d5_5 : decode method_3_code 5 = .ok (.areturn, 1) := by decide +kernel
theorem d5_6 : decode method_3_code 6 = .ok (.iload_n 0, 1) := by decide +kernel
theorem d5_7 : decode method_3_code 7 = .ok (.iconst 1, 1) := by decide +kernel
theorem d5_8 : decode method_3_code 8 = .ok (.if_icmp .ne 5, 3) := by decide +kernel
theorem d5_11 : decode method_3_code 11 = .ok (.aload_n 2, 1) := by decide +kernel
theorem d5_12 : decode method_3_code 12 = .ok (.areturn, 1) := by decide +kernel
theorem d5_13 : decode method_3_code 13 = .ok (.iload_n 0, 1) := by decide +kernel
theorem d5_14 : decode method_3_code 14 = .ok (.iconst 2, 1) := by decide +kernel
theorem d5_15 : decode method_3_code 15 = .ok (.if_icmp .ne 5, 3) := by decide +kernel
theorem d5_18 : decode method_3_code 18 = .ok (.aload_n 3, 1) := by decide +kernel
theorem d5_19 : decode method_3_code 19 = .ok (.areturn, 1) := by decide +kernel
theorem d5_20 : decode method_3_code 20 = .ok (.aload 4, 2) := by decide +kernel
theorem d5_22 : decode method_3_code 22 = .ok (.areturn, 1) := by decide +kernel
theorem ef_5 (m : MethodId) (p0 : Int32) (r1 : Addr) (r2 : Addr) (r3 : Addr) (r4 : Addr) : entryFrame m #[(.int p0), (.ref r1), (.ref r2), (.ref r3), (.ref r4)] 5 = mkF m 0 #[iv p0, rv r1, rv r2, rv r3, rv r4] [] := by first | (simp [entryFrame, mkF, argsToLocals, Value.category, iv, rv, lv, un, sd]; done) | rfl
def Q5 (Z : State) (p0 : Int32) (r1 : Addr) (r2 : Addr) (r3 : Addr) (r4 : Addr) (z : Addr) (h0 : Heap) (n0 : Nat) (v : Option Value) (h : Heap) (L : List Loc) : Prop := v = some (.ref z) ∧ Fr n0 L ∧ h = h0
set_option maxRecDepth 65536 in
set_option maxHeartbeats 40000000 in
theorem rm5 (l : Launch) (Z : State) (a0 : Array Value) (hw : ∀ d ∈ tables_1, d.before a0 Z = true) (ws : List Jvm.Cond) (p0 : Int32) (r1 : Addr) (r2 : Addr) (r3 : Addr) (r4 : Addr) (z : Addr) (h0 : Heap) (n0 : Nat) (Z0 : n0 ≤ h0.size) (hz : own_pk p0 r1 r2 r3 r4 = z) :
    MetFree l (⟨"com/example/stutter/stutter/eval/FrameUpPinLaw", "pick", "(ILcom/example/stutter/stutter/eval/Frame;Lcom/example/stutter/stutter/eval/Frame;Lcom/example/stutter/stutter/eval/Frame;Lcom/example/stutter/stutter/eval/Frame;)Lcom/example/stutter/stutter/eval/Frame;"⟩ : MethodName) (head1 (Jvm.Cond.code (⟨"com/example/stutter/stutter/eval/FrameUpPinLaw", "pick", "(ILcom/example/stutter/stutter/eval/Frame;Lcom/example/stutter/stutter/eval/Frame;Lcom/example/stutter/stutter/eval/Frame;Lcom/example/stutter/stutter/eval/Frame;)Lcom/example/stutter/stutter/eval/Frame;"⟩ : MethodName) method_3_code 5 (some (.object "com/example/stutter/stutter/eval/Frame")) :: ws) ({ frames := 0, cells := 0, slots := 0, locals := 0 } : Room)) (fun a U => a = #[(.int p0), (.ref r1), (.ref r2), (.ref r3), (.ref r4)] ∧ Z.Warmed39 U.vm ∧ U.heap = h0) (fun _ _ _ _ _ => True) (fun _ U o U' => ∃ v L, o = .returned v ∧ Q5 Z p0 r1 r2 r3 r4 z h0 n0 v U'.heap L ∧ FrameEnd U o U' L ({ frames := 0, cells := 0, slots := 0, locals := 0 } : Room).cells ({ frames := 0, cells := 0, slots := 0, locals := 0 } : Room).slots) := by
  refine MetFree.of_bodySF (plainFor_of_name pn_5) hisR ?_
  intro p e s m args below meth c s₁ Bd hml0 hP hK
  obtain ⟨rfl, hZ, hh⟩ := hP
  have hx := Bd.exec
  have hby := Bd.bytes
  have hml : c.maxLocals = 5 := hml0
  have hown : s.vm.findClass "com/example/stutter/stutter/eval/FrameUpPinLaw" = some m.cls := findClass_of_methodNamed Bd.named
  have hnm := (name_of_methodNamed Bd.named Bd.method).1
  have X0 : Stand p l e ({ frames := 0, cells := 0, slots := 0, locals := 0 } : Room) s m #[(.int p0), (.ref r1), (.ref r2), (.ref r3), (.ref r4)] below meth c s₁ [] 0 0 := Stand.of_body Bd
  have e0 : s₁.heap = h0 := by rw [← hh, Bd.state]; rfl
  have N0 := Fr.nil n0
  suffices HH : ∀ G : Outcome → State → Prop, (∀ v L U', Q5 Z p0 r1 r2 r3 r4 z h0 n0 v U'.heap L → FrameEnd s (.returned v) U' L ({ frames := 0, cells := 0, slots := 0, locals := 0 } : Room).cells ({ frames := 0, cells := 0, slots := 0, locals := 0 } : Room).slots → G (.returned v) U') → Go p.tables e below G (s₁.setTop (mkF m 0 #[iv p0, rv r1, rv r2, rv r3, rv r4] [])) by
    obtain ⟨s2, o, h1, h2, h3, h4⟩ := HH (fun o U' => ∃ v L, o = .returned v ∧ Q5 Z p0 r1 r2 r3 r4 z h0 n0 v U'.heap L ∧ FrameEnd s o U' L ({ frames := 0, cells := 0, slots := 0, locals := 0 } : Room).cells ({ frames := 0, cells := 0, slots := 0, locals := 0 } : Room).slots) (fun v L U' q f => ⟨v, L, rfl, q, f⟩)
    exact ⟨s2, o, castTop (ef_5 m p0 r1 r2 r3 r4) h1, h2, h3, h4⟩
  intro G hG
  show Go p.tables e below G (s₁.setTop (mkF m 0 #[iv p0, rv r1, rv r2, rv r3, rv r4] []))
  refine Go.stp (fun t_ k_ => XS.iloadN X0.here hx rfl (hb hby d5_0) rfl k_) ?_
  show Go p.tables e below G (s₁.setTop (mkF m 1 #[iv p0, rv r1, rv r2, rv r3, rv r4] [(.int p0)]))
  by_cases hc1 : p0 = (0 : Int32)
  · refine Go.stp (fun t_ k_ => XS.ifNo X0.here hx rfl (hb hby d5_1) rfl ((if0 _ _).trans (teq hc1).2) k_) ?_
    show Go p.tables e below G (s₁.setTop (mkF m 4 #[iv p0, rv r1, rv r2, rv r3, rv r4] []))
    refine Go.stp (fun t_ k_ => XS.aloadN X0.here hx rfl (hb hby d5_4) rfl rfl k_) ?_
    show Go p.tables e below G (s₁.setTop (mkF m 5 #[iv p0, rv r1, rv r2, rv r3, rv r4] [(.ref r1)]))
    obtain ⟨fs, hr, hrun, hended, hW, hsame⟩ := X0.leave (v := some (.ref r1)) (fun h => by rw [Bd.returns] at h; cases h)
    refine ⟨_, _, retR X0 hx rfl rfl Bd.returns (hb hby d5_5) hr, hrun, hended, hG _ _ _ ?_ ⟨⟨_, rfl⟩, hW, hsame.mono (by decide) (by decide)⟩⟩
    show Q5 Z p0 r1 r2 r3 r4 z h0 n0 _ s₁.heap _
    rw [e0]
    exact ⟨by rw [← hz]; simp [own_pk, hc1], N0, rfl⟩
  · refine Go.stp (fun t_ k_ => XS.ifYes X0.here hx rfl (pc0 := 1) (pc' := 6) rfl (hb hby d5_1) rfl ((if0 _ _).trans (feq hc1).2) (by decide) (by decide) k_) ?_
    show Go p.tables e below G (s₁.setTop (mkF m 6 #[iv p0, rv r1, rv r2, rv r3, rv r4] []))
    refine Go.stp (fun t_ k_ => XS.iloadN X0.here hx rfl (hb hby d5_6) rfl k_) ?_
    show Go p.tables e below G (s₁.setTop (mkF m 7 #[iv p0, rv r1, rv r2, rv r3, rv r4] [(.int p0)]))
    refine Go.stp (fun t_ k_ => XS.iconst X0.here hx rfl (hb hby d5_7) k_) ?_
    show Go p.tables e below G (s₁.setTop (mkF m 8 #[iv p0, rv r1, rv r2, rv r3, rv r4] [(.int (1 : Int32)), (.int p0)]))
    by_cases hc8 : p0 = (1 : Int32)
    · refine Go.stp (fun t_ k_ => XS.icmpNo X0.here hx rfl (hb hby d5_8) rfl (teq hc8).2 k_) ?_
      show Go p.tables e below G (s₁.setTop (mkF m 11 #[iv p0, rv r1, rv r2, rv r3, rv r4] []))
      refine Go.stp (fun t_ k_ => XS.aloadN X0.here hx rfl (hb hby d5_11) rfl rfl k_) ?_
      show Go p.tables e below G (s₁.setTop (mkF m 12 #[iv p0, rv r1, rv r2, rv r3, rv r4] [(.ref r2)]))
      obtain ⟨fs, hr, hrun, hended, hW, hsame⟩ := X0.leave (v := some (.ref r2)) (fun h => by rw [Bd.returns] at h; cases h)
      refine ⟨_, _, retR X0 hx rfl rfl Bd.returns (hb hby d5_12) hr, hrun, hended, hG _ _ _ ?_ ⟨⟨_, rfl⟩, hW, hsame.mono (by decide) (by decide)⟩⟩
      show Q5 Z p0 r1 r2 r3 r4 z h0 n0 _ s₁.heap _
      rw [e0]
      exact ⟨by rw [← hz]; simp [own_pk, hc1, hc8], N0, rfl⟩
    · refine Go.stp (fun t_ k_ => XS.icmpYes X0.here hx rfl (pc0 := 8) (pc' := 13) rfl (hb hby d5_8) rfl (feq hc8).2 (by decide) (by decide) k_) ?_
      show Go p.tables e below G (s₁.setTop (mkF m 13 #[iv p0, rv r1, rv r2, rv r3, rv r4] []))
      refine Go.stp (fun t_ k_ => XS.iloadN X0.here hx rfl (hb hby d5_13) rfl k_) ?_
      show Go p.tables e below G (s₁.setTop (mkF m 14 #[iv p0, rv r1, rv r2, rv r3, rv r4] [(.int p0)]))
      refine Go.stp (fun t_ k_ => XS.iconst X0.here hx rfl (hb hby d5_14) k_) ?_
      show Go p.tables e below G (s₁.setTop (mkF m 15 #[iv p0, rv r1, rv r2, rv r3, rv r4] [(.int (2 : Int32)), (.int p0)]))
      by_cases hc15 : p0 = (2 : Int32)
      · refine Go.stp (fun t_ k_ => XS.icmpNo X0.here hx rfl (hb hby d5_15) rfl (teq hc15).2 k_) ?_
        show Go p.tables e below G (s₁.setTop (mkF m 18 #[iv p0, rv r1, rv r2, rv r3, rv r4] []))
        refine Go.stp (fun t_ k_ => XS.aloadN X0.here hx rfl (hb hby d5_18) rfl rfl k_) ?_
        show Go p.tables e below G (s₁.setTop (mkF m 19 #[iv p0, rv r1, rv r2, rv r3, rv r4] [(.ref r3)]))
        obtain ⟨fs, hr, hrun, hended, hW, hsame⟩ := X0.leave (v := some (.ref r3)) (fun h => by rw [Bd.returns] at h; cases h)
        refine ⟨_, _, retR X0 hx rfl rfl Bd.returns (hb hby d5_19) hr, hrun, hended, hG _ _ _ ?_ ⟨⟨_, rfl⟩, hW, hsame.mono (by decide) (by decide)⟩⟩
        show Q5 Z p0 r1 r2 r3 r4 z h0 n0 _ s₁.heap _
        rw [e0]
        exact ⟨by rw [← hz]; simp [own_pk, hc1, hc8, hc15], N0, rfl⟩
      · refine Go.stp (fun t_ k_ => XS.icmpYes X0.here hx rfl (pc0 := 15) (pc' := 20) rfl (hb hby d5_15) rfl (feq hc15).2 (by decide) (by decide) k_) ?_
        show Go p.tables e below G (s₁.setTop (mkF m 20 #[iv p0, rv r1, rv r2, rv r3, rv r4] []))
        refine Go.stp (fun t_ k_ => XS.aload X0.here hx rfl (hb hby d5_20) rfl rfl k_) ?_
        show Go p.tables e below G (s₁.setTop (mkF m 22 #[iv p0, rv r1, rv r2, rv r3, rv r4] [(.ref r4)]))
        obtain ⟨fs, hr, hrun, hended, hW, hsame⟩ := X0.leave (v := some (.ref r4)) (fun h => by rw [Bd.returns] at h; cases h)
        refine ⟨_, _, retR X0 hx rfl rfl Bd.returns (hb hby d5_22) hr, hrun, hended, hG _ _ _ ?_ ⟨⟨_, rfl⟩, hW, hsame.mono (by decide) (by decide)⟩⟩
        show Q5 Z p0 r1 r2 r3 r4 z h0 n0 _ s₁.heap _
        rw [e0]
        exact ⟨by rw [← hz]; simp [own_pk, hc1, hc8, hc15], N0, rfl⟩
theorem d6_0 : decode prog_56_method_20_code 0 = .ok (.aload_n 0, 1) := by decide +kernel
theorem d6_1 : decode prog_56_method_20_code 1 = .ok (.astore_n 2, 1) := by decide +kernel
theorem d6_2 : decode prog_56_method_20_code 2 = .ok (.iconst 0, 1) := by decide +kernel
theorem d6_3 : decode prog_56_method_20_code 3 = .ok (.istore_n 3, 1) := by decide +kernel
theorem d6_4 : decode prog_56_method_20_code 4 = .ok (.iload_n 3, 1) := by decide +kernel
theorem d6_5 : decode prog_56_method_20_code 5 = .ok (.iload_n 1, 1) := by decide +kernel
theorem d6_6 : decode prog_56_method_20_code 6 = .ok (.if_icmp .ge 14, 3) := by decide +kernel
theorem d6_20 : decode prog_56_method_20_code 20 = .ok (.aload_n 2, 1) := by decide +kernel
theorem d6_21 : decode prog_56_method_20_code 21 = .ok (.areturn, 1) := by decide +kernel
theorem ef_6_0 (m : MethodId) (r0 : Addr) : entryFrame m #[(.ref r0), (.int (0 : Int32))] 4 = mkF m 0 #[rv r0, iv (0 : Int32), un, un] [] := by first | (simp [entryFrame, mkF, argsToLocals, Value.category, iv, rv, lv, un, sd]; done) | rfl
def Q6_0 (Z : State) (r0 : Addr) (h0 : Heap) (n0 : Nat) (v : Option Value) (h : Heap) (L : List Loc) : Prop := v = some (.ref r0) ∧ Fr n0 L ∧ h = h0
set_option maxRecDepth 65536 in
set_option maxHeartbeats 40000000 in
theorem rm6_0 (l : Launch) (Z : State) (a0 : Array Value) (hw : ∀ d ∈ tables_1, d.before a0 Z = true) (ws : List Jvm.Cond) (r0 : Addr) (h0 : Heap) (n0 : Nat) (Z0 : n0 ≤ h0.size) :
    MetFree l (⟨"com/example/stutter/stutter/eval/Frame", "up", "(I)Lcom/example/stutter/stutter/eval/Frame;"⟩ : MethodName) (head1 (Jvm.Cond.code (⟨"com/example/stutter/stutter/eval/Frame", "up", "(I)Lcom/example/stutter/stutter/eval/Frame;"⟩ : MethodName) prog_56_method_20_code 4 (some (.object "com/example/stutter/stutter/eval/Frame")) :: ws) ({ frames := 0, cells := 0, slots := 0, locals := 0 } : Room)) (fun a U => a = #[(.ref r0), (.int (0 : Int32))] ∧ Z.Warmed39 U.vm ∧ U.heap = h0) (fun _ _ _ _ _ => True) (fun _ U o U' => ∃ v L, o = .returned v ∧ Q6_0 Z r0 h0 n0 v U'.heap L ∧ FrameEnd U o U' L ({ frames := 0, cells := 0, slots := 0, locals := 0 } : Room).cells ({ frames := 0, cells := 0, slots := 0, locals := 0 } : Room).slots) := by
  refine MetFree.of_bodySF (plainFor_of_name pn_3) hisR ?_
  intro p e s m args below meth c s₁ Bd hml0 hP hK
  obtain ⟨rfl, hZ, hh⟩ := hP
  have hx := Bd.exec
  have hby := Bd.bytes
  have hml : c.maxLocals = 4 := hml0
  have hown : s.vm.findClass "com/example/stutter/stutter/eval/Frame" = some m.cls := findClass_of_methodNamed Bd.named
  have hnm := (name_of_methodNamed Bd.named Bd.method).1
  have X0 : Stand p l e ({ frames := 0, cells := 0, slots := 0, locals := 0 } : Room) s m #[(.ref r0), (.int (0 : Int32))] below meth c s₁ [] 0 0 := Stand.of_body Bd
  have e0 : s₁.heap = h0 := by rw [← hh, Bd.state]; rfl
  have N0 := Fr.nil n0
  suffices HH : ∀ G : Outcome → State → Prop, (∀ v L U', Q6_0 Z r0 h0 n0 v U'.heap L → FrameEnd s (.returned v) U' L ({ frames := 0, cells := 0, slots := 0, locals := 0 } : Room).cells ({ frames := 0, cells := 0, slots := 0, locals := 0 } : Room).slots → G (.returned v) U') → Go p.tables e below G (s₁.setTop (mkF m 0 #[rv r0, iv (0 : Int32), un, un] [])) by
    obtain ⟨s2, o, h1, h2, h3, h4⟩ := HH (fun o U' => ∃ v L, o = .returned v ∧ Q6_0 Z r0 h0 n0 v U'.heap L ∧ FrameEnd s o U' L ({ frames := 0, cells := 0, slots := 0, locals := 0 } : Room).cells ({ frames := 0, cells := 0, slots := 0, locals := 0 } : Room).slots) (fun v L U' q f => ⟨v, L, rfl, q, f⟩)
    exact ⟨s2, o, castTop (ef_6_0 m r0) h1, h2, h3, h4⟩
  intro G hG
  show Go p.tables e below G (s₁.setTop (mkF m 0 #[rv r0, iv (0 : Int32), un, un] []))
  refine Go.stp (fun t_ k_ => XS.aloadN X0.here hx rfl (hb hby d6_0) rfl rfl k_) ?_
  show Go p.tables e below G (s₁.setTop (mkF m 1 #[rv r0, iv (0 : Int32), un, un] [(.ref r0)]))
  refine Go.stp (fun t_ k_ => XS.astoreN X0.here hx rfl (hb hby d6_1) rfl rfl (l' := #[rv r0, iv (0 : Int32), rv r0, un]) rfl k_) ?_
  show Go p.tables e below G (s₁.setTop (mkF m 2 #[rv r0, iv (0 : Int32), rv r0, un] []))
  refine Go.stp (fun t_ k_ => XS.iconst X0.here hx rfl (hb hby d6_2) k_) ?_
  show Go p.tables e below G (s₁.setTop (mkF m 3 #[rv r0, iv (0 : Int32), rv r0, un] [(.int (0 : Int32))]))
  refine Go.stp (fun t_ k_ => XS.istoreN X0.here hx rfl (hb hby d6_3) rfl (l' := #[rv r0, iv (0 : Int32), rv r0, iv (0 : Int32)]) rfl k_) ?_
  show Go p.tables e below G (s₁.setTop (mkF m 4 #[rv r0, iv (0 : Int32), rv r0, iv (0 : Int32)] []))
  refine Go.stp (fun t_ k_ => XS.iloadN X0.here hx rfl (hb hby d6_4) rfl k_) ?_
  show Go p.tables e below G (s₁.setTop (mkF m 5 #[rv r0, iv (0 : Int32), rv r0, iv (0 : Int32)] [(.int (0 : Int32))]))
  refine Go.stp (fun t_ k_ => XS.iloadN X0.here hx rfl (hb hby d6_5) rfl k_) ?_
  show Go p.tables e below G (s₁.setTop (mkF m 6 #[rv r0, iv (0 : Int32), rv r0, iv (0 : Int32)] [(.int (0 : Int32)), (.int (0 : Int32))]))
  refine Go.stp (fun t_ k_ => XS.icmpYes X0.here hx rfl (pc0 := 6) (pc' := 20) rfl (hb hby d6_6) rfl (flt (by decide : ¬ ((0 : Int32) < (0 : Int32)))).2.1 (by decide) (by decide) k_) ?_
  show Go p.tables e below G (s₁.setTop (mkF m 20 #[rv r0, iv (0 : Int32), rv r0, iv (0 : Int32)] []))
  refine Go.stp (fun t_ k_ => XS.aloadN X0.here hx rfl (hb hby d6_20) rfl rfl k_) ?_
  show Go p.tables e below G (s₁.setTop (mkF m 21 #[rv r0, iv (0 : Int32), rv r0, iv (0 : Int32)] [(.ref r0)]))
  obtain ⟨fs, hr, hrun, hended, hW, hsame⟩ := X0.leave (v := some (.ref r0)) (fun h => by rw [Bd.returns] at h; cases h)
  refine ⟨_, _, retR X0 hx rfl rfl Bd.returns (hb hby d6_21) hr, hrun, hended, hG _ _ _ ?_ ⟨⟨_, rfl⟩, hW, hsame.mono (by decide) (by decide)⟩⟩
  show Q6_0 Z r0 h0 n0 _ s₁.heap _
  rw [e0]
  exact ⟨rfl, N0, rfl⟩
theorem d6_9 : decode prog_56_method_20_code 9 = .ok (.aload_n 2, 1) := by decide +kernel
theorem d6_10 : decode prog_56_method_20_code 10 = .ok (.getfield 32, 3) := by decide +kernel
theorem d6_13 : decode prog_56_method_20_code 13 = .ok (.astore_n 2, 1) := by decide +kernel
theorem d6_14 : decode prog_56_method_20_code 14 = .ok (.iinc 3 1, 3) := by decide +kernel
theorem d6_17 : decode prog_56_method_20_code 17 = .ok (.goto (-13), 3) := by decide +kernel
theorem ef_6_1 (m : MethodId) (r0 : Addr) : entryFrame m #[(.ref r0), (.int (1 : Int32))] 4 = mkF m 0 #[rv r0, iv (1 : Int32), un, un] [] := by first | (simp [entryFrame, mkF, argsToLocals, Value.category, iv, rv, lv, un, sd]; done) | rfl
def Q6_1 (Z : State) (r0 : Addr) (g1' : Addr) (h0 : Heap) (n0 : Nat) (v : Option Value) (h : Heap) (L : List Loc) : Prop := v = some (.ref g1') ∧ Fr n0 L ∧ h = h0
set_option maxRecDepth 65536 in
set_option maxHeartbeats 40000000 in
theorem rm6_1 (l : Launch) (Z : State) (a0 : Array Value) (hw : ∀ d ∈ tables_1, d.before a0 Z = true) (ws : List Jvm.Cond) (r0 : Addr) (g1' : Addr) (h0 : Heap) (n0 : Nat) (Z0 : n0 ≤ h0.size) (F_0 : Fld Z h0 r0 "com/example/stutter/stutter/eval/Frame" "parent" "Lcom/example/stutter/stutter/eval/Frame;" (.ref g1')) :
    MetFree l (⟨"com/example/stutter/stutter/eval/Frame", "up", "(I)Lcom/example/stutter/stutter/eval/Frame;"⟩ : MethodName) (head1 (Jvm.Cond.code (⟨"com/example/stutter/stutter/eval/Frame", "up", "(I)Lcom/example/stutter/stutter/eval/Frame;"⟩ : MethodName) prog_56_method_20_code 4 (some (.object "com/example/stutter/stutter/eval/Frame")) :: ws) ({ frames := 0, cells := 0, slots := 0, locals := 0 } : Room)) (fun a U => a = #[(.ref r0), (.int (1 : Int32))] ∧ Z.Warmed39 U.vm ∧ U.heap = h0) (fun _ _ _ _ _ => True) (fun _ U o U' => ∃ v L, o = .returned v ∧ Q6_1 Z r0 g1' h0 n0 v U'.heap L ∧ FrameEnd U o U' L ({ frames := 0, cells := 0, slots := 0, locals := 0 } : Room).cells ({ frames := 0, cells := 0, slots := 0, locals := 0 } : Room).slots) := by
  refine MetFree.of_bodySF (plainFor_of_name pn_3) hisR ?_
  intro p e s m args below meth c s₁ Bd hml0 hP hK
  obtain ⟨rfl, hZ, hh⟩ := hP
  have hx := Bd.exec
  have hby := Bd.bytes
  have hml : c.maxLocals = 4 := hml0
  have hown : s.vm.findClass "com/example/stutter/stutter/eval/Frame" = some m.cls := findClass_of_methodNamed Bd.named
  have hnm := (name_of_methodNamed Bd.named Bd.method).1
  have X0 : Stand p l e ({ frames := 0, cells := 0, slots := 0, locals := 0 } : Room) s m #[(.ref r0), (.int (1 : Int32))] below meth c s₁ [] 0 0 := Stand.of_body Bd
  have e0 : s₁.heap = h0 := by rw [← hh, Bd.state]; rfl
  have N0 := Fr.nil n0
  suffices HH : ∀ G : Outcome → State → Prop, (∀ v L U', Q6_1 Z r0 g1' h0 n0 v U'.heap L → FrameEnd s (.returned v) U' L ({ frames := 0, cells := 0, slots := 0, locals := 0 } : Room).cells ({ frames := 0, cells := 0, slots := 0, locals := 0 } : Room).slots → G (.returned v) U') → Go p.tables e below G (s₁.setTop (mkF m 0 #[rv r0, iv (1 : Int32), un, un] [])) by
    obtain ⟨s2, o, h1, h2, h3, h4⟩ := HH (fun o U' => ∃ v L, o = .returned v ∧ Q6_1 Z r0 g1' h0 n0 v U'.heap L ∧ FrameEnd s o U' L ({ frames := 0, cells := 0, slots := 0, locals := 0 } : Room).cells ({ frames := 0, cells := 0, slots := 0, locals := 0 } : Room).slots) (fun v L U' q f => ⟨v, L, rfl, q, f⟩)
    exact ⟨s2, o, castTop (ef_6_1 m r0) h1, h2, h3, h4⟩
  intro G hG
  show Go p.tables e below G (s₁.setTop (mkF m 0 #[rv r0, iv (1 : Int32), un, un] []))
  refine Go.stp (fun t_ k_ => XS.aloadN X0.here hx rfl (hb hby d6_0) rfl rfl k_) ?_
  show Go p.tables e below G (s₁.setTop (mkF m 1 #[rv r0, iv (1 : Int32), un, un] [(.ref r0)]))
  refine Go.stp (fun t_ k_ => XS.astoreN X0.here hx rfl (hb hby d6_1) rfl rfl (l' := #[rv r0, iv (1 : Int32), rv r0, un]) rfl k_) ?_
  show Go p.tables e below G (s₁.setTop (mkF m 2 #[rv r0, iv (1 : Int32), rv r0, un] []))
  refine Go.stp (fun t_ k_ => XS.iconst X0.here hx rfl (hb hby d6_2) k_) ?_
  show Go p.tables e below G (s₁.setTop (mkF m 3 #[rv r0, iv (1 : Int32), rv r0, un] [(.int (0 : Int32))]))
  refine Go.stp (fun t_ k_ => XS.istoreN X0.here hx rfl (hb hby d6_3) rfl (l' := #[rv r0, iv (1 : Int32), rv r0, iv (0 : Int32)]) rfl k_) ?_
  show Go p.tables e below G (s₁.setTop (mkF m 4 #[rv r0, iv (1 : Int32), rv r0, iv (0 : Int32)] []))
  refine Go.stp (fun t_ k_ => XS.iloadN X0.here hx rfl (hb hby d6_4) rfl k_) ?_
  show Go p.tables e below G (s₁.setTop (mkF m 5 #[rv r0, iv (1 : Int32), rv r0, iv (0 : Int32)] [(.int (0 : Int32))]))
  refine Go.stp (fun t_ k_ => XS.iloadN X0.here hx rfl (hb hby d6_5) rfl k_) ?_
  show Go p.tables e below G (s₁.setTop (mkF m 6 #[rv r0, iv (1 : Int32), rv r0, iv (0 : Int32)] [(.int (1 : Int32)), (.int (0 : Int32))]))
  refine Go.stp (fun t_ k_ => XS.icmpNo X0.here hx rfl (hb hby d6_6) rfl (tlt (by decide : (0 : Int32) < (1 : Int32))).2.1 k_) ?_
  show Go p.tables e below G (s₁.setTop (mkF m 9 #[rv r0, iv (1 : Int32), rv r0, iv (0 : Int32)] []))
  refine Go.stp (fun t_ k_ => XS.aloadN X0.here hx rfl (hb hby d6_9) rfl rfl k_) ?_
  show Go p.tables e below G (s₁.setTop (mkF m 10 #[rv r0, iv (1 : Int32), rv r0, iv (0 : Int32)] [(.ref r0)]))
  obtain ⟨T1, X1, e1, st1⟩ := getF X0 hx hZ hown (host := "") (Or.inl (hw _ (List.mem_of_getElem? (i := 27) rfl))) Via.refl e0 F_0 (g := (mkF m 10 #[rv r0, iv (1 : Int32), rv r0, iv (0 : Int32)] [(.ref r0)])) rfl rfl (hb hby d6_10)
  refine Go.stp (fun t_ k_ => st1 t_ k_) ?_
  show Go p.tables e below G (T1.setTop (mkF m 13 #[rv r0, iv (1 : Int32), rv r0, iv (0 : Int32)] [(.ref g1')]))
  refine Go.stp (fun t_ k_ => XS.astoreN X1.here hx rfl (hb hby d6_13) rfl rfl (l' := #[rv r0, iv (1 : Int32), rv g1', iv (0 : Int32)]) rfl k_) ?_
  show Go p.tables e below G (T1.setTop (mkF m 14 #[rv r0, iv (1 : Int32), rv g1', iv (0 : Int32)] []))
  refine Go.stp (fun t_ k_ => XS.iinc X1.here hx rfl (hb hby d6_14) rfl (l' := #[rv r0, iv (1 : Int32), rv g1', iv ((0 : Int32) + (1 : Int32))]) rfl k_) ?_
  show Go p.tables e below G (T1.setTop (mkF m 17 #[rv r0, iv (1 : Int32), rv g1', iv ((0 : Int32) + (1 : Int32))] []))
  refine Go.stp (fun t_ k_ => XS.goto X1.here hx rfl (pc0 := 17) (pc' := 4) rfl (hb hby d6_17) (by decide) (by decide) k_) ?_
  show Go p.tables e below G (T1.setTop (mkF m 4 #[rv r0, iv (1 : Int32), rv g1', iv ((0 : Int32) + (1 : Int32))] []))
  refine Go.stp (fun t_ k_ => XS.iloadN X1.here hx rfl (hb hby d6_4) rfl k_) ?_
  show Go p.tables e below G (T1.setTop (mkF m 5 #[rv r0, iv (1 : Int32), rv g1', iv ((0 : Int32) + (1 : Int32))] [(.int ((0 : Int32) + (1 : Int32)))]))
  refine Go.stp (fun t_ k_ => XS.iloadN X1.here hx rfl (hb hby d6_5) rfl k_) ?_
  show Go p.tables e below G (T1.setTop (mkF m 6 #[rv r0, iv (1 : Int32), rv g1', iv ((0 : Int32) + (1 : Int32))] [(.int (1 : Int32)), (.int ((0 : Int32) + (1 : Int32)))]))
  refine Go.stp (fun t_ k_ => XS.icmpYes X1.here hx rfl (pc0 := 6) (pc' := 20) rfl (hb hby d6_6) rfl (flt (by decide : ¬ (((0 : Int32) + (1 : Int32)) < (1 : Int32)))).2.1 (by decide) (by decide) k_) ?_
  show Go p.tables e below G (T1.setTop (mkF m 20 #[rv r0, iv (1 : Int32), rv g1', iv ((0 : Int32) + (1 : Int32))] []))
  refine Go.stp (fun t_ k_ => XS.aloadN X1.here hx rfl (hb hby d6_20) rfl rfl k_) ?_
  show Go p.tables e below G (T1.setTop (mkF m 21 #[rv r0, iv (1 : Int32), rv g1', iv ((0 : Int32) + (1 : Int32))] [(.ref g1')]))
  obtain ⟨fs, hr, hrun, hended, hW, hsame⟩ := X1.leave (v := some (.ref g1')) (fun h => by rw [Bd.returns] at h; cases h)
  refine ⟨_, _, retR X1 hx rfl rfl Bd.returns (hb hby d6_21) hr, hrun, hended, hG _ _ _ ?_ ⟨⟨_, rfl⟩, hW, hsame.mono (by decide) (by decide)⟩⟩
  show Q6_1 Z r0 g1' h0 n0 _ T1.heap _
  rw [e1]
  exact ⟨rfl, N0, rfl⟩
theorem ef_6_2 (m : MethodId) (r0 : Addr) : entryFrame m #[(.ref r0), (.int (2 : Int32))] 4 = mkF m 0 #[rv r0, iv (2 : Int32), un, un] [] := by first | (simp [entryFrame, mkF, argsToLocals, Value.category, iv, rv, lv, un, sd]; done) | rfl
def Q6_2 (Z : State) (r0 : Addr) (g1' : Addr) (g2' : Addr) (h0 : Heap) (n0 : Nat) (v : Option Value) (h : Heap) (L : List Loc) : Prop := v = some (.ref g2') ∧ Fr n0 L ∧ h = h0
set_option maxRecDepth 65536 in
set_option maxHeartbeats 40000000 in
theorem rm6_2 (l : Launch) (Z : State) (a0 : Array Value) (hw : ∀ d ∈ tables_1, d.before a0 Z = true) (ws : List Jvm.Cond) (r0 : Addr) (g1' : Addr) (g2' : Addr) (h0 : Heap) (n0 : Nat) (Z0 : n0 ≤ h0.size) (F_0 : Fld Z h0 r0 "com/example/stutter/stutter/eval/Frame" "parent" "Lcom/example/stutter/stutter/eval/Frame;" (.ref g1')) (F_1 : Fld Z h0 g1' "com/example/stutter/stutter/eval/Frame" "parent" "Lcom/example/stutter/stutter/eval/Frame;" (.ref g2')) :
    MetFree l (⟨"com/example/stutter/stutter/eval/Frame", "up", "(I)Lcom/example/stutter/stutter/eval/Frame;"⟩ : MethodName) (head1 (Jvm.Cond.code (⟨"com/example/stutter/stutter/eval/Frame", "up", "(I)Lcom/example/stutter/stutter/eval/Frame;"⟩ : MethodName) prog_56_method_20_code 4 (some (.object "com/example/stutter/stutter/eval/Frame")) :: ws) ({ frames := 0, cells := 0, slots := 0, locals := 0 } : Room)) (fun a U => a = #[(.ref r0), (.int (2 : Int32))] ∧ Z.Warmed39 U.vm ∧ U.heap = h0) (fun _ _ _ _ _ => True) (fun _ U o U' => ∃ v L, o = .returned v ∧ Q6_2 Z r0 g1' g2' h0 n0 v U'.heap L ∧ FrameEnd U o U' L ({ frames := 0, cells := 0, slots := 0, locals := 0 } : Room).cells ({ frames := 0, cells := 0, slots := 0, locals := 0 } : Room).slots) := by
  refine MetFree.of_bodySF (plainFor_of_name pn_3) hisR ?_
  intro p e s m args below meth c s₁ Bd hml0 hP hK
  obtain ⟨rfl, hZ, hh⟩ := hP
  have hx := Bd.exec
  have hby := Bd.bytes
  have hml : c.maxLocals = 4 := hml0
  have hown : s.vm.findClass "com/example/stutter/stutter/eval/Frame" = some m.cls := findClass_of_methodNamed Bd.named
  have hnm := (name_of_methodNamed Bd.named Bd.method).1
  have X0 : Stand p l e ({ frames := 0, cells := 0, slots := 0, locals := 0 } : Room) s m #[(.ref r0), (.int (2 : Int32))] below meth c s₁ [] 0 0 := Stand.of_body Bd
  have e0 : s₁.heap = h0 := by rw [← hh, Bd.state]; rfl
  have N0 := Fr.nil n0
  suffices HH : ∀ G : Outcome → State → Prop, (∀ v L U', Q6_2 Z r0 g1' g2' h0 n0 v U'.heap L → FrameEnd s (.returned v) U' L ({ frames := 0, cells := 0, slots := 0, locals := 0 } : Room).cells ({ frames := 0, cells := 0, slots := 0, locals := 0 } : Room).slots → G (.returned v) U') → Go p.tables e below G (s₁.setTop (mkF m 0 #[rv r0, iv (2 : Int32), un, un] [])) by
    obtain ⟨s2, o, h1, h2, h3, h4⟩ := HH (fun o U' => ∃ v L, o = .returned v ∧ Q6_2 Z r0 g1' g2' h0 n0 v U'.heap L ∧ FrameEnd s o U' L ({ frames := 0, cells := 0, slots := 0, locals := 0 } : Room).cells ({ frames := 0, cells := 0, slots := 0, locals := 0 } : Room).slots) (fun v L U' q f => ⟨v, L, rfl, q, f⟩)
    exact ⟨s2, o, castTop (ef_6_2 m r0) h1, h2, h3, h4⟩
  intro G hG
  show Go p.tables e below G (s₁.setTop (mkF m 0 #[rv r0, iv (2 : Int32), un, un] []))
  refine Go.stp (fun t_ k_ => XS.aloadN X0.here hx rfl (hb hby d6_0) rfl rfl k_) ?_
  show Go p.tables e below G (s₁.setTop (mkF m 1 #[rv r0, iv (2 : Int32), un, un] [(.ref r0)]))
  refine Go.stp (fun t_ k_ => XS.astoreN X0.here hx rfl (hb hby d6_1) rfl rfl (l' := #[rv r0, iv (2 : Int32), rv r0, un]) rfl k_) ?_
  show Go p.tables e below G (s₁.setTop (mkF m 2 #[rv r0, iv (2 : Int32), rv r0, un] []))
  refine Go.stp (fun t_ k_ => XS.iconst X0.here hx rfl (hb hby d6_2) k_) ?_
  show Go p.tables e below G (s₁.setTop (mkF m 3 #[rv r0, iv (2 : Int32), rv r0, un] [(.int (0 : Int32))]))
  refine Go.stp (fun t_ k_ => XS.istoreN X0.here hx rfl (hb hby d6_3) rfl (l' := #[rv r0, iv (2 : Int32), rv r0, iv (0 : Int32)]) rfl k_) ?_
  show Go p.tables e below G (s₁.setTop (mkF m 4 #[rv r0, iv (2 : Int32), rv r0, iv (0 : Int32)] []))
  refine Go.stp (fun t_ k_ => XS.iloadN X0.here hx rfl (hb hby d6_4) rfl k_) ?_
  show Go p.tables e below G (s₁.setTop (mkF m 5 #[rv r0, iv (2 : Int32), rv r0, iv (0 : Int32)] [(.int (0 : Int32))]))
  refine Go.stp (fun t_ k_ => XS.iloadN X0.here hx rfl (hb hby d6_5) rfl k_) ?_
  show Go p.tables e below G (s₁.setTop (mkF m 6 #[rv r0, iv (2 : Int32), rv r0, iv (0 : Int32)] [(.int (2 : Int32)), (.int (0 : Int32))]))
  refine Go.stp (fun t_ k_ => XS.icmpNo X0.here hx rfl (hb hby d6_6) rfl (tlt (by decide : (0 : Int32) < (2 : Int32))).2.1 k_) ?_
  show Go p.tables e below G (s₁.setTop (mkF m 9 #[rv r0, iv (2 : Int32), rv r0, iv (0 : Int32)] []))
  refine Go.stp (fun t_ k_ => XS.aloadN X0.here hx rfl (hb hby d6_9) rfl rfl k_) ?_
  show Go p.tables e below G (s₁.setTop (mkF m 10 #[rv r0, iv (2 : Int32), rv r0, iv (0 : Int32)] [(.ref r0)]))
  obtain ⟨T1, X1, e1, st1⟩ := getF X0 hx hZ hown (host := "") (Or.inl (hw _ (List.mem_of_getElem? (i := 27) rfl))) Via.refl e0 F_0 (g := (mkF m 10 #[rv r0, iv (2 : Int32), rv r0, iv (0 : Int32)] [(.ref r0)])) rfl rfl (hb hby d6_10)
  refine Go.stp (fun t_ k_ => st1 t_ k_) ?_
  show Go p.tables e below G (T1.setTop (mkF m 13 #[rv r0, iv (2 : Int32), rv r0, iv (0 : Int32)] [(.ref g1')]))
  refine Go.stp (fun t_ k_ => XS.astoreN X1.here hx rfl (hb hby d6_13) rfl rfl (l' := #[rv r0, iv (2 : Int32), rv g1', iv (0 : Int32)]) rfl k_) ?_
  show Go p.tables e below G (T1.setTop (mkF m 14 #[rv r0, iv (2 : Int32), rv g1', iv (0 : Int32)] []))
  refine Go.stp (fun t_ k_ => XS.iinc X1.here hx rfl (hb hby d6_14) rfl (l' := #[rv r0, iv (2 : Int32), rv g1', iv ((0 : Int32) + (1 : Int32))]) rfl k_) ?_
  show Go p.tables e below G (T1.setTop (mkF m 17 #[rv r0, iv (2 : Int32), rv g1', iv ((0 : Int32) + (1 : Int32))] []))
  refine Go.stp (fun t_ k_ => XS.goto X1.here hx rfl (pc0 := 17) (pc' := 4) rfl (hb hby d6_17) (by decide) (by decide) k_) ?_
  show Go p.tables e below G (T1.setTop (mkF m 4 #[rv r0, iv (2 : Int32), rv g1', iv ((0 : Int32) + (1 : Int32))] []))
  refine Go.stp (fun t_ k_ => XS.iloadN X1.here hx rfl (hb hby d6_4) rfl k_) ?_
  show Go p.tables e below G (T1.setTop (mkF m 5 #[rv r0, iv (2 : Int32), rv g1', iv ((0 : Int32) + (1 : Int32))] [(.int ((0 : Int32) + (1 : Int32)))]))
  refine Go.stp (fun t_ k_ => XS.iloadN X1.here hx rfl (hb hby d6_5) rfl k_) ?_
  show Go p.tables e below G (T1.setTop (mkF m 6 #[rv r0, iv (2 : Int32), rv g1', iv ((0 : Int32) + (1 : Int32))] [(.int (2 : Int32)), (.int ((0 : Int32) + (1 : Int32)))]))
  refine Go.stp (fun t_ k_ => XS.icmpNo X1.here hx rfl (hb hby d6_6) rfl (tlt (by decide : ((0 : Int32) + (1 : Int32)) < (2 : Int32))).2.1 k_) ?_
  show Go p.tables e below G (T1.setTop (mkF m 9 #[rv r0, iv (2 : Int32), rv g1', iv ((0 : Int32) + (1 : Int32))] []))
  refine Go.stp (fun t_ k_ => XS.aloadN X1.here hx rfl (hb hby d6_9) rfl rfl k_) ?_
  show Go p.tables e below G (T1.setTop (mkF m 10 #[rv r0, iv (2 : Int32), rv g1', iv ((0 : Int32) + (1 : Int32))] [(.ref g1')]))
  obtain ⟨T2, X2, e2, st2⟩ := getF X1 hx hZ hown (host := "") (Or.inl (hw _ (List.mem_of_getElem? (i := 27) rfl))) Via.refl e1 F_1 (g := (mkF m 10 #[rv r0, iv (2 : Int32), rv g1', iv ((0 : Int32) + (1 : Int32))] [(.ref g1')])) rfl rfl (hb hby d6_10)
  refine Go.stp (fun t_ k_ => st2 t_ k_) ?_
  show Go p.tables e below G (T2.setTop (mkF m 13 #[rv r0, iv (2 : Int32), rv g1', iv ((0 : Int32) + (1 : Int32))] [(.ref g2')]))
  refine Go.stp (fun t_ k_ => XS.astoreN X2.here hx rfl (hb hby d6_13) rfl rfl (l' := #[rv r0, iv (2 : Int32), rv g2', iv ((0 : Int32) + (1 : Int32))]) rfl k_) ?_
  show Go p.tables e below G (T2.setTop (mkF m 14 #[rv r0, iv (2 : Int32), rv g2', iv ((0 : Int32) + (1 : Int32))] []))
  refine Go.stp (fun t_ k_ => XS.iinc X2.here hx rfl (hb hby d6_14) rfl (l' := #[rv r0, iv (2 : Int32), rv g2', iv (((0 : Int32) + (1 : Int32)) + (1 : Int32))]) rfl k_) ?_
  show Go p.tables e below G (T2.setTop (mkF m 17 #[rv r0, iv (2 : Int32), rv g2', iv (((0 : Int32) + (1 : Int32)) + (1 : Int32))] []))
  refine Go.stp (fun t_ k_ => XS.goto X2.here hx rfl (pc0 := 17) (pc' := 4) rfl (hb hby d6_17) (by decide) (by decide) k_) ?_
  show Go p.tables e below G (T2.setTop (mkF m 4 #[rv r0, iv (2 : Int32), rv g2', iv (((0 : Int32) + (1 : Int32)) + (1 : Int32))] []))
  refine Go.stp (fun t_ k_ => XS.iloadN X2.here hx rfl (hb hby d6_4) rfl k_) ?_
  show Go p.tables e below G (T2.setTop (mkF m 5 #[rv r0, iv (2 : Int32), rv g2', iv (((0 : Int32) + (1 : Int32)) + (1 : Int32))] [(.int (((0 : Int32) + (1 : Int32)) + (1 : Int32)))]))
  refine Go.stp (fun t_ k_ => XS.iloadN X2.here hx rfl (hb hby d6_5) rfl k_) ?_
  show Go p.tables e below G (T2.setTop (mkF m 6 #[rv r0, iv (2 : Int32), rv g2', iv (((0 : Int32) + (1 : Int32)) + (1 : Int32))] [(.int (2 : Int32)), (.int (((0 : Int32) + (1 : Int32)) + (1 : Int32)))]))
  refine Go.stp (fun t_ k_ => XS.icmpYes X2.here hx rfl (pc0 := 6) (pc' := 20) rfl (hb hby d6_6) rfl (flt (by decide : ¬ ((((0 : Int32) + (1 : Int32)) + (1 : Int32)) < (2 : Int32)))).2.1 (by decide) (by decide) k_) ?_
  show Go p.tables e below G (T2.setTop (mkF m 20 #[rv r0, iv (2 : Int32), rv g2', iv (((0 : Int32) + (1 : Int32)) + (1 : Int32))] []))
  refine Go.stp (fun t_ k_ => XS.aloadN X2.here hx rfl (hb hby d6_20) rfl rfl k_) ?_
  show Go p.tables e below G (T2.setTop (mkF m 21 #[rv r0, iv (2 : Int32), rv g2', iv (((0 : Int32) + (1 : Int32)) + (1 : Int32))] [(.ref g2')]))
  obtain ⟨fs, hr, hrun, hended, hW, hsame⟩ := X2.leave (v := some (.ref g2')) (fun h => by rw [Bd.returns] at h; cases h)
  refine ⟨_, _, retR X2 hx rfl rfl Bd.returns (hb hby d6_21) hr, hrun, hended, hG _ _ _ ?_ ⟨⟨_, rfl⟩, hW, hsame.mono (by decide) (by decide)⟩⟩
  show Q6_2 Z r0 g1' g2' h0 n0 _ T2.heap _
  rw [e2]
  exact ⟨rfl, N0, rfl⟩
theorem ef_6_3 (m : MethodId) (r0 : Addr) : entryFrame m #[(.ref r0), (.int (3 : Int32))] 4 = mkF m 0 #[rv r0, iv (3 : Int32), un, un] [] := by first | (simp [entryFrame, mkF, argsToLocals, Value.category, iv, rv, lv, un, sd]; done) | rfl
def Q6_3 (Z : State) (r0 : Addr) (g1' : Addr) (g2' : Addr) (g3' : Addr) (h0 : Heap) (n0 : Nat) (v : Option Value) (h : Heap) (L : List Loc) : Prop := v = some (.ref g3') ∧ Fr n0 L ∧ h = h0
set_option maxRecDepth 65536 in
set_option maxHeartbeats 40000000 in
theorem rm6_3 (l : Launch) (Z : State) (a0 : Array Value) (hw : ∀ d ∈ tables_1, d.before a0 Z = true) (ws : List Jvm.Cond) (r0 : Addr) (g1' : Addr) (g2' : Addr) (g3' : Addr) (h0 : Heap) (n0 : Nat) (Z0 : n0 ≤ h0.size) (F_0 : Fld Z h0 r0 "com/example/stutter/stutter/eval/Frame" "parent" "Lcom/example/stutter/stutter/eval/Frame;" (.ref g1')) (F_1 : Fld Z h0 g1' "com/example/stutter/stutter/eval/Frame" "parent" "Lcom/example/stutter/stutter/eval/Frame;" (.ref g2')) (F_2 : Fld Z h0 g2' "com/example/stutter/stutter/eval/Frame" "parent" "Lcom/example/stutter/stutter/eval/Frame;" (.ref g3')) :
    MetFree l (⟨"com/example/stutter/stutter/eval/Frame", "up", "(I)Lcom/example/stutter/stutter/eval/Frame;"⟩ : MethodName) (head1 (Jvm.Cond.code (⟨"com/example/stutter/stutter/eval/Frame", "up", "(I)Lcom/example/stutter/stutter/eval/Frame;"⟩ : MethodName) prog_56_method_20_code 4 (some (.object "com/example/stutter/stutter/eval/Frame")) :: ws) ({ frames := 0, cells := 0, slots := 0, locals := 0 } : Room)) (fun a U => a = #[(.ref r0), (.int (3 : Int32))] ∧ Z.Warmed39 U.vm ∧ U.heap = h0) (fun _ _ _ _ _ => True) (fun _ U o U' => ∃ v L, o = .returned v ∧ Q6_3 Z r0 g1' g2' g3' h0 n0 v U'.heap L ∧ FrameEnd U o U' L ({ frames := 0, cells := 0, slots := 0, locals := 0 } : Room).cells ({ frames := 0, cells := 0, slots := 0, locals := 0 } : Room).slots) := by
  refine MetFree.of_bodySF (plainFor_of_name pn_3) hisR ?_
  intro p e s m args below meth c s₁ Bd hml0 hP hK
  obtain ⟨rfl, hZ, hh⟩ := hP
  have hx := Bd.exec
  have hby := Bd.bytes
  have hml : c.maxLocals = 4 := hml0
  have hown : s.vm.findClass "com/example/stutter/stutter/eval/Frame" = some m.cls := findClass_of_methodNamed Bd.named
  have hnm := (name_of_methodNamed Bd.named Bd.method).1
  have X0 : Stand p l e ({ frames := 0, cells := 0, slots := 0, locals := 0 } : Room) s m #[(.ref r0), (.int (3 : Int32))] below meth c s₁ [] 0 0 := Stand.of_body Bd
  have e0 : s₁.heap = h0 := by rw [← hh, Bd.state]; rfl
  have N0 := Fr.nil n0
  suffices HH : ∀ G : Outcome → State → Prop, (∀ v L U', Q6_3 Z r0 g1' g2' g3' h0 n0 v U'.heap L → FrameEnd s (.returned v) U' L ({ frames := 0, cells := 0, slots := 0, locals := 0 } : Room).cells ({ frames := 0, cells := 0, slots := 0, locals := 0 } : Room).slots → G (.returned v) U') → Go p.tables e below G (s₁.setTop (mkF m 0 #[rv r0, iv (3 : Int32), un, un] [])) by
    obtain ⟨s2, o, h1, h2, h3, h4⟩ := HH (fun o U' => ∃ v L, o = .returned v ∧ Q6_3 Z r0 g1' g2' g3' h0 n0 v U'.heap L ∧ FrameEnd s o U' L ({ frames := 0, cells := 0, slots := 0, locals := 0 } : Room).cells ({ frames := 0, cells := 0, slots := 0, locals := 0 } : Room).slots) (fun v L U' q f => ⟨v, L, rfl, q, f⟩)
    exact ⟨s2, o, castTop (ef_6_3 m r0) h1, h2, h3, h4⟩
  intro G hG
  show Go p.tables e below G (s₁.setTop (mkF m 0 #[rv r0, iv (3 : Int32), un, un] []))
  refine Go.stp (fun t_ k_ => XS.aloadN X0.here hx rfl (hb hby d6_0) rfl rfl k_) ?_
  show Go p.tables e below G (s₁.setTop (mkF m 1 #[rv r0, iv (3 : Int32), un, un] [(.ref r0)]))
  refine Go.stp (fun t_ k_ => XS.astoreN X0.here hx rfl (hb hby d6_1) rfl rfl (l' := #[rv r0, iv (3 : Int32), rv r0, un]) rfl k_) ?_
  show Go p.tables e below G (s₁.setTop (mkF m 2 #[rv r0, iv (3 : Int32), rv r0, un] []))
  refine Go.stp (fun t_ k_ => XS.iconst X0.here hx rfl (hb hby d6_2) k_) ?_
  show Go p.tables e below G (s₁.setTop (mkF m 3 #[rv r0, iv (3 : Int32), rv r0, un] [(.int (0 : Int32))]))
  refine Go.stp (fun t_ k_ => XS.istoreN X0.here hx rfl (hb hby d6_3) rfl (l' := #[rv r0, iv (3 : Int32), rv r0, iv (0 : Int32)]) rfl k_) ?_
  show Go p.tables e below G (s₁.setTop (mkF m 4 #[rv r0, iv (3 : Int32), rv r0, iv (0 : Int32)] []))
  refine Go.stp (fun t_ k_ => XS.iloadN X0.here hx rfl (hb hby d6_4) rfl k_) ?_
  show Go p.tables e below G (s₁.setTop (mkF m 5 #[rv r0, iv (3 : Int32), rv r0, iv (0 : Int32)] [(.int (0 : Int32))]))
  refine Go.stp (fun t_ k_ => XS.iloadN X0.here hx rfl (hb hby d6_5) rfl k_) ?_
  show Go p.tables e below G (s₁.setTop (mkF m 6 #[rv r0, iv (3 : Int32), rv r0, iv (0 : Int32)] [(.int (3 : Int32)), (.int (0 : Int32))]))
  refine Go.stp (fun t_ k_ => XS.icmpNo X0.here hx rfl (hb hby d6_6) rfl (tlt (by decide : (0 : Int32) < (3 : Int32))).2.1 k_) ?_
  show Go p.tables e below G (s₁.setTop (mkF m 9 #[rv r0, iv (3 : Int32), rv r0, iv (0 : Int32)] []))
  refine Go.stp (fun t_ k_ => XS.aloadN X0.here hx rfl (hb hby d6_9) rfl rfl k_) ?_
  show Go p.tables e below G (s₁.setTop (mkF m 10 #[rv r0, iv (3 : Int32), rv r0, iv (0 : Int32)] [(.ref r0)]))
  obtain ⟨T1, X1, e1, st1⟩ := getF X0 hx hZ hown (host := "") (Or.inl (hw _ (List.mem_of_getElem? (i := 27) rfl))) Via.refl e0 F_0 (g := (mkF m 10 #[rv r0, iv (3 : Int32), rv r0, iv (0 : Int32)] [(.ref r0)])) rfl rfl (hb hby d6_10)
  refine Go.stp (fun t_ k_ => st1 t_ k_) ?_
  show Go p.tables e below G (T1.setTop (mkF m 13 #[rv r0, iv (3 : Int32), rv r0, iv (0 : Int32)] [(.ref g1')]))
  refine Go.stp (fun t_ k_ => XS.astoreN X1.here hx rfl (hb hby d6_13) rfl rfl (l' := #[rv r0, iv (3 : Int32), rv g1', iv (0 : Int32)]) rfl k_) ?_
  show Go p.tables e below G (T1.setTop (mkF m 14 #[rv r0, iv (3 : Int32), rv g1', iv (0 : Int32)] []))
  refine Go.stp (fun t_ k_ => XS.iinc X1.here hx rfl (hb hby d6_14) rfl (l' := #[rv r0, iv (3 : Int32), rv g1', iv ((0 : Int32) + (1 : Int32))]) rfl k_) ?_
  show Go p.tables e below G (T1.setTop (mkF m 17 #[rv r0, iv (3 : Int32), rv g1', iv ((0 : Int32) + (1 : Int32))] []))
  refine Go.stp (fun t_ k_ => XS.goto X1.here hx rfl (pc0 := 17) (pc' := 4) rfl (hb hby d6_17) (by decide) (by decide) k_) ?_
  show Go p.tables e below G (T1.setTop (mkF m 4 #[rv r0, iv (3 : Int32), rv g1', iv ((0 : Int32) + (1 : Int32))] []))
  refine Go.stp (fun t_ k_ => XS.iloadN X1.here hx rfl (hb hby d6_4) rfl k_) ?_
  show Go p.tables e below G (T1.setTop (mkF m 5 #[rv r0, iv (3 : Int32), rv g1', iv ((0 : Int32) + (1 : Int32))] [(.int ((0 : Int32) + (1 : Int32)))]))
  refine Go.stp (fun t_ k_ => XS.iloadN X1.here hx rfl (hb hby d6_5) rfl k_) ?_
  show Go p.tables e below G (T1.setTop (mkF m 6 #[rv r0, iv (3 : Int32), rv g1', iv ((0 : Int32) + (1 : Int32))] [(.int (3 : Int32)), (.int ((0 : Int32) + (1 : Int32)))]))
  refine Go.stp (fun t_ k_ => XS.icmpNo X1.here hx rfl (hb hby d6_6) rfl (tlt (by decide : ((0 : Int32) + (1 : Int32)) < (3 : Int32))).2.1 k_) ?_
  show Go p.tables e below G (T1.setTop (mkF m 9 #[rv r0, iv (3 : Int32), rv g1', iv ((0 : Int32) + (1 : Int32))] []))
  refine Go.stp (fun t_ k_ => XS.aloadN X1.here hx rfl (hb hby d6_9) rfl rfl k_) ?_
  show Go p.tables e below G (T1.setTop (mkF m 10 #[rv r0, iv (3 : Int32), rv g1', iv ((0 : Int32) + (1 : Int32))] [(.ref g1')]))
  obtain ⟨T2, X2, e2, st2⟩ := getF X1 hx hZ hown (host := "") (Or.inl (hw _ (List.mem_of_getElem? (i := 27) rfl))) Via.refl e1 F_1 (g := (mkF m 10 #[rv r0, iv (3 : Int32), rv g1', iv ((0 : Int32) + (1 : Int32))] [(.ref g1')])) rfl rfl (hb hby d6_10)
  refine Go.stp (fun t_ k_ => st2 t_ k_) ?_
  show Go p.tables e below G (T2.setTop (mkF m 13 #[rv r0, iv (3 : Int32), rv g1', iv ((0 : Int32) + (1 : Int32))] [(.ref g2')]))
  refine Go.stp (fun t_ k_ => XS.astoreN X2.here hx rfl (hb hby d6_13) rfl rfl (l' := #[rv r0, iv (3 : Int32), rv g2', iv ((0 : Int32) + (1 : Int32))]) rfl k_) ?_
  show Go p.tables e below G (T2.setTop (mkF m 14 #[rv r0, iv (3 : Int32), rv g2', iv ((0 : Int32) + (1 : Int32))] []))
  refine Go.stp (fun t_ k_ => XS.iinc X2.here hx rfl (hb hby d6_14) rfl (l' := #[rv r0, iv (3 : Int32), rv g2', iv (((0 : Int32) + (1 : Int32)) + (1 : Int32))]) rfl k_) ?_
  show Go p.tables e below G (T2.setTop (mkF m 17 #[rv r0, iv (3 : Int32), rv g2', iv (((0 : Int32) + (1 : Int32)) + (1 : Int32))] []))
  refine Go.stp (fun t_ k_ => XS.goto X2.here hx rfl (pc0 := 17) (pc' := 4) rfl (hb hby d6_17) (by decide) (by decide) k_) ?_
  show Go p.tables e below G (T2.setTop (mkF m 4 #[rv r0, iv (3 : Int32), rv g2', iv (((0 : Int32) + (1 : Int32)) + (1 : Int32))] []))
  refine Go.stp (fun t_ k_ => XS.iloadN X2.here hx rfl (hb hby d6_4) rfl k_) ?_
  show Go p.tables e below G (T2.setTop (mkF m 5 #[rv r0, iv (3 : Int32), rv g2', iv (((0 : Int32) + (1 : Int32)) + (1 : Int32))] [(.int (((0 : Int32) + (1 : Int32)) + (1 : Int32)))]))
  refine Go.stp (fun t_ k_ => XS.iloadN X2.here hx rfl (hb hby d6_5) rfl k_) ?_
  show Go p.tables e below G (T2.setTop (mkF m 6 #[rv r0, iv (3 : Int32), rv g2', iv (((0 : Int32) + (1 : Int32)) + (1 : Int32))] [(.int (3 : Int32)), (.int (((0 : Int32) + (1 : Int32)) + (1 : Int32)))]))
  refine Go.stp (fun t_ k_ => XS.icmpNo X2.here hx rfl (hb hby d6_6) rfl (tlt (by decide : (((0 : Int32) + (1 : Int32)) + (1 : Int32)) < (3 : Int32))).2.1 k_) ?_
  show Go p.tables e below G (T2.setTop (mkF m 9 #[rv r0, iv (3 : Int32), rv g2', iv (((0 : Int32) + (1 : Int32)) + (1 : Int32))] []))
  refine Go.stp (fun t_ k_ => XS.aloadN X2.here hx rfl (hb hby d6_9) rfl rfl k_) ?_
  show Go p.tables e below G (T2.setTop (mkF m 10 #[rv r0, iv (3 : Int32), rv g2', iv (((0 : Int32) + (1 : Int32)) + (1 : Int32))] [(.ref g2')]))
  obtain ⟨T3, X3, e3, st3⟩ := getF X2 hx hZ hown (host := "") (Or.inl (hw _ (List.mem_of_getElem? (i := 27) rfl))) Via.refl e2 F_2 (g := (mkF m 10 #[rv r0, iv (3 : Int32), rv g2', iv (((0 : Int32) + (1 : Int32)) + (1 : Int32))] [(.ref g2')])) rfl rfl (hb hby d6_10)
  refine Go.stp (fun t_ k_ => st3 t_ k_) ?_
  show Go p.tables e below G (T3.setTop (mkF m 13 #[rv r0, iv (3 : Int32), rv g2', iv (((0 : Int32) + (1 : Int32)) + (1 : Int32))] [(.ref g3')]))
  refine Go.stp (fun t_ k_ => XS.astoreN X3.here hx rfl (hb hby d6_13) rfl rfl (l' := #[rv r0, iv (3 : Int32), rv g3', iv (((0 : Int32) + (1 : Int32)) + (1 : Int32))]) rfl k_) ?_
  show Go p.tables e below G (T3.setTop (mkF m 14 #[rv r0, iv (3 : Int32), rv g3', iv (((0 : Int32) + (1 : Int32)) + (1 : Int32))] []))
  refine Go.stp (fun t_ k_ => XS.iinc X3.here hx rfl (hb hby d6_14) rfl (l' := #[rv r0, iv (3 : Int32), rv g3', iv ((((0 : Int32) + (1 : Int32)) + (1 : Int32)) + (1 : Int32))]) rfl k_) ?_
  show Go p.tables e below G (T3.setTop (mkF m 17 #[rv r0, iv (3 : Int32), rv g3', iv ((((0 : Int32) + (1 : Int32)) + (1 : Int32)) + (1 : Int32))] []))
  refine Go.stp (fun t_ k_ => XS.goto X3.here hx rfl (pc0 := 17) (pc' := 4) rfl (hb hby d6_17) (by decide) (by decide) k_) ?_
  show Go p.tables e below G (T3.setTop (mkF m 4 #[rv r0, iv (3 : Int32), rv g3', iv ((((0 : Int32) + (1 : Int32)) + (1 : Int32)) + (1 : Int32))] []))
  refine Go.stp (fun t_ k_ => XS.iloadN X3.here hx rfl (hb hby d6_4) rfl k_) ?_
  show Go p.tables e below G (T3.setTop (mkF m 5 #[rv r0, iv (3 : Int32), rv g3', iv ((((0 : Int32) + (1 : Int32)) + (1 : Int32)) + (1 : Int32))] [(.int ((((0 : Int32) + (1 : Int32)) + (1 : Int32)) + (1 : Int32)))]))
  refine Go.stp (fun t_ k_ => XS.iloadN X3.here hx rfl (hb hby d6_5) rfl k_) ?_
  show Go p.tables e below G (T3.setTop (mkF m 6 #[rv r0, iv (3 : Int32), rv g3', iv ((((0 : Int32) + (1 : Int32)) + (1 : Int32)) + (1 : Int32))] [(.int (3 : Int32)), (.int ((((0 : Int32) + (1 : Int32)) + (1 : Int32)) + (1 : Int32)))]))
  refine Go.stp (fun t_ k_ => XS.icmpYes X3.here hx rfl (pc0 := 6) (pc' := 20) rfl (hb hby d6_6) rfl (flt (by decide : ¬ (((((0 : Int32) + (1 : Int32)) + (1 : Int32)) + (1 : Int32)) < (3 : Int32)))).2.1 (by decide) (by decide) k_) ?_
  show Go p.tables e below G (T3.setTop (mkF m 20 #[rv r0, iv (3 : Int32), rv g3', iv ((((0 : Int32) + (1 : Int32)) + (1 : Int32)) + (1 : Int32))] []))
  refine Go.stp (fun t_ k_ => XS.aloadN X3.here hx rfl (hb hby d6_20) rfl rfl k_) ?_
  show Go p.tables e below G (T3.setTop (mkF m 21 #[rv r0, iv (3 : Int32), rv g3', iv ((((0 : Int32) + (1 : Int32)) + (1 : Int32)) + (1 : Int32))] [(.ref g3')]))
  obtain ⟨fs, hr, hrun, hended, hW, hsame⟩ := X3.leave (v := some (.ref g3')) (fun h => by rw [Bd.returns] at h; cases h)
  refine ⟨_, _, retR X3 hx rfl rfl Bd.returns (hb hby d6_21) hr, hrun, hended, hG _ _ _ ?_ ⟨⟨_, rfl⟩, hW, hsame.mono (by decide) (by decide)⟩⟩
  show Q6_3 Z r0 g1' g2' g3' h0 n0 _ T3.heap _
  rw [e3]
  exact ⟨rfl, N0, rfl⟩
theorem ef_0 (m : MethodId) (p0 : Int32) (p1 : Int32) (p2 : Int32) : entryFrame m #[(.int p0), (.int p1), (.int p2)] maxLocals = mkF m 0 #[iv p0, iv p1, iv p2, un, un, un, un, un, un, un, un, un, un, un] [] := by first | (simp [entryFrame, mkF, argsToLocals, Value.category, iv, rv, lv, un, sd, maxLocals]; done) | rfl
def Q0 (Z : State) (p0 : Int32) (p1 : Int32) (p2 : Int32) (aN : Addr) (f : Nat → Value) (h0 : Heap) (n0 : Nat) (v : Option Value) (h : Heap) (L : List Loc) : Prop := v = some (.int (1 : Int32)) ∧ Fr n0 L
set_option maxRecDepth 65536 in
set_option maxHeartbeats 40000000 in
theorem rm0 (l : Launch) (Z : State) (a0 : Array Value) (hw : ∀ d ∈ tables_1, d.before a0 Z = true) (ws : List Jvm.Cond) (p0 : Int32) (p1 : Int32) (p2 : Int32) (aN : Addr) (f : Nat → Value) (h0 : Heap) (n0 : Nat) (Z0 : n0 ≤ h0.size) (S_aN : Sta Z h0 "com/example/stutter/stutter/eval/Frame" "NO_ARGUMENTS" "[Lcom/example/stutter/stutter/eval/Node;" (.ref aN)) (I_aN : Ia Z h0 aN (.object "com/example/stutter/stutter/eval/Node") 0 id f) :
    MetFree l x (head1 (Jvm.Cond.code x code maxLocals ret :: ws) room_1) (fun a U => a = #[(.int p0), (.int p1), (.int p2)] ∧ Z.Warmed39 U.vm ∧ U.heap = h0) (fun _ _ _ _ _ => True) (fun _ U o U' => ∃ v L, o = .returned v ∧ Q0 Z p0 p1 p2 aN f h0 n0 v U'.heap L ∧ FrameEnd U o U' L room_1.cells room_1.slots) := by
  refine MetFree.of_bodySF (plainFor_of_name pn_5) hisR ?_
  intro p e s m args below meth c s₁ Bd hml0 hP hK
  obtain ⟨rfl, hZ, hh⟩ := hP
  have hx := Bd.exec
  have hby := Bd.bytes
  have hml : c.maxLocals = 14 := hml0
  have hown : s.vm.findClass "com/example/stutter/stutter/eval/FrameUpPinLaw" = some m.cls := findClass_of_methodNamed Bd.named
  have hnm := (name_of_methodNamed Bd.named Bd.method).1
  have X0 : Stand p l e room_1 s m #[(.int p0), (.int p1), (.int p2)] below meth c s₁ [] 0 0 := Stand.of_body Bd
  have e0 : s₁.heap = h0 := by rw [← hh, Bd.state]; rfl
  have N0 := Fr.nil n0
  suffices HH : ∀ G : Outcome → State → Prop, (∀ v L U', Q0 Z p0 p1 p2 aN f h0 n0 v U'.heap L → FrameEnd s (.returned v) U' L room_1.cells room_1.slots → G (.returned v) U') → Go p.tables e below G (s₁.setTop (mkF m 0 #[iv p0, iv p1, iv p2, un, un, un, un, un, un, un, un, un, un, un] [])) by
    obtain ⟨s2, o, h1, h2, h3, h4⟩ := HH (fun o U' => ∃ v L, o = .returned v ∧ Q0 Z p0 p1 p2 aN f h0 n0 v U'.heap L ∧ FrameEnd s o U' L room_1.cells room_1.slots) (fun v L U' q f => ⟨v, L, rfl, q, f⟩)
    exact ⟨s2, o, castTop (ef_0 m p0 p1 p2) h1, h2, h3, h4⟩
  intro G hG
  show Go p.tables e below G (s₁.setTop (mkF m 0 #[iv p0, iv p1, iv p2, un, un, un, un, un, un, un, un, un, un, un] []))
  refine Go.stp (fun t_ k_ => XS.iloadN X0.here hx rfl (hb hby at_0) rfl k_) ?_
  show Go p.tables e below G (s₁.setTop (mkF m 1 #[iv p0, iv p1, iv p2, un, un, un, un, un, un, un, un, un, un, un] [(.int p2)]))
  refine Go.stp (fun t_ k_ => XS.bipush X0.here hx rfl (hb hby at_1) k_) ?_
  show Go p.tables e below G (s₁.setTop (mkF m 3 #[iv p0, iv p1, iv p2, un, un, un, un, un, un, un, un, un, un, un] [(.int (7 : Int32)), (.int p2)]))
  refine Go.stp (fun t_ k_ => XS.iand X0.here hx rfl (hb hby at_3) rfl k_) ?_
  show Go p.tables e below G (s₁.setTop (mkF m 4 #[iv p0, iv p1, iv p2, un, un, un, un, un, un, un, un, un, un, un] [(.int (p2 &&& (7 : Int32)))]))
  refine Go.stp (fun t_ k_ => XS.istoreN X0.here hx rfl (hb hby at_4) rfl (l' := #[iv p0, iv p1, iv p2, iv (p2 &&& (7 : Int32)), un, un, un, un, un, un, un, un, un, un]) rfl k_) ?_
  show Go p.tables e below G (s₁.setTop (mkF m 5 #[iv p0, iv p1, iv p2, iv (p2 &&& (7 : Int32)), un, un, un, un, un, un, un, un, un, un] []))
  suffices K1 : ∀ size : Int32, size = (p2 &&& (7 : Int32)) → Go p.tables e below G (s₁.setTop (mkF m 5 #[iv p0, iv p1, iv p2, iv size, un, un, un, un, un, un, un, un, un, un] [])) from K1 _ rfl
  intro size hsize
  have hsz := own_sz p2
  rw [← hsize] at hsz
  obtain ⟨hp0, hp7⟩ := hsz
  refine Go.stp (fun t_ k_ => XS.iconst X0.here hx rfl (hb hby at_5) k_) ?_
  show Go p.tables e below G (s₁.setTop (mkF m 6 #[iv p0, iv p1, iv p2, iv size, un, un, un, un, un, un, un, un, un, un] [(.int (0 : Int32))]))
  obtain ⟨T2, h2, k2, X2, e2, E2, A2, O2, st2⟩ := newR X0 hx hZ hown (hw _ (List.mem_of_getElem? (i := 0) rfl)) (hw _ (List.mem_of_getElem? (i := 1) rfl)) e0 (g := (mkF m 6 #[iv p0, iv p1, iv p2, iv size, un, un, un, un, un, un, un, un, un, un] [(.int (0 : Int32))])) rfl (hb hby at_6) rfl (by decide) (cap := 0) (by decide) (by decide) (by decide) (by decide)
  obtain ⟨b2, g2⟩ : ∃ z, z = h0.size := ⟨_, rfl⟩
  rw [← g2] at A2 st2
  have u3 : aN ≠ b2 := Nat.ne_of_lt (Nat.lt_of_lt_of_le I_aN.lt (Nat.le_of_eq g2.symm))
  have g_b2 : n0 ≤ b2 := Nat.le_trans Z0 (Nat.le_of_eq g2.symm)
  have f4 : Ia Z h2 aN (.object "com/example/stutter/stutter/eval/Node") 0 id f := I_aN.ext E2
  have f5 : Sta Z h2 "com/example/stutter/stutter/eval/Frame" "NO_ARGUMENTS" "[Lcom/example/stutter/stutter/eval/Node;" (.ref aN) := S_aN.ext E2
  have Z2 : n0 ≤ h2.size := Nat.le_trans Z0 E2.1
  have f6 : Ia Z h2 b2 (.object "com/example/stutter/stutter/eval/Node") 0 id (fun _ => .null) := Ia.new A2 (by decide) (by decide) rfl
  refine Go.stp (fun t_ k_ => st2 t_ k_) ?_
  show Go p.tables e below G (T2.setTop (mkF m 9 #[iv p0, iv p1, iv p2, iv size, un, un, un, un, un, un, un, un, un, un] [(.ref b2)]))
  refine Go.stp (fun t_ k_ => XS.astore X2.here hx rfl (hb hby at_9) rfl rfl (l' := #[iv p0, iv p1, iv p2, iv size, rv b2, un, un, un, un, un, un, un, un, un]) rfl k_) ?_
  show Go p.tables e below G (T2.setTop (mkF m 11 #[iv p0, iv p1, iv p2, iv size, rv b2, un, un, un, un, un, un, un, un, un] []))
  obtain ⟨T7, h7, X7, e7, E7, A7, D7, -, st7⟩ := newO X2 hx hZ hown (hw _ (List.mem_of_getElem? (i := 2) rfl)) (hw _ (List.mem_of_getElem? (i := 3) rfl)) (hw _ (List.mem_of_getElem? (i := 4) rfl)) e2 (g := (mkF m 11 #[iv p0, iv p1, iv p2, iv size, rv b2, un, un, un, un, un, un, un, un, un] [])) rfl (hb hby at_11) (by decide) (by decide)
  obtain ⟨b7, g7⟩ : ∃ z, z = h2.size := ⟨_, rfl⟩
  rw [← g7] at A7 D7 st7
  have u8 : aN ≠ b7 := Nat.ne_of_lt (Nat.lt_of_lt_of_le f4.lt (Nat.le_of_eq g7.symm))
  have u9 : b2 ≠ b7 := Nat.ne_of_lt (Nat.lt_of_lt_of_le f6.lt (Nat.le_of_eq g7.symm))
  have g_b7 : n0 ≤ b7 := Nat.le_trans Z2 (Nat.le_of_eq g7.symm)
  have f10 : Ia Z h7 aN (.object "com/example/stutter/stutter/eval/Node") 0 id f := f4.ext E7
  have f11 : Sta Z h7 "com/example/stutter/stutter/eval/Frame" "NO_ARGUMENTS" "[Lcom/example/stutter/stutter/eval/Node;" (.ref aN) := f5.ext E7
  have f12 : Ia Z h7 b2 (.object "com/example/stutter/stutter/eval/Node") 0 id (fun _ => .null) := f6.ext E7
  have Z7 : n0 ≤ h7.size := Nat.le_trans Z2 E7.1
  have f13 : Fld Z h7 b7 "com/example/stutter/stutter/eval/Frame" "slots" "[Lcom/example/stutter/stutter/value/Value;" .null := D7 (Or.inr (hw _ (List.mem_of_getElem? (i := 22) rfl))) (ty := (.array (.object "com/example/stutter/stutter/value/Value"))) (by decide)
  have f14 : Fld Z h7 b7 "com/example/stutter/stutter/eval/Frame" "arguments" "[Lcom/example/stutter/stutter/eval/Node;" .null := D7 (Or.inr (hw _ (List.mem_of_getElem? (i := 24) rfl))) (ty := (.array (.object "com/example/stutter/stutter/eval/Node"))) (by decide)
  have f15 : Fld Z h7 b7 "com/example/stutter/stutter/eval/Frame" "caller" "Lcom/example/stutter/stutter/eval/Frame;" .null := D7 (Or.inr (hw _ (List.mem_of_getElem? (i := 26) rfl))) (ty := (.object "com/example/stutter/stutter/eval/Frame")) (by decide)
  have f16 : Fld Z h7 b7 "com/example/stutter/stutter/eval/Frame" "parent" "Lcom/example/stutter/stutter/eval/Frame;" .null := D7 (Or.inr (hw _ (List.mem_of_getElem? (i := 28) rfl))) (ty := (.object "com/example/stutter/stutter/eval/Frame")) (by decide)
  refine Go.stp (fun t_ k_ => st7 t_ k_) ?_
  show Go p.tables e below G (T7.setTop (mkF m 14 #[iv p0, iv p1, iv p2, iv size, rv b2, un, un, un, un, un, un, un, un, un] [(.ref b7)]))
  refine Go.stp (fun t_ k_ => XS.dup X7.here hx rfl (hb hby at_14) rfl rfl k_) ?_
  show Go p.tables e below G (T7.setTop (mkF m 15 #[iv p0, iv p1, iv p2, iv size, rv b2, un, un, un, un, un, un, un, un, un] [(.ref b7), (.ref b7)]))
  refine Go.stp (fun t_ k_ => XS.iloadN X7.here hx rfl (hb hby at_15) rfl k_) ?_
  show Go p.tables e below G (T7.setTop (mkF m 16 #[iv p0, iv p1, iv p2, iv size, rv b2, un, un, un, un, un, un, un, un, un] [(.int size), (.ref b7), (.ref b7)]))
  obtain ⟨_, _, ⟨T17, L17, k17, n17⟩, -, X17, ⟨Lc17, hQ17, l17, y17, z17⟩, st17⟩ := X7.specialBack hx (y := (⟨"com/example/stutter/stutter/eval/Frame", "<init>", "(I)V"⟩ : MethodName)) rfl hown (mvT hZ (hw _ (List.mem_of_getElem? (i := 5) rfl))) (mvT hZ (hw _ (List.mem_of_getElem? (i := 6) rfl))) (mvT hZ (hw _ (List.mem_of_getElem? (i := 7) rfl))) (by decide) (backOf (W := 1) (rm1 l Z a0 hw [] b7 size aN f h7 n0 Z7 A7 f13 f14 f15 f16 g_b7 f11 f10 hp0 hp7) hZ (hw _ (List.mem_of_getElem? (i := 7) rfl)) (hw _ (List.mem_of_getElem? (i := 4) rfl)) (by decide) (by decide)) (g := (mkF m 16 #[iv p0, iv p1, iv p2, iv size, rv b2, un, un, un, un, un, un, un, un, un] [(.int size), (.ref b7), (.ref b7)])) rfl (by rw [hml]; rfl) (Steps.refl _) (a := b7) (argsL := [(.int size)]) (rest := [(.ref b7)]) (lenOf pd_2 rfl) rfl (by show 2 * 0 + _ ≤ _; exact Nat.le_of_eq rfl) (hb hby at_16) (fun _ _ => ⟨rfl, e7, (by decide : 2 + 1 ≤ _), (by decide : 7 + 7 ≤ _)⟩)
  dsimp only [Pt.U, Pt.locs, Pt.cells, Pt.slots] at X17 l17 y17 z17 st17 hQ17
  subst l17 y17 z17
  obtain ⟨rfl, Nq17, Kc17, Ex17, Fp17⟩ := hQ17
  have N17 := Fr.app N0 Nq17
  have f18 : Ia Z T17.heap aN (.object "com/example/stutter/stutter/eval/Node") 0 id f := f10.keep Kc17 (fun q => by simp only [List.mem_cons, List.not_mem_nil, or_false] at q; exact u8 q)
  have f19 : Sta Z T17.heap "com/example/stutter/stutter/eval/Frame" "NO_ARGUMENTS" "[Lcom/example/stutter/stutter/eval/Node;" (.ref aN) := sta_keep f11 Kc17 A7
  have f20 : Ia Z T17.heap b2 (.object "com/example/stutter/stutter/eval/Node") 0 id (fun _ => .null) := f12.keep Kc17 (fun q => by simp only [List.mem_cons, List.not_mem_nil, or_false] at q; exact u9 q)
  have f21 : Exa Z T17.heap b7 "com/example/stutter/stutter/eval/Frame" := A7.keep Kc17
  have Z17 : n0 ≤ T17.heap.size := Nat.le_trans Z7 Kc17.1
  refine Go.stp (fun t_ k_ => st17.trans k_) ?_
  show Go p.tables e below G (T17.setTop (mkF m 19 #[iv p0, iv p1, iv p2, iv size, rv b2, un, un, un, un, un, un, un, un, un] [(.ref b7)]))
  refine Go.stp (fun t_ k_ => XS.astore X17.here hx rfl (hb hby at_19) rfl rfl (l' := #[iv p0, iv p1, iv p2, iv size, rv b2, rv b7, un, un, un, un, un, un, un, un]) rfl k_) ?_
  show Go p.tables e below G (T17.setTop (mkF m 21 #[iv p0, iv p1, iv p2, iv size, rv b2, rv b7, un, un, un, un, un, un, un, un] []))
  obtain ⟨T22, h22, X22, e22, E22, A22, D22, -, st22⟩ := newO X17 hx hZ hown (hw _ (List.mem_of_getElem? (i := 2) rfl)) (hw _ (List.mem_of_getElem? (i := 3) rfl)) (hw _ (List.mem_of_getElem? (i := 4) rfl)) rfl (g := (mkF m 21 #[iv p0, iv p1, iv p2, iv size, rv b2, rv b7, un, un, un, un, un, un, un, un] [])) rfl (hb hby at_21) (by decide) (by decide)
  obtain ⟨b22, g22⟩ : ∃ z, z = T17.heap.size := ⟨_, rfl⟩
  rw [← g22] at A22 D22 st22
  have u23 : aN ≠ b22 := Nat.ne_of_lt (Nat.lt_of_lt_of_le f18.lt (Nat.le_of_eq g22.symm))
  have u24 : b2 ≠ b22 := Nat.ne_of_lt (Nat.lt_of_lt_of_le f20.lt (Nat.le_of_eq g22.symm))
  have u25 : b7 ≠ b22 := Nat.ne_of_lt (Nat.lt_of_lt_of_le Ex17.lt (Nat.le_of_eq g22.symm))
  have g_b22 : n0 ≤ b22 := Nat.le_trans Z17 (Nat.le_of_eq g22.symm)
  have f26 : Ia Z h22 aN (.object "com/example/stutter/stutter/eval/Node") 0 id f := f18.ext E22
  have f27 : Sta Z h22 "com/example/stutter/stutter/eval/Frame" "NO_ARGUMENTS" "[Lcom/example/stutter/stutter/eval/Node;" (.ref aN) := f19.ext E22
  have f28 : Ia Z h22 b2 (.object "com/example/stutter/stutter/eval/Node") 0 id (fun _ => .null) := f20.ext E22
  have f29 : Exa Z h22 b7 "com/example/stutter/stutter/eval/Frame" := Ex17.ext E22
  have f30 : Fld Z h22 b7 "com/example/stutter/stutter/eval/Frame" "parent" "Lcom/example/stutter/stutter/eval/Frame;" .null := Fp17.ext E22
  have Z22 : n0 ≤ h22.size := Nat.le_trans Z17 E22.1
  have f31 : Fld Z h22 b22 "com/example/stutter/stutter/eval/Frame" "slots" "[Lcom/example/stutter/stutter/value/Value;" .null := D22 (Or.inr (hw _ (List.mem_of_getElem? (i := 22) rfl))) (ty := (.array (.object "com/example/stutter/stutter/value/Value"))) (by decide)
  have f32 : Fld Z h22 b22 "com/example/stutter/stutter/eval/Frame" "arguments" "[Lcom/example/stutter/stutter/eval/Node;" .null := D22 (Or.inr (hw _ (List.mem_of_getElem? (i := 24) rfl))) (ty := (.array (.object "com/example/stutter/stutter/eval/Node"))) (by decide)
  have f33 : Fld Z h22 b22 "com/example/stutter/stutter/eval/Frame" "caller" "Lcom/example/stutter/stutter/eval/Frame;" .null := D22 (Or.inr (hw _ (List.mem_of_getElem? (i := 26) rfl))) (ty := (.object "com/example/stutter/stutter/eval/Frame")) (by decide)
  have f34 : Fld Z h22 b22 "com/example/stutter/stutter/eval/Frame" "parent" "Lcom/example/stutter/stutter/eval/Frame;" .null := D22 (Or.inr (hw _ (List.mem_of_getElem? (i := 28) rfl))) (ty := (.object "com/example/stutter/stutter/eval/Frame")) (by decide)
  refine Go.stp (fun t_ k_ => st22 t_ k_) ?_
  show Go p.tables e below G (T22.setTop (mkF m 24 #[iv p0, iv p1, iv p2, iv size, rv b2, rv b7, un, un, un, un, un, un, un, un] [(.ref b22)]))
  refine Go.stp (fun t_ k_ => XS.dup X22.here hx rfl (hb hby at_24) rfl rfl k_) ?_
  show Go p.tables e below G (T22.setTop (mkF m 25 #[iv p0, iv p1, iv p2, iv size, rv b2, rv b7, un, un, un, un, un, un, un, un] [(.ref b22), (.ref b22)]))
  refine Go.stp (fun t_ k_ => XS.iloadN X22.here hx rfl (hb hby at_25) rfl k_) ?_
  show Go p.tables e below G (T22.setTop (mkF m 26 #[iv p0, iv p1, iv p2, iv size, rv b2, rv b7, un, un, un, un, un, un, un, un] [(.int size), (.ref b22), (.ref b22)]))
  obtain ⟨_, _, ⟨T35, L35, k35, n35⟩, -, X35, ⟨Lc35, hQ35, l35, y35, z35⟩, st35⟩ := X22.specialBack hx (y := (⟨"com/example/stutter/stutter/eval/Frame", "<init>", "(I)V"⟩ : MethodName)) rfl hown (mvT hZ (hw _ (List.mem_of_getElem? (i := 5) rfl))) (mvT hZ (hw _ (List.mem_of_getElem? (i := 6) rfl))) (mvT hZ (hw _ (List.mem_of_getElem? (i := 7) rfl))) (by decide) (backOf (W := 1) (rm1 l Z a0 hw [] b22 size aN f h22 n0 Z22 A22 f31 f32 f33 f34 g_b22 f27 f26 hp0 hp7) hZ (hw _ (List.mem_of_getElem? (i := 7) rfl)) (hw _ (List.mem_of_getElem? (i := 4) rfl)) (by decide) (by decide)) (g := (mkF m 26 #[iv p0, iv p1, iv p2, iv size, rv b2, rv b7, un, un, un, un, un, un, un, un] [(.int size), (.ref b22), (.ref b22)])) rfl (by rw [hml]; rfl) (Steps.refl _) (a := b22) (argsL := [(.int size)]) (rest := [(.ref b22)]) (lenOf pd_2 rfl) rfl (by show 2 * 0 + _ ≤ _; exact Nat.le_of_eq rfl) (hb hby at_26) (fun _ _ => ⟨rfl, e22, (by decide : 4 + 1 ≤ _), (by decide : 21 + 7 ≤ _)⟩)
  dsimp only [Pt.U, Pt.locs, Pt.cells, Pt.slots] at X35 l35 y35 z35 st35 hQ35
  subst l35 y35 z35
  obtain ⟨rfl, Nq35, Kc35, Ex35, Fp35⟩ := hQ35
  have N35 := Fr.app N17 Nq35
  have f36 : Ia Z T35.heap aN (.object "com/example/stutter/stutter/eval/Node") 0 id f := f26.keep Kc35 (fun q => by simp only [List.mem_cons, List.not_mem_nil, or_false] at q; exact u23 q)
  have f37 : Sta Z T35.heap "com/example/stutter/stutter/eval/Frame" "NO_ARGUMENTS" "[Lcom/example/stutter/stutter/eval/Node;" (.ref aN) := sta_keep f27 Kc35 A22
  have f38 : Ia Z T35.heap b2 (.object "com/example/stutter/stutter/eval/Node") 0 id (fun _ => .null) := f28.keep Kc35 (fun q => by simp only [List.mem_cons, List.not_mem_nil, or_false] at q; exact u24 q)
  have f39 : Exa Z T35.heap b7 "com/example/stutter/stutter/eval/Frame" := f29.keep Kc35
  have f40 : Fld Z T35.heap b7 "com/example/stutter/stutter/eval/Frame" "parent" "Lcom/example/stutter/stutter/eval/Frame;" .null := f30.keep Kc35 (fun q => by simp only [List.mem_cons, List.not_mem_nil, or_false] at q; exact u25 q)
  have f41 : Exa Z T35.heap b22 "com/example/stutter/stutter/eval/Frame" := A22.keep Kc35
  have Z35 : n0 ≤ T35.heap.size := Nat.le_trans Z22 Kc35.1
  refine Go.stp (fun t_ k_ => st35.trans k_) ?_
  show Go p.tables e below G (T35.setTop (mkF m 29 #[iv p0, iv p1, iv p2, iv size, rv b2, rv b7, un, un, un, un, un, un, un, un] [(.ref b22)]))
  refine Go.stp (fun t_ k_ => XS.astore X35.here hx rfl (hb hby at_29) rfl rfl (l' := #[iv p0, iv p1, iv p2, iv size, rv b2, rv b7, rv b22, un, un, un, un, un, un, un]) rfl k_) ?_
  show Go p.tables e below G (T35.setTop (mkF m 31 #[iv p0, iv p1, iv p2, iv size, rv b2, rv b7, rv b22, un, un, un, un, un, un, un] []))
  obtain ⟨T42, h42, X42, e42, E42, A42, D42, -, st42⟩ := newO X35 hx hZ hown (hw _ (List.mem_of_getElem? (i := 2) rfl)) (hw _ (List.mem_of_getElem? (i := 3) rfl)) (hw _ (List.mem_of_getElem? (i := 4) rfl)) rfl (g := (mkF m 31 #[iv p0, iv p1, iv p2, iv size, rv b2, rv b7, rv b22, un, un, un, un, un, un, un] [])) rfl (hb hby at_31) (by decide) (by decide)
  obtain ⟨b42, g42⟩ : ∃ z, z = T35.heap.size := ⟨_, rfl⟩
  rw [← g42] at A42 D42 st42
  have u43 : aN ≠ b42 := Nat.ne_of_lt (Nat.lt_of_lt_of_le f36.lt (Nat.le_of_eq g42.symm))
  have u44 : b2 ≠ b42 := Nat.ne_of_lt (Nat.lt_of_lt_of_le f38.lt (Nat.le_of_eq g42.symm))
  have u45 : b7 ≠ b42 := Nat.ne_of_lt (Nat.lt_of_lt_of_le f39.lt (Nat.le_of_eq g42.symm))
  have u46 : b22 ≠ b42 := Nat.ne_of_lt (Nat.lt_of_lt_of_le Ex35.lt (Nat.le_of_eq g42.symm))
  have g_b42 : n0 ≤ b42 := Nat.le_trans Z35 (Nat.le_of_eq g42.symm)
  have f47 : Ia Z h42 aN (.object "com/example/stutter/stutter/eval/Node") 0 id f := f36.ext E42
  have f48 : Sta Z h42 "com/example/stutter/stutter/eval/Frame" "NO_ARGUMENTS" "[Lcom/example/stutter/stutter/eval/Node;" (.ref aN) := f37.ext E42
  have f49 : Ia Z h42 b2 (.object "com/example/stutter/stutter/eval/Node") 0 id (fun _ => .null) := f38.ext E42
  have f50 : Exa Z h42 b7 "com/example/stutter/stutter/eval/Frame" := f39.ext E42
  have f51 : Fld Z h42 b7 "com/example/stutter/stutter/eval/Frame" "parent" "Lcom/example/stutter/stutter/eval/Frame;" .null := f40.ext E42
  have f52 : Exa Z h42 b22 "com/example/stutter/stutter/eval/Frame" := Ex35.ext E42
  have f53 : Fld Z h42 b22 "com/example/stutter/stutter/eval/Frame" "parent" "Lcom/example/stutter/stutter/eval/Frame;" .null := Fp35.ext E42
  have Z42 : n0 ≤ h42.size := Nat.le_trans Z35 E42.1
  have f54 : Fld Z h42 b42 "com/example/stutter/stutter/eval/Frame" "slots" "[Lcom/example/stutter/stutter/value/Value;" .null := D42 (Or.inr (hw _ (List.mem_of_getElem? (i := 22) rfl))) (ty := (.array (.object "com/example/stutter/stutter/value/Value"))) (by decide)
  have f55 : Fld Z h42 b42 "com/example/stutter/stutter/eval/Frame" "arguments" "[Lcom/example/stutter/stutter/eval/Node;" .null := D42 (Or.inr (hw _ (List.mem_of_getElem? (i := 24) rfl))) (ty := (.array (.object "com/example/stutter/stutter/eval/Node"))) (by decide)
  have f56 : Fld Z h42 b42 "com/example/stutter/stutter/eval/Frame" "caller" "Lcom/example/stutter/stutter/eval/Frame;" .null := D42 (Or.inr (hw _ (List.mem_of_getElem? (i := 26) rfl))) (ty := (.object "com/example/stutter/stutter/eval/Frame")) (by decide)
  have f57 : Fld Z h42 b42 "com/example/stutter/stutter/eval/Frame" "parent" "Lcom/example/stutter/stutter/eval/Frame;" .null := D42 (Or.inr (hw _ (List.mem_of_getElem? (i := 28) rfl))) (ty := (.object "com/example/stutter/stutter/eval/Frame")) (by decide)
  refine Go.stp (fun t_ k_ => st42 t_ k_) ?_
  show Go p.tables e below G (T42.setTop (mkF m 34 #[iv p0, iv p1, iv p2, iv size, rv b2, rv b7, rv b22, un, un, un, un, un, un, un] [(.ref b42)]))
  refine Go.stp (fun t_ k_ => XS.dup X42.here hx rfl (hb hby at_34) rfl rfl k_) ?_
  show Go p.tables e below G (T42.setTop (mkF m 35 #[iv p0, iv p1, iv p2, iv size, rv b2, rv b7, rv b22, un, un, un, un, un, un, un] [(.ref b42), (.ref b42)]))
  refine Go.stp (fun t_ k_ => XS.iloadN X42.here hx rfl (hb hby at_35) rfl k_) ?_
  show Go p.tables e below G (T42.setTop (mkF m 36 #[iv p0, iv p1, iv p2, iv size, rv b2, rv b7, rv b22, un, un, un, un, un, un, un] [(.int size), (.ref b42), (.ref b42)]))
  refine Go.stp (fun t_ k_ => XS.aload X42.here hx rfl (hb hby at_36) rfl rfl k_) ?_
  show Go p.tables e below G (T42.setTop (mkF m 38 #[iv p0, iv p1, iv p2, iv size, rv b2, rv b7, rv b22, un, un, un, un, un, un, un] [(.ref b2), (.int size), (.ref b42), (.ref b42)]))
  refine Go.stp (fun t_ k_ => XS.aload X42.here hx rfl (hb hby at_38) rfl rfl k_) ?_
  show Go p.tables e below G (T42.setTop (mkF m 40 #[iv p0, iv p1, iv p2, iv size, rv b2, rv b7, rv b22, un, un, un, un, un, un, un] [(.ref b7), (.ref b2), (.int size), (.ref b42), (.ref b42)]))
  refine Go.stp (fun t_ k_ => XS.aload X42.here hx rfl (hb hby at_40) rfl rfl k_) ?_
  show Go p.tables e below G (T42.setTop (mkF m 42 #[iv p0, iv p1, iv p2, iv size, rv b2, rv b7, rv b22, un, un, un, un, un, un, un] [(.ref b22), (.ref b7), (.ref b2), (.int size), (.ref b42), (.ref b42)]))
  obtain ⟨_, _, ⟨T58, L58, k58, n58⟩, -, X58, ⟨Lc58, hQ58, l58, y58, z58⟩, st58⟩ := X42.specialBack hx (y := (⟨"com/example/stutter/stutter/eval/Frame", "<init>", "(I[Lcom/example/stutter/stutter/eval/Node;Lcom/example/stutter/stutter/eval/Frame;Lcom/example/stutter/stutter/eval/Frame;)V"⟩ : MethodName)) rfl hown (mvT hZ (hw _ (List.mem_of_getElem? (i := 29) rfl))) (mvT hZ (hw _ (List.mem_of_getElem? (i := 11) rfl))) (mvT hZ (hw _ (List.mem_of_getElem? (i := 12) rfl))) (by decide) (backOf (W := 1) (rm2r l Z a0 hw [] b42 size b2 b7 b22 (fun _ => .null) h42 n0 Z42 A42 f54 f55 f56 f57 g_b42 f49 hp0 hp7) hZ (hw _ (List.mem_of_getElem? (i := 12) rfl)) (hw _ (List.mem_of_getElem? (i := 4) rfl)) (by decide) (by decide)) (g := (mkF m 42 #[iv p0, iv p1, iv p2, iv size, rv b2, rv b7, rv b22, un, un, un, un, un, un, un] [(.ref b22), (.ref b7), (.ref b2), (.int size), (.ref b42), (.ref b42)])) rfl (by rw [hml]; rfl) (Steps.refl _) (a := b42) (argsL := [(.int size), (.ref b2), (.ref b7), (.ref b22)]) (rest := [(.ref b42)]) (lenOf pd_1 rfl) rfl (by show 2 * 0 + _ ≤ _; exact Nat.le_of_eq rfl) (hb hby at_42) (fun _ _ => ⟨rfl, e42, (by decide : 6 + 1 ≤ _), (by decide : 35 + 7 ≤ _)⟩)
  dsimp only [Pt.U, Pt.locs, Pt.cells, Pt.slots] at X58 l58 y58 z58 st58 hQ58
  subst l58 y58 z58
  obtain ⟨rfl, Nq58, Kc58, Ex58, Fp58⟩ := hQ58
  have N58 := Fr.app N35 Nq58
  have f59 : Ia Z T58.heap aN (.object "com/example/stutter/stutter/eval/Node") 0 id f := f47.keep Kc58 (fun q => by simp only [List.mem_cons, List.not_mem_nil, or_false] at q; exact u43 q)
  have f60 : Sta Z T58.heap "com/example/stutter/stutter/eval/Frame" "NO_ARGUMENTS" "[Lcom/example/stutter/stutter/eval/Node;" (.ref aN) := sta_keep f48 Kc58 A42
  have f61 : Ia Z T58.heap b2 (.object "com/example/stutter/stutter/eval/Node") 0 id (fun _ => .null) := f49.keep Kc58 (fun q => by simp only [List.mem_cons, List.not_mem_nil, or_false] at q; exact u44 q)
  have f62 : Exa Z T58.heap b7 "com/example/stutter/stutter/eval/Frame" := f50.keep Kc58
  have f63 : Fld Z T58.heap b7 "com/example/stutter/stutter/eval/Frame" "parent" "Lcom/example/stutter/stutter/eval/Frame;" .null := f51.keep Kc58 (fun q => by simp only [List.mem_cons, List.not_mem_nil, or_false] at q; exact u45 q)
  have f64 : Exa Z T58.heap b22 "com/example/stutter/stutter/eval/Frame" := f52.keep Kc58
  have f65 : Fld Z T58.heap b22 "com/example/stutter/stutter/eval/Frame" "parent" "Lcom/example/stutter/stutter/eval/Frame;" .null := f53.keep Kc58 (fun q => by simp only [List.mem_cons, List.not_mem_nil, or_false] at q; exact u46 q)
  have f66 : Exa Z T58.heap b42 "com/example/stutter/stutter/eval/Frame" := A42.keep Kc58
  have Z58 : n0 ≤ T58.heap.size := Nat.le_trans Z42 Kc58.1
  refine Go.stp (fun t_ k_ => st58.trans k_) ?_
  show Go p.tables e below G (T58.setTop (mkF m 45 #[iv p0, iv p1, iv p2, iv size, rv b2, rv b7, rv b22, un, un, un, un, un, un, un] [(.ref b42)]))
  refine Go.stp (fun t_ k_ => XS.astore X58.here hx rfl (hb hby at_45) rfl rfl (l' := #[iv p0, iv p1, iv p2, iv size, rv b2, rv b7, rv b22, rv b42, un, un, un, un, un, un]) rfl k_) ?_
  show Go p.tables e below G (T58.setTop (mkF m 47 #[iv p0, iv p1, iv p2, iv size, rv b2, rv b7, rv b22, rv b42, un, un, un, un, un, un] []))
  obtain ⟨T67, h67, X67, e67, E67, A67, D67, -, st67⟩ := newO X58 hx hZ hown (hw _ (List.mem_of_getElem? (i := 2) rfl)) (hw _ (List.mem_of_getElem? (i := 3) rfl)) (hw _ (List.mem_of_getElem? (i := 4) rfl)) rfl (g := (mkF m 47 #[iv p0, iv p1, iv p2, iv size, rv b2, rv b7, rv b22, rv b42, un, un, un, un, un, un] [])) rfl (hb hby at_47) (by decide) (by decide)
  obtain ⟨b67, g67⟩ : ∃ z, z = T58.heap.size := ⟨_, rfl⟩
  rw [← g67] at A67 D67 st67
  have u68 : aN ≠ b67 := Nat.ne_of_lt (Nat.lt_of_lt_of_le f59.lt (Nat.le_of_eq g67.symm))
  have u69 : b2 ≠ b67 := Nat.ne_of_lt (Nat.lt_of_lt_of_le f61.lt (Nat.le_of_eq g67.symm))
  have u70 : b7 ≠ b67 := Nat.ne_of_lt (Nat.lt_of_lt_of_le f62.lt (Nat.le_of_eq g67.symm))
  have u71 : b22 ≠ b67 := Nat.ne_of_lt (Nat.lt_of_lt_of_le f64.lt (Nat.le_of_eq g67.symm))
  have u72 : b42 ≠ b67 := Nat.ne_of_lt (Nat.lt_of_lt_of_le Ex58.lt (Nat.le_of_eq g67.symm))
  have g_b67 : n0 ≤ b67 := Nat.le_trans Z58 (Nat.le_of_eq g67.symm)
  have f73 : Ia Z h67 aN (.object "com/example/stutter/stutter/eval/Node") 0 id f := f59.ext E67
  have f74 : Sta Z h67 "com/example/stutter/stutter/eval/Frame" "NO_ARGUMENTS" "[Lcom/example/stutter/stutter/eval/Node;" (.ref aN) := f60.ext E67
  have f75 : Ia Z h67 b2 (.object "com/example/stutter/stutter/eval/Node") 0 id (fun _ => .null) := f61.ext E67
  have f76 : Exa Z h67 b7 "com/example/stutter/stutter/eval/Frame" := f62.ext E67
  have f77 : Fld Z h67 b7 "com/example/stutter/stutter/eval/Frame" "parent" "Lcom/example/stutter/stutter/eval/Frame;" .null := f63.ext E67
  have f78 : Exa Z h67 b22 "com/example/stutter/stutter/eval/Frame" := f64.ext E67
  have f79 : Fld Z h67 b22 "com/example/stutter/stutter/eval/Frame" "parent" "Lcom/example/stutter/stutter/eval/Frame;" .null := f65.ext E67
  have f80 : Exa Z h67 b42 "com/example/stutter/stutter/eval/Frame" := Ex58.ext E67
  have f81 : Fld Z h67 b42 "com/example/stutter/stutter/eval/Frame" "parent" "Lcom/example/stutter/stutter/eval/Frame;" (.ref b22) := Fp58.ext E67
  have Z67 : n0 ≤ h67.size := Nat.le_trans Z58 E67.1
  have f82 : Fld Z h67 b67 "com/example/stutter/stutter/eval/Frame" "slots" "[Lcom/example/stutter/stutter/value/Value;" .null := D67 (Or.inr (hw _ (List.mem_of_getElem? (i := 22) rfl))) (ty := (.array (.object "com/example/stutter/stutter/value/Value"))) (by decide)
  have f83 : Fld Z h67 b67 "com/example/stutter/stutter/eval/Frame" "arguments" "[Lcom/example/stutter/stutter/eval/Node;" .null := D67 (Or.inr (hw _ (List.mem_of_getElem? (i := 24) rfl))) (ty := (.array (.object "com/example/stutter/stutter/eval/Node"))) (by decide)
  have f84 : Fld Z h67 b67 "com/example/stutter/stutter/eval/Frame" "caller" "Lcom/example/stutter/stutter/eval/Frame;" .null := D67 (Or.inr (hw _ (List.mem_of_getElem? (i := 26) rfl))) (ty := (.object "com/example/stutter/stutter/eval/Frame")) (by decide)
  have f85 : Fld Z h67 b67 "com/example/stutter/stutter/eval/Frame" "parent" "Lcom/example/stutter/stutter/eval/Frame;" .null := D67 (Or.inr (hw _ (List.mem_of_getElem? (i := 28) rfl))) (ty := (.object "com/example/stutter/stutter/eval/Frame")) (by decide)
  refine Go.stp (fun t_ k_ => st67 t_ k_) ?_
  show Go p.tables e below G (T67.setTop (mkF m 50 #[iv p0, iv p1, iv p2, iv size, rv b2, rv b7, rv b22, rv b42, un, un, un, un, un, un] [(.ref b67)]))
  refine Go.stp (fun t_ k_ => XS.dup X67.here hx rfl (hb hby at_50) rfl rfl k_) ?_
  show Go p.tables e below G (T67.setTop (mkF m 51 #[iv p0, iv p1, iv p2, iv size, rv b2, rv b7, rv b22, rv b42, un, un, un, un, un, un] [(.ref b67), (.ref b67)]))
  refine Go.stp (fun t_ k_ => XS.iloadN X67.here hx rfl (hb hby at_51) rfl k_) ?_
  show Go p.tables e below G (T67.setTop (mkF m 52 #[iv p0, iv p1, iv p2, iv size, rv b2, rv b7, rv b22, rv b42, un, un, un, un, un, un] [(.int size), (.ref b67), (.ref b67)]))
  refine Go.stp (fun t_ k_ => XS.aload X67.here hx rfl (hb hby at_52) rfl rfl k_) ?_
  show Go p.tables e below G (T67.setTop (mkF m 54 #[iv p0, iv p1, iv p2, iv size, rv b2, rv b7, rv b22, rv b42, un, un, un, un, un, un] [(.ref b2), (.int size), (.ref b67), (.ref b67)]))
  refine Go.stp (fun t_ k_ => XS.aload X67.here hx rfl (hb hby at_54) rfl rfl k_) ?_
  show Go p.tables e below G (T67.setTop (mkF m 56 #[iv p0, iv p1, iv p2, iv size, rv b2, rv b7, rv b22, rv b42, un, un, un, un, un, un] [(.ref b7), (.ref b2), (.int size), (.ref b67), (.ref b67)]))
  refine Go.stp (fun t_ k_ => XS.aload X67.here hx rfl (hb hby at_56) rfl rfl k_) ?_
  show Go p.tables e below G (T67.setTop (mkF m 58 #[iv p0, iv p1, iv p2, iv size, rv b2, rv b7, rv b22, rv b42, un, un, un, un, un, un] [(.ref b42), (.ref b7), (.ref b2), (.int size), (.ref b67), (.ref b67)]))
  obtain ⟨_, _, ⟨T86, L86, k86, n86⟩, -, X86, ⟨Lc86, hQ86, l86, y86, z86⟩, st86⟩ := X67.specialBack hx (y := (⟨"com/example/stutter/stutter/eval/Frame", "<init>", "(I[Lcom/example/stutter/stutter/eval/Node;Lcom/example/stutter/stutter/eval/Frame;Lcom/example/stutter/stutter/eval/Frame;)V"⟩ : MethodName)) rfl hown (mvT hZ (hw _ (List.mem_of_getElem? (i := 29) rfl))) (mvT hZ (hw _ (List.mem_of_getElem? (i := 11) rfl))) (mvT hZ (hw _ (List.mem_of_getElem? (i := 12) rfl))) (by decide) (backOf (W := 1) (rm2r l Z a0 hw [] b67 size b2 b7 b42 (fun _ => .null) h67 n0 Z67 A67 f82 f83 f84 f85 g_b67 f75 hp0 hp7) hZ (hw _ (List.mem_of_getElem? (i := 12) rfl)) (hw _ (List.mem_of_getElem? (i := 4) rfl)) (by decide) (by decide)) (g := (mkF m 58 #[iv p0, iv p1, iv p2, iv size, rv b2, rv b7, rv b22, rv b42, un, un, un, un, un, un] [(.ref b42), (.ref b7), (.ref b2), (.int size), (.ref b67), (.ref b67)])) rfl (by rw [hml]; rfl) (Steps.refl _) (a := b67) (argsL := [(.int size), (.ref b2), (.ref b7), (.ref b42)]) (rest := [(.ref b67)]) (lenOf pd_1 rfl) rfl (by show 2 * 0 + _ ≤ _; exact Nat.le_of_eq rfl) (hb hby at_58) (fun _ _ => ⟨rfl, e67, (by decide : 8 + 1 ≤ _), (by decide : 49 + 7 ≤ _)⟩)
  dsimp only [Pt.U, Pt.locs, Pt.cells, Pt.slots] at X86 l86 y86 z86 st86 hQ86
  subst l86 y86 z86
  obtain ⟨rfl, Nq86, Kc86, Ex86, Fp86⟩ := hQ86
  have N86 := Fr.app N58 Nq86
  have f87 : Ia Z T86.heap aN (.object "com/example/stutter/stutter/eval/Node") 0 id f := f73.keep Kc86 (fun q => by simp only [List.mem_cons, List.not_mem_nil, or_false] at q; exact u68 q)
  have f88 : Sta Z T86.heap "com/example/stutter/stutter/eval/Frame" "NO_ARGUMENTS" "[Lcom/example/stutter/stutter/eval/Node;" (.ref aN) := sta_keep f74 Kc86 A67
  have f89 : Ia Z T86.heap b2 (.object "com/example/stutter/stutter/eval/Node") 0 id (fun _ => .null) := f75.keep Kc86 (fun q => by simp only [List.mem_cons, List.not_mem_nil, or_false] at q; exact u69 q)
  have f90 : Exa Z T86.heap b7 "com/example/stutter/stutter/eval/Frame" := f76.keep Kc86
  have f91 : Fld Z T86.heap b7 "com/example/stutter/stutter/eval/Frame" "parent" "Lcom/example/stutter/stutter/eval/Frame;" .null := f77.keep Kc86 (fun q => by simp only [List.mem_cons, List.not_mem_nil, or_false] at q; exact u70 q)
  have f92 : Exa Z T86.heap b22 "com/example/stutter/stutter/eval/Frame" := f78.keep Kc86
  have f93 : Fld Z T86.heap b22 "com/example/stutter/stutter/eval/Frame" "parent" "Lcom/example/stutter/stutter/eval/Frame;" .null := f79.keep Kc86 (fun q => by simp only [List.mem_cons, List.not_mem_nil, or_false] at q; exact u71 q)
  have f94 : Exa Z T86.heap b42 "com/example/stutter/stutter/eval/Frame" := f80.keep Kc86
  have f95 : Fld Z T86.heap b42 "com/example/stutter/stutter/eval/Frame" "parent" "Lcom/example/stutter/stutter/eval/Frame;" (.ref b22) := f81.keep Kc86 (fun q => by simp only [List.mem_cons, List.not_mem_nil, or_false] at q; exact u72 q)
  have f96 : Exa Z T86.heap b67 "com/example/stutter/stutter/eval/Frame" := A67.keep Kc86
  have Z86 : n0 ≤ T86.heap.size := Nat.le_trans Z67 Kc86.1
  refine Go.stp (fun t_ k_ => st86.trans k_) ?_
  show Go p.tables e below G (T86.setTop (mkF m 61 #[iv p0, iv p1, iv p2, iv size, rv b2, rv b7, rv b22, rv b42, un, un, un, un, un, un] [(.ref b67)]))
  refine Go.stp (fun t_ k_ => XS.astore X86.here hx rfl (hb hby at_61) rfl rfl (l' := #[iv p0, iv p1, iv p2, iv size, rv b2, rv b7, rv b22, rv b42, rv b67, un, un, un, un, un]) rfl k_) ?_
  show Go p.tables e below G (T86.setTop (mkF m 63 #[iv p0, iv p1, iv p2, iv size, rv b2, rv b7, rv b22, rv b42, rv b67, un, un, un, un, un] []))
  obtain ⟨T97, h97, X97, e97, E97, A97, D97, -, st97⟩ := newO X86 hx hZ hown (hw _ (List.mem_of_getElem? (i := 2) rfl)) (hw _ (List.mem_of_getElem? (i := 3) rfl)) (hw _ (List.mem_of_getElem? (i := 4) rfl)) rfl (g := (mkF m 63 #[iv p0, iv p1, iv p2, iv size, rv b2, rv b7, rv b22, rv b42, rv b67, un, un, un, un, un] [])) rfl (hb hby at_63) (by decide) (by decide)
  obtain ⟨b97, g97⟩ : ∃ z, z = T86.heap.size := ⟨_, rfl⟩
  rw [← g97] at A97 D97 st97
  have u98 : aN ≠ b97 := Nat.ne_of_lt (Nat.lt_of_lt_of_le f87.lt (Nat.le_of_eq g97.symm))
  have u99 : b2 ≠ b97 := Nat.ne_of_lt (Nat.lt_of_lt_of_le f89.lt (Nat.le_of_eq g97.symm))
  have u100 : b7 ≠ b97 := Nat.ne_of_lt (Nat.lt_of_lt_of_le f90.lt (Nat.le_of_eq g97.symm))
  have u101 : b22 ≠ b97 := Nat.ne_of_lt (Nat.lt_of_lt_of_le f92.lt (Nat.le_of_eq g97.symm))
  have u102 : b42 ≠ b97 := Nat.ne_of_lt (Nat.lt_of_lt_of_le f94.lt (Nat.le_of_eq g97.symm))
  have u103 : b67 ≠ b97 := Nat.ne_of_lt (Nat.lt_of_lt_of_le Ex86.lt (Nat.le_of_eq g97.symm))
  have g_b97 : n0 ≤ b97 := Nat.le_trans Z86 (Nat.le_of_eq g97.symm)
  have f104 : Ia Z h97 aN (.object "com/example/stutter/stutter/eval/Node") 0 id f := f87.ext E97
  have f105 : Sta Z h97 "com/example/stutter/stutter/eval/Frame" "NO_ARGUMENTS" "[Lcom/example/stutter/stutter/eval/Node;" (.ref aN) := f88.ext E97
  have f106 : Ia Z h97 b2 (.object "com/example/stutter/stutter/eval/Node") 0 id (fun _ => .null) := f89.ext E97
  have f107 : Exa Z h97 b7 "com/example/stutter/stutter/eval/Frame" := f90.ext E97
  have f108 : Fld Z h97 b7 "com/example/stutter/stutter/eval/Frame" "parent" "Lcom/example/stutter/stutter/eval/Frame;" .null := f91.ext E97
  have f109 : Exa Z h97 b22 "com/example/stutter/stutter/eval/Frame" := f92.ext E97
  have f110 : Fld Z h97 b22 "com/example/stutter/stutter/eval/Frame" "parent" "Lcom/example/stutter/stutter/eval/Frame;" .null := f93.ext E97
  have f111 : Exa Z h97 b42 "com/example/stutter/stutter/eval/Frame" := f94.ext E97
  have f112 : Fld Z h97 b42 "com/example/stutter/stutter/eval/Frame" "parent" "Lcom/example/stutter/stutter/eval/Frame;" (.ref b22) := f95.ext E97
  have f113 : Exa Z h97 b67 "com/example/stutter/stutter/eval/Frame" := Ex86.ext E97
  have f114 : Fld Z h97 b67 "com/example/stutter/stutter/eval/Frame" "parent" "Lcom/example/stutter/stutter/eval/Frame;" (.ref b42) := Fp86.ext E97
  have Z97 : n0 ≤ h97.size := Nat.le_trans Z86 E97.1
  have f115 : Fld Z h97 b97 "com/example/stutter/stutter/eval/Frame" "slots" "[Lcom/example/stutter/stutter/value/Value;" .null := D97 (Or.inr (hw _ (List.mem_of_getElem? (i := 22) rfl))) (ty := (.array (.object "com/example/stutter/stutter/value/Value"))) (by decide)
  have f116 : Fld Z h97 b97 "com/example/stutter/stutter/eval/Frame" "arguments" "[Lcom/example/stutter/stutter/eval/Node;" .null := D97 (Or.inr (hw _ (List.mem_of_getElem? (i := 24) rfl))) (ty := (.array (.object "com/example/stutter/stutter/eval/Node"))) (by decide)
  have f117 : Fld Z h97 b97 "com/example/stutter/stutter/eval/Frame" "caller" "Lcom/example/stutter/stutter/eval/Frame;" .null := D97 (Or.inr (hw _ (List.mem_of_getElem? (i := 26) rfl))) (ty := (.object "com/example/stutter/stutter/eval/Frame")) (by decide)
  have f118 : Fld Z h97 b97 "com/example/stutter/stutter/eval/Frame" "parent" "Lcom/example/stutter/stutter/eval/Frame;" .null := D97 (Or.inr (hw _ (List.mem_of_getElem? (i := 28) rfl))) (ty := (.object "com/example/stutter/stutter/eval/Frame")) (by decide)
  refine Go.stp (fun t_ k_ => st97 t_ k_) ?_
  show Go p.tables e below G (T97.setTop (mkF m 66 #[iv p0, iv p1, iv p2, iv size, rv b2, rv b7, rv b22, rv b42, rv b67, un, un, un, un, un] [(.ref b97)]))
  refine Go.stp (fun t_ k_ => XS.dup X97.here hx rfl (hb hby at_66) rfl rfl k_) ?_
  show Go p.tables e below G (T97.setTop (mkF m 67 #[iv p0, iv p1, iv p2, iv size, rv b2, rv b7, rv b22, rv b42, rv b67, un, un, un, un, un] [(.ref b97), (.ref b97)]))
  refine Go.stp (fun t_ k_ => XS.iloadN X97.here hx rfl (hb hby at_67) rfl k_) ?_
  show Go p.tables e below G (T97.setTop (mkF m 68 #[iv p0, iv p1, iv p2, iv size, rv b2, rv b7, rv b22, rv b42, rv b67, un, un, un, un, un] [(.int size), (.ref b97), (.ref b97)]))
  refine Go.stp (fun t_ k_ => XS.aload X97.here hx rfl (hb hby at_68) rfl rfl k_) ?_
  show Go p.tables e below G (T97.setTop (mkF m 70 #[iv p0, iv p1, iv p2, iv size, rv b2, rv b7, rv b22, rv b42, rv b67, un, un, un, un, un] [(.ref b2), (.int size), (.ref b97), (.ref b97)]))
  refine Go.stp (fun t_ k_ => XS.aload X97.here hx rfl (hb hby at_70) rfl rfl k_) ?_
  show Go p.tables e below G (T97.setTop (mkF m 72 #[iv p0, iv p1, iv p2, iv size, rv b2, rv b7, rv b22, rv b42, rv b67, un, un, un, un, un] [(.ref b7), (.ref b2), (.int size), (.ref b97), (.ref b97)]))
  refine Go.stp (fun t_ k_ => XS.aload X97.here hx rfl (hb hby at_72) rfl rfl k_) ?_
  show Go p.tables e below G (T97.setTop (mkF m 74 #[iv p0, iv p1, iv p2, iv size, rv b2, rv b7, rv b22, rv b42, rv b67, un, un, un, un, un] [(.ref b67), (.ref b7), (.ref b2), (.int size), (.ref b97), (.ref b97)]))
  obtain ⟨_, _, ⟨T119, L119, k119, n119⟩, -, X119, ⟨Lc119, hQ119, l119, y119, z119⟩, st119⟩ := X97.specialBack hx (y := (⟨"com/example/stutter/stutter/eval/Frame", "<init>", "(I[Lcom/example/stutter/stutter/eval/Node;Lcom/example/stutter/stutter/eval/Frame;Lcom/example/stutter/stutter/eval/Frame;)V"⟩ : MethodName)) rfl hown (mvT hZ (hw _ (List.mem_of_getElem? (i := 29) rfl))) (mvT hZ (hw _ (List.mem_of_getElem? (i := 11) rfl))) (mvT hZ (hw _ (List.mem_of_getElem? (i := 12) rfl))) (by decide) (backOf (W := 1) (rm2r l Z a0 hw [] b97 size b2 b7 b67 (fun _ => .null) h97 n0 Z97 A97 f115 f116 f117 f118 g_b97 f106 hp0 hp7) hZ (hw _ (List.mem_of_getElem? (i := 12) rfl)) (hw _ (List.mem_of_getElem? (i := 4) rfl)) (by decide) (by decide)) (g := (mkF m 74 #[iv p0, iv p1, iv p2, iv size, rv b2, rv b7, rv b22, rv b42, rv b67, un, un, un, un, un] [(.ref b67), (.ref b7), (.ref b2), (.int size), (.ref b97), (.ref b97)])) rfl (by rw [hml]; rfl) (Steps.refl _) (a := b97) (argsL := [(.int size), (.ref b2), (.ref b7), (.ref b67)]) (rest := [(.ref b97)]) (lenOf pd_1 rfl) rfl (by show 2 * 0 + _ ≤ _; exact Nat.le_of_eq rfl) (hb hby at_74) (fun _ _ => ⟨rfl, e97, (by decide : 10 + 1 ≤ _), (by decide : 63 + 7 ≤ _)⟩)
  dsimp only [Pt.U, Pt.locs, Pt.cells, Pt.slots] at X119 l119 y119 z119 st119 hQ119
  subst l119 y119 z119
  obtain ⟨rfl, Nq119, Kc119, Ex119, Fp119⟩ := hQ119
  have N119 := Fr.app N86 Nq119
  have f120 : Ia Z T119.heap aN (.object "com/example/stutter/stutter/eval/Node") 0 id f := f104.keep Kc119 (fun q => by simp only [List.mem_cons, List.not_mem_nil, or_false] at q; exact u98 q)
  have f121 : Sta Z T119.heap "com/example/stutter/stutter/eval/Frame" "NO_ARGUMENTS" "[Lcom/example/stutter/stutter/eval/Node;" (.ref aN) := sta_keep f105 Kc119 A97
  have f122 : Ia Z T119.heap b2 (.object "com/example/stutter/stutter/eval/Node") 0 id (fun _ => .null) := f106.keep Kc119 (fun q => by simp only [List.mem_cons, List.not_mem_nil, or_false] at q; exact u99 q)
  have f123 : Exa Z T119.heap b7 "com/example/stutter/stutter/eval/Frame" := f107.keep Kc119
  have f124 : Fld Z T119.heap b7 "com/example/stutter/stutter/eval/Frame" "parent" "Lcom/example/stutter/stutter/eval/Frame;" .null := f108.keep Kc119 (fun q => by simp only [List.mem_cons, List.not_mem_nil, or_false] at q; exact u100 q)
  have f125 : Exa Z T119.heap b22 "com/example/stutter/stutter/eval/Frame" := f109.keep Kc119
  have f126 : Fld Z T119.heap b22 "com/example/stutter/stutter/eval/Frame" "parent" "Lcom/example/stutter/stutter/eval/Frame;" .null := f110.keep Kc119 (fun q => by simp only [List.mem_cons, List.not_mem_nil, or_false] at q; exact u101 q)
  have f127 : Exa Z T119.heap b42 "com/example/stutter/stutter/eval/Frame" := f111.keep Kc119
  have f128 : Fld Z T119.heap b42 "com/example/stutter/stutter/eval/Frame" "parent" "Lcom/example/stutter/stutter/eval/Frame;" (.ref b22) := f112.keep Kc119 (fun q => by simp only [List.mem_cons, List.not_mem_nil, or_false] at q; exact u102 q)
  have f129 : Exa Z T119.heap b67 "com/example/stutter/stutter/eval/Frame" := f113.keep Kc119
  have f130 : Fld Z T119.heap b67 "com/example/stutter/stutter/eval/Frame" "parent" "Lcom/example/stutter/stutter/eval/Frame;" (.ref b42) := f114.keep Kc119 (fun q => by simp only [List.mem_cons, List.not_mem_nil, or_false] at q; exact u103 q)
  have f131 : Exa Z T119.heap b97 "com/example/stutter/stutter/eval/Frame" := A97.keep Kc119
  have Z119 : n0 ≤ T119.heap.size := Nat.le_trans Z97 Kc119.1
  refine Go.stp (fun t_ k_ => st119.trans k_) ?_
  show Go p.tables e below G (T119.setTop (mkF m 77 #[iv p0, iv p1, iv p2, iv size, rv b2, rv b7, rv b22, rv b42, rv b67, un, un, un, un, un] [(.ref b97)]))
  refine Go.stp (fun t_ k_ => XS.astore X119.here hx rfl (hb hby at_77) rfl rfl (l' := #[iv p0, iv p1, iv p2, iv size, rv b2, rv b7, rv b22, rv b42, rv b67, rv b97, un, un, un, un]) rfl k_) ?_
  show Go p.tables e below G (T119.setTop (mkF m 79 #[iv p0, iv p1, iv p2, iv size, rv b2, rv b7, rv b22, rv b42, rv b67, rv b97, un, un, un, un] []))
  refine Go.stp (fun t_ k_ => XS.iloadN X119.here hx rfl (hb hby at_79) rfl k_) ?_
  show Go p.tables e below G (T119.setTop (mkF m 80 #[iv p0, iv p1, iv p2, iv size, rv b2, rv b7, rv b22, rv b42, rv b67, rv b97, un, un, un, un] [(.int p0)]))
  refine Go.stp (fun t_ k_ => XS.iconst X119.here hx rfl (hb hby at_80) k_) ?_
  show Go p.tables e below G (T119.setTop (mkF m 81 #[iv p0, iv p1, iv p2, iv size, rv b2, rv b7, rv b22, rv b42, rv b67, rv b97, un, un, un, un] [(.int (3 : Int32)), (.int p0)]))
  refine Go.stp (fun t_ k_ => XS.iand X119.here hx rfl (hb hby at_81) rfl k_) ?_
  show Go p.tables e below G (T119.setTop (mkF m 82 #[iv p0, iv p1, iv p2, iv size, rv b2, rv b7, rv b22, rv b42, rv b67, rv b97, un, un, un, un] [(.int (p0 &&& (3 : Int32)))]))
  refine Go.stp (fun t_ k_ => XS.istore X119.here hx rfl (hb hby at_82) rfl (l' := #[iv p0, iv p1, iv p2, iv size, rv b2, rv b7, rv b22, rv b42, rv b67, rv b97, iv (p0 &&& (3 : Int32)), un, un, un]) rfl k_) ?_
  show Go p.tables e below G (T119.setTop (mkF m 84 #[iv p0, iv p1, iv p2, iv size, rv b2, rv b7, rv b22, rv b42, rv b67, rv b97, iv (p0 &&& (3 : Int32)), un, un, un] []))
  rcases own_n p0 with hn | hn | hn | hn
  · rw [hn]
    show Go p.tables e below G (T119.setTop (mkF m 84 #[iv p0, iv p1, iv p2, iv size, rv b2, rv b7, rv b22, rv b42, rv b67, rv b97, iv (0 : Int32), un, un, un] []))
    refine Go.stp (fun t_ k_ => XS.iloadN X119.here hx rfl (hb hby at_84) rfl k_) ?_
    show Go p.tables e below G (T119.setTop (mkF m 85 #[iv p0, iv p1, iv p2, iv size, rv b2, rv b7, rv b22, rv b42, rv b67, rv b97, iv (0 : Int32), un, un, un] [(.int p1)]))
    refine Go.stp (fun t_ k_ => X119.ldcInt hx hown (mvT hZ (hw _ (List.mem_of_getElem? (i := 30) rfl))) (g := (mkF m 85 #[iv p0, iv p1, iv p2, iv size, rv b2, rv b7, rv b22, rv b42, rv b67, rv b97, iv (0 : Int32), un, un, un] [(.int p1)])) rfl (hb hby at_85) t_ k_) ?_
    show Go p.tables e below G (T119.setTop (mkF m 87 #[iv p0, iv p1, iv p2, iv size, rv b2, rv b7, rv b22, rv b42, rv b67, rv b97, iv (0 : Int32), un, un, un] [(.int (2147483647 : Int32)), (.int p1)]))
    refine Go.stp (fun t_ k_ => XS.iand X119.here hx rfl (hb hby at_87) rfl k_) ?_
    show Go p.tables e below G (T119.setTop (mkF m 88 #[iv p0, iv p1, iv p2, iv size, rv b2, rv b7, rv b22, rv b42, rv b67, rv b97, iv (0 : Int32), un, un, un] [(.int (p1 &&& (2147483647 : Int32)))]))
    refine Go.stp (fun t_ k_ => XS.iload X119.here hx rfl (hb hby at_88) rfl k_) ?_
    show Go p.tables e below G (T119.setTop (mkF m 90 #[iv p0, iv p1, iv p2, iv size, rv b2, rv b7, rv b22, rv b42, rv b67, rv b97, iv (0 : Int32), un, un, un] [(.int (0 : Int32)), (.int (p1 &&& (2147483647 : Int32)))]))
    refine Go.stp (fun t_ k_ => XS.iconst X119.here hx rfl (hb hby at_90) k_) ?_
    show Go p.tables e below G (T119.setTop (mkF m 91 #[iv p0, iv p1, iv p2, iv size, rv b2, rv b7, rv b22, rv b42, rv b67, rv b97, iv (0 : Int32), un, un, un] [(.int (1 : Int32)), (.int (0 : Int32)), (.int (p1 &&& (2147483647 : Int32)))]))
    refine Go.stp (fun t_ k_ => XS.iadd X119.here hx rfl (hb hby at_91) rfl k_) ?_
    show Go p.tables e below G (T119.setTop (mkF m 92 #[iv p0, iv p1, iv p2, iv size, rv b2, rv b7, rv b22, rv b42, rv b67, rv b97, iv (0 : Int32), un, un, un] [(.int ((0 : Int32) + (1 : Int32))), (.int (p1 &&& (2147483647 : Int32)))]))
    refine Go.stp (fun t_ k_ => XS.irem X119.here hx rfl (hb hby at_92) rfl (by decide) k_) ?_
    show Go p.tables e below G (T119.setTop (mkF m 93 #[iv p0, iv p1, iv p2, iv size, rv b2, rv b7, rv b22, rv b42, rv b67, rv b97, iv (0 : Int32), un, un, un] [(.int ((p1 &&& (2147483647 : Int32)) - ((p1 &&& (2147483647 : Int32)) / ((0 : Int32) + (1 : Int32))) * ((0 : Int32) + (1 : Int32))))]))
    refine Go.stp (fun t_ k_ => XS.istore X119.here hx rfl (hb hby at_93) rfl (l' := #[iv p0, iv p1, iv p2, iv size, rv b2, rv b7, rv b22, rv b42, rv b67, rv b97, iv (0 : Int32), iv ((p1 &&& (2147483647 : Int32)) - ((p1 &&& (2147483647 : Int32)) / ((0 : Int32) + (1 : Int32))) * ((0 : Int32) + (1 : Int32))), un, un]) rfl k_) ?_
    show Go p.tables e below G (T119.setTop (mkF m 95 #[iv p0, iv p1, iv p2, iv size, rv b2, rv b7, rv b22, rv b42, rv b67, rv b97, iv (0 : Int32), iv ((p1 &&& (2147483647 : Int32)) - ((p1 &&& (2147483647 : Int32)) / ((0 : Int32) + (1 : Int32))) * ((0 : Int32) + (1 : Int32))), un, un] []))
    obtain ⟨hd, hd'⟩ : ∃ z, z = ((p1 &&& (2147483647 : Int32)) - ((p1 &&& (2147483647 : Int32)) / ((0 : Int32) + (1 : Int32))) * ((0 : Int32) + (1 : Int32))) := ⟨_, rfl⟩
    have hr := own_rem p1 ((0 : Int32) + (1 : Int32)) 1 (by decide) (by decide)
    rw [← hd'] at hr ⊢
    rcases own_d1 hd hr.1 hr.2 with rfl
    · show Go p.tables e below G (T119.setTop (mkF m 95 #[iv p0, iv p1, iv p2, iv size, rv b2, rv b7, rv b22, rv b42, rv b67, rv b97, iv (0 : Int32), iv (0 : Int32), un, un] []))
      refine Go.stp (fun t_ k_ => XS.iload X119.here hx rfl (hb hby at_95) rfl k_) ?_
      show Go p.tables e below G (T119.setTop (mkF m 97 #[iv p0, iv p1, iv p2, iv size, rv b2, rv b7, rv b22, rv b42, rv b67, rv b97, iv (0 : Int32), iv (0 : Int32), un, un] [(.int (0 : Int32))]))
      refine Go.stp (fun t_ k_ => XS.aload X119.here hx rfl (hb hby at_97) rfl rfl k_) ?_
      show Go p.tables e below G (T119.setTop (mkF m 99 #[iv p0, iv p1, iv p2, iv size, rv b2, rv b7, rv b22, rv b42, rv b67, rv b97, iv (0 : Int32), iv (0 : Int32), un, un] [(.ref b22), (.int (0 : Int32))]))
      refine Go.stp (fun t_ k_ => XS.aload X119.here hx rfl (hb hby at_99) rfl rfl k_) ?_
      show Go p.tables e below G (T119.setTop (mkF m 101 #[iv p0, iv p1, iv p2, iv size, rv b2, rv b7, rv b22, rv b42, rv b67, rv b97, iv (0 : Int32), iv (0 : Int32), un, un] [(.ref b42), (.ref b22), (.int (0 : Int32))]))
      refine Go.stp (fun t_ k_ => XS.aload X119.here hx rfl (hb hby at_101) rfl rfl k_) ?_
      show Go p.tables e below G (T119.setTop (mkF m 103 #[iv p0, iv p1, iv p2, iv size, rv b2, rv b7, rv b22, rv b42, rv b67, rv b97, iv (0 : Int32), iv (0 : Int32), un, un] [(.ref b67), (.ref b42), (.ref b22), (.int (0 : Int32))]))
      refine Go.stp (fun t_ k_ => XS.aload X119.here hx rfl (hb hby at_103) rfl rfl k_) ?_
      show Go p.tables e below G (T119.setTop (mkF m 105 #[iv p0, iv p1, iv p2, iv size, rv b2, rv b7, rv b22, rv b42, rv b67, rv b97, iv (0 : Int32), iv (0 : Int32), un, un] [(.ref b97), (.ref b67), (.ref b42), (.ref b22), (.int (0 : Int32))]))
      obtain ⟨_, _, ⟨T132, L132, k132, n132⟩, -, X132, ⟨Lc132, hQ132, l132, y132, z132⟩, st132⟩ := Jvm.LawKit.callS X119 hx (y := (⟨"com/example/stutter/stutter/eval/FrameUpPinLaw", "pick", "(ILcom/example/stutter/stutter/eval/Frame;Lcom/example/stutter/stutter/eval/Frame;Lcom/example/stutter/stutter/eval/Frame;Lcom/example/stutter/stutter/eval/Frame;)Lcom/example/stutter/stutter/eval/Frame;"⟩ : MethodName)) hown (mvT hZ (hw _ (List.mem_of_getElem? (i := 31) rfl))) (mvT hZ (hw _ (List.mem_of_getElem? (i := 32) rfl))) (mvT hZ (hw _ (List.mem_of_getElem? (i := 33) rfl))) (mvT hZ (hw _ (List.mem_of_getElem? (i := 34) rfl))) (by decide) (backOf (W := 0) (rm5 l Z a0 hw [] (0 : Int32) b22 b42 b67 b97 b22 T119.heap n0 Z119 (by simp [own_pk])) hZ (hw _ (List.mem_of_getElem? (i := 34) rfl)) (hw _ (List.mem_of_getElem? (i := 33) rfl)) (by decide) (by decide)) (g := (mkF m 105 #[iv p0, iv p1, iv p2, iv size, rv b2, rv b7, rv b22, rv b42, rv b67, rv b97, iv (0 : Int32), iv (0 : Int32), un, un] [(.ref b97), (.ref b67), (.ref b42), (.ref b22), (.int (0 : Int32))])) rfl (by rw [hml]; rfl) (argsL := [(.int (0 : Int32)), (.ref b22), (.ref b42), (.ref b67), (.ref b97)]) (rest := []) (lenOf pd_3 rfl) rfl (by show 2 * 0 + _ ≤ _; exact Nat.le_of_eq rfl) (hb hby at_105) (fun _ _ => ⟨rfl, rfl, (by decide : 11 + 0 ≤ _), (by decide : 70 + 0 ≤ _)⟩)
      dsimp only [Pt.U, Pt.locs, Pt.cells, Pt.slots] at X132 l132 y132 z132 st132 hQ132
      subst l132 y132 z132
      obtain ⟨rfl, Nq132, e132⟩ := hQ132
      have N132 := Fr.app N119 Nq132
      refine Go.stp (fun t_ k_ => st132 t_ k_) ?_
      show Go p.tables e below G (T132.setTop (mkF m 108 #[iv p0, iv p1, iv p2, iv size, rv b2, rv b7, rv b22, rv b42, rv b67, rv b97, iv (0 : Int32), iv (0 : Int32), un, un] [(.ref b22)]))
      refine Go.stp (fun t_ k_ => XS.astore X132.here hx rfl (hb hby at_108) rfl rfl (l' := #[iv p0, iv p1, iv p2, iv size, rv b2, rv b7, rv b22, rv b42, rv b67, rv b97, iv (0 : Int32), iv (0 : Int32), rv b22, un]) rfl k_) ?_
      show Go p.tables e below G (T132.setTop (mkF m 110 #[iv p0, iv p1, iv p2, iv size, rv b2, rv b7, rv b22, rv b42, rv b67, rv b97, iv (0 : Int32), iv (0 : Int32), rv b22, un] []))
      refine Go.stp (fun t_ k_ => XS.iload X132.here hx rfl (hb hby at_110) rfl k_) ?_
      show Go p.tables e below G (T132.setTop (mkF m 112 #[iv p0, iv p1, iv p2, iv size, rv b2, rv b7, rv b22, rv b42, rv b67, rv b97, iv (0 : Int32), iv (0 : Int32), rv b22, un] [(.int (0 : Int32))]))
      refine Go.stp (fun t_ k_ => XS.iload X132.here hx rfl (hb hby at_112) rfl k_) ?_
      show Go p.tables e below G (T132.setTop (mkF m 114 #[iv p0, iv p1, iv p2, iv size, rv b2, rv b7, rv b22, rv b42, rv b67, rv b97, iv (0 : Int32), iv (0 : Int32), rv b22, un] [(.int (0 : Int32)), (.int (0 : Int32))]))
      refine Go.stp (fun t_ k_ => XS.isub X132.here hx rfl (hb hby at_114) rfl k_) ?_
      show Go p.tables e below G (T132.setTop (mkF m 115 #[iv p0, iv p1, iv p2, iv size, rv b2, rv b7, rv b22, rv b42, rv b67, rv b97, iv (0 : Int32), iv (0 : Int32), rv b22, un] [(.int ((0 : Int32) - (0 : Int32)))]))
      refine Go.stp (fun t_ k_ => XS.aload X132.here hx rfl (hb hby at_115) rfl rfl k_) ?_
      show Go p.tables e below G (T132.setTop (mkF m 117 #[iv p0, iv p1, iv p2, iv size, rv b2, rv b7, rv b22, rv b42, rv b67, rv b97, iv (0 : Int32), iv (0 : Int32), rv b22, un] [(.ref b22), (.int ((0 : Int32) - (0 : Int32)))]))
      refine Go.stp (fun t_ k_ => XS.aload X132.here hx rfl (hb hby at_117) rfl rfl k_) ?_
      show Go p.tables e below G (T132.setTop (mkF m 119 #[iv p0, iv p1, iv p2, iv size, rv b2, rv b7, rv b22, rv b42, rv b67, rv b97, iv (0 : Int32), iv (0 : Int32), rv b22, un] [(.ref b42), (.ref b22), (.int ((0 : Int32) - (0 : Int32)))]))
      refine Go.stp (fun t_ k_ => XS.aload X132.here hx rfl (hb hby at_119) rfl rfl k_) ?_
      show Go p.tables e below G (T132.setTop (mkF m 121 #[iv p0, iv p1, iv p2, iv size, rv b2, rv b7, rv b22, rv b42, rv b67, rv b97, iv (0 : Int32), iv (0 : Int32), rv b22, un] [(.ref b67), (.ref b42), (.ref b22), (.int ((0 : Int32) - (0 : Int32)))]))
      refine Go.stp (fun t_ k_ => XS.aload X132.here hx rfl (hb hby at_121) rfl rfl k_) ?_
      show Go p.tables e below G (T132.setTop (mkF m 123 #[iv p0, iv p1, iv p2, iv size, rv b2, rv b7, rv b22, rv b42, rv b67, rv b97, iv (0 : Int32), iv (0 : Int32), rv b22, un] [(.ref b97), (.ref b67), (.ref b42), (.ref b22), (.int ((0 : Int32) - (0 : Int32)))]))
      obtain ⟨_, _, ⟨T133, L133, k133, n133⟩, -, X133, ⟨Lc133, hQ133, l133, y133, z133⟩, st133⟩ := Jvm.LawKit.callS X132 hx (y := (⟨"com/example/stutter/stutter/eval/FrameUpPinLaw", "pick", "(ILcom/example/stutter/stutter/eval/Frame;Lcom/example/stutter/stutter/eval/Frame;Lcom/example/stutter/stutter/eval/Frame;Lcom/example/stutter/stutter/eval/Frame;)Lcom/example/stutter/stutter/eval/Frame;"⟩ : MethodName)) hown (mvT hZ (hw _ (List.mem_of_getElem? (i := 31) rfl))) (mvT hZ (hw _ (List.mem_of_getElem? (i := 32) rfl))) (mvT hZ (hw _ (List.mem_of_getElem? (i := 33) rfl))) (mvT hZ (hw _ (List.mem_of_getElem? (i := 34) rfl))) (by decide) (backOf (W := 0) (rm5 l Z a0 hw [] ((0 : Int32) - (0 : Int32)) b22 b42 b67 b97 b22 T119.heap n0 Z119 (by simp [own_pk])) hZ (hw _ (List.mem_of_getElem? (i := 34) rfl)) (hw _ (List.mem_of_getElem? (i := 33) rfl)) (by decide) (by decide)) (g := (mkF m 123 #[iv p0, iv p1, iv p2, iv size, rv b2, rv b7, rv b22, rv b42, rv b67, rv b97, iv (0 : Int32), iv (0 : Int32), rv b22, un] [(.ref b97), (.ref b67), (.ref b42), (.ref b22), (.int ((0 : Int32) - (0 : Int32)))])) rfl (by rw [hml]; rfl) (argsL := [(.int ((0 : Int32) - (0 : Int32))), (.ref b22), (.ref b42), (.ref b67), (.ref b97)]) (rest := []) (lenOf pd_3 rfl) rfl (by show 2 * 0 + _ ≤ _; exact Nat.le_of_eq rfl) (hb hby at_123) (fun _ _ => ⟨rfl, e132, (by decide : 11 + 0 ≤ _), (by decide : 70 + 0 ≤ _)⟩)
      dsimp only [Pt.U, Pt.locs, Pt.cells, Pt.slots] at X133 l133 y133 z133 st133 hQ133
      subst l133 y133 z133
      obtain ⟨rfl, Nq133, e133⟩ := hQ133
      have N133 := Fr.app N132 Nq133
      refine Go.stp (fun t_ k_ => st133 t_ k_) ?_
      show Go p.tables e below G (T133.setTop (mkF m 126 #[iv p0, iv p1, iv p2, iv size, rv b2, rv b7, rv b22, rv b42, rv b67, rv b97, iv (0 : Int32), iv (0 : Int32), rv b22, un] [(.ref b22)]))
      refine Go.stp (fun t_ k_ => XS.astore X133.here hx rfl (hb hby at_126) rfl rfl (l' := #[iv p0, iv p1, iv p2, iv size, rv b2, rv b7, rv b22, rv b42, rv b67, rv b97, iv (0 : Int32), iv (0 : Int32), rv b22, rv b22]) rfl k_) ?_
      show Go p.tables e below G (T133.setTop (mkF m 128 #[iv p0, iv p1, iv p2, iv size, rv b2, rv b7, rv b22, rv b42, rv b67, rv b97, iv (0 : Int32), iv (0 : Int32), rv b22, rv b22] []))
      refine Go.stp (fun t_ k_ => XS.aload X133.here hx rfl (hb hby at_128) rfl rfl k_) ?_
      show Go p.tables e below G (T133.setTop (mkF m 130 #[iv p0, iv p1, iv p2, iv size, rv b2, rv b7, rv b22, rv b42, rv b67, rv b97, iv (0 : Int32), iv (0 : Int32), rv b22, rv b22] [(.ref b22)]))
      refine Go.stp (fun t_ k_ => XS.iload X133.here hx rfl (hb hby at_130) rfl k_) ?_
      show Go p.tables e below G (T133.setTop (mkF m 132 #[iv p0, iv p1, iv p2, iv size, rv b2, rv b7, rv b22, rv b42, rv b67, rv b97, iv (0 : Int32), iv (0 : Int32), rv b22, rv b22] [(.int (0 : Int32)), (.ref b22)]))
      obtain ⟨cq134, kq134, q134a, q134b, q134c⟩ := isOf hZ e133 f125
      obtain ⟨_, _, ⟨T134, L134, k134, n134⟩, -, X134, ⟨Lc134, hQ134, l134, y134, z134⟩, st134⟩ := X133.virtualBack hx (y := (⟨"com/example/stutter/stutter/eval/Frame", "up", "(I)Lcom/example/stutter/stutter/eval/Frame;"⟩ : MethodName)) (z := (⟨"com/example/stutter/stutter/eval/Frame", "up", "(I)Lcom/example/stutter/stutter/eval/Frame;"⟩ : MethodName)) hown (mvT hZ (hw _ (List.mem_of_getElem? (i := 35) rfl))) (mvT hZ (hw _ (List.mem_of_getElem? (i := 36) rfl))) (notFace_of_selects (args := #[]) (mvT hZ (hw _ (List.mem_of_getElem? (i := 38) rfl)))) (mvT hZ (hw _ (List.mem_of_getElem? (i := 38) rfl))) (mvT hZ (hw _ (List.mem_of_getElem? (i := 37) rfl))) (by decide) (backOf (W := 0) (rm6_0 l Z a0 hw [] b22 T119.heap n0 Z119 ) hZ (hw _ (List.mem_of_getElem? (i := 39) rfl)) (hw _ (List.mem_of_getElem? (i := 4) rfl)) (by decide) (by decide)) q134a q134c (g := (mkF m 132 #[iv p0, iv p1, iv p2, iv size, rv b2, rv b7, rv b22, rv b42, rv b67, rv b97, iv (0 : Int32), iv (0 : Int32), rv b22, rv b22] [(.int (0 : Int32)), (.ref b22)])) rfl (by rw [hml]; rfl) (Steps.refl _) (argsL := [(.int (0 : Int32))]) (rest := []) (lenOf pd_4 rfl) rfl (by show 2 * 0 + _ ≤ _; exact Nat.le_of_eq rfl) (hb hby at_132) (fun _ _ => ⟨rfl, e133, (by decide : 11 + 0 ≤ _), (by decide : 70 + 0 ≤ _)⟩)
      dsimp only [Pt.U, Pt.locs, Pt.cells, Pt.slots] at X134 l134 y134 z134 st134 hQ134
      subst l134 y134 z134
      obtain ⟨rfl, Nq134, e134⟩ := hQ134
      have N134 := Fr.app N133 Nq134
      refine Go.stp (fun t_ k_ => st134.trans k_) ?_
      show Go p.tables e below G (T134.setTop (mkF m 135 #[iv p0, iv p1, iv p2, iv size, rv b2, rv b7, rv b22, rv b42, rv b67, rv b97, iv (0 : Int32), iv (0 : Int32), rv b22, rv b22] [(.ref b22)]))
      refine Go.stp (fun t_ k_ => XS.aload X134.here hx rfl (hb hby at_135) rfl rfl k_) ?_
      show Go p.tables e below G (T134.setTop (mkF m 137 #[iv p0, iv p1, iv p2, iv size, rv b2, rv b7, rv b22, rv b42, rv b67, rv b97, iv (0 : Int32), iv (0 : Int32), rv b22, rv b22] [(.ref b22), (.ref b22)]))
      refine Go.stp (fun t_ k_ => Jvm.RoadKit.acmp (g := (mkF m 137 #[iv p0, iv p1, iv p2, iv size, rv b2, rv b7, rv b22, rv b42, rv b67, rv b97, iv (0 : Int32), iv (0 : Int32), rv b22, rv b22] [(.ref b22), (.ref b22)])) X134 hx rfl rfl rfl (pc0 := 137) (pc' := 140) (same := true) rfl (hb hby at_137) rfl (decide_eq_true rfl) (by decide) (by decide) k_) ?_
      show Go p.tables e below G (T134.setTop (mkF m 140 #[iv p0, iv p1, iv p2, iv size, rv b2, rv b7, rv b22, rv b42, rv b67, rv b97, iv (0 : Int32), iv (0 : Int32), rv b22, rv b22] []))
      refine Go.stp (fun t_ k_ => XS.iconst X134.here hx rfl (hb hby at_140) k_) ?_
      show Go p.tables e below G (T134.setTop (mkF m 141 #[iv p0, iv p1, iv p2, iv size, rv b2, rv b7, rv b22, rv b42, rv b67, rv b97, iv (0 : Int32), iv (0 : Int32), rv b22, rv b22] [(.int (1 : Int32))]))
      refine Go.stp (fun t_ k_ => XS.goto X134.here hx rfl (pc0 := 141) (pc' := 145) rfl (hb hby at_141) (by decide) (by decide) k_) ?_
      show Go p.tables e below G (T134.setTop (mkF m 145 #[iv p0, iv p1, iv p2, iv size, rv b2, rv b7, rv b22, rv b42, rv b67, rv b97, iv (0 : Int32), iv (0 : Int32), rv b22, rv b22] [(.int (1 : Int32))]))
      obtain ⟨fs, hr, hrun, hended, hW, hsame⟩ := X134.leave (v := some (.int (1 : Int32))) (fun h => by rw [Bd.returns] at h; cases h)
      refine ⟨_, _, retN X134 hx (t := .boolean) Bd.returns (by simp) (hb hby at_145) hr, hrun, hended, hG _ _ _ ?_ ⟨⟨_, rfl⟩, hW, hsame.mono (by decide) (by decide)⟩⟩
      show Q0 Z p0 p1 p2 aN f h0 n0 _ T134.heap _
      rw [e134]
      exact ⟨rfl, N134⟩
  · rw [hn]
    show Go p.tables e below G (T119.setTop (mkF m 84 #[iv p0, iv p1, iv p2, iv size, rv b2, rv b7, rv b22, rv b42, rv b67, rv b97, iv (1 : Int32), un, un, un] []))
    refine Go.stp (fun t_ k_ => XS.iloadN X119.here hx rfl (hb hby at_84) rfl k_) ?_
    show Go p.tables e below G (T119.setTop (mkF m 85 #[iv p0, iv p1, iv p2, iv size, rv b2, rv b7, rv b22, rv b42, rv b67, rv b97, iv (1 : Int32), un, un, un] [(.int p1)]))
    refine Go.stp (fun t_ k_ => X119.ldcInt hx hown (mvT hZ (hw _ (List.mem_of_getElem? (i := 30) rfl))) (g := (mkF m 85 #[iv p0, iv p1, iv p2, iv size, rv b2, rv b7, rv b22, rv b42, rv b67, rv b97, iv (1 : Int32), un, un, un] [(.int p1)])) rfl (hb hby at_85) t_ k_) ?_
    show Go p.tables e below G (T119.setTop (mkF m 87 #[iv p0, iv p1, iv p2, iv size, rv b2, rv b7, rv b22, rv b42, rv b67, rv b97, iv (1 : Int32), un, un, un] [(.int (2147483647 : Int32)), (.int p1)]))
    refine Go.stp (fun t_ k_ => XS.iand X119.here hx rfl (hb hby at_87) rfl k_) ?_
    show Go p.tables e below G (T119.setTop (mkF m 88 #[iv p0, iv p1, iv p2, iv size, rv b2, rv b7, rv b22, rv b42, rv b67, rv b97, iv (1 : Int32), un, un, un] [(.int (p1 &&& (2147483647 : Int32)))]))
    refine Go.stp (fun t_ k_ => XS.iload X119.here hx rfl (hb hby at_88) rfl k_) ?_
    show Go p.tables e below G (T119.setTop (mkF m 90 #[iv p0, iv p1, iv p2, iv size, rv b2, rv b7, rv b22, rv b42, rv b67, rv b97, iv (1 : Int32), un, un, un] [(.int (1 : Int32)), (.int (p1 &&& (2147483647 : Int32)))]))
    refine Go.stp (fun t_ k_ => XS.iconst X119.here hx rfl (hb hby at_90) k_) ?_
    show Go p.tables e below G (T119.setTop (mkF m 91 #[iv p0, iv p1, iv p2, iv size, rv b2, rv b7, rv b22, rv b42, rv b67, rv b97, iv (1 : Int32), un, un, un] [(.int (1 : Int32)), (.int (1 : Int32)), (.int (p1 &&& (2147483647 : Int32)))]))
    refine Go.stp (fun t_ k_ => XS.iadd X119.here hx rfl (hb hby at_91) rfl k_) ?_
    show Go p.tables e below G (T119.setTop (mkF m 92 #[iv p0, iv p1, iv p2, iv size, rv b2, rv b7, rv b22, rv b42, rv b67, rv b97, iv (1 : Int32), un, un, un] [(.int ((1 : Int32) + (1 : Int32))), (.int (p1 &&& (2147483647 : Int32)))]))
    refine Go.stp (fun t_ k_ => XS.irem X119.here hx rfl (hb hby at_92) rfl (by decide) k_) ?_
    show Go p.tables e below G (T119.setTop (mkF m 93 #[iv p0, iv p1, iv p2, iv size, rv b2, rv b7, rv b22, rv b42, rv b67, rv b97, iv (1 : Int32), un, un, un] [(.int ((p1 &&& (2147483647 : Int32)) - ((p1 &&& (2147483647 : Int32)) / ((1 : Int32) + (1 : Int32))) * ((1 : Int32) + (1 : Int32))))]))
    refine Go.stp (fun t_ k_ => XS.istore X119.here hx rfl (hb hby at_93) rfl (l' := #[iv p0, iv p1, iv p2, iv size, rv b2, rv b7, rv b22, rv b42, rv b67, rv b97, iv (1 : Int32), iv ((p1 &&& (2147483647 : Int32)) - ((p1 &&& (2147483647 : Int32)) / ((1 : Int32) + (1 : Int32))) * ((1 : Int32) + (1 : Int32))), un, un]) rfl k_) ?_
    show Go p.tables e below G (T119.setTop (mkF m 95 #[iv p0, iv p1, iv p2, iv size, rv b2, rv b7, rv b22, rv b42, rv b67, rv b97, iv (1 : Int32), iv ((p1 &&& (2147483647 : Int32)) - ((p1 &&& (2147483647 : Int32)) / ((1 : Int32) + (1 : Int32))) * ((1 : Int32) + (1 : Int32))), un, un] []))
    obtain ⟨hd, hd'⟩ : ∃ z, z = ((p1 &&& (2147483647 : Int32)) - ((p1 &&& (2147483647 : Int32)) / ((1 : Int32) + (1 : Int32))) * ((1 : Int32) + (1 : Int32))) := ⟨_, rfl⟩
    have hr := own_rem p1 ((1 : Int32) + (1 : Int32)) 2 (by decide) (by decide)
    rw [← hd'] at hr ⊢
    rcases own_d2 hd hr.1 hr.2 with rfl | rfl
    · show Go p.tables e below G (T119.setTop (mkF m 95 #[iv p0, iv p1, iv p2, iv size, rv b2, rv b7, rv b22, rv b42, rv b67, rv b97, iv (1 : Int32), iv (0 : Int32), un, un] []))
      refine Go.stp (fun t_ k_ => XS.iload X119.here hx rfl (hb hby at_95) rfl k_) ?_
      show Go p.tables e below G (T119.setTop (mkF m 97 #[iv p0, iv p1, iv p2, iv size, rv b2, rv b7, rv b22, rv b42, rv b67, rv b97, iv (1 : Int32), iv (0 : Int32), un, un] [(.int (1 : Int32))]))
      refine Go.stp (fun t_ k_ => XS.aload X119.here hx rfl (hb hby at_97) rfl rfl k_) ?_
      show Go p.tables e below G (T119.setTop (mkF m 99 #[iv p0, iv p1, iv p2, iv size, rv b2, rv b7, rv b22, rv b42, rv b67, rv b97, iv (1 : Int32), iv (0 : Int32), un, un] [(.ref b22), (.int (1 : Int32))]))
      refine Go.stp (fun t_ k_ => XS.aload X119.here hx rfl (hb hby at_99) rfl rfl k_) ?_
      show Go p.tables e below G (T119.setTop (mkF m 101 #[iv p0, iv p1, iv p2, iv size, rv b2, rv b7, rv b22, rv b42, rv b67, rv b97, iv (1 : Int32), iv (0 : Int32), un, un] [(.ref b42), (.ref b22), (.int (1 : Int32))]))
      refine Go.stp (fun t_ k_ => XS.aload X119.here hx rfl (hb hby at_101) rfl rfl k_) ?_
      show Go p.tables e below G (T119.setTop (mkF m 103 #[iv p0, iv p1, iv p2, iv size, rv b2, rv b7, rv b22, rv b42, rv b67, rv b97, iv (1 : Int32), iv (0 : Int32), un, un] [(.ref b67), (.ref b42), (.ref b22), (.int (1 : Int32))]))
      refine Go.stp (fun t_ k_ => XS.aload X119.here hx rfl (hb hby at_103) rfl rfl k_) ?_
      show Go p.tables e below G (T119.setTop (mkF m 105 #[iv p0, iv p1, iv p2, iv size, rv b2, rv b7, rv b22, rv b42, rv b67, rv b97, iv (1 : Int32), iv (0 : Int32), un, un] [(.ref b97), (.ref b67), (.ref b42), (.ref b22), (.int (1 : Int32))]))
      obtain ⟨_, _, ⟨T135, L135, k135, n135⟩, -, X135, ⟨Lc135, hQ135, l135, y135, z135⟩, st135⟩ := Jvm.LawKit.callS X119 hx (y := (⟨"com/example/stutter/stutter/eval/FrameUpPinLaw", "pick", "(ILcom/example/stutter/stutter/eval/Frame;Lcom/example/stutter/stutter/eval/Frame;Lcom/example/stutter/stutter/eval/Frame;Lcom/example/stutter/stutter/eval/Frame;)Lcom/example/stutter/stutter/eval/Frame;"⟩ : MethodName)) hown (mvT hZ (hw _ (List.mem_of_getElem? (i := 31) rfl))) (mvT hZ (hw _ (List.mem_of_getElem? (i := 32) rfl))) (mvT hZ (hw _ (List.mem_of_getElem? (i := 33) rfl))) (mvT hZ (hw _ (List.mem_of_getElem? (i := 34) rfl))) (by decide) (backOf (W := 0) (rm5 l Z a0 hw [] (1 : Int32) b22 b42 b67 b97 b42 T119.heap n0 Z119 (by simp [own_pk])) hZ (hw _ (List.mem_of_getElem? (i := 34) rfl)) (hw _ (List.mem_of_getElem? (i := 33) rfl)) (by decide) (by decide)) (g := (mkF m 105 #[iv p0, iv p1, iv p2, iv size, rv b2, rv b7, rv b22, rv b42, rv b67, rv b97, iv (1 : Int32), iv (0 : Int32), un, un] [(.ref b97), (.ref b67), (.ref b42), (.ref b22), (.int (1 : Int32))])) rfl (by rw [hml]; rfl) (argsL := [(.int (1 : Int32)), (.ref b22), (.ref b42), (.ref b67), (.ref b97)]) (rest := []) (lenOf pd_3 rfl) rfl (by show 2 * 0 + _ ≤ _; exact Nat.le_of_eq rfl) (hb hby at_105) (fun _ _ => ⟨rfl, rfl, (by decide : 11 + 0 ≤ _), (by decide : 70 + 0 ≤ _)⟩)
      dsimp only [Pt.U, Pt.locs, Pt.cells, Pt.slots] at X135 l135 y135 z135 st135 hQ135
      subst l135 y135 z135
      obtain ⟨rfl, Nq135, e135⟩ := hQ135
      have N135 := Fr.app N119 Nq135
      refine Go.stp (fun t_ k_ => st135 t_ k_) ?_
      show Go p.tables e below G (T135.setTop (mkF m 108 #[iv p0, iv p1, iv p2, iv size, rv b2, rv b7, rv b22, rv b42, rv b67, rv b97, iv (1 : Int32), iv (0 : Int32), un, un] [(.ref b42)]))
      refine Go.stp (fun t_ k_ => XS.astore X135.here hx rfl (hb hby at_108) rfl rfl (l' := #[iv p0, iv p1, iv p2, iv size, rv b2, rv b7, rv b22, rv b42, rv b67, rv b97, iv (1 : Int32), iv (0 : Int32), rv b42, un]) rfl k_) ?_
      show Go p.tables e below G (T135.setTop (mkF m 110 #[iv p0, iv p1, iv p2, iv size, rv b2, rv b7, rv b22, rv b42, rv b67, rv b97, iv (1 : Int32), iv (0 : Int32), rv b42, un] []))
      refine Go.stp (fun t_ k_ => XS.iload X135.here hx rfl (hb hby at_110) rfl k_) ?_
      show Go p.tables e below G (T135.setTop (mkF m 112 #[iv p0, iv p1, iv p2, iv size, rv b2, rv b7, rv b22, rv b42, rv b67, rv b97, iv (1 : Int32), iv (0 : Int32), rv b42, un] [(.int (1 : Int32))]))
      refine Go.stp (fun t_ k_ => XS.iload X135.here hx rfl (hb hby at_112) rfl k_) ?_
      show Go p.tables e below G (T135.setTop (mkF m 114 #[iv p0, iv p1, iv p2, iv size, rv b2, rv b7, rv b22, rv b42, rv b67, rv b97, iv (1 : Int32), iv (0 : Int32), rv b42, un] [(.int (0 : Int32)), (.int (1 : Int32))]))
      refine Go.stp (fun t_ k_ => XS.isub X135.here hx rfl (hb hby at_114) rfl k_) ?_
      show Go p.tables e below G (T135.setTop (mkF m 115 #[iv p0, iv p1, iv p2, iv size, rv b2, rv b7, rv b22, rv b42, rv b67, rv b97, iv (1 : Int32), iv (0 : Int32), rv b42, un] [(.int ((1 : Int32) - (0 : Int32)))]))
      refine Go.stp (fun t_ k_ => XS.aload X135.here hx rfl (hb hby at_115) rfl rfl k_) ?_
      show Go p.tables e below G (T135.setTop (mkF m 117 #[iv p0, iv p1, iv p2, iv size, rv b2, rv b7, rv b22, rv b42, rv b67, rv b97, iv (1 : Int32), iv (0 : Int32), rv b42, un] [(.ref b22), (.int ((1 : Int32) - (0 : Int32)))]))
      refine Go.stp (fun t_ k_ => XS.aload X135.here hx rfl (hb hby at_117) rfl rfl k_) ?_
      show Go p.tables e below G (T135.setTop (mkF m 119 #[iv p0, iv p1, iv p2, iv size, rv b2, rv b7, rv b22, rv b42, rv b67, rv b97, iv (1 : Int32), iv (0 : Int32), rv b42, un] [(.ref b42), (.ref b22), (.int ((1 : Int32) - (0 : Int32)))]))
      refine Go.stp (fun t_ k_ => XS.aload X135.here hx rfl (hb hby at_119) rfl rfl k_) ?_
      show Go p.tables e below G (T135.setTop (mkF m 121 #[iv p0, iv p1, iv p2, iv size, rv b2, rv b7, rv b22, rv b42, rv b67, rv b97, iv (1 : Int32), iv (0 : Int32), rv b42, un] [(.ref b67), (.ref b42), (.ref b22), (.int ((1 : Int32) - (0 : Int32)))]))
      refine Go.stp (fun t_ k_ => XS.aload X135.here hx rfl (hb hby at_121) rfl rfl k_) ?_
      show Go p.tables e below G (T135.setTop (mkF m 123 #[iv p0, iv p1, iv p2, iv size, rv b2, rv b7, rv b22, rv b42, rv b67, rv b97, iv (1 : Int32), iv (0 : Int32), rv b42, un] [(.ref b97), (.ref b67), (.ref b42), (.ref b22), (.int ((1 : Int32) - (0 : Int32)))]))
      obtain ⟨_, _, ⟨T136, L136, k136, n136⟩, -, X136, ⟨Lc136, hQ136, l136, y136, z136⟩, st136⟩ := Jvm.LawKit.callS X135 hx (y := (⟨"com/example/stutter/stutter/eval/FrameUpPinLaw", "pick", "(ILcom/example/stutter/stutter/eval/Frame;Lcom/example/stutter/stutter/eval/Frame;Lcom/example/stutter/stutter/eval/Frame;Lcom/example/stutter/stutter/eval/Frame;)Lcom/example/stutter/stutter/eval/Frame;"⟩ : MethodName)) hown (mvT hZ (hw _ (List.mem_of_getElem? (i := 31) rfl))) (mvT hZ (hw _ (List.mem_of_getElem? (i := 32) rfl))) (mvT hZ (hw _ (List.mem_of_getElem? (i := 33) rfl))) (mvT hZ (hw _ (List.mem_of_getElem? (i := 34) rfl))) (by decide) (backOf (W := 0) (rm5 l Z a0 hw [] ((1 : Int32) - (0 : Int32)) b22 b42 b67 b97 b42 T119.heap n0 Z119 (by simp [own_pk])) hZ (hw _ (List.mem_of_getElem? (i := 34) rfl)) (hw _ (List.mem_of_getElem? (i := 33) rfl)) (by decide) (by decide)) (g := (mkF m 123 #[iv p0, iv p1, iv p2, iv size, rv b2, rv b7, rv b22, rv b42, rv b67, rv b97, iv (1 : Int32), iv (0 : Int32), rv b42, un] [(.ref b97), (.ref b67), (.ref b42), (.ref b22), (.int ((1 : Int32) - (0 : Int32)))])) rfl (by rw [hml]; rfl) (argsL := [(.int ((1 : Int32) - (0 : Int32))), (.ref b22), (.ref b42), (.ref b67), (.ref b97)]) (rest := []) (lenOf pd_3 rfl) rfl (by show 2 * 0 + _ ≤ _; exact Nat.le_of_eq rfl) (hb hby at_123) (fun _ _ => ⟨rfl, e135, (by decide : 11 + 0 ≤ _), (by decide : 70 + 0 ≤ _)⟩)
      dsimp only [Pt.U, Pt.locs, Pt.cells, Pt.slots] at X136 l136 y136 z136 st136 hQ136
      subst l136 y136 z136
      obtain ⟨rfl, Nq136, e136⟩ := hQ136
      have N136 := Fr.app N135 Nq136
      refine Go.stp (fun t_ k_ => st136 t_ k_) ?_
      show Go p.tables e below G (T136.setTop (mkF m 126 #[iv p0, iv p1, iv p2, iv size, rv b2, rv b7, rv b22, rv b42, rv b67, rv b97, iv (1 : Int32), iv (0 : Int32), rv b42, un] [(.ref b42)]))
      refine Go.stp (fun t_ k_ => XS.astore X136.here hx rfl (hb hby at_126) rfl rfl (l' := #[iv p0, iv p1, iv p2, iv size, rv b2, rv b7, rv b22, rv b42, rv b67, rv b97, iv (1 : Int32), iv (0 : Int32), rv b42, rv b42]) rfl k_) ?_
      show Go p.tables e below G (T136.setTop (mkF m 128 #[iv p0, iv p1, iv p2, iv size, rv b2, rv b7, rv b22, rv b42, rv b67, rv b97, iv (1 : Int32), iv (0 : Int32), rv b42, rv b42] []))
      refine Go.stp (fun t_ k_ => XS.aload X136.here hx rfl (hb hby at_128) rfl rfl k_) ?_
      show Go p.tables e below G (T136.setTop (mkF m 130 #[iv p0, iv p1, iv p2, iv size, rv b2, rv b7, rv b22, rv b42, rv b67, rv b97, iv (1 : Int32), iv (0 : Int32), rv b42, rv b42] [(.ref b42)]))
      refine Go.stp (fun t_ k_ => XS.iload X136.here hx rfl (hb hby at_130) rfl k_) ?_
      show Go p.tables e below G (T136.setTop (mkF m 132 #[iv p0, iv p1, iv p2, iv size, rv b2, rv b7, rv b22, rv b42, rv b67, rv b97, iv (1 : Int32), iv (0 : Int32), rv b42, rv b42] [(.int (0 : Int32)), (.ref b42)]))
      obtain ⟨cq137, kq137, q137a, q137b, q137c⟩ := isOf hZ e136 f127
      obtain ⟨_, _, ⟨T137, L137, k137, n137⟩, -, X137, ⟨Lc137, hQ137, l137, y137, z137⟩, st137⟩ := X136.virtualBack hx (y := (⟨"com/example/stutter/stutter/eval/Frame", "up", "(I)Lcom/example/stutter/stutter/eval/Frame;"⟩ : MethodName)) (z := (⟨"com/example/stutter/stutter/eval/Frame", "up", "(I)Lcom/example/stutter/stutter/eval/Frame;"⟩ : MethodName)) hown (mvT hZ (hw _ (List.mem_of_getElem? (i := 35) rfl))) (mvT hZ (hw _ (List.mem_of_getElem? (i := 36) rfl))) (notFace_of_selects (args := #[]) (mvT hZ (hw _ (List.mem_of_getElem? (i := 38) rfl)))) (mvT hZ (hw _ (List.mem_of_getElem? (i := 38) rfl))) (mvT hZ (hw _ (List.mem_of_getElem? (i := 37) rfl))) (by decide) (backOf (W := 0) (rm6_0 l Z a0 hw [] b42 T119.heap n0 Z119 ) hZ (hw _ (List.mem_of_getElem? (i := 39) rfl)) (hw _ (List.mem_of_getElem? (i := 4) rfl)) (by decide) (by decide)) q137a q137c (g := (mkF m 132 #[iv p0, iv p1, iv p2, iv size, rv b2, rv b7, rv b22, rv b42, rv b67, rv b97, iv (1 : Int32), iv (0 : Int32), rv b42, rv b42] [(.int (0 : Int32)), (.ref b42)])) rfl (by rw [hml]; rfl) (Steps.refl _) (argsL := [(.int (0 : Int32))]) (rest := []) (lenOf pd_4 rfl) rfl (by show 2 * 0 + _ ≤ _; exact Nat.le_of_eq rfl) (hb hby at_132) (fun _ _ => ⟨rfl, e136, (by decide : 11 + 0 ≤ _), (by decide : 70 + 0 ≤ _)⟩)
      dsimp only [Pt.U, Pt.locs, Pt.cells, Pt.slots] at X137 l137 y137 z137 st137 hQ137
      subst l137 y137 z137
      obtain ⟨rfl, Nq137, e137⟩ := hQ137
      have N137 := Fr.app N136 Nq137
      refine Go.stp (fun t_ k_ => st137.trans k_) ?_
      show Go p.tables e below G (T137.setTop (mkF m 135 #[iv p0, iv p1, iv p2, iv size, rv b2, rv b7, rv b22, rv b42, rv b67, rv b97, iv (1 : Int32), iv (0 : Int32), rv b42, rv b42] [(.ref b42)]))
      refine Go.stp (fun t_ k_ => XS.aload X137.here hx rfl (hb hby at_135) rfl rfl k_) ?_
      show Go p.tables e below G (T137.setTop (mkF m 137 #[iv p0, iv p1, iv p2, iv size, rv b2, rv b7, rv b22, rv b42, rv b67, rv b97, iv (1 : Int32), iv (0 : Int32), rv b42, rv b42] [(.ref b42), (.ref b42)]))
      refine Go.stp (fun t_ k_ => Jvm.RoadKit.acmp (g := (mkF m 137 #[iv p0, iv p1, iv p2, iv size, rv b2, rv b7, rv b22, rv b42, rv b67, rv b97, iv (1 : Int32), iv (0 : Int32), rv b42, rv b42] [(.ref b42), (.ref b42)])) X137 hx rfl rfl rfl (pc0 := 137) (pc' := 140) (same := true) rfl (hb hby at_137) rfl (decide_eq_true rfl) (by decide) (by decide) k_) ?_
      show Go p.tables e below G (T137.setTop (mkF m 140 #[iv p0, iv p1, iv p2, iv size, rv b2, rv b7, rv b22, rv b42, rv b67, rv b97, iv (1 : Int32), iv (0 : Int32), rv b42, rv b42] []))
      refine Go.stp (fun t_ k_ => XS.iconst X137.here hx rfl (hb hby at_140) k_) ?_
      show Go p.tables e below G (T137.setTop (mkF m 141 #[iv p0, iv p1, iv p2, iv size, rv b2, rv b7, rv b22, rv b42, rv b67, rv b97, iv (1 : Int32), iv (0 : Int32), rv b42, rv b42] [(.int (1 : Int32))]))
      refine Go.stp (fun t_ k_ => XS.goto X137.here hx rfl (pc0 := 141) (pc' := 145) rfl (hb hby at_141) (by decide) (by decide) k_) ?_
      show Go p.tables e below G (T137.setTop (mkF m 145 #[iv p0, iv p1, iv p2, iv size, rv b2, rv b7, rv b22, rv b42, rv b67, rv b97, iv (1 : Int32), iv (0 : Int32), rv b42, rv b42] [(.int (1 : Int32))]))
      obtain ⟨fs, hr, hrun, hended, hW, hsame⟩ := X137.leave (v := some (.int (1 : Int32))) (fun h => by rw [Bd.returns] at h; cases h)
      refine ⟨_, _, retN X137 hx (t := .boolean) Bd.returns (by simp) (hb hby at_145) hr, hrun, hended, hG _ _ _ ?_ ⟨⟨_, rfl⟩, hW, hsame.mono (by decide) (by decide)⟩⟩
      show Q0 Z p0 p1 p2 aN f h0 n0 _ T137.heap _
      rw [e137]
      exact ⟨rfl, N137⟩
    · show Go p.tables e below G (T119.setTop (mkF m 95 #[iv p0, iv p1, iv p2, iv size, rv b2, rv b7, rv b22, rv b42, rv b67, rv b97, iv (1 : Int32), iv (1 : Int32), un, un] []))
      refine Go.stp (fun t_ k_ => XS.iload X119.here hx rfl (hb hby at_95) rfl k_) ?_
      show Go p.tables e below G (T119.setTop (mkF m 97 #[iv p0, iv p1, iv p2, iv size, rv b2, rv b7, rv b22, rv b42, rv b67, rv b97, iv (1 : Int32), iv (1 : Int32), un, un] [(.int (1 : Int32))]))
      refine Go.stp (fun t_ k_ => XS.aload X119.here hx rfl (hb hby at_97) rfl rfl k_) ?_
      show Go p.tables e below G (T119.setTop (mkF m 99 #[iv p0, iv p1, iv p2, iv size, rv b2, rv b7, rv b22, rv b42, rv b67, rv b97, iv (1 : Int32), iv (1 : Int32), un, un] [(.ref b22), (.int (1 : Int32))]))
      refine Go.stp (fun t_ k_ => XS.aload X119.here hx rfl (hb hby at_99) rfl rfl k_) ?_
      show Go p.tables e below G (T119.setTop (mkF m 101 #[iv p0, iv p1, iv p2, iv size, rv b2, rv b7, rv b22, rv b42, rv b67, rv b97, iv (1 : Int32), iv (1 : Int32), un, un] [(.ref b42), (.ref b22), (.int (1 : Int32))]))
      refine Go.stp (fun t_ k_ => XS.aload X119.here hx rfl (hb hby at_101) rfl rfl k_) ?_
      show Go p.tables e below G (T119.setTop (mkF m 103 #[iv p0, iv p1, iv p2, iv size, rv b2, rv b7, rv b22, rv b42, rv b67, rv b97, iv (1 : Int32), iv (1 : Int32), un, un] [(.ref b67), (.ref b42), (.ref b22), (.int (1 : Int32))]))
      refine Go.stp (fun t_ k_ => XS.aload X119.here hx rfl (hb hby at_103) rfl rfl k_) ?_
      show Go p.tables e below G (T119.setTop (mkF m 105 #[iv p0, iv p1, iv p2, iv size, rv b2, rv b7, rv b22, rv b42, rv b67, rv b97, iv (1 : Int32), iv (1 : Int32), un, un] [(.ref b97), (.ref b67), (.ref b42), (.ref b22), (.int (1 : Int32))]))
      obtain ⟨_, _, ⟨T138, L138, k138, n138⟩, -, X138, ⟨Lc138, hQ138, l138, y138, z138⟩, st138⟩ := Jvm.LawKit.callS X119 hx (y := (⟨"com/example/stutter/stutter/eval/FrameUpPinLaw", "pick", "(ILcom/example/stutter/stutter/eval/Frame;Lcom/example/stutter/stutter/eval/Frame;Lcom/example/stutter/stutter/eval/Frame;Lcom/example/stutter/stutter/eval/Frame;)Lcom/example/stutter/stutter/eval/Frame;"⟩ : MethodName)) hown (mvT hZ (hw _ (List.mem_of_getElem? (i := 31) rfl))) (mvT hZ (hw _ (List.mem_of_getElem? (i := 32) rfl))) (mvT hZ (hw _ (List.mem_of_getElem? (i := 33) rfl))) (mvT hZ (hw _ (List.mem_of_getElem? (i := 34) rfl))) (by decide) (backOf (W := 0) (rm5 l Z a0 hw [] (1 : Int32) b22 b42 b67 b97 b42 T119.heap n0 Z119 (by simp [own_pk])) hZ (hw _ (List.mem_of_getElem? (i := 34) rfl)) (hw _ (List.mem_of_getElem? (i := 33) rfl)) (by decide) (by decide)) (g := (mkF m 105 #[iv p0, iv p1, iv p2, iv size, rv b2, rv b7, rv b22, rv b42, rv b67, rv b97, iv (1 : Int32), iv (1 : Int32), un, un] [(.ref b97), (.ref b67), (.ref b42), (.ref b22), (.int (1 : Int32))])) rfl (by rw [hml]; rfl) (argsL := [(.int (1 : Int32)), (.ref b22), (.ref b42), (.ref b67), (.ref b97)]) (rest := []) (lenOf pd_3 rfl) rfl (by show 2 * 0 + _ ≤ _; exact Nat.le_of_eq rfl) (hb hby at_105) (fun _ _ => ⟨rfl, rfl, (by decide : 11 + 0 ≤ _), (by decide : 70 + 0 ≤ _)⟩)
      dsimp only [Pt.U, Pt.locs, Pt.cells, Pt.slots] at X138 l138 y138 z138 st138 hQ138
      subst l138 y138 z138
      obtain ⟨rfl, Nq138, e138⟩ := hQ138
      have N138 := Fr.app N119 Nq138
      refine Go.stp (fun t_ k_ => st138 t_ k_) ?_
      show Go p.tables e below G (T138.setTop (mkF m 108 #[iv p0, iv p1, iv p2, iv size, rv b2, rv b7, rv b22, rv b42, rv b67, rv b97, iv (1 : Int32), iv (1 : Int32), un, un] [(.ref b42)]))
      refine Go.stp (fun t_ k_ => XS.astore X138.here hx rfl (hb hby at_108) rfl rfl (l' := #[iv p0, iv p1, iv p2, iv size, rv b2, rv b7, rv b22, rv b42, rv b67, rv b97, iv (1 : Int32), iv (1 : Int32), rv b42, un]) rfl k_) ?_
      show Go p.tables e below G (T138.setTop (mkF m 110 #[iv p0, iv p1, iv p2, iv size, rv b2, rv b7, rv b22, rv b42, rv b67, rv b97, iv (1 : Int32), iv (1 : Int32), rv b42, un] []))
      refine Go.stp (fun t_ k_ => XS.iload X138.here hx rfl (hb hby at_110) rfl k_) ?_
      show Go p.tables e below G (T138.setTop (mkF m 112 #[iv p0, iv p1, iv p2, iv size, rv b2, rv b7, rv b22, rv b42, rv b67, rv b97, iv (1 : Int32), iv (1 : Int32), rv b42, un] [(.int (1 : Int32))]))
      refine Go.stp (fun t_ k_ => XS.iload X138.here hx rfl (hb hby at_112) rfl k_) ?_
      show Go p.tables e below G (T138.setTop (mkF m 114 #[iv p0, iv p1, iv p2, iv size, rv b2, rv b7, rv b22, rv b42, rv b67, rv b97, iv (1 : Int32), iv (1 : Int32), rv b42, un] [(.int (1 : Int32)), (.int (1 : Int32))]))
      refine Go.stp (fun t_ k_ => XS.isub X138.here hx rfl (hb hby at_114) rfl k_) ?_
      show Go p.tables e below G (T138.setTop (mkF m 115 #[iv p0, iv p1, iv p2, iv size, rv b2, rv b7, rv b22, rv b42, rv b67, rv b97, iv (1 : Int32), iv (1 : Int32), rv b42, un] [(.int ((1 : Int32) - (1 : Int32)))]))
      refine Go.stp (fun t_ k_ => XS.aload X138.here hx rfl (hb hby at_115) rfl rfl k_) ?_
      show Go p.tables e below G (T138.setTop (mkF m 117 #[iv p0, iv p1, iv p2, iv size, rv b2, rv b7, rv b22, rv b42, rv b67, rv b97, iv (1 : Int32), iv (1 : Int32), rv b42, un] [(.ref b22), (.int ((1 : Int32) - (1 : Int32)))]))
      refine Go.stp (fun t_ k_ => XS.aload X138.here hx rfl (hb hby at_117) rfl rfl k_) ?_
      show Go p.tables e below G (T138.setTop (mkF m 119 #[iv p0, iv p1, iv p2, iv size, rv b2, rv b7, rv b22, rv b42, rv b67, rv b97, iv (1 : Int32), iv (1 : Int32), rv b42, un] [(.ref b42), (.ref b22), (.int ((1 : Int32) - (1 : Int32)))]))
      refine Go.stp (fun t_ k_ => XS.aload X138.here hx rfl (hb hby at_119) rfl rfl k_) ?_
      show Go p.tables e below G (T138.setTop (mkF m 121 #[iv p0, iv p1, iv p2, iv size, rv b2, rv b7, rv b22, rv b42, rv b67, rv b97, iv (1 : Int32), iv (1 : Int32), rv b42, un] [(.ref b67), (.ref b42), (.ref b22), (.int ((1 : Int32) - (1 : Int32)))]))
      refine Go.stp (fun t_ k_ => XS.aload X138.here hx rfl (hb hby at_121) rfl rfl k_) ?_
      show Go p.tables e below G (T138.setTop (mkF m 123 #[iv p0, iv p1, iv p2, iv size, rv b2, rv b7, rv b22, rv b42, rv b67, rv b97, iv (1 : Int32), iv (1 : Int32), rv b42, un] [(.ref b97), (.ref b67), (.ref b42), (.ref b22), (.int ((1 : Int32) - (1 : Int32)))]))
      obtain ⟨_, _, ⟨T139, L139, k139, n139⟩, -, X139, ⟨Lc139, hQ139, l139, y139, z139⟩, st139⟩ := Jvm.LawKit.callS X138 hx (y := (⟨"com/example/stutter/stutter/eval/FrameUpPinLaw", "pick", "(ILcom/example/stutter/stutter/eval/Frame;Lcom/example/stutter/stutter/eval/Frame;Lcom/example/stutter/stutter/eval/Frame;Lcom/example/stutter/stutter/eval/Frame;)Lcom/example/stutter/stutter/eval/Frame;"⟩ : MethodName)) hown (mvT hZ (hw _ (List.mem_of_getElem? (i := 31) rfl))) (mvT hZ (hw _ (List.mem_of_getElem? (i := 32) rfl))) (mvT hZ (hw _ (List.mem_of_getElem? (i := 33) rfl))) (mvT hZ (hw _ (List.mem_of_getElem? (i := 34) rfl))) (by decide) (backOf (W := 0) (rm5 l Z a0 hw [] ((1 : Int32) - (1 : Int32)) b22 b42 b67 b97 b22 T119.heap n0 Z119 (by simp [own_pk])) hZ (hw _ (List.mem_of_getElem? (i := 34) rfl)) (hw _ (List.mem_of_getElem? (i := 33) rfl)) (by decide) (by decide)) (g := (mkF m 123 #[iv p0, iv p1, iv p2, iv size, rv b2, rv b7, rv b22, rv b42, rv b67, rv b97, iv (1 : Int32), iv (1 : Int32), rv b42, un] [(.ref b97), (.ref b67), (.ref b42), (.ref b22), (.int ((1 : Int32) - (1 : Int32)))])) rfl (by rw [hml]; rfl) (argsL := [(.int ((1 : Int32) - (1 : Int32))), (.ref b22), (.ref b42), (.ref b67), (.ref b97)]) (rest := []) (lenOf pd_3 rfl) rfl (by show 2 * 0 + _ ≤ _; exact Nat.le_of_eq rfl) (hb hby at_123) (fun _ _ => ⟨rfl, e138, (by decide : 11 + 0 ≤ _), (by decide : 70 + 0 ≤ _)⟩)
      dsimp only [Pt.U, Pt.locs, Pt.cells, Pt.slots] at X139 l139 y139 z139 st139 hQ139
      subst l139 y139 z139
      obtain ⟨rfl, Nq139, e139⟩ := hQ139
      have N139 := Fr.app N138 Nq139
      refine Go.stp (fun t_ k_ => st139 t_ k_) ?_
      show Go p.tables e below G (T139.setTop (mkF m 126 #[iv p0, iv p1, iv p2, iv size, rv b2, rv b7, rv b22, rv b42, rv b67, rv b97, iv (1 : Int32), iv (1 : Int32), rv b42, un] [(.ref b22)]))
      refine Go.stp (fun t_ k_ => XS.astore X139.here hx rfl (hb hby at_126) rfl rfl (l' := #[iv p0, iv p1, iv p2, iv size, rv b2, rv b7, rv b22, rv b42, rv b67, rv b97, iv (1 : Int32), iv (1 : Int32), rv b42, rv b22]) rfl k_) ?_
      show Go p.tables e below G (T139.setTop (mkF m 128 #[iv p0, iv p1, iv p2, iv size, rv b2, rv b7, rv b22, rv b42, rv b67, rv b97, iv (1 : Int32), iv (1 : Int32), rv b42, rv b22] []))
      refine Go.stp (fun t_ k_ => XS.aload X139.here hx rfl (hb hby at_128) rfl rfl k_) ?_
      show Go p.tables e below G (T139.setTop (mkF m 130 #[iv p0, iv p1, iv p2, iv size, rv b2, rv b7, rv b22, rv b42, rv b67, rv b97, iv (1 : Int32), iv (1 : Int32), rv b42, rv b22] [(.ref b42)]))
      refine Go.stp (fun t_ k_ => XS.iload X139.here hx rfl (hb hby at_130) rfl k_) ?_
      show Go p.tables e below G (T139.setTop (mkF m 132 #[iv p0, iv p1, iv p2, iv size, rv b2, rv b7, rv b22, rv b42, rv b67, rv b97, iv (1 : Int32), iv (1 : Int32), rv b42, rv b22] [(.int (1 : Int32)), (.ref b42)]))
      obtain ⟨cq140, kq140, q140a, q140b, q140c⟩ := isOf hZ e139 f127
      obtain ⟨_, _, ⟨T140, L140, k140, n140⟩, -, X140, ⟨Lc140, hQ140, l140, y140, z140⟩, st140⟩ := X139.virtualBack hx (y := (⟨"com/example/stutter/stutter/eval/Frame", "up", "(I)Lcom/example/stutter/stutter/eval/Frame;"⟩ : MethodName)) (z := (⟨"com/example/stutter/stutter/eval/Frame", "up", "(I)Lcom/example/stutter/stutter/eval/Frame;"⟩ : MethodName)) hown (mvT hZ (hw _ (List.mem_of_getElem? (i := 35) rfl))) (mvT hZ (hw _ (List.mem_of_getElem? (i := 36) rfl))) (notFace_of_selects (args := #[]) (mvT hZ (hw _ (List.mem_of_getElem? (i := 38) rfl)))) (mvT hZ (hw _ (List.mem_of_getElem? (i := 38) rfl))) (mvT hZ (hw _ (List.mem_of_getElem? (i := 37) rfl))) (by decide) (backOf (W := 0) (rm6_1 l Z a0 hw [] b42 b22 T119.heap n0 Z119 f128) hZ (hw _ (List.mem_of_getElem? (i := 39) rfl)) (hw _ (List.mem_of_getElem? (i := 4) rfl)) (by decide) (by decide)) q140a q140c (g := (mkF m 132 #[iv p0, iv p1, iv p2, iv size, rv b2, rv b7, rv b22, rv b42, rv b67, rv b97, iv (1 : Int32), iv (1 : Int32), rv b42, rv b22] [(.int (1 : Int32)), (.ref b42)])) rfl (by rw [hml]; rfl) (Steps.refl _) (argsL := [(.int (1 : Int32))]) (rest := []) (lenOf pd_4 rfl) rfl (by show 2 * 0 + _ ≤ _; exact Nat.le_of_eq rfl) (hb hby at_132) (fun _ _ => ⟨rfl, e139, (by decide : 11 + 0 ≤ _), (by decide : 70 + 0 ≤ _)⟩)
      dsimp only [Pt.U, Pt.locs, Pt.cells, Pt.slots] at X140 l140 y140 z140 st140 hQ140
      subst l140 y140 z140
      obtain ⟨rfl, Nq140, e140⟩ := hQ140
      have N140 := Fr.app N139 Nq140
      refine Go.stp (fun t_ k_ => st140.trans k_) ?_
      show Go p.tables e below G (T140.setTop (mkF m 135 #[iv p0, iv p1, iv p2, iv size, rv b2, rv b7, rv b22, rv b42, rv b67, rv b97, iv (1 : Int32), iv (1 : Int32), rv b42, rv b22] [(.ref b22)]))
      refine Go.stp (fun t_ k_ => XS.aload X140.here hx rfl (hb hby at_135) rfl rfl k_) ?_
      show Go p.tables e below G (T140.setTop (mkF m 137 #[iv p0, iv p1, iv p2, iv size, rv b2, rv b7, rv b22, rv b42, rv b67, rv b97, iv (1 : Int32), iv (1 : Int32), rv b42, rv b22] [(.ref b22), (.ref b22)]))
      refine Go.stp (fun t_ k_ => Jvm.RoadKit.acmp (g := (mkF m 137 #[iv p0, iv p1, iv p2, iv size, rv b2, rv b7, rv b22, rv b42, rv b67, rv b97, iv (1 : Int32), iv (1 : Int32), rv b42, rv b22] [(.ref b22), (.ref b22)])) X140 hx rfl rfl rfl (pc0 := 137) (pc' := 140) (same := true) rfl (hb hby at_137) rfl (decide_eq_true rfl) (by decide) (by decide) k_) ?_
      show Go p.tables e below G (T140.setTop (mkF m 140 #[iv p0, iv p1, iv p2, iv size, rv b2, rv b7, rv b22, rv b42, rv b67, rv b97, iv (1 : Int32), iv (1 : Int32), rv b42, rv b22] []))
      refine Go.stp (fun t_ k_ => XS.iconst X140.here hx rfl (hb hby at_140) k_) ?_
      show Go p.tables e below G (T140.setTop (mkF m 141 #[iv p0, iv p1, iv p2, iv size, rv b2, rv b7, rv b22, rv b42, rv b67, rv b97, iv (1 : Int32), iv (1 : Int32), rv b42, rv b22] [(.int (1 : Int32))]))
      refine Go.stp (fun t_ k_ => XS.goto X140.here hx rfl (pc0 := 141) (pc' := 145) rfl (hb hby at_141) (by decide) (by decide) k_) ?_
      show Go p.tables e below G (T140.setTop (mkF m 145 #[iv p0, iv p1, iv p2, iv size, rv b2, rv b7, rv b22, rv b42, rv b67, rv b97, iv (1 : Int32), iv (1 : Int32), rv b42, rv b22] [(.int (1 : Int32))]))
      obtain ⟨fs, hr, hrun, hended, hW, hsame⟩ := X140.leave (v := some (.int (1 : Int32))) (fun h => by rw [Bd.returns] at h; cases h)
      refine ⟨_, _, retN X140 hx (t := .boolean) Bd.returns (by simp) (hb hby at_145) hr, hrun, hended, hG _ _ _ ?_ ⟨⟨_, rfl⟩, hW, hsame.mono (by decide) (by decide)⟩⟩
      show Q0 Z p0 p1 p2 aN f h0 n0 _ T140.heap _
      rw [e140]
      exact ⟨rfl, N140⟩
  · rw [hn]
    show Go p.tables e below G (T119.setTop (mkF m 84 #[iv p0, iv p1, iv p2, iv size, rv b2, rv b7, rv b22, rv b42, rv b67, rv b97, iv (2 : Int32), un, un, un] []))
    refine Go.stp (fun t_ k_ => XS.iloadN X119.here hx rfl (hb hby at_84) rfl k_) ?_
    show Go p.tables e below G (T119.setTop (mkF m 85 #[iv p0, iv p1, iv p2, iv size, rv b2, rv b7, rv b22, rv b42, rv b67, rv b97, iv (2 : Int32), un, un, un] [(.int p1)]))
    refine Go.stp (fun t_ k_ => X119.ldcInt hx hown (mvT hZ (hw _ (List.mem_of_getElem? (i := 30) rfl))) (g := (mkF m 85 #[iv p0, iv p1, iv p2, iv size, rv b2, rv b7, rv b22, rv b42, rv b67, rv b97, iv (2 : Int32), un, un, un] [(.int p1)])) rfl (hb hby at_85) t_ k_) ?_
    show Go p.tables e below G (T119.setTop (mkF m 87 #[iv p0, iv p1, iv p2, iv size, rv b2, rv b7, rv b22, rv b42, rv b67, rv b97, iv (2 : Int32), un, un, un] [(.int (2147483647 : Int32)), (.int p1)]))
    refine Go.stp (fun t_ k_ => XS.iand X119.here hx rfl (hb hby at_87) rfl k_) ?_
    show Go p.tables e below G (T119.setTop (mkF m 88 #[iv p0, iv p1, iv p2, iv size, rv b2, rv b7, rv b22, rv b42, rv b67, rv b97, iv (2 : Int32), un, un, un] [(.int (p1 &&& (2147483647 : Int32)))]))
    refine Go.stp (fun t_ k_ => XS.iload X119.here hx rfl (hb hby at_88) rfl k_) ?_
    show Go p.tables e below G (T119.setTop (mkF m 90 #[iv p0, iv p1, iv p2, iv size, rv b2, rv b7, rv b22, rv b42, rv b67, rv b97, iv (2 : Int32), un, un, un] [(.int (2 : Int32)), (.int (p1 &&& (2147483647 : Int32)))]))
    refine Go.stp (fun t_ k_ => XS.iconst X119.here hx rfl (hb hby at_90) k_) ?_
    show Go p.tables e below G (T119.setTop (mkF m 91 #[iv p0, iv p1, iv p2, iv size, rv b2, rv b7, rv b22, rv b42, rv b67, rv b97, iv (2 : Int32), un, un, un] [(.int (1 : Int32)), (.int (2 : Int32)), (.int (p1 &&& (2147483647 : Int32)))]))
    refine Go.stp (fun t_ k_ => XS.iadd X119.here hx rfl (hb hby at_91) rfl k_) ?_
    show Go p.tables e below G (T119.setTop (mkF m 92 #[iv p0, iv p1, iv p2, iv size, rv b2, rv b7, rv b22, rv b42, rv b67, rv b97, iv (2 : Int32), un, un, un] [(.int ((2 : Int32) + (1 : Int32))), (.int (p1 &&& (2147483647 : Int32)))]))
    refine Go.stp (fun t_ k_ => XS.irem X119.here hx rfl (hb hby at_92) rfl (by decide) k_) ?_
    show Go p.tables e below G (T119.setTop (mkF m 93 #[iv p0, iv p1, iv p2, iv size, rv b2, rv b7, rv b22, rv b42, rv b67, rv b97, iv (2 : Int32), un, un, un] [(.int ((p1 &&& (2147483647 : Int32)) - ((p1 &&& (2147483647 : Int32)) / ((2 : Int32) + (1 : Int32))) * ((2 : Int32) + (1 : Int32))))]))
    refine Go.stp (fun t_ k_ => XS.istore X119.here hx rfl (hb hby at_93) rfl (l' := #[iv p0, iv p1, iv p2, iv size, rv b2, rv b7, rv b22, rv b42, rv b67, rv b97, iv (2 : Int32), iv ((p1 &&& (2147483647 : Int32)) - ((p1 &&& (2147483647 : Int32)) / ((2 : Int32) + (1 : Int32))) * ((2 : Int32) + (1 : Int32))), un, un]) rfl k_) ?_
    show Go p.tables e below G (T119.setTop (mkF m 95 #[iv p0, iv p1, iv p2, iv size, rv b2, rv b7, rv b22, rv b42, rv b67, rv b97, iv (2 : Int32), iv ((p1 &&& (2147483647 : Int32)) - ((p1 &&& (2147483647 : Int32)) / ((2 : Int32) + (1 : Int32))) * ((2 : Int32) + (1 : Int32))), un, un] []))
    obtain ⟨hd, hd'⟩ : ∃ z, z = ((p1 &&& (2147483647 : Int32)) - ((p1 &&& (2147483647 : Int32)) / ((2 : Int32) + (1 : Int32))) * ((2 : Int32) + (1 : Int32))) := ⟨_, rfl⟩
    have hr := own_rem p1 ((2 : Int32) + (1 : Int32)) 3 (by decide) (by decide)
    rw [← hd'] at hr ⊢
    rcases own_d3 hd hr.1 hr.2 with rfl | rfl | rfl
    · show Go p.tables e below G (T119.setTop (mkF m 95 #[iv p0, iv p1, iv p2, iv size, rv b2, rv b7, rv b22, rv b42, rv b67, rv b97, iv (2 : Int32), iv (0 : Int32), un, un] []))
      refine Go.stp (fun t_ k_ => XS.iload X119.here hx rfl (hb hby at_95) rfl k_) ?_
      show Go p.tables e below G (T119.setTop (mkF m 97 #[iv p0, iv p1, iv p2, iv size, rv b2, rv b7, rv b22, rv b42, rv b67, rv b97, iv (2 : Int32), iv (0 : Int32), un, un] [(.int (2 : Int32))]))
      refine Go.stp (fun t_ k_ => XS.aload X119.here hx rfl (hb hby at_97) rfl rfl k_) ?_
      show Go p.tables e below G (T119.setTop (mkF m 99 #[iv p0, iv p1, iv p2, iv size, rv b2, rv b7, rv b22, rv b42, rv b67, rv b97, iv (2 : Int32), iv (0 : Int32), un, un] [(.ref b22), (.int (2 : Int32))]))
      refine Go.stp (fun t_ k_ => XS.aload X119.here hx rfl (hb hby at_99) rfl rfl k_) ?_
      show Go p.tables e below G (T119.setTop (mkF m 101 #[iv p0, iv p1, iv p2, iv size, rv b2, rv b7, rv b22, rv b42, rv b67, rv b97, iv (2 : Int32), iv (0 : Int32), un, un] [(.ref b42), (.ref b22), (.int (2 : Int32))]))
      refine Go.stp (fun t_ k_ => XS.aload X119.here hx rfl (hb hby at_101) rfl rfl k_) ?_
      show Go p.tables e below G (T119.setTop (mkF m 103 #[iv p0, iv p1, iv p2, iv size, rv b2, rv b7, rv b22, rv b42, rv b67, rv b97, iv (2 : Int32), iv (0 : Int32), un, un] [(.ref b67), (.ref b42), (.ref b22), (.int (2 : Int32))]))
      refine Go.stp (fun t_ k_ => XS.aload X119.here hx rfl (hb hby at_103) rfl rfl k_) ?_
      show Go p.tables e below G (T119.setTop (mkF m 105 #[iv p0, iv p1, iv p2, iv size, rv b2, rv b7, rv b22, rv b42, rv b67, rv b97, iv (2 : Int32), iv (0 : Int32), un, un] [(.ref b97), (.ref b67), (.ref b42), (.ref b22), (.int (2 : Int32))]))
      obtain ⟨_, _, ⟨T141, L141, k141, n141⟩, -, X141, ⟨Lc141, hQ141, l141, y141, z141⟩, st141⟩ := Jvm.LawKit.callS X119 hx (y := (⟨"com/example/stutter/stutter/eval/FrameUpPinLaw", "pick", "(ILcom/example/stutter/stutter/eval/Frame;Lcom/example/stutter/stutter/eval/Frame;Lcom/example/stutter/stutter/eval/Frame;Lcom/example/stutter/stutter/eval/Frame;)Lcom/example/stutter/stutter/eval/Frame;"⟩ : MethodName)) hown (mvT hZ (hw _ (List.mem_of_getElem? (i := 31) rfl))) (mvT hZ (hw _ (List.mem_of_getElem? (i := 32) rfl))) (mvT hZ (hw _ (List.mem_of_getElem? (i := 33) rfl))) (mvT hZ (hw _ (List.mem_of_getElem? (i := 34) rfl))) (by decide) (backOf (W := 0) (rm5 l Z a0 hw [] (2 : Int32) b22 b42 b67 b97 b67 T119.heap n0 Z119 (by simp [own_pk])) hZ (hw _ (List.mem_of_getElem? (i := 34) rfl)) (hw _ (List.mem_of_getElem? (i := 33) rfl)) (by decide) (by decide)) (g := (mkF m 105 #[iv p0, iv p1, iv p2, iv size, rv b2, rv b7, rv b22, rv b42, rv b67, rv b97, iv (2 : Int32), iv (0 : Int32), un, un] [(.ref b97), (.ref b67), (.ref b42), (.ref b22), (.int (2 : Int32))])) rfl (by rw [hml]; rfl) (argsL := [(.int (2 : Int32)), (.ref b22), (.ref b42), (.ref b67), (.ref b97)]) (rest := []) (lenOf pd_3 rfl) rfl (by show 2 * 0 + _ ≤ _; exact Nat.le_of_eq rfl) (hb hby at_105) (fun _ _ => ⟨rfl, rfl, (by decide : 11 + 0 ≤ _), (by decide : 70 + 0 ≤ _)⟩)
      dsimp only [Pt.U, Pt.locs, Pt.cells, Pt.slots] at X141 l141 y141 z141 st141 hQ141
      subst l141 y141 z141
      obtain ⟨rfl, Nq141, e141⟩ := hQ141
      have N141 := Fr.app N119 Nq141
      refine Go.stp (fun t_ k_ => st141 t_ k_) ?_
      show Go p.tables e below G (T141.setTop (mkF m 108 #[iv p0, iv p1, iv p2, iv size, rv b2, rv b7, rv b22, rv b42, rv b67, rv b97, iv (2 : Int32), iv (0 : Int32), un, un] [(.ref b67)]))
      refine Go.stp (fun t_ k_ => XS.astore X141.here hx rfl (hb hby at_108) rfl rfl (l' := #[iv p0, iv p1, iv p2, iv size, rv b2, rv b7, rv b22, rv b42, rv b67, rv b97, iv (2 : Int32), iv (0 : Int32), rv b67, un]) rfl k_) ?_
      show Go p.tables e below G (T141.setTop (mkF m 110 #[iv p0, iv p1, iv p2, iv size, rv b2, rv b7, rv b22, rv b42, rv b67, rv b97, iv (2 : Int32), iv (0 : Int32), rv b67, un] []))
      refine Go.stp (fun t_ k_ => XS.iload X141.here hx rfl (hb hby at_110) rfl k_) ?_
      show Go p.tables e below G (T141.setTop (mkF m 112 #[iv p0, iv p1, iv p2, iv size, rv b2, rv b7, rv b22, rv b42, rv b67, rv b97, iv (2 : Int32), iv (0 : Int32), rv b67, un] [(.int (2 : Int32))]))
      refine Go.stp (fun t_ k_ => XS.iload X141.here hx rfl (hb hby at_112) rfl k_) ?_
      show Go p.tables e below G (T141.setTop (mkF m 114 #[iv p0, iv p1, iv p2, iv size, rv b2, rv b7, rv b22, rv b42, rv b67, rv b97, iv (2 : Int32), iv (0 : Int32), rv b67, un] [(.int (0 : Int32)), (.int (2 : Int32))]))
      refine Go.stp (fun t_ k_ => XS.isub X141.here hx rfl (hb hby at_114) rfl k_) ?_
      show Go p.tables e below G (T141.setTop (mkF m 115 #[iv p0, iv p1, iv p2, iv size, rv b2, rv b7, rv b22, rv b42, rv b67, rv b97, iv (2 : Int32), iv (0 : Int32), rv b67, un] [(.int ((2 : Int32) - (0 : Int32)))]))
      refine Go.stp (fun t_ k_ => XS.aload X141.here hx rfl (hb hby at_115) rfl rfl k_) ?_
      show Go p.tables e below G (T141.setTop (mkF m 117 #[iv p0, iv p1, iv p2, iv size, rv b2, rv b7, rv b22, rv b42, rv b67, rv b97, iv (2 : Int32), iv (0 : Int32), rv b67, un] [(.ref b22), (.int ((2 : Int32) - (0 : Int32)))]))
      refine Go.stp (fun t_ k_ => XS.aload X141.here hx rfl (hb hby at_117) rfl rfl k_) ?_
      show Go p.tables e below G (T141.setTop (mkF m 119 #[iv p0, iv p1, iv p2, iv size, rv b2, rv b7, rv b22, rv b42, rv b67, rv b97, iv (2 : Int32), iv (0 : Int32), rv b67, un] [(.ref b42), (.ref b22), (.int ((2 : Int32) - (0 : Int32)))]))
      refine Go.stp (fun t_ k_ => XS.aload X141.here hx rfl (hb hby at_119) rfl rfl k_) ?_
      show Go p.tables e below G (T141.setTop (mkF m 121 #[iv p0, iv p1, iv p2, iv size, rv b2, rv b7, rv b22, rv b42, rv b67, rv b97, iv (2 : Int32), iv (0 : Int32), rv b67, un] [(.ref b67), (.ref b42), (.ref b22), (.int ((2 : Int32) - (0 : Int32)))]))
      refine Go.stp (fun t_ k_ => XS.aload X141.here hx rfl (hb hby at_121) rfl rfl k_) ?_
      show Go p.tables e below G (T141.setTop (mkF m 123 #[iv p0, iv p1, iv p2, iv size, rv b2, rv b7, rv b22, rv b42, rv b67, rv b97, iv (2 : Int32), iv (0 : Int32), rv b67, un] [(.ref b97), (.ref b67), (.ref b42), (.ref b22), (.int ((2 : Int32) - (0 : Int32)))]))
      obtain ⟨_, _, ⟨T142, L142, k142, n142⟩, -, X142, ⟨Lc142, hQ142, l142, y142, z142⟩, st142⟩ := Jvm.LawKit.callS X141 hx (y := (⟨"com/example/stutter/stutter/eval/FrameUpPinLaw", "pick", "(ILcom/example/stutter/stutter/eval/Frame;Lcom/example/stutter/stutter/eval/Frame;Lcom/example/stutter/stutter/eval/Frame;Lcom/example/stutter/stutter/eval/Frame;)Lcom/example/stutter/stutter/eval/Frame;"⟩ : MethodName)) hown (mvT hZ (hw _ (List.mem_of_getElem? (i := 31) rfl))) (mvT hZ (hw _ (List.mem_of_getElem? (i := 32) rfl))) (mvT hZ (hw _ (List.mem_of_getElem? (i := 33) rfl))) (mvT hZ (hw _ (List.mem_of_getElem? (i := 34) rfl))) (by decide) (backOf (W := 0) (rm5 l Z a0 hw [] ((2 : Int32) - (0 : Int32)) b22 b42 b67 b97 b67 T119.heap n0 Z119 (by simp [own_pk])) hZ (hw _ (List.mem_of_getElem? (i := 34) rfl)) (hw _ (List.mem_of_getElem? (i := 33) rfl)) (by decide) (by decide)) (g := (mkF m 123 #[iv p0, iv p1, iv p2, iv size, rv b2, rv b7, rv b22, rv b42, rv b67, rv b97, iv (2 : Int32), iv (0 : Int32), rv b67, un] [(.ref b97), (.ref b67), (.ref b42), (.ref b22), (.int ((2 : Int32) - (0 : Int32)))])) rfl (by rw [hml]; rfl) (argsL := [(.int ((2 : Int32) - (0 : Int32))), (.ref b22), (.ref b42), (.ref b67), (.ref b97)]) (rest := []) (lenOf pd_3 rfl) rfl (by show 2 * 0 + _ ≤ _; exact Nat.le_of_eq rfl) (hb hby at_123) (fun _ _ => ⟨rfl, e141, (by decide : 11 + 0 ≤ _), (by decide : 70 + 0 ≤ _)⟩)
      dsimp only [Pt.U, Pt.locs, Pt.cells, Pt.slots] at X142 l142 y142 z142 st142 hQ142
      subst l142 y142 z142
      obtain ⟨rfl, Nq142, e142⟩ := hQ142
      have N142 := Fr.app N141 Nq142
      refine Go.stp (fun t_ k_ => st142 t_ k_) ?_
      show Go p.tables e below G (T142.setTop (mkF m 126 #[iv p0, iv p1, iv p2, iv size, rv b2, rv b7, rv b22, rv b42, rv b67, rv b97, iv (2 : Int32), iv (0 : Int32), rv b67, un] [(.ref b67)]))
      refine Go.stp (fun t_ k_ => XS.astore X142.here hx rfl (hb hby at_126) rfl rfl (l' := #[iv p0, iv p1, iv p2, iv size, rv b2, rv b7, rv b22, rv b42, rv b67, rv b97, iv (2 : Int32), iv (0 : Int32), rv b67, rv b67]) rfl k_) ?_
      show Go p.tables e below G (T142.setTop (mkF m 128 #[iv p0, iv p1, iv p2, iv size, rv b2, rv b7, rv b22, rv b42, rv b67, rv b97, iv (2 : Int32), iv (0 : Int32), rv b67, rv b67] []))
      refine Go.stp (fun t_ k_ => XS.aload X142.here hx rfl (hb hby at_128) rfl rfl k_) ?_
      show Go p.tables e below G (T142.setTop (mkF m 130 #[iv p0, iv p1, iv p2, iv size, rv b2, rv b7, rv b22, rv b42, rv b67, rv b97, iv (2 : Int32), iv (0 : Int32), rv b67, rv b67] [(.ref b67)]))
      refine Go.stp (fun t_ k_ => XS.iload X142.here hx rfl (hb hby at_130) rfl k_) ?_
      show Go p.tables e below G (T142.setTop (mkF m 132 #[iv p0, iv p1, iv p2, iv size, rv b2, rv b7, rv b22, rv b42, rv b67, rv b97, iv (2 : Int32), iv (0 : Int32), rv b67, rv b67] [(.int (0 : Int32)), (.ref b67)]))
      obtain ⟨cq143, kq143, q143a, q143b, q143c⟩ := isOf hZ e142 f129
      obtain ⟨_, _, ⟨T143, L143, k143, n143⟩, -, X143, ⟨Lc143, hQ143, l143, y143, z143⟩, st143⟩ := X142.virtualBack hx (y := (⟨"com/example/stutter/stutter/eval/Frame", "up", "(I)Lcom/example/stutter/stutter/eval/Frame;"⟩ : MethodName)) (z := (⟨"com/example/stutter/stutter/eval/Frame", "up", "(I)Lcom/example/stutter/stutter/eval/Frame;"⟩ : MethodName)) hown (mvT hZ (hw _ (List.mem_of_getElem? (i := 35) rfl))) (mvT hZ (hw _ (List.mem_of_getElem? (i := 36) rfl))) (notFace_of_selects (args := #[]) (mvT hZ (hw _ (List.mem_of_getElem? (i := 38) rfl)))) (mvT hZ (hw _ (List.mem_of_getElem? (i := 38) rfl))) (mvT hZ (hw _ (List.mem_of_getElem? (i := 37) rfl))) (by decide) (backOf (W := 0) (rm6_0 l Z a0 hw [] b67 T119.heap n0 Z119 ) hZ (hw _ (List.mem_of_getElem? (i := 39) rfl)) (hw _ (List.mem_of_getElem? (i := 4) rfl)) (by decide) (by decide)) q143a q143c (g := (mkF m 132 #[iv p0, iv p1, iv p2, iv size, rv b2, rv b7, rv b22, rv b42, rv b67, rv b97, iv (2 : Int32), iv (0 : Int32), rv b67, rv b67] [(.int (0 : Int32)), (.ref b67)])) rfl (by rw [hml]; rfl) (Steps.refl _) (argsL := [(.int (0 : Int32))]) (rest := []) (lenOf pd_4 rfl) rfl (by show 2 * 0 + _ ≤ _; exact Nat.le_of_eq rfl) (hb hby at_132) (fun _ _ => ⟨rfl, e142, (by decide : 11 + 0 ≤ _), (by decide : 70 + 0 ≤ _)⟩)
      dsimp only [Pt.U, Pt.locs, Pt.cells, Pt.slots] at X143 l143 y143 z143 st143 hQ143
      subst l143 y143 z143
      obtain ⟨rfl, Nq143, e143⟩ := hQ143
      have N143 := Fr.app N142 Nq143
      refine Go.stp (fun t_ k_ => st143.trans k_) ?_
      show Go p.tables e below G (T143.setTop (mkF m 135 #[iv p0, iv p1, iv p2, iv size, rv b2, rv b7, rv b22, rv b42, rv b67, rv b97, iv (2 : Int32), iv (0 : Int32), rv b67, rv b67] [(.ref b67)]))
      refine Go.stp (fun t_ k_ => XS.aload X143.here hx rfl (hb hby at_135) rfl rfl k_) ?_
      show Go p.tables e below G (T143.setTop (mkF m 137 #[iv p0, iv p1, iv p2, iv size, rv b2, rv b7, rv b22, rv b42, rv b67, rv b97, iv (2 : Int32), iv (0 : Int32), rv b67, rv b67] [(.ref b67), (.ref b67)]))
      refine Go.stp (fun t_ k_ => Jvm.RoadKit.acmp (g := (mkF m 137 #[iv p0, iv p1, iv p2, iv size, rv b2, rv b7, rv b22, rv b42, rv b67, rv b97, iv (2 : Int32), iv (0 : Int32), rv b67, rv b67] [(.ref b67), (.ref b67)])) X143 hx rfl rfl rfl (pc0 := 137) (pc' := 140) (same := true) rfl (hb hby at_137) rfl (decide_eq_true rfl) (by decide) (by decide) k_) ?_
      show Go p.tables e below G (T143.setTop (mkF m 140 #[iv p0, iv p1, iv p2, iv size, rv b2, rv b7, rv b22, rv b42, rv b67, rv b97, iv (2 : Int32), iv (0 : Int32), rv b67, rv b67] []))
      refine Go.stp (fun t_ k_ => XS.iconst X143.here hx rfl (hb hby at_140) k_) ?_
      show Go p.tables e below G (T143.setTop (mkF m 141 #[iv p0, iv p1, iv p2, iv size, rv b2, rv b7, rv b22, rv b42, rv b67, rv b97, iv (2 : Int32), iv (0 : Int32), rv b67, rv b67] [(.int (1 : Int32))]))
      refine Go.stp (fun t_ k_ => XS.goto X143.here hx rfl (pc0 := 141) (pc' := 145) rfl (hb hby at_141) (by decide) (by decide) k_) ?_
      show Go p.tables e below G (T143.setTop (mkF m 145 #[iv p0, iv p1, iv p2, iv size, rv b2, rv b7, rv b22, rv b42, rv b67, rv b97, iv (2 : Int32), iv (0 : Int32), rv b67, rv b67] [(.int (1 : Int32))]))
      obtain ⟨fs, hr, hrun, hended, hW, hsame⟩ := X143.leave (v := some (.int (1 : Int32))) (fun h => by rw [Bd.returns] at h; cases h)
      refine ⟨_, _, retN X143 hx (t := .boolean) Bd.returns (by simp) (hb hby at_145) hr, hrun, hended, hG _ _ _ ?_ ⟨⟨_, rfl⟩, hW, hsame.mono (by decide) (by decide)⟩⟩
      show Q0 Z p0 p1 p2 aN f h0 n0 _ T143.heap _
      rw [e143]
      exact ⟨rfl, N143⟩
    · show Go p.tables e below G (T119.setTop (mkF m 95 #[iv p0, iv p1, iv p2, iv size, rv b2, rv b7, rv b22, rv b42, rv b67, rv b97, iv (2 : Int32), iv (1 : Int32), un, un] []))
      refine Go.stp (fun t_ k_ => XS.iload X119.here hx rfl (hb hby at_95) rfl k_) ?_
      show Go p.tables e below G (T119.setTop (mkF m 97 #[iv p0, iv p1, iv p2, iv size, rv b2, rv b7, rv b22, rv b42, rv b67, rv b97, iv (2 : Int32), iv (1 : Int32), un, un] [(.int (2 : Int32))]))
      refine Go.stp (fun t_ k_ => XS.aload X119.here hx rfl (hb hby at_97) rfl rfl k_) ?_
      show Go p.tables e below G (T119.setTop (mkF m 99 #[iv p0, iv p1, iv p2, iv size, rv b2, rv b7, rv b22, rv b42, rv b67, rv b97, iv (2 : Int32), iv (1 : Int32), un, un] [(.ref b22), (.int (2 : Int32))]))
      refine Go.stp (fun t_ k_ => XS.aload X119.here hx rfl (hb hby at_99) rfl rfl k_) ?_
      show Go p.tables e below G (T119.setTop (mkF m 101 #[iv p0, iv p1, iv p2, iv size, rv b2, rv b7, rv b22, rv b42, rv b67, rv b97, iv (2 : Int32), iv (1 : Int32), un, un] [(.ref b42), (.ref b22), (.int (2 : Int32))]))
      refine Go.stp (fun t_ k_ => XS.aload X119.here hx rfl (hb hby at_101) rfl rfl k_) ?_
      show Go p.tables e below G (T119.setTop (mkF m 103 #[iv p0, iv p1, iv p2, iv size, rv b2, rv b7, rv b22, rv b42, rv b67, rv b97, iv (2 : Int32), iv (1 : Int32), un, un] [(.ref b67), (.ref b42), (.ref b22), (.int (2 : Int32))]))
      refine Go.stp (fun t_ k_ => XS.aload X119.here hx rfl (hb hby at_103) rfl rfl k_) ?_
      show Go p.tables e below G (T119.setTop (mkF m 105 #[iv p0, iv p1, iv p2, iv size, rv b2, rv b7, rv b22, rv b42, rv b67, rv b97, iv (2 : Int32), iv (1 : Int32), un, un] [(.ref b97), (.ref b67), (.ref b42), (.ref b22), (.int (2 : Int32))]))
      obtain ⟨_, _, ⟨T144, L144, k144, n144⟩, -, X144, ⟨Lc144, hQ144, l144, y144, z144⟩, st144⟩ := Jvm.LawKit.callS X119 hx (y := (⟨"com/example/stutter/stutter/eval/FrameUpPinLaw", "pick", "(ILcom/example/stutter/stutter/eval/Frame;Lcom/example/stutter/stutter/eval/Frame;Lcom/example/stutter/stutter/eval/Frame;Lcom/example/stutter/stutter/eval/Frame;)Lcom/example/stutter/stutter/eval/Frame;"⟩ : MethodName)) hown (mvT hZ (hw _ (List.mem_of_getElem? (i := 31) rfl))) (mvT hZ (hw _ (List.mem_of_getElem? (i := 32) rfl))) (mvT hZ (hw _ (List.mem_of_getElem? (i := 33) rfl))) (mvT hZ (hw _ (List.mem_of_getElem? (i := 34) rfl))) (by decide) (backOf (W := 0) (rm5 l Z a0 hw [] (2 : Int32) b22 b42 b67 b97 b67 T119.heap n0 Z119 (by simp [own_pk])) hZ (hw _ (List.mem_of_getElem? (i := 34) rfl)) (hw _ (List.mem_of_getElem? (i := 33) rfl)) (by decide) (by decide)) (g := (mkF m 105 #[iv p0, iv p1, iv p2, iv size, rv b2, rv b7, rv b22, rv b42, rv b67, rv b97, iv (2 : Int32), iv (1 : Int32), un, un] [(.ref b97), (.ref b67), (.ref b42), (.ref b22), (.int (2 : Int32))])) rfl (by rw [hml]; rfl) (argsL := [(.int (2 : Int32)), (.ref b22), (.ref b42), (.ref b67), (.ref b97)]) (rest := []) (lenOf pd_3 rfl) rfl (by show 2 * 0 + _ ≤ _; exact Nat.le_of_eq rfl) (hb hby at_105) (fun _ _ => ⟨rfl, rfl, (by decide : 11 + 0 ≤ _), (by decide : 70 + 0 ≤ _)⟩)
      dsimp only [Pt.U, Pt.locs, Pt.cells, Pt.slots] at X144 l144 y144 z144 st144 hQ144
      subst l144 y144 z144
      obtain ⟨rfl, Nq144, e144⟩ := hQ144
      have N144 := Fr.app N119 Nq144
      refine Go.stp (fun t_ k_ => st144 t_ k_) ?_
      show Go p.tables e below G (T144.setTop (mkF m 108 #[iv p0, iv p1, iv p2, iv size, rv b2, rv b7, rv b22, rv b42, rv b67, rv b97, iv (2 : Int32), iv (1 : Int32), un, un] [(.ref b67)]))
      refine Go.stp (fun t_ k_ => XS.astore X144.here hx rfl (hb hby at_108) rfl rfl (l' := #[iv p0, iv p1, iv p2, iv size, rv b2, rv b7, rv b22, rv b42, rv b67, rv b97, iv (2 : Int32), iv (1 : Int32), rv b67, un]) rfl k_) ?_
      show Go p.tables e below G (T144.setTop (mkF m 110 #[iv p0, iv p1, iv p2, iv size, rv b2, rv b7, rv b22, rv b42, rv b67, rv b97, iv (2 : Int32), iv (1 : Int32), rv b67, un] []))
      refine Go.stp (fun t_ k_ => XS.iload X144.here hx rfl (hb hby at_110) rfl k_) ?_
      show Go p.tables e below G (T144.setTop (mkF m 112 #[iv p0, iv p1, iv p2, iv size, rv b2, rv b7, rv b22, rv b42, rv b67, rv b97, iv (2 : Int32), iv (1 : Int32), rv b67, un] [(.int (2 : Int32))]))
      refine Go.stp (fun t_ k_ => XS.iload X144.here hx rfl (hb hby at_112) rfl k_) ?_
      show Go p.tables e below G (T144.setTop (mkF m 114 #[iv p0, iv p1, iv p2, iv size, rv b2, rv b7, rv b22, rv b42, rv b67, rv b97, iv (2 : Int32), iv (1 : Int32), rv b67, un] [(.int (1 : Int32)), (.int (2 : Int32))]))
      refine Go.stp (fun t_ k_ => XS.isub X144.here hx rfl (hb hby at_114) rfl k_) ?_
      show Go p.tables e below G (T144.setTop (mkF m 115 #[iv p0, iv p1, iv p2, iv size, rv b2, rv b7, rv b22, rv b42, rv b67, rv b97, iv (2 : Int32), iv (1 : Int32), rv b67, un] [(.int ((2 : Int32) - (1 : Int32)))]))
      refine Go.stp (fun t_ k_ => XS.aload X144.here hx rfl (hb hby at_115) rfl rfl k_) ?_
      show Go p.tables e below G (T144.setTop (mkF m 117 #[iv p0, iv p1, iv p2, iv size, rv b2, rv b7, rv b22, rv b42, rv b67, rv b97, iv (2 : Int32), iv (1 : Int32), rv b67, un] [(.ref b22), (.int ((2 : Int32) - (1 : Int32)))]))
      refine Go.stp (fun t_ k_ => XS.aload X144.here hx rfl (hb hby at_117) rfl rfl k_) ?_
      show Go p.tables e below G (T144.setTop (mkF m 119 #[iv p0, iv p1, iv p2, iv size, rv b2, rv b7, rv b22, rv b42, rv b67, rv b97, iv (2 : Int32), iv (1 : Int32), rv b67, un] [(.ref b42), (.ref b22), (.int ((2 : Int32) - (1 : Int32)))]))
      refine Go.stp (fun t_ k_ => XS.aload X144.here hx rfl (hb hby at_119) rfl rfl k_) ?_
      show Go p.tables e below G (T144.setTop (mkF m 121 #[iv p0, iv p1, iv p2, iv size, rv b2, rv b7, rv b22, rv b42, rv b67, rv b97, iv (2 : Int32), iv (1 : Int32), rv b67, un] [(.ref b67), (.ref b42), (.ref b22), (.int ((2 : Int32) - (1 : Int32)))]))
      refine Go.stp (fun t_ k_ => XS.aload X144.here hx rfl (hb hby at_121) rfl rfl k_) ?_
      show Go p.tables e below G (T144.setTop (mkF m 123 #[iv p0, iv p1, iv p2, iv size, rv b2, rv b7, rv b22, rv b42, rv b67, rv b97, iv (2 : Int32), iv (1 : Int32), rv b67, un] [(.ref b97), (.ref b67), (.ref b42), (.ref b22), (.int ((2 : Int32) - (1 : Int32)))]))
      obtain ⟨_, _, ⟨T145, L145, k145, n145⟩, -, X145, ⟨Lc145, hQ145, l145, y145, z145⟩, st145⟩ := Jvm.LawKit.callS X144 hx (y := (⟨"com/example/stutter/stutter/eval/FrameUpPinLaw", "pick", "(ILcom/example/stutter/stutter/eval/Frame;Lcom/example/stutter/stutter/eval/Frame;Lcom/example/stutter/stutter/eval/Frame;Lcom/example/stutter/stutter/eval/Frame;)Lcom/example/stutter/stutter/eval/Frame;"⟩ : MethodName)) hown (mvT hZ (hw _ (List.mem_of_getElem? (i := 31) rfl))) (mvT hZ (hw _ (List.mem_of_getElem? (i := 32) rfl))) (mvT hZ (hw _ (List.mem_of_getElem? (i := 33) rfl))) (mvT hZ (hw _ (List.mem_of_getElem? (i := 34) rfl))) (by decide) (backOf (W := 0) (rm5 l Z a0 hw [] ((2 : Int32) - (1 : Int32)) b22 b42 b67 b97 b42 T119.heap n0 Z119 (by simp [own_pk])) hZ (hw _ (List.mem_of_getElem? (i := 34) rfl)) (hw _ (List.mem_of_getElem? (i := 33) rfl)) (by decide) (by decide)) (g := (mkF m 123 #[iv p0, iv p1, iv p2, iv size, rv b2, rv b7, rv b22, rv b42, rv b67, rv b97, iv (2 : Int32), iv (1 : Int32), rv b67, un] [(.ref b97), (.ref b67), (.ref b42), (.ref b22), (.int ((2 : Int32) - (1 : Int32)))])) rfl (by rw [hml]; rfl) (argsL := [(.int ((2 : Int32) - (1 : Int32))), (.ref b22), (.ref b42), (.ref b67), (.ref b97)]) (rest := []) (lenOf pd_3 rfl) rfl (by show 2 * 0 + _ ≤ _; exact Nat.le_of_eq rfl) (hb hby at_123) (fun _ _ => ⟨rfl, e144, (by decide : 11 + 0 ≤ _), (by decide : 70 + 0 ≤ _)⟩)
      dsimp only [Pt.U, Pt.locs, Pt.cells, Pt.slots] at X145 l145 y145 z145 st145 hQ145
      subst l145 y145 z145
      obtain ⟨rfl, Nq145, e145⟩ := hQ145
      have N145 := Fr.app N144 Nq145
      refine Go.stp (fun t_ k_ => st145 t_ k_) ?_
      show Go p.tables e below G (T145.setTop (mkF m 126 #[iv p0, iv p1, iv p2, iv size, rv b2, rv b7, rv b22, rv b42, rv b67, rv b97, iv (2 : Int32), iv (1 : Int32), rv b67, un] [(.ref b42)]))
      refine Go.stp (fun t_ k_ => XS.astore X145.here hx rfl (hb hby at_126) rfl rfl (l' := #[iv p0, iv p1, iv p2, iv size, rv b2, rv b7, rv b22, rv b42, rv b67, rv b97, iv (2 : Int32), iv (1 : Int32), rv b67, rv b42]) rfl k_) ?_
      show Go p.tables e below G (T145.setTop (mkF m 128 #[iv p0, iv p1, iv p2, iv size, rv b2, rv b7, rv b22, rv b42, rv b67, rv b97, iv (2 : Int32), iv (1 : Int32), rv b67, rv b42] []))
      refine Go.stp (fun t_ k_ => XS.aload X145.here hx rfl (hb hby at_128) rfl rfl k_) ?_
      show Go p.tables e below G (T145.setTop (mkF m 130 #[iv p0, iv p1, iv p2, iv size, rv b2, rv b7, rv b22, rv b42, rv b67, rv b97, iv (2 : Int32), iv (1 : Int32), rv b67, rv b42] [(.ref b67)]))
      refine Go.stp (fun t_ k_ => XS.iload X145.here hx rfl (hb hby at_130) rfl k_) ?_
      show Go p.tables e below G (T145.setTop (mkF m 132 #[iv p0, iv p1, iv p2, iv size, rv b2, rv b7, rv b22, rv b42, rv b67, rv b97, iv (2 : Int32), iv (1 : Int32), rv b67, rv b42] [(.int (1 : Int32)), (.ref b67)]))
      obtain ⟨cq146, kq146, q146a, q146b, q146c⟩ := isOf hZ e145 f129
      obtain ⟨_, _, ⟨T146, L146, k146, n146⟩, -, X146, ⟨Lc146, hQ146, l146, y146, z146⟩, st146⟩ := X145.virtualBack hx (y := (⟨"com/example/stutter/stutter/eval/Frame", "up", "(I)Lcom/example/stutter/stutter/eval/Frame;"⟩ : MethodName)) (z := (⟨"com/example/stutter/stutter/eval/Frame", "up", "(I)Lcom/example/stutter/stutter/eval/Frame;"⟩ : MethodName)) hown (mvT hZ (hw _ (List.mem_of_getElem? (i := 35) rfl))) (mvT hZ (hw _ (List.mem_of_getElem? (i := 36) rfl))) (notFace_of_selects (args := #[]) (mvT hZ (hw _ (List.mem_of_getElem? (i := 38) rfl)))) (mvT hZ (hw _ (List.mem_of_getElem? (i := 38) rfl))) (mvT hZ (hw _ (List.mem_of_getElem? (i := 37) rfl))) (by decide) (backOf (W := 0) (rm6_1 l Z a0 hw [] b67 b42 T119.heap n0 Z119 f130) hZ (hw _ (List.mem_of_getElem? (i := 39) rfl)) (hw _ (List.mem_of_getElem? (i := 4) rfl)) (by decide) (by decide)) q146a q146c (g := (mkF m 132 #[iv p0, iv p1, iv p2, iv size, rv b2, rv b7, rv b22, rv b42, rv b67, rv b97, iv (2 : Int32), iv (1 : Int32), rv b67, rv b42] [(.int (1 : Int32)), (.ref b67)])) rfl (by rw [hml]; rfl) (Steps.refl _) (argsL := [(.int (1 : Int32))]) (rest := []) (lenOf pd_4 rfl) rfl (by show 2 * 0 + _ ≤ _; exact Nat.le_of_eq rfl) (hb hby at_132) (fun _ _ => ⟨rfl, e145, (by decide : 11 + 0 ≤ _), (by decide : 70 + 0 ≤ _)⟩)
      dsimp only [Pt.U, Pt.locs, Pt.cells, Pt.slots] at X146 l146 y146 z146 st146 hQ146
      subst l146 y146 z146
      obtain ⟨rfl, Nq146, e146⟩ := hQ146
      have N146 := Fr.app N145 Nq146
      refine Go.stp (fun t_ k_ => st146.trans k_) ?_
      show Go p.tables e below G (T146.setTop (mkF m 135 #[iv p0, iv p1, iv p2, iv size, rv b2, rv b7, rv b22, rv b42, rv b67, rv b97, iv (2 : Int32), iv (1 : Int32), rv b67, rv b42] [(.ref b42)]))
      refine Go.stp (fun t_ k_ => XS.aload X146.here hx rfl (hb hby at_135) rfl rfl k_) ?_
      show Go p.tables e below G (T146.setTop (mkF m 137 #[iv p0, iv p1, iv p2, iv size, rv b2, rv b7, rv b22, rv b42, rv b67, rv b97, iv (2 : Int32), iv (1 : Int32), rv b67, rv b42] [(.ref b42), (.ref b42)]))
      refine Go.stp (fun t_ k_ => Jvm.RoadKit.acmp (g := (mkF m 137 #[iv p0, iv p1, iv p2, iv size, rv b2, rv b7, rv b22, rv b42, rv b67, rv b97, iv (2 : Int32), iv (1 : Int32), rv b67, rv b42] [(.ref b42), (.ref b42)])) X146 hx rfl rfl rfl (pc0 := 137) (pc' := 140) (same := true) rfl (hb hby at_137) rfl (decide_eq_true rfl) (by decide) (by decide) k_) ?_
      show Go p.tables e below G (T146.setTop (mkF m 140 #[iv p0, iv p1, iv p2, iv size, rv b2, rv b7, rv b22, rv b42, rv b67, rv b97, iv (2 : Int32), iv (1 : Int32), rv b67, rv b42] []))
      refine Go.stp (fun t_ k_ => XS.iconst X146.here hx rfl (hb hby at_140) k_) ?_
      show Go p.tables e below G (T146.setTop (mkF m 141 #[iv p0, iv p1, iv p2, iv size, rv b2, rv b7, rv b22, rv b42, rv b67, rv b97, iv (2 : Int32), iv (1 : Int32), rv b67, rv b42] [(.int (1 : Int32))]))
      refine Go.stp (fun t_ k_ => XS.goto X146.here hx rfl (pc0 := 141) (pc' := 145) rfl (hb hby at_141) (by decide) (by decide) k_) ?_
      show Go p.tables e below G (T146.setTop (mkF m 145 #[iv p0, iv p1, iv p2, iv size, rv b2, rv b7, rv b22, rv b42, rv b67, rv b97, iv (2 : Int32), iv (1 : Int32), rv b67, rv b42] [(.int (1 : Int32))]))
      obtain ⟨fs, hr, hrun, hended, hW, hsame⟩ := X146.leave (v := some (.int (1 : Int32))) (fun h => by rw [Bd.returns] at h; cases h)
      refine ⟨_, _, retN X146 hx (t := .boolean) Bd.returns (by simp) (hb hby at_145) hr, hrun, hended, hG _ _ _ ?_ ⟨⟨_, rfl⟩, hW, hsame.mono (by decide) (by decide)⟩⟩
      show Q0 Z p0 p1 p2 aN f h0 n0 _ T146.heap _
      rw [e146]
      exact ⟨rfl, N146⟩
    · show Go p.tables e below G (T119.setTop (mkF m 95 #[iv p0, iv p1, iv p2, iv size, rv b2, rv b7, rv b22, rv b42, rv b67, rv b97, iv (2 : Int32), iv (2 : Int32), un, un] []))
      refine Go.stp (fun t_ k_ => XS.iload X119.here hx rfl (hb hby at_95) rfl k_) ?_
      show Go p.tables e below G (T119.setTop (mkF m 97 #[iv p0, iv p1, iv p2, iv size, rv b2, rv b7, rv b22, rv b42, rv b67, rv b97, iv (2 : Int32), iv (2 : Int32), un, un] [(.int (2 : Int32))]))
      refine Go.stp (fun t_ k_ => XS.aload X119.here hx rfl (hb hby at_97) rfl rfl k_) ?_
      show Go p.tables e below G (T119.setTop (mkF m 99 #[iv p0, iv p1, iv p2, iv size, rv b2, rv b7, rv b22, rv b42, rv b67, rv b97, iv (2 : Int32), iv (2 : Int32), un, un] [(.ref b22), (.int (2 : Int32))]))
      refine Go.stp (fun t_ k_ => XS.aload X119.here hx rfl (hb hby at_99) rfl rfl k_) ?_
      show Go p.tables e below G (T119.setTop (mkF m 101 #[iv p0, iv p1, iv p2, iv size, rv b2, rv b7, rv b22, rv b42, rv b67, rv b97, iv (2 : Int32), iv (2 : Int32), un, un] [(.ref b42), (.ref b22), (.int (2 : Int32))]))
      refine Go.stp (fun t_ k_ => XS.aload X119.here hx rfl (hb hby at_101) rfl rfl k_) ?_
      show Go p.tables e below G (T119.setTop (mkF m 103 #[iv p0, iv p1, iv p2, iv size, rv b2, rv b7, rv b22, rv b42, rv b67, rv b97, iv (2 : Int32), iv (2 : Int32), un, un] [(.ref b67), (.ref b42), (.ref b22), (.int (2 : Int32))]))
      refine Go.stp (fun t_ k_ => XS.aload X119.here hx rfl (hb hby at_103) rfl rfl k_) ?_
      show Go p.tables e below G (T119.setTop (mkF m 105 #[iv p0, iv p1, iv p2, iv size, rv b2, rv b7, rv b22, rv b42, rv b67, rv b97, iv (2 : Int32), iv (2 : Int32), un, un] [(.ref b97), (.ref b67), (.ref b42), (.ref b22), (.int (2 : Int32))]))
      obtain ⟨_, _, ⟨T147, L147, k147, n147⟩, -, X147, ⟨Lc147, hQ147, l147, y147, z147⟩, st147⟩ := Jvm.LawKit.callS X119 hx (y := (⟨"com/example/stutter/stutter/eval/FrameUpPinLaw", "pick", "(ILcom/example/stutter/stutter/eval/Frame;Lcom/example/stutter/stutter/eval/Frame;Lcom/example/stutter/stutter/eval/Frame;Lcom/example/stutter/stutter/eval/Frame;)Lcom/example/stutter/stutter/eval/Frame;"⟩ : MethodName)) hown (mvT hZ (hw _ (List.mem_of_getElem? (i := 31) rfl))) (mvT hZ (hw _ (List.mem_of_getElem? (i := 32) rfl))) (mvT hZ (hw _ (List.mem_of_getElem? (i := 33) rfl))) (mvT hZ (hw _ (List.mem_of_getElem? (i := 34) rfl))) (by decide) (backOf (W := 0) (rm5 l Z a0 hw [] (2 : Int32) b22 b42 b67 b97 b67 T119.heap n0 Z119 (by simp [own_pk])) hZ (hw _ (List.mem_of_getElem? (i := 34) rfl)) (hw _ (List.mem_of_getElem? (i := 33) rfl)) (by decide) (by decide)) (g := (mkF m 105 #[iv p0, iv p1, iv p2, iv size, rv b2, rv b7, rv b22, rv b42, rv b67, rv b97, iv (2 : Int32), iv (2 : Int32), un, un] [(.ref b97), (.ref b67), (.ref b42), (.ref b22), (.int (2 : Int32))])) rfl (by rw [hml]; rfl) (argsL := [(.int (2 : Int32)), (.ref b22), (.ref b42), (.ref b67), (.ref b97)]) (rest := []) (lenOf pd_3 rfl) rfl (by show 2 * 0 + _ ≤ _; exact Nat.le_of_eq rfl) (hb hby at_105) (fun _ _ => ⟨rfl, rfl, (by decide : 11 + 0 ≤ _), (by decide : 70 + 0 ≤ _)⟩)
      dsimp only [Pt.U, Pt.locs, Pt.cells, Pt.slots] at X147 l147 y147 z147 st147 hQ147
      subst l147 y147 z147
      obtain ⟨rfl, Nq147, e147⟩ := hQ147
      have N147 := Fr.app N119 Nq147
      refine Go.stp (fun t_ k_ => st147 t_ k_) ?_
      show Go p.tables e below G (T147.setTop (mkF m 108 #[iv p0, iv p1, iv p2, iv size, rv b2, rv b7, rv b22, rv b42, rv b67, rv b97, iv (2 : Int32), iv (2 : Int32), un, un] [(.ref b67)]))
      refine Go.stp (fun t_ k_ => XS.astore X147.here hx rfl (hb hby at_108) rfl rfl (l' := #[iv p0, iv p1, iv p2, iv size, rv b2, rv b7, rv b22, rv b42, rv b67, rv b97, iv (2 : Int32), iv (2 : Int32), rv b67, un]) rfl k_) ?_
      show Go p.tables e below G (T147.setTop (mkF m 110 #[iv p0, iv p1, iv p2, iv size, rv b2, rv b7, rv b22, rv b42, rv b67, rv b97, iv (2 : Int32), iv (2 : Int32), rv b67, un] []))
      refine Go.stp (fun t_ k_ => XS.iload X147.here hx rfl (hb hby at_110) rfl k_) ?_
      show Go p.tables e below G (T147.setTop (mkF m 112 #[iv p0, iv p1, iv p2, iv size, rv b2, rv b7, rv b22, rv b42, rv b67, rv b97, iv (2 : Int32), iv (2 : Int32), rv b67, un] [(.int (2 : Int32))]))
      refine Go.stp (fun t_ k_ => XS.iload X147.here hx rfl (hb hby at_112) rfl k_) ?_
      show Go p.tables e below G (T147.setTop (mkF m 114 #[iv p0, iv p1, iv p2, iv size, rv b2, rv b7, rv b22, rv b42, rv b67, rv b97, iv (2 : Int32), iv (2 : Int32), rv b67, un] [(.int (2 : Int32)), (.int (2 : Int32))]))
      refine Go.stp (fun t_ k_ => XS.isub X147.here hx rfl (hb hby at_114) rfl k_) ?_
      show Go p.tables e below G (T147.setTop (mkF m 115 #[iv p0, iv p1, iv p2, iv size, rv b2, rv b7, rv b22, rv b42, rv b67, rv b97, iv (2 : Int32), iv (2 : Int32), rv b67, un] [(.int ((2 : Int32) - (2 : Int32)))]))
      refine Go.stp (fun t_ k_ => XS.aload X147.here hx rfl (hb hby at_115) rfl rfl k_) ?_
      show Go p.tables e below G (T147.setTop (mkF m 117 #[iv p0, iv p1, iv p2, iv size, rv b2, rv b7, rv b22, rv b42, rv b67, rv b97, iv (2 : Int32), iv (2 : Int32), rv b67, un] [(.ref b22), (.int ((2 : Int32) - (2 : Int32)))]))
      refine Go.stp (fun t_ k_ => XS.aload X147.here hx rfl (hb hby at_117) rfl rfl k_) ?_
      show Go p.tables e below G (T147.setTop (mkF m 119 #[iv p0, iv p1, iv p2, iv size, rv b2, rv b7, rv b22, rv b42, rv b67, rv b97, iv (2 : Int32), iv (2 : Int32), rv b67, un] [(.ref b42), (.ref b22), (.int ((2 : Int32) - (2 : Int32)))]))
      refine Go.stp (fun t_ k_ => XS.aload X147.here hx rfl (hb hby at_119) rfl rfl k_) ?_
      show Go p.tables e below G (T147.setTop (mkF m 121 #[iv p0, iv p1, iv p2, iv size, rv b2, rv b7, rv b22, rv b42, rv b67, rv b97, iv (2 : Int32), iv (2 : Int32), rv b67, un] [(.ref b67), (.ref b42), (.ref b22), (.int ((2 : Int32) - (2 : Int32)))]))
      refine Go.stp (fun t_ k_ => XS.aload X147.here hx rfl (hb hby at_121) rfl rfl k_) ?_
      show Go p.tables e below G (T147.setTop (mkF m 123 #[iv p0, iv p1, iv p2, iv size, rv b2, rv b7, rv b22, rv b42, rv b67, rv b97, iv (2 : Int32), iv (2 : Int32), rv b67, un] [(.ref b97), (.ref b67), (.ref b42), (.ref b22), (.int ((2 : Int32) - (2 : Int32)))]))
      obtain ⟨_, _, ⟨T148, L148, k148, n148⟩, -, X148, ⟨Lc148, hQ148, l148, y148, z148⟩, st148⟩ := Jvm.LawKit.callS X147 hx (y := (⟨"com/example/stutter/stutter/eval/FrameUpPinLaw", "pick", "(ILcom/example/stutter/stutter/eval/Frame;Lcom/example/stutter/stutter/eval/Frame;Lcom/example/stutter/stutter/eval/Frame;Lcom/example/stutter/stutter/eval/Frame;)Lcom/example/stutter/stutter/eval/Frame;"⟩ : MethodName)) hown (mvT hZ (hw _ (List.mem_of_getElem? (i := 31) rfl))) (mvT hZ (hw _ (List.mem_of_getElem? (i := 32) rfl))) (mvT hZ (hw _ (List.mem_of_getElem? (i := 33) rfl))) (mvT hZ (hw _ (List.mem_of_getElem? (i := 34) rfl))) (by decide) (backOf (W := 0) (rm5 l Z a0 hw [] ((2 : Int32) - (2 : Int32)) b22 b42 b67 b97 b22 T119.heap n0 Z119 (by simp [own_pk])) hZ (hw _ (List.mem_of_getElem? (i := 34) rfl)) (hw _ (List.mem_of_getElem? (i := 33) rfl)) (by decide) (by decide)) (g := (mkF m 123 #[iv p0, iv p1, iv p2, iv size, rv b2, rv b7, rv b22, rv b42, rv b67, rv b97, iv (2 : Int32), iv (2 : Int32), rv b67, un] [(.ref b97), (.ref b67), (.ref b42), (.ref b22), (.int ((2 : Int32) - (2 : Int32)))])) rfl (by rw [hml]; rfl) (argsL := [(.int ((2 : Int32) - (2 : Int32))), (.ref b22), (.ref b42), (.ref b67), (.ref b97)]) (rest := []) (lenOf pd_3 rfl) rfl (by show 2 * 0 + _ ≤ _; exact Nat.le_of_eq rfl) (hb hby at_123) (fun _ _ => ⟨rfl, e147, (by decide : 11 + 0 ≤ _), (by decide : 70 + 0 ≤ _)⟩)
      dsimp only [Pt.U, Pt.locs, Pt.cells, Pt.slots] at X148 l148 y148 z148 st148 hQ148
      subst l148 y148 z148
      obtain ⟨rfl, Nq148, e148⟩ := hQ148
      have N148 := Fr.app N147 Nq148
      refine Go.stp (fun t_ k_ => st148 t_ k_) ?_
      show Go p.tables e below G (T148.setTop (mkF m 126 #[iv p0, iv p1, iv p2, iv size, rv b2, rv b7, rv b22, rv b42, rv b67, rv b97, iv (2 : Int32), iv (2 : Int32), rv b67, un] [(.ref b22)]))
      refine Go.stp (fun t_ k_ => XS.astore X148.here hx rfl (hb hby at_126) rfl rfl (l' := #[iv p0, iv p1, iv p2, iv size, rv b2, rv b7, rv b22, rv b42, rv b67, rv b97, iv (2 : Int32), iv (2 : Int32), rv b67, rv b22]) rfl k_) ?_
      show Go p.tables e below G (T148.setTop (mkF m 128 #[iv p0, iv p1, iv p2, iv size, rv b2, rv b7, rv b22, rv b42, rv b67, rv b97, iv (2 : Int32), iv (2 : Int32), rv b67, rv b22] []))
      refine Go.stp (fun t_ k_ => XS.aload X148.here hx rfl (hb hby at_128) rfl rfl k_) ?_
      show Go p.tables e below G (T148.setTop (mkF m 130 #[iv p0, iv p1, iv p2, iv size, rv b2, rv b7, rv b22, rv b42, rv b67, rv b97, iv (2 : Int32), iv (2 : Int32), rv b67, rv b22] [(.ref b67)]))
      refine Go.stp (fun t_ k_ => XS.iload X148.here hx rfl (hb hby at_130) rfl k_) ?_
      show Go p.tables e below G (T148.setTop (mkF m 132 #[iv p0, iv p1, iv p2, iv size, rv b2, rv b7, rv b22, rv b42, rv b67, rv b97, iv (2 : Int32), iv (2 : Int32), rv b67, rv b22] [(.int (2 : Int32)), (.ref b67)]))
      obtain ⟨cq149, kq149, q149a, q149b, q149c⟩ := isOf hZ e148 f129
      obtain ⟨_, _, ⟨T149, L149, k149, n149⟩, -, X149, ⟨Lc149, hQ149, l149, y149, z149⟩, st149⟩ := X148.virtualBack hx (y := (⟨"com/example/stutter/stutter/eval/Frame", "up", "(I)Lcom/example/stutter/stutter/eval/Frame;"⟩ : MethodName)) (z := (⟨"com/example/stutter/stutter/eval/Frame", "up", "(I)Lcom/example/stutter/stutter/eval/Frame;"⟩ : MethodName)) hown (mvT hZ (hw _ (List.mem_of_getElem? (i := 35) rfl))) (mvT hZ (hw _ (List.mem_of_getElem? (i := 36) rfl))) (notFace_of_selects (args := #[]) (mvT hZ (hw _ (List.mem_of_getElem? (i := 38) rfl)))) (mvT hZ (hw _ (List.mem_of_getElem? (i := 38) rfl))) (mvT hZ (hw _ (List.mem_of_getElem? (i := 37) rfl))) (by decide) (backOf (W := 0) (rm6_2 l Z a0 hw [] b67 b42 b22 T119.heap n0 Z119 f130 f128) hZ (hw _ (List.mem_of_getElem? (i := 39) rfl)) (hw _ (List.mem_of_getElem? (i := 4) rfl)) (by decide) (by decide)) q149a q149c (g := (mkF m 132 #[iv p0, iv p1, iv p2, iv size, rv b2, rv b7, rv b22, rv b42, rv b67, rv b97, iv (2 : Int32), iv (2 : Int32), rv b67, rv b22] [(.int (2 : Int32)), (.ref b67)])) rfl (by rw [hml]; rfl) (Steps.refl _) (argsL := [(.int (2 : Int32))]) (rest := []) (lenOf pd_4 rfl) rfl (by show 2 * 0 + _ ≤ _; exact Nat.le_of_eq rfl) (hb hby at_132) (fun _ _ => ⟨rfl, e148, (by decide : 11 + 0 ≤ _), (by decide : 70 + 0 ≤ _)⟩)
      dsimp only [Pt.U, Pt.locs, Pt.cells, Pt.slots] at X149 l149 y149 z149 st149 hQ149
      subst l149 y149 z149
      obtain ⟨rfl, Nq149, e149⟩ := hQ149
      have N149 := Fr.app N148 Nq149
      refine Go.stp (fun t_ k_ => st149.trans k_) ?_
      show Go p.tables e below G (T149.setTop (mkF m 135 #[iv p0, iv p1, iv p2, iv size, rv b2, rv b7, rv b22, rv b42, rv b67, rv b97, iv (2 : Int32), iv (2 : Int32), rv b67, rv b22] [(.ref b22)]))
      refine Go.stp (fun t_ k_ => XS.aload X149.here hx rfl (hb hby at_135) rfl rfl k_) ?_
      show Go p.tables e below G (T149.setTop (mkF m 137 #[iv p0, iv p1, iv p2, iv size, rv b2, rv b7, rv b22, rv b42, rv b67, rv b97, iv (2 : Int32), iv (2 : Int32), rv b67, rv b22] [(.ref b22), (.ref b22)]))
      refine Go.stp (fun t_ k_ => Jvm.RoadKit.acmp (g := (mkF m 137 #[iv p0, iv p1, iv p2, iv size, rv b2, rv b7, rv b22, rv b42, rv b67, rv b97, iv (2 : Int32), iv (2 : Int32), rv b67, rv b22] [(.ref b22), (.ref b22)])) X149 hx rfl rfl rfl (pc0 := 137) (pc' := 140) (same := true) rfl (hb hby at_137) rfl (decide_eq_true rfl) (by decide) (by decide) k_) ?_
      show Go p.tables e below G (T149.setTop (mkF m 140 #[iv p0, iv p1, iv p2, iv size, rv b2, rv b7, rv b22, rv b42, rv b67, rv b97, iv (2 : Int32), iv (2 : Int32), rv b67, rv b22] []))
      refine Go.stp (fun t_ k_ => XS.iconst X149.here hx rfl (hb hby at_140) k_) ?_
      show Go p.tables e below G (T149.setTop (mkF m 141 #[iv p0, iv p1, iv p2, iv size, rv b2, rv b7, rv b22, rv b42, rv b67, rv b97, iv (2 : Int32), iv (2 : Int32), rv b67, rv b22] [(.int (1 : Int32))]))
      refine Go.stp (fun t_ k_ => XS.goto X149.here hx rfl (pc0 := 141) (pc' := 145) rfl (hb hby at_141) (by decide) (by decide) k_) ?_
      show Go p.tables e below G (T149.setTop (mkF m 145 #[iv p0, iv p1, iv p2, iv size, rv b2, rv b7, rv b22, rv b42, rv b67, rv b97, iv (2 : Int32), iv (2 : Int32), rv b67, rv b22] [(.int (1 : Int32))]))
      obtain ⟨fs, hr, hrun, hended, hW, hsame⟩ := X149.leave (v := some (.int (1 : Int32))) (fun h => by rw [Bd.returns] at h; cases h)
      refine ⟨_, _, retN X149 hx (t := .boolean) Bd.returns (by simp) (hb hby at_145) hr, hrun, hended, hG _ _ _ ?_ ⟨⟨_, rfl⟩, hW, hsame.mono (by decide) (by decide)⟩⟩
      show Q0 Z p0 p1 p2 aN f h0 n0 _ T149.heap _
      rw [e149]
      exact ⟨rfl, N149⟩
  · rw [hn]
    show Go p.tables e below G (T119.setTop (mkF m 84 #[iv p0, iv p1, iv p2, iv size, rv b2, rv b7, rv b22, rv b42, rv b67, rv b97, iv (3 : Int32), un, un, un] []))
    refine Go.stp (fun t_ k_ => XS.iloadN X119.here hx rfl (hb hby at_84) rfl k_) ?_
    show Go p.tables e below G (T119.setTop (mkF m 85 #[iv p0, iv p1, iv p2, iv size, rv b2, rv b7, rv b22, rv b42, rv b67, rv b97, iv (3 : Int32), un, un, un] [(.int p1)]))
    refine Go.stp (fun t_ k_ => X119.ldcInt hx hown (mvT hZ (hw _ (List.mem_of_getElem? (i := 30) rfl))) (g := (mkF m 85 #[iv p0, iv p1, iv p2, iv size, rv b2, rv b7, rv b22, rv b42, rv b67, rv b97, iv (3 : Int32), un, un, un] [(.int p1)])) rfl (hb hby at_85) t_ k_) ?_
    show Go p.tables e below G (T119.setTop (mkF m 87 #[iv p0, iv p1, iv p2, iv size, rv b2, rv b7, rv b22, rv b42, rv b67, rv b97, iv (3 : Int32), un, un, un] [(.int (2147483647 : Int32)), (.int p1)]))
    refine Go.stp (fun t_ k_ => XS.iand X119.here hx rfl (hb hby at_87) rfl k_) ?_
    show Go p.tables e below G (T119.setTop (mkF m 88 #[iv p0, iv p1, iv p2, iv size, rv b2, rv b7, rv b22, rv b42, rv b67, rv b97, iv (3 : Int32), un, un, un] [(.int (p1 &&& (2147483647 : Int32)))]))
    refine Go.stp (fun t_ k_ => XS.iload X119.here hx rfl (hb hby at_88) rfl k_) ?_
    show Go p.tables e below G (T119.setTop (mkF m 90 #[iv p0, iv p1, iv p2, iv size, rv b2, rv b7, rv b22, rv b42, rv b67, rv b97, iv (3 : Int32), un, un, un] [(.int (3 : Int32)), (.int (p1 &&& (2147483647 : Int32)))]))
    refine Go.stp (fun t_ k_ => XS.iconst X119.here hx rfl (hb hby at_90) k_) ?_
    show Go p.tables e below G (T119.setTop (mkF m 91 #[iv p0, iv p1, iv p2, iv size, rv b2, rv b7, rv b22, rv b42, rv b67, rv b97, iv (3 : Int32), un, un, un] [(.int (1 : Int32)), (.int (3 : Int32)), (.int (p1 &&& (2147483647 : Int32)))]))
    refine Go.stp (fun t_ k_ => XS.iadd X119.here hx rfl (hb hby at_91) rfl k_) ?_
    show Go p.tables e below G (T119.setTop (mkF m 92 #[iv p0, iv p1, iv p2, iv size, rv b2, rv b7, rv b22, rv b42, rv b67, rv b97, iv (3 : Int32), un, un, un] [(.int ((3 : Int32) + (1 : Int32))), (.int (p1 &&& (2147483647 : Int32)))]))
    refine Go.stp (fun t_ k_ => XS.irem X119.here hx rfl (hb hby at_92) rfl (by decide) k_) ?_
    show Go p.tables e below G (T119.setTop (mkF m 93 #[iv p0, iv p1, iv p2, iv size, rv b2, rv b7, rv b22, rv b42, rv b67, rv b97, iv (3 : Int32), un, un, un] [(.int ((p1 &&& (2147483647 : Int32)) - ((p1 &&& (2147483647 : Int32)) / ((3 : Int32) + (1 : Int32))) * ((3 : Int32) + (1 : Int32))))]))
    refine Go.stp (fun t_ k_ => XS.istore X119.here hx rfl (hb hby at_93) rfl (l' := #[iv p0, iv p1, iv p2, iv size, rv b2, rv b7, rv b22, rv b42, rv b67, rv b97, iv (3 : Int32), iv ((p1 &&& (2147483647 : Int32)) - ((p1 &&& (2147483647 : Int32)) / ((3 : Int32) + (1 : Int32))) * ((3 : Int32) + (1 : Int32))), un, un]) rfl k_) ?_
    show Go p.tables e below G (T119.setTop (mkF m 95 #[iv p0, iv p1, iv p2, iv size, rv b2, rv b7, rv b22, rv b42, rv b67, rv b97, iv (3 : Int32), iv ((p1 &&& (2147483647 : Int32)) - ((p1 &&& (2147483647 : Int32)) / ((3 : Int32) + (1 : Int32))) * ((3 : Int32) + (1 : Int32))), un, un] []))
    obtain ⟨hd, hd'⟩ : ∃ z, z = ((p1 &&& (2147483647 : Int32)) - ((p1 &&& (2147483647 : Int32)) / ((3 : Int32) + (1 : Int32))) * ((3 : Int32) + (1 : Int32))) := ⟨_, rfl⟩
    have hr := own_rem p1 ((3 : Int32) + (1 : Int32)) 4 (by decide) (by decide)
    rw [← hd'] at hr ⊢
    rcases own_d hd hr.1 hr.2 with rfl | rfl | rfl | rfl
    · show Go p.tables e below G (T119.setTop (mkF m 95 #[iv p0, iv p1, iv p2, iv size, rv b2, rv b7, rv b22, rv b42, rv b67, rv b97, iv (3 : Int32), iv (0 : Int32), un, un] []))
      refine Go.stp (fun t_ k_ => XS.iload X119.here hx rfl (hb hby at_95) rfl k_) ?_
      show Go p.tables e below G (T119.setTop (mkF m 97 #[iv p0, iv p1, iv p2, iv size, rv b2, rv b7, rv b22, rv b42, rv b67, rv b97, iv (3 : Int32), iv (0 : Int32), un, un] [(.int (3 : Int32))]))
      refine Go.stp (fun t_ k_ => XS.aload X119.here hx rfl (hb hby at_97) rfl rfl k_) ?_
      show Go p.tables e below G (T119.setTop (mkF m 99 #[iv p0, iv p1, iv p2, iv size, rv b2, rv b7, rv b22, rv b42, rv b67, rv b97, iv (3 : Int32), iv (0 : Int32), un, un] [(.ref b22), (.int (3 : Int32))]))
      refine Go.stp (fun t_ k_ => XS.aload X119.here hx rfl (hb hby at_99) rfl rfl k_) ?_
      show Go p.tables e below G (T119.setTop (mkF m 101 #[iv p0, iv p1, iv p2, iv size, rv b2, rv b7, rv b22, rv b42, rv b67, rv b97, iv (3 : Int32), iv (0 : Int32), un, un] [(.ref b42), (.ref b22), (.int (3 : Int32))]))
      refine Go.stp (fun t_ k_ => XS.aload X119.here hx rfl (hb hby at_101) rfl rfl k_) ?_
      show Go p.tables e below G (T119.setTop (mkF m 103 #[iv p0, iv p1, iv p2, iv size, rv b2, rv b7, rv b22, rv b42, rv b67, rv b97, iv (3 : Int32), iv (0 : Int32), un, un] [(.ref b67), (.ref b42), (.ref b22), (.int (3 : Int32))]))
      refine Go.stp (fun t_ k_ => XS.aload X119.here hx rfl (hb hby at_103) rfl rfl k_) ?_
      show Go p.tables e below G (T119.setTop (mkF m 105 #[iv p0, iv p1, iv p2, iv size, rv b2, rv b7, rv b22, rv b42, rv b67, rv b97, iv (3 : Int32), iv (0 : Int32), un, un] [(.ref b97), (.ref b67), (.ref b42), (.ref b22), (.int (3 : Int32))]))
      obtain ⟨_, _, ⟨T150, L150, k150, n150⟩, -, X150, ⟨Lc150, hQ150, l150, y150, z150⟩, st150⟩ := Jvm.LawKit.callS X119 hx (y := (⟨"com/example/stutter/stutter/eval/FrameUpPinLaw", "pick", "(ILcom/example/stutter/stutter/eval/Frame;Lcom/example/stutter/stutter/eval/Frame;Lcom/example/stutter/stutter/eval/Frame;Lcom/example/stutter/stutter/eval/Frame;)Lcom/example/stutter/stutter/eval/Frame;"⟩ : MethodName)) hown (mvT hZ (hw _ (List.mem_of_getElem? (i := 31) rfl))) (mvT hZ (hw _ (List.mem_of_getElem? (i := 32) rfl))) (mvT hZ (hw _ (List.mem_of_getElem? (i := 33) rfl))) (mvT hZ (hw _ (List.mem_of_getElem? (i := 34) rfl))) (by decide) (backOf (W := 0) (rm5 l Z a0 hw [] (3 : Int32) b22 b42 b67 b97 b97 T119.heap n0 Z119 (by simp [own_pk])) hZ (hw _ (List.mem_of_getElem? (i := 34) rfl)) (hw _ (List.mem_of_getElem? (i := 33) rfl)) (by decide) (by decide)) (g := (mkF m 105 #[iv p0, iv p1, iv p2, iv size, rv b2, rv b7, rv b22, rv b42, rv b67, rv b97, iv (3 : Int32), iv (0 : Int32), un, un] [(.ref b97), (.ref b67), (.ref b42), (.ref b22), (.int (3 : Int32))])) rfl (by rw [hml]; rfl) (argsL := [(.int (3 : Int32)), (.ref b22), (.ref b42), (.ref b67), (.ref b97)]) (rest := []) (lenOf pd_3 rfl) rfl (by show 2 * 0 + _ ≤ _; exact Nat.le_of_eq rfl) (hb hby at_105) (fun _ _ => ⟨rfl, rfl, (by decide : 11 + 0 ≤ _), (by decide : 70 + 0 ≤ _)⟩)
      dsimp only [Pt.U, Pt.locs, Pt.cells, Pt.slots] at X150 l150 y150 z150 st150 hQ150
      subst l150 y150 z150
      obtain ⟨rfl, Nq150, e150⟩ := hQ150
      have N150 := Fr.app N119 Nq150
      refine Go.stp (fun t_ k_ => st150 t_ k_) ?_
      show Go p.tables e below G (T150.setTop (mkF m 108 #[iv p0, iv p1, iv p2, iv size, rv b2, rv b7, rv b22, rv b42, rv b67, rv b97, iv (3 : Int32), iv (0 : Int32), un, un] [(.ref b97)]))
      refine Go.stp (fun t_ k_ => XS.astore X150.here hx rfl (hb hby at_108) rfl rfl (l' := #[iv p0, iv p1, iv p2, iv size, rv b2, rv b7, rv b22, rv b42, rv b67, rv b97, iv (3 : Int32), iv (0 : Int32), rv b97, un]) rfl k_) ?_
      show Go p.tables e below G (T150.setTop (mkF m 110 #[iv p0, iv p1, iv p2, iv size, rv b2, rv b7, rv b22, rv b42, rv b67, rv b97, iv (3 : Int32), iv (0 : Int32), rv b97, un] []))
      refine Go.stp (fun t_ k_ => XS.iload X150.here hx rfl (hb hby at_110) rfl k_) ?_
      show Go p.tables e below G (T150.setTop (mkF m 112 #[iv p0, iv p1, iv p2, iv size, rv b2, rv b7, rv b22, rv b42, rv b67, rv b97, iv (3 : Int32), iv (0 : Int32), rv b97, un] [(.int (3 : Int32))]))
      refine Go.stp (fun t_ k_ => XS.iload X150.here hx rfl (hb hby at_112) rfl k_) ?_
      show Go p.tables e below G (T150.setTop (mkF m 114 #[iv p0, iv p1, iv p2, iv size, rv b2, rv b7, rv b22, rv b42, rv b67, rv b97, iv (3 : Int32), iv (0 : Int32), rv b97, un] [(.int (0 : Int32)), (.int (3 : Int32))]))
      refine Go.stp (fun t_ k_ => XS.isub X150.here hx rfl (hb hby at_114) rfl k_) ?_
      show Go p.tables e below G (T150.setTop (mkF m 115 #[iv p0, iv p1, iv p2, iv size, rv b2, rv b7, rv b22, rv b42, rv b67, rv b97, iv (3 : Int32), iv (0 : Int32), rv b97, un] [(.int ((3 : Int32) - (0 : Int32)))]))
      refine Go.stp (fun t_ k_ => XS.aload X150.here hx rfl (hb hby at_115) rfl rfl k_) ?_
      show Go p.tables e below G (T150.setTop (mkF m 117 #[iv p0, iv p1, iv p2, iv size, rv b2, rv b7, rv b22, rv b42, rv b67, rv b97, iv (3 : Int32), iv (0 : Int32), rv b97, un] [(.ref b22), (.int ((3 : Int32) - (0 : Int32)))]))
      refine Go.stp (fun t_ k_ => XS.aload X150.here hx rfl (hb hby at_117) rfl rfl k_) ?_
      show Go p.tables e below G (T150.setTop (mkF m 119 #[iv p0, iv p1, iv p2, iv size, rv b2, rv b7, rv b22, rv b42, rv b67, rv b97, iv (3 : Int32), iv (0 : Int32), rv b97, un] [(.ref b42), (.ref b22), (.int ((3 : Int32) - (0 : Int32)))]))
      refine Go.stp (fun t_ k_ => XS.aload X150.here hx rfl (hb hby at_119) rfl rfl k_) ?_
      show Go p.tables e below G (T150.setTop (mkF m 121 #[iv p0, iv p1, iv p2, iv size, rv b2, rv b7, rv b22, rv b42, rv b67, rv b97, iv (3 : Int32), iv (0 : Int32), rv b97, un] [(.ref b67), (.ref b42), (.ref b22), (.int ((3 : Int32) - (0 : Int32)))]))
      refine Go.stp (fun t_ k_ => XS.aload X150.here hx rfl (hb hby at_121) rfl rfl k_) ?_
      show Go p.tables e below G (T150.setTop (mkF m 123 #[iv p0, iv p1, iv p2, iv size, rv b2, rv b7, rv b22, rv b42, rv b67, rv b97, iv (3 : Int32), iv (0 : Int32), rv b97, un] [(.ref b97), (.ref b67), (.ref b42), (.ref b22), (.int ((3 : Int32) - (0 : Int32)))]))
      obtain ⟨_, _, ⟨T151, L151, k151, n151⟩, -, X151, ⟨Lc151, hQ151, l151, y151, z151⟩, st151⟩ := Jvm.LawKit.callS X150 hx (y := (⟨"com/example/stutter/stutter/eval/FrameUpPinLaw", "pick", "(ILcom/example/stutter/stutter/eval/Frame;Lcom/example/stutter/stutter/eval/Frame;Lcom/example/stutter/stutter/eval/Frame;Lcom/example/stutter/stutter/eval/Frame;)Lcom/example/stutter/stutter/eval/Frame;"⟩ : MethodName)) hown (mvT hZ (hw _ (List.mem_of_getElem? (i := 31) rfl))) (mvT hZ (hw _ (List.mem_of_getElem? (i := 32) rfl))) (mvT hZ (hw _ (List.mem_of_getElem? (i := 33) rfl))) (mvT hZ (hw _ (List.mem_of_getElem? (i := 34) rfl))) (by decide) (backOf (W := 0) (rm5 l Z a0 hw [] ((3 : Int32) - (0 : Int32)) b22 b42 b67 b97 b97 T119.heap n0 Z119 (by simp [own_pk])) hZ (hw _ (List.mem_of_getElem? (i := 34) rfl)) (hw _ (List.mem_of_getElem? (i := 33) rfl)) (by decide) (by decide)) (g := (mkF m 123 #[iv p0, iv p1, iv p2, iv size, rv b2, rv b7, rv b22, rv b42, rv b67, rv b97, iv (3 : Int32), iv (0 : Int32), rv b97, un] [(.ref b97), (.ref b67), (.ref b42), (.ref b22), (.int ((3 : Int32) - (0 : Int32)))])) rfl (by rw [hml]; rfl) (argsL := [(.int ((3 : Int32) - (0 : Int32))), (.ref b22), (.ref b42), (.ref b67), (.ref b97)]) (rest := []) (lenOf pd_3 rfl) rfl (by show 2 * 0 + _ ≤ _; exact Nat.le_of_eq rfl) (hb hby at_123) (fun _ _ => ⟨rfl, e150, (by decide : 11 + 0 ≤ _), (by decide : 70 + 0 ≤ _)⟩)
      dsimp only [Pt.U, Pt.locs, Pt.cells, Pt.slots] at X151 l151 y151 z151 st151 hQ151
      subst l151 y151 z151
      obtain ⟨rfl, Nq151, e151⟩ := hQ151
      have N151 := Fr.app N150 Nq151
      refine Go.stp (fun t_ k_ => st151 t_ k_) ?_
      show Go p.tables e below G (T151.setTop (mkF m 126 #[iv p0, iv p1, iv p2, iv size, rv b2, rv b7, rv b22, rv b42, rv b67, rv b97, iv (3 : Int32), iv (0 : Int32), rv b97, un] [(.ref b97)]))
      refine Go.stp (fun t_ k_ => XS.astore X151.here hx rfl (hb hby at_126) rfl rfl (l' := #[iv p0, iv p1, iv p2, iv size, rv b2, rv b7, rv b22, rv b42, rv b67, rv b97, iv (3 : Int32), iv (0 : Int32), rv b97, rv b97]) rfl k_) ?_
      show Go p.tables e below G (T151.setTop (mkF m 128 #[iv p0, iv p1, iv p2, iv size, rv b2, rv b7, rv b22, rv b42, rv b67, rv b97, iv (3 : Int32), iv (0 : Int32), rv b97, rv b97] []))
      refine Go.stp (fun t_ k_ => XS.aload X151.here hx rfl (hb hby at_128) rfl rfl k_) ?_
      show Go p.tables e below G (T151.setTop (mkF m 130 #[iv p0, iv p1, iv p2, iv size, rv b2, rv b7, rv b22, rv b42, rv b67, rv b97, iv (3 : Int32), iv (0 : Int32), rv b97, rv b97] [(.ref b97)]))
      refine Go.stp (fun t_ k_ => XS.iload X151.here hx rfl (hb hby at_130) rfl k_) ?_
      show Go p.tables e below G (T151.setTop (mkF m 132 #[iv p0, iv p1, iv p2, iv size, rv b2, rv b7, rv b22, rv b42, rv b67, rv b97, iv (3 : Int32), iv (0 : Int32), rv b97, rv b97] [(.int (0 : Int32)), (.ref b97)]))
      obtain ⟨cq152, kq152, q152a, q152b, q152c⟩ := isOf hZ e151 Ex119
      obtain ⟨_, _, ⟨T152, L152, k152, n152⟩, -, X152, ⟨Lc152, hQ152, l152, y152, z152⟩, st152⟩ := X151.virtualBack hx (y := (⟨"com/example/stutter/stutter/eval/Frame", "up", "(I)Lcom/example/stutter/stutter/eval/Frame;"⟩ : MethodName)) (z := (⟨"com/example/stutter/stutter/eval/Frame", "up", "(I)Lcom/example/stutter/stutter/eval/Frame;"⟩ : MethodName)) hown (mvT hZ (hw _ (List.mem_of_getElem? (i := 35) rfl))) (mvT hZ (hw _ (List.mem_of_getElem? (i := 36) rfl))) (notFace_of_selects (args := #[]) (mvT hZ (hw _ (List.mem_of_getElem? (i := 38) rfl)))) (mvT hZ (hw _ (List.mem_of_getElem? (i := 38) rfl))) (mvT hZ (hw _ (List.mem_of_getElem? (i := 37) rfl))) (by decide) (backOf (W := 0) (rm6_0 l Z a0 hw [] b97 T119.heap n0 Z119 ) hZ (hw _ (List.mem_of_getElem? (i := 39) rfl)) (hw _ (List.mem_of_getElem? (i := 4) rfl)) (by decide) (by decide)) q152a q152c (g := (mkF m 132 #[iv p0, iv p1, iv p2, iv size, rv b2, rv b7, rv b22, rv b42, rv b67, rv b97, iv (3 : Int32), iv (0 : Int32), rv b97, rv b97] [(.int (0 : Int32)), (.ref b97)])) rfl (by rw [hml]; rfl) (Steps.refl _) (argsL := [(.int (0 : Int32))]) (rest := []) (lenOf pd_4 rfl) rfl (by show 2 * 0 + _ ≤ _; exact Nat.le_of_eq rfl) (hb hby at_132) (fun _ _ => ⟨rfl, e151, (by decide : 11 + 0 ≤ _), (by decide : 70 + 0 ≤ _)⟩)
      dsimp only [Pt.U, Pt.locs, Pt.cells, Pt.slots] at X152 l152 y152 z152 st152 hQ152
      subst l152 y152 z152
      obtain ⟨rfl, Nq152, e152⟩ := hQ152
      have N152 := Fr.app N151 Nq152
      refine Go.stp (fun t_ k_ => st152.trans k_) ?_
      show Go p.tables e below G (T152.setTop (mkF m 135 #[iv p0, iv p1, iv p2, iv size, rv b2, rv b7, rv b22, rv b42, rv b67, rv b97, iv (3 : Int32), iv (0 : Int32), rv b97, rv b97] [(.ref b97)]))
      refine Go.stp (fun t_ k_ => XS.aload X152.here hx rfl (hb hby at_135) rfl rfl k_) ?_
      show Go p.tables e below G (T152.setTop (mkF m 137 #[iv p0, iv p1, iv p2, iv size, rv b2, rv b7, rv b22, rv b42, rv b67, rv b97, iv (3 : Int32), iv (0 : Int32), rv b97, rv b97] [(.ref b97), (.ref b97)]))
      refine Go.stp (fun t_ k_ => Jvm.RoadKit.acmp (g := (mkF m 137 #[iv p0, iv p1, iv p2, iv size, rv b2, rv b7, rv b22, rv b42, rv b67, rv b97, iv (3 : Int32), iv (0 : Int32), rv b97, rv b97] [(.ref b97), (.ref b97)])) X152 hx rfl rfl rfl (pc0 := 137) (pc' := 140) (same := true) rfl (hb hby at_137) rfl (decide_eq_true rfl) (by decide) (by decide) k_) ?_
      show Go p.tables e below G (T152.setTop (mkF m 140 #[iv p0, iv p1, iv p2, iv size, rv b2, rv b7, rv b22, rv b42, rv b67, rv b97, iv (3 : Int32), iv (0 : Int32), rv b97, rv b97] []))
      refine Go.stp (fun t_ k_ => XS.iconst X152.here hx rfl (hb hby at_140) k_) ?_
      show Go p.tables e below G (T152.setTop (mkF m 141 #[iv p0, iv p1, iv p2, iv size, rv b2, rv b7, rv b22, rv b42, rv b67, rv b97, iv (3 : Int32), iv (0 : Int32), rv b97, rv b97] [(.int (1 : Int32))]))
      refine Go.stp (fun t_ k_ => XS.goto X152.here hx rfl (pc0 := 141) (pc' := 145) rfl (hb hby at_141) (by decide) (by decide) k_) ?_
      show Go p.tables e below G (T152.setTop (mkF m 145 #[iv p0, iv p1, iv p2, iv size, rv b2, rv b7, rv b22, rv b42, rv b67, rv b97, iv (3 : Int32), iv (0 : Int32), rv b97, rv b97] [(.int (1 : Int32))]))
      obtain ⟨fs, hr, hrun, hended, hW, hsame⟩ := X152.leave (v := some (.int (1 : Int32))) (fun h => by rw [Bd.returns] at h; cases h)
      refine ⟨_, _, retN X152 hx (t := .boolean) Bd.returns (by simp) (hb hby at_145) hr, hrun, hended, hG _ _ _ ?_ ⟨⟨_, rfl⟩, hW, hsame.mono (by decide) (by decide)⟩⟩
      show Q0 Z p0 p1 p2 aN f h0 n0 _ T152.heap _
      rw [e152]
      exact ⟨rfl, N152⟩
    · show Go p.tables e below G (T119.setTop (mkF m 95 #[iv p0, iv p1, iv p2, iv size, rv b2, rv b7, rv b22, rv b42, rv b67, rv b97, iv (3 : Int32), iv (1 : Int32), un, un] []))
      refine Go.stp (fun t_ k_ => XS.iload X119.here hx rfl (hb hby at_95) rfl k_) ?_
      show Go p.tables e below G (T119.setTop (mkF m 97 #[iv p0, iv p1, iv p2, iv size, rv b2, rv b7, rv b22, rv b42, rv b67, rv b97, iv (3 : Int32), iv (1 : Int32), un, un] [(.int (3 : Int32))]))
      refine Go.stp (fun t_ k_ => XS.aload X119.here hx rfl (hb hby at_97) rfl rfl k_) ?_
      show Go p.tables e below G (T119.setTop (mkF m 99 #[iv p0, iv p1, iv p2, iv size, rv b2, rv b7, rv b22, rv b42, rv b67, rv b97, iv (3 : Int32), iv (1 : Int32), un, un] [(.ref b22), (.int (3 : Int32))]))
      refine Go.stp (fun t_ k_ => XS.aload X119.here hx rfl (hb hby at_99) rfl rfl k_) ?_
      show Go p.tables e below G (T119.setTop (mkF m 101 #[iv p0, iv p1, iv p2, iv size, rv b2, rv b7, rv b22, rv b42, rv b67, rv b97, iv (3 : Int32), iv (1 : Int32), un, un] [(.ref b42), (.ref b22), (.int (3 : Int32))]))
      refine Go.stp (fun t_ k_ => XS.aload X119.here hx rfl (hb hby at_101) rfl rfl k_) ?_
      show Go p.tables e below G (T119.setTop (mkF m 103 #[iv p0, iv p1, iv p2, iv size, rv b2, rv b7, rv b22, rv b42, rv b67, rv b97, iv (3 : Int32), iv (1 : Int32), un, un] [(.ref b67), (.ref b42), (.ref b22), (.int (3 : Int32))]))
      refine Go.stp (fun t_ k_ => XS.aload X119.here hx rfl (hb hby at_103) rfl rfl k_) ?_
      show Go p.tables e below G (T119.setTop (mkF m 105 #[iv p0, iv p1, iv p2, iv size, rv b2, rv b7, rv b22, rv b42, rv b67, rv b97, iv (3 : Int32), iv (1 : Int32), un, un] [(.ref b97), (.ref b67), (.ref b42), (.ref b22), (.int (3 : Int32))]))
      obtain ⟨_, _, ⟨T153, L153, k153, n153⟩, -, X153, ⟨Lc153, hQ153, l153, y153, z153⟩, st153⟩ := Jvm.LawKit.callS X119 hx (y := (⟨"com/example/stutter/stutter/eval/FrameUpPinLaw", "pick", "(ILcom/example/stutter/stutter/eval/Frame;Lcom/example/stutter/stutter/eval/Frame;Lcom/example/stutter/stutter/eval/Frame;Lcom/example/stutter/stutter/eval/Frame;)Lcom/example/stutter/stutter/eval/Frame;"⟩ : MethodName)) hown (mvT hZ (hw _ (List.mem_of_getElem? (i := 31) rfl))) (mvT hZ (hw _ (List.mem_of_getElem? (i := 32) rfl))) (mvT hZ (hw _ (List.mem_of_getElem? (i := 33) rfl))) (mvT hZ (hw _ (List.mem_of_getElem? (i := 34) rfl))) (by decide) (backOf (W := 0) (rm5 l Z a0 hw [] (3 : Int32) b22 b42 b67 b97 b97 T119.heap n0 Z119 (by simp [own_pk])) hZ (hw _ (List.mem_of_getElem? (i := 34) rfl)) (hw _ (List.mem_of_getElem? (i := 33) rfl)) (by decide) (by decide)) (g := (mkF m 105 #[iv p0, iv p1, iv p2, iv size, rv b2, rv b7, rv b22, rv b42, rv b67, rv b97, iv (3 : Int32), iv (1 : Int32), un, un] [(.ref b97), (.ref b67), (.ref b42), (.ref b22), (.int (3 : Int32))])) rfl (by rw [hml]; rfl) (argsL := [(.int (3 : Int32)), (.ref b22), (.ref b42), (.ref b67), (.ref b97)]) (rest := []) (lenOf pd_3 rfl) rfl (by show 2 * 0 + _ ≤ _; exact Nat.le_of_eq rfl) (hb hby at_105) (fun _ _ => ⟨rfl, rfl, (by decide : 11 + 0 ≤ _), (by decide : 70 + 0 ≤ _)⟩)
      dsimp only [Pt.U, Pt.locs, Pt.cells, Pt.slots] at X153 l153 y153 z153 st153 hQ153
      subst l153 y153 z153
      obtain ⟨rfl, Nq153, e153⟩ := hQ153
      have N153 := Fr.app N119 Nq153
      refine Go.stp (fun t_ k_ => st153 t_ k_) ?_
      show Go p.tables e below G (T153.setTop (mkF m 108 #[iv p0, iv p1, iv p2, iv size, rv b2, rv b7, rv b22, rv b42, rv b67, rv b97, iv (3 : Int32), iv (1 : Int32), un, un] [(.ref b97)]))
      refine Go.stp (fun t_ k_ => XS.astore X153.here hx rfl (hb hby at_108) rfl rfl (l' := #[iv p0, iv p1, iv p2, iv size, rv b2, rv b7, rv b22, rv b42, rv b67, rv b97, iv (3 : Int32), iv (1 : Int32), rv b97, un]) rfl k_) ?_
      show Go p.tables e below G (T153.setTop (mkF m 110 #[iv p0, iv p1, iv p2, iv size, rv b2, rv b7, rv b22, rv b42, rv b67, rv b97, iv (3 : Int32), iv (1 : Int32), rv b97, un] []))
      refine Go.stp (fun t_ k_ => XS.iload X153.here hx rfl (hb hby at_110) rfl k_) ?_
      show Go p.tables e below G (T153.setTop (mkF m 112 #[iv p0, iv p1, iv p2, iv size, rv b2, rv b7, rv b22, rv b42, rv b67, rv b97, iv (3 : Int32), iv (1 : Int32), rv b97, un] [(.int (3 : Int32))]))
      refine Go.stp (fun t_ k_ => XS.iload X153.here hx rfl (hb hby at_112) rfl k_) ?_
      show Go p.tables e below G (T153.setTop (mkF m 114 #[iv p0, iv p1, iv p2, iv size, rv b2, rv b7, rv b22, rv b42, rv b67, rv b97, iv (3 : Int32), iv (1 : Int32), rv b97, un] [(.int (1 : Int32)), (.int (3 : Int32))]))
      refine Go.stp (fun t_ k_ => XS.isub X153.here hx rfl (hb hby at_114) rfl k_) ?_
      show Go p.tables e below G (T153.setTop (mkF m 115 #[iv p0, iv p1, iv p2, iv size, rv b2, rv b7, rv b22, rv b42, rv b67, rv b97, iv (3 : Int32), iv (1 : Int32), rv b97, un] [(.int ((3 : Int32) - (1 : Int32)))]))
      refine Go.stp (fun t_ k_ => XS.aload X153.here hx rfl (hb hby at_115) rfl rfl k_) ?_
      show Go p.tables e below G (T153.setTop (mkF m 117 #[iv p0, iv p1, iv p2, iv size, rv b2, rv b7, rv b22, rv b42, rv b67, rv b97, iv (3 : Int32), iv (1 : Int32), rv b97, un] [(.ref b22), (.int ((3 : Int32) - (1 : Int32)))]))
      refine Go.stp (fun t_ k_ => XS.aload X153.here hx rfl (hb hby at_117) rfl rfl k_) ?_
      show Go p.tables e below G (T153.setTop (mkF m 119 #[iv p0, iv p1, iv p2, iv size, rv b2, rv b7, rv b22, rv b42, rv b67, rv b97, iv (3 : Int32), iv (1 : Int32), rv b97, un] [(.ref b42), (.ref b22), (.int ((3 : Int32) - (1 : Int32)))]))
      refine Go.stp (fun t_ k_ => XS.aload X153.here hx rfl (hb hby at_119) rfl rfl k_) ?_
      show Go p.tables e below G (T153.setTop (mkF m 121 #[iv p0, iv p1, iv p2, iv size, rv b2, rv b7, rv b22, rv b42, rv b67, rv b97, iv (3 : Int32), iv (1 : Int32), rv b97, un] [(.ref b67), (.ref b42), (.ref b22), (.int ((3 : Int32) - (1 : Int32)))]))
      refine Go.stp (fun t_ k_ => XS.aload X153.here hx rfl (hb hby at_121) rfl rfl k_) ?_
      show Go p.tables e below G (T153.setTop (mkF m 123 #[iv p0, iv p1, iv p2, iv size, rv b2, rv b7, rv b22, rv b42, rv b67, rv b97, iv (3 : Int32), iv (1 : Int32), rv b97, un] [(.ref b97), (.ref b67), (.ref b42), (.ref b22), (.int ((3 : Int32) - (1 : Int32)))]))
      obtain ⟨_, _, ⟨T154, L154, k154, n154⟩, -, X154, ⟨Lc154, hQ154, l154, y154, z154⟩, st154⟩ := Jvm.LawKit.callS X153 hx (y := (⟨"com/example/stutter/stutter/eval/FrameUpPinLaw", "pick", "(ILcom/example/stutter/stutter/eval/Frame;Lcom/example/stutter/stutter/eval/Frame;Lcom/example/stutter/stutter/eval/Frame;Lcom/example/stutter/stutter/eval/Frame;)Lcom/example/stutter/stutter/eval/Frame;"⟩ : MethodName)) hown (mvT hZ (hw _ (List.mem_of_getElem? (i := 31) rfl))) (mvT hZ (hw _ (List.mem_of_getElem? (i := 32) rfl))) (mvT hZ (hw _ (List.mem_of_getElem? (i := 33) rfl))) (mvT hZ (hw _ (List.mem_of_getElem? (i := 34) rfl))) (by decide) (backOf (W := 0) (rm5 l Z a0 hw [] ((3 : Int32) - (1 : Int32)) b22 b42 b67 b97 b67 T119.heap n0 Z119 (by simp [own_pk])) hZ (hw _ (List.mem_of_getElem? (i := 34) rfl)) (hw _ (List.mem_of_getElem? (i := 33) rfl)) (by decide) (by decide)) (g := (mkF m 123 #[iv p0, iv p1, iv p2, iv size, rv b2, rv b7, rv b22, rv b42, rv b67, rv b97, iv (3 : Int32), iv (1 : Int32), rv b97, un] [(.ref b97), (.ref b67), (.ref b42), (.ref b22), (.int ((3 : Int32) - (1 : Int32)))])) rfl (by rw [hml]; rfl) (argsL := [(.int ((3 : Int32) - (1 : Int32))), (.ref b22), (.ref b42), (.ref b67), (.ref b97)]) (rest := []) (lenOf pd_3 rfl) rfl (by show 2 * 0 + _ ≤ _; exact Nat.le_of_eq rfl) (hb hby at_123) (fun _ _ => ⟨rfl, e153, (by decide : 11 + 0 ≤ _), (by decide : 70 + 0 ≤ _)⟩)
      dsimp only [Pt.U, Pt.locs, Pt.cells, Pt.slots] at X154 l154 y154 z154 st154 hQ154
      subst l154 y154 z154
      obtain ⟨rfl, Nq154, e154⟩ := hQ154
      have N154 := Fr.app N153 Nq154
      refine Go.stp (fun t_ k_ => st154 t_ k_) ?_
      show Go p.tables e below G (T154.setTop (mkF m 126 #[iv p0, iv p1, iv p2, iv size, rv b2, rv b7, rv b22, rv b42, rv b67, rv b97, iv (3 : Int32), iv (1 : Int32), rv b97, un] [(.ref b67)]))
      refine Go.stp (fun t_ k_ => XS.astore X154.here hx rfl (hb hby at_126) rfl rfl (l' := #[iv p0, iv p1, iv p2, iv size, rv b2, rv b7, rv b22, rv b42, rv b67, rv b97, iv (3 : Int32), iv (1 : Int32), rv b97, rv b67]) rfl k_) ?_
      show Go p.tables e below G (T154.setTop (mkF m 128 #[iv p0, iv p1, iv p2, iv size, rv b2, rv b7, rv b22, rv b42, rv b67, rv b97, iv (3 : Int32), iv (1 : Int32), rv b97, rv b67] []))
      refine Go.stp (fun t_ k_ => XS.aload X154.here hx rfl (hb hby at_128) rfl rfl k_) ?_
      show Go p.tables e below G (T154.setTop (mkF m 130 #[iv p0, iv p1, iv p2, iv size, rv b2, rv b7, rv b22, rv b42, rv b67, rv b97, iv (3 : Int32), iv (1 : Int32), rv b97, rv b67] [(.ref b97)]))
      refine Go.stp (fun t_ k_ => XS.iload X154.here hx rfl (hb hby at_130) rfl k_) ?_
      show Go p.tables e below G (T154.setTop (mkF m 132 #[iv p0, iv p1, iv p2, iv size, rv b2, rv b7, rv b22, rv b42, rv b67, rv b97, iv (3 : Int32), iv (1 : Int32), rv b97, rv b67] [(.int (1 : Int32)), (.ref b97)]))
      obtain ⟨cq155, kq155, q155a, q155b, q155c⟩ := isOf hZ e154 Ex119
      obtain ⟨_, _, ⟨T155, L155, k155, n155⟩, -, X155, ⟨Lc155, hQ155, l155, y155, z155⟩, st155⟩ := X154.virtualBack hx (y := (⟨"com/example/stutter/stutter/eval/Frame", "up", "(I)Lcom/example/stutter/stutter/eval/Frame;"⟩ : MethodName)) (z := (⟨"com/example/stutter/stutter/eval/Frame", "up", "(I)Lcom/example/stutter/stutter/eval/Frame;"⟩ : MethodName)) hown (mvT hZ (hw _ (List.mem_of_getElem? (i := 35) rfl))) (mvT hZ (hw _ (List.mem_of_getElem? (i := 36) rfl))) (notFace_of_selects (args := #[]) (mvT hZ (hw _ (List.mem_of_getElem? (i := 38) rfl)))) (mvT hZ (hw _ (List.mem_of_getElem? (i := 38) rfl))) (mvT hZ (hw _ (List.mem_of_getElem? (i := 37) rfl))) (by decide) (backOf (W := 0) (rm6_1 l Z a0 hw [] b97 b67 T119.heap n0 Z119 Fp119) hZ (hw _ (List.mem_of_getElem? (i := 39) rfl)) (hw _ (List.mem_of_getElem? (i := 4) rfl)) (by decide) (by decide)) q155a q155c (g := (mkF m 132 #[iv p0, iv p1, iv p2, iv size, rv b2, rv b7, rv b22, rv b42, rv b67, rv b97, iv (3 : Int32), iv (1 : Int32), rv b97, rv b67] [(.int (1 : Int32)), (.ref b97)])) rfl (by rw [hml]; rfl) (Steps.refl _) (argsL := [(.int (1 : Int32))]) (rest := []) (lenOf pd_4 rfl) rfl (by show 2 * 0 + _ ≤ _; exact Nat.le_of_eq rfl) (hb hby at_132) (fun _ _ => ⟨rfl, e154, (by decide : 11 + 0 ≤ _), (by decide : 70 + 0 ≤ _)⟩)
      dsimp only [Pt.U, Pt.locs, Pt.cells, Pt.slots] at X155 l155 y155 z155 st155 hQ155
      subst l155 y155 z155
      obtain ⟨rfl, Nq155, e155⟩ := hQ155
      have N155 := Fr.app N154 Nq155
      refine Go.stp (fun t_ k_ => st155.trans k_) ?_
      show Go p.tables e below G (T155.setTop (mkF m 135 #[iv p0, iv p1, iv p2, iv size, rv b2, rv b7, rv b22, rv b42, rv b67, rv b97, iv (3 : Int32), iv (1 : Int32), rv b97, rv b67] [(.ref b67)]))
      refine Go.stp (fun t_ k_ => XS.aload X155.here hx rfl (hb hby at_135) rfl rfl k_) ?_
      show Go p.tables e below G (T155.setTop (mkF m 137 #[iv p0, iv p1, iv p2, iv size, rv b2, rv b7, rv b22, rv b42, rv b67, rv b97, iv (3 : Int32), iv (1 : Int32), rv b97, rv b67] [(.ref b67), (.ref b67)]))
      refine Go.stp (fun t_ k_ => Jvm.RoadKit.acmp (g := (mkF m 137 #[iv p0, iv p1, iv p2, iv size, rv b2, rv b7, rv b22, rv b42, rv b67, rv b97, iv (3 : Int32), iv (1 : Int32), rv b97, rv b67] [(.ref b67), (.ref b67)])) X155 hx rfl rfl rfl (pc0 := 137) (pc' := 140) (same := true) rfl (hb hby at_137) rfl (decide_eq_true rfl) (by decide) (by decide) k_) ?_
      show Go p.tables e below G (T155.setTop (mkF m 140 #[iv p0, iv p1, iv p2, iv size, rv b2, rv b7, rv b22, rv b42, rv b67, rv b97, iv (3 : Int32), iv (1 : Int32), rv b97, rv b67] []))
      refine Go.stp (fun t_ k_ => XS.iconst X155.here hx rfl (hb hby at_140) k_) ?_
      show Go p.tables e below G (T155.setTop (mkF m 141 #[iv p0, iv p1, iv p2, iv size, rv b2, rv b7, rv b22, rv b42, rv b67, rv b97, iv (3 : Int32), iv (1 : Int32), rv b97, rv b67] [(.int (1 : Int32))]))
      refine Go.stp (fun t_ k_ => XS.goto X155.here hx rfl (pc0 := 141) (pc' := 145) rfl (hb hby at_141) (by decide) (by decide) k_) ?_
      show Go p.tables e below G (T155.setTop (mkF m 145 #[iv p0, iv p1, iv p2, iv size, rv b2, rv b7, rv b22, rv b42, rv b67, rv b97, iv (3 : Int32), iv (1 : Int32), rv b97, rv b67] [(.int (1 : Int32))]))
      obtain ⟨fs, hr, hrun, hended, hW, hsame⟩ := X155.leave (v := some (.int (1 : Int32))) (fun h => by rw [Bd.returns] at h; cases h)
      refine ⟨_, _, retN X155 hx (t := .boolean) Bd.returns (by simp) (hb hby at_145) hr, hrun, hended, hG _ _ _ ?_ ⟨⟨_, rfl⟩, hW, hsame.mono (by decide) (by decide)⟩⟩
      show Q0 Z p0 p1 p2 aN f h0 n0 _ T155.heap _
      rw [e155]
      exact ⟨rfl, N155⟩
    · show Go p.tables e below G (T119.setTop (mkF m 95 #[iv p0, iv p1, iv p2, iv size, rv b2, rv b7, rv b22, rv b42, rv b67, rv b97, iv (3 : Int32), iv (2 : Int32), un, un] []))
      refine Go.stp (fun t_ k_ => XS.iload X119.here hx rfl (hb hby at_95) rfl k_) ?_
      show Go p.tables e below G (T119.setTop (mkF m 97 #[iv p0, iv p1, iv p2, iv size, rv b2, rv b7, rv b22, rv b42, rv b67, rv b97, iv (3 : Int32), iv (2 : Int32), un, un] [(.int (3 : Int32))]))
      refine Go.stp (fun t_ k_ => XS.aload X119.here hx rfl (hb hby at_97) rfl rfl k_) ?_
      show Go p.tables e below G (T119.setTop (mkF m 99 #[iv p0, iv p1, iv p2, iv size, rv b2, rv b7, rv b22, rv b42, rv b67, rv b97, iv (3 : Int32), iv (2 : Int32), un, un] [(.ref b22), (.int (3 : Int32))]))
      refine Go.stp (fun t_ k_ => XS.aload X119.here hx rfl (hb hby at_99) rfl rfl k_) ?_
      show Go p.tables e below G (T119.setTop (mkF m 101 #[iv p0, iv p1, iv p2, iv size, rv b2, rv b7, rv b22, rv b42, rv b67, rv b97, iv (3 : Int32), iv (2 : Int32), un, un] [(.ref b42), (.ref b22), (.int (3 : Int32))]))
      refine Go.stp (fun t_ k_ => XS.aload X119.here hx rfl (hb hby at_101) rfl rfl k_) ?_
      show Go p.tables e below G (T119.setTop (mkF m 103 #[iv p0, iv p1, iv p2, iv size, rv b2, rv b7, rv b22, rv b42, rv b67, rv b97, iv (3 : Int32), iv (2 : Int32), un, un] [(.ref b67), (.ref b42), (.ref b22), (.int (3 : Int32))]))
      refine Go.stp (fun t_ k_ => XS.aload X119.here hx rfl (hb hby at_103) rfl rfl k_) ?_
      show Go p.tables e below G (T119.setTop (mkF m 105 #[iv p0, iv p1, iv p2, iv size, rv b2, rv b7, rv b22, rv b42, rv b67, rv b97, iv (3 : Int32), iv (2 : Int32), un, un] [(.ref b97), (.ref b67), (.ref b42), (.ref b22), (.int (3 : Int32))]))
      obtain ⟨_, _, ⟨T156, L156, k156, n156⟩, -, X156, ⟨Lc156, hQ156, l156, y156, z156⟩, st156⟩ := Jvm.LawKit.callS X119 hx (y := (⟨"com/example/stutter/stutter/eval/FrameUpPinLaw", "pick", "(ILcom/example/stutter/stutter/eval/Frame;Lcom/example/stutter/stutter/eval/Frame;Lcom/example/stutter/stutter/eval/Frame;Lcom/example/stutter/stutter/eval/Frame;)Lcom/example/stutter/stutter/eval/Frame;"⟩ : MethodName)) hown (mvT hZ (hw _ (List.mem_of_getElem? (i := 31) rfl))) (mvT hZ (hw _ (List.mem_of_getElem? (i := 32) rfl))) (mvT hZ (hw _ (List.mem_of_getElem? (i := 33) rfl))) (mvT hZ (hw _ (List.mem_of_getElem? (i := 34) rfl))) (by decide) (backOf (W := 0) (rm5 l Z a0 hw [] (3 : Int32) b22 b42 b67 b97 b97 T119.heap n0 Z119 (by simp [own_pk])) hZ (hw _ (List.mem_of_getElem? (i := 34) rfl)) (hw _ (List.mem_of_getElem? (i := 33) rfl)) (by decide) (by decide)) (g := (mkF m 105 #[iv p0, iv p1, iv p2, iv size, rv b2, rv b7, rv b22, rv b42, rv b67, rv b97, iv (3 : Int32), iv (2 : Int32), un, un] [(.ref b97), (.ref b67), (.ref b42), (.ref b22), (.int (3 : Int32))])) rfl (by rw [hml]; rfl) (argsL := [(.int (3 : Int32)), (.ref b22), (.ref b42), (.ref b67), (.ref b97)]) (rest := []) (lenOf pd_3 rfl) rfl (by show 2 * 0 + _ ≤ _; exact Nat.le_of_eq rfl) (hb hby at_105) (fun _ _ => ⟨rfl, rfl, (by decide : 11 + 0 ≤ _), (by decide : 70 + 0 ≤ _)⟩)
      dsimp only [Pt.U, Pt.locs, Pt.cells, Pt.slots] at X156 l156 y156 z156 st156 hQ156
      subst l156 y156 z156
      obtain ⟨rfl, Nq156, e156⟩ := hQ156
      have N156 := Fr.app N119 Nq156
      refine Go.stp (fun t_ k_ => st156 t_ k_) ?_
      show Go p.tables e below G (T156.setTop (mkF m 108 #[iv p0, iv p1, iv p2, iv size, rv b2, rv b7, rv b22, rv b42, rv b67, rv b97, iv (3 : Int32), iv (2 : Int32), un, un] [(.ref b97)]))
      refine Go.stp (fun t_ k_ => XS.astore X156.here hx rfl (hb hby at_108) rfl rfl (l' := #[iv p0, iv p1, iv p2, iv size, rv b2, rv b7, rv b22, rv b42, rv b67, rv b97, iv (3 : Int32), iv (2 : Int32), rv b97, un]) rfl k_) ?_
      show Go p.tables e below G (T156.setTop (mkF m 110 #[iv p0, iv p1, iv p2, iv size, rv b2, rv b7, rv b22, rv b42, rv b67, rv b97, iv (3 : Int32), iv (2 : Int32), rv b97, un] []))
      refine Go.stp (fun t_ k_ => XS.iload X156.here hx rfl (hb hby at_110) rfl k_) ?_
      show Go p.tables e below G (T156.setTop (mkF m 112 #[iv p0, iv p1, iv p2, iv size, rv b2, rv b7, rv b22, rv b42, rv b67, rv b97, iv (3 : Int32), iv (2 : Int32), rv b97, un] [(.int (3 : Int32))]))
      refine Go.stp (fun t_ k_ => XS.iload X156.here hx rfl (hb hby at_112) rfl k_) ?_
      show Go p.tables e below G (T156.setTop (mkF m 114 #[iv p0, iv p1, iv p2, iv size, rv b2, rv b7, rv b22, rv b42, rv b67, rv b97, iv (3 : Int32), iv (2 : Int32), rv b97, un] [(.int (2 : Int32)), (.int (3 : Int32))]))
      refine Go.stp (fun t_ k_ => XS.isub X156.here hx rfl (hb hby at_114) rfl k_) ?_
      show Go p.tables e below G (T156.setTop (mkF m 115 #[iv p0, iv p1, iv p2, iv size, rv b2, rv b7, rv b22, rv b42, rv b67, rv b97, iv (3 : Int32), iv (2 : Int32), rv b97, un] [(.int ((3 : Int32) - (2 : Int32)))]))
      refine Go.stp (fun t_ k_ => XS.aload X156.here hx rfl (hb hby at_115) rfl rfl k_) ?_
      show Go p.tables e below G (T156.setTop (mkF m 117 #[iv p0, iv p1, iv p2, iv size, rv b2, rv b7, rv b22, rv b42, rv b67, rv b97, iv (3 : Int32), iv (2 : Int32), rv b97, un] [(.ref b22), (.int ((3 : Int32) - (2 : Int32)))]))
      refine Go.stp (fun t_ k_ => XS.aload X156.here hx rfl (hb hby at_117) rfl rfl k_) ?_
      show Go p.tables e below G (T156.setTop (mkF m 119 #[iv p0, iv p1, iv p2, iv size, rv b2, rv b7, rv b22, rv b42, rv b67, rv b97, iv (3 : Int32), iv (2 : Int32), rv b97, un] [(.ref b42), (.ref b22), (.int ((3 : Int32) - (2 : Int32)))]))
      refine Go.stp (fun t_ k_ => XS.aload X156.here hx rfl (hb hby at_119) rfl rfl k_) ?_
      show Go p.tables e below G (T156.setTop (mkF m 121 #[iv p0, iv p1, iv p2, iv size, rv b2, rv b7, rv b22, rv b42, rv b67, rv b97, iv (3 : Int32), iv (2 : Int32), rv b97, un] [(.ref b67), (.ref b42), (.ref b22), (.int ((3 : Int32) - (2 : Int32)))]))
      refine Go.stp (fun t_ k_ => XS.aload X156.here hx rfl (hb hby at_121) rfl rfl k_) ?_
      show Go p.tables e below G (T156.setTop (mkF m 123 #[iv p0, iv p1, iv p2, iv size, rv b2, rv b7, rv b22, rv b42, rv b67, rv b97, iv (3 : Int32), iv (2 : Int32), rv b97, un] [(.ref b97), (.ref b67), (.ref b42), (.ref b22), (.int ((3 : Int32) - (2 : Int32)))]))
      obtain ⟨_, _, ⟨T157, L157, k157, n157⟩, -, X157, ⟨Lc157, hQ157, l157, y157, z157⟩, st157⟩ := Jvm.LawKit.callS X156 hx (y := (⟨"com/example/stutter/stutter/eval/FrameUpPinLaw", "pick", "(ILcom/example/stutter/stutter/eval/Frame;Lcom/example/stutter/stutter/eval/Frame;Lcom/example/stutter/stutter/eval/Frame;Lcom/example/stutter/stutter/eval/Frame;)Lcom/example/stutter/stutter/eval/Frame;"⟩ : MethodName)) hown (mvT hZ (hw _ (List.mem_of_getElem? (i := 31) rfl))) (mvT hZ (hw _ (List.mem_of_getElem? (i := 32) rfl))) (mvT hZ (hw _ (List.mem_of_getElem? (i := 33) rfl))) (mvT hZ (hw _ (List.mem_of_getElem? (i := 34) rfl))) (by decide) (backOf (W := 0) (rm5 l Z a0 hw [] ((3 : Int32) - (2 : Int32)) b22 b42 b67 b97 b42 T119.heap n0 Z119 (by simp [own_pk])) hZ (hw _ (List.mem_of_getElem? (i := 34) rfl)) (hw _ (List.mem_of_getElem? (i := 33) rfl)) (by decide) (by decide)) (g := (mkF m 123 #[iv p0, iv p1, iv p2, iv size, rv b2, rv b7, rv b22, rv b42, rv b67, rv b97, iv (3 : Int32), iv (2 : Int32), rv b97, un] [(.ref b97), (.ref b67), (.ref b42), (.ref b22), (.int ((3 : Int32) - (2 : Int32)))])) rfl (by rw [hml]; rfl) (argsL := [(.int ((3 : Int32) - (2 : Int32))), (.ref b22), (.ref b42), (.ref b67), (.ref b97)]) (rest := []) (lenOf pd_3 rfl) rfl (by show 2 * 0 + _ ≤ _; exact Nat.le_of_eq rfl) (hb hby at_123) (fun _ _ => ⟨rfl, e156, (by decide : 11 + 0 ≤ _), (by decide : 70 + 0 ≤ _)⟩)
      dsimp only [Pt.U, Pt.locs, Pt.cells, Pt.slots] at X157 l157 y157 z157 st157 hQ157
      subst l157 y157 z157
      obtain ⟨rfl, Nq157, e157⟩ := hQ157
      have N157 := Fr.app N156 Nq157
      refine Go.stp (fun t_ k_ => st157 t_ k_) ?_
      show Go p.tables e below G (T157.setTop (mkF m 126 #[iv p0, iv p1, iv p2, iv size, rv b2, rv b7, rv b22, rv b42, rv b67, rv b97, iv (3 : Int32), iv (2 : Int32), rv b97, un] [(.ref b42)]))
      refine Go.stp (fun t_ k_ => XS.astore X157.here hx rfl (hb hby at_126) rfl rfl (l' := #[iv p0, iv p1, iv p2, iv size, rv b2, rv b7, rv b22, rv b42, rv b67, rv b97, iv (3 : Int32), iv (2 : Int32), rv b97, rv b42]) rfl k_) ?_
      show Go p.tables e below G (T157.setTop (mkF m 128 #[iv p0, iv p1, iv p2, iv size, rv b2, rv b7, rv b22, rv b42, rv b67, rv b97, iv (3 : Int32), iv (2 : Int32), rv b97, rv b42] []))
      refine Go.stp (fun t_ k_ => XS.aload X157.here hx rfl (hb hby at_128) rfl rfl k_) ?_
      show Go p.tables e below G (T157.setTop (mkF m 130 #[iv p0, iv p1, iv p2, iv size, rv b2, rv b7, rv b22, rv b42, rv b67, rv b97, iv (3 : Int32), iv (2 : Int32), rv b97, rv b42] [(.ref b97)]))
      refine Go.stp (fun t_ k_ => XS.iload X157.here hx rfl (hb hby at_130) rfl k_) ?_
      show Go p.tables e below G (T157.setTop (mkF m 132 #[iv p0, iv p1, iv p2, iv size, rv b2, rv b7, rv b22, rv b42, rv b67, rv b97, iv (3 : Int32), iv (2 : Int32), rv b97, rv b42] [(.int (2 : Int32)), (.ref b97)]))
      obtain ⟨cq158, kq158, q158a, q158b, q158c⟩ := isOf hZ e157 Ex119
      obtain ⟨_, _, ⟨T158, L158, k158, n158⟩, -, X158, ⟨Lc158, hQ158, l158, y158, z158⟩, st158⟩ := X157.virtualBack hx (y := (⟨"com/example/stutter/stutter/eval/Frame", "up", "(I)Lcom/example/stutter/stutter/eval/Frame;"⟩ : MethodName)) (z := (⟨"com/example/stutter/stutter/eval/Frame", "up", "(I)Lcom/example/stutter/stutter/eval/Frame;"⟩ : MethodName)) hown (mvT hZ (hw _ (List.mem_of_getElem? (i := 35) rfl))) (mvT hZ (hw _ (List.mem_of_getElem? (i := 36) rfl))) (notFace_of_selects (args := #[]) (mvT hZ (hw _ (List.mem_of_getElem? (i := 38) rfl)))) (mvT hZ (hw _ (List.mem_of_getElem? (i := 38) rfl))) (mvT hZ (hw _ (List.mem_of_getElem? (i := 37) rfl))) (by decide) (backOf (W := 0) (rm6_2 l Z a0 hw [] b97 b67 b42 T119.heap n0 Z119 Fp119 f130) hZ (hw _ (List.mem_of_getElem? (i := 39) rfl)) (hw _ (List.mem_of_getElem? (i := 4) rfl)) (by decide) (by decide)) q158a q158c (g := (mkF m 132 #[iv p0, iv p1, iv p2, iv size, rv b2, rv b7, rv b22, rv b42, rv b67, rv b97, iv (3 : Int32), iv (2 : Int32), rv b97, rv b42] [(.int (2 : Int32)), (.ref b97)])) rfl (by rw [hml]; rfl) (Steps.refl _) (argsL := [(.int (2 : Int32))]) (rest := []) (lenOf pd_4 rfl) rfl (by show 2 * 0 + _ ≤ _; exact Nat.le_of_eq rfl) (hb hby at_132) (fun _ _ => ⟨rfl, e157, (by decide : 11 + 0 ≤ _), (by decide : 70 + 0 ≤ _)⟩)
      dsimp only [Pt.U, Pt.locs, Pt.cells, Pt.slots] at X158 l158 y158 z158 st158 hQ158
      subst l158 y158 z158
      obtain ⟨rfl, Nq158, e158⟩ := hQ158
      have N158 := Fr.app N157 Nq158
      refine Go.stp (fun t_ k_ => st158.trans k_) ?_
      show Go p.tables e below G (T158.setTop (mkF m 135 #[iv p0, iv p1, iv p2, iv size, rv b2, rv b7, rv b22, rv b42, rv b67, rv b97, iv (3 : Int32), iv (2 : Int32), rv b97, rv b42] [(.ref b42)]))
      refine Go.stp (fun t_ k_ => XS.aload X158.here hx rfl (hb hby at_135) rfl rfl k_) ?_
      show Go p.tables e below G (T158.setTop (mkF m 137 #[iv p0, iv p1, iv p2, iv size, rv b2, rv b7, rv b22, rv b42, rv b67, rv b97, iv (3 : Int32), iv (2 : Int32), rv b97, rv b42] [(.ref b42), (.ref b42)]))
      refine Go.stp (fun t_ k_ => Jvm.RoadKit.acmp (g := (mkF m 137 #[iv p0, iv p1, iv p2, iv size, rv b2, rv b7, rv b22, rv b42, rv b67, rv b97, iv (3 : Int32), iv (2 : Int32), rv b97, rv b42] [(.ref b42), (.ref b42)])) X158 hx rfl rfl rfl (pc0 := 137) (pc' := 140) (same := true) rfl (hb hby at_137) rfl (decide_eq_true rfl) (by decide) (by decide) k_) ?_
      show Go p.tables e below G (T158.setTop (mkF m 140 #[iv p0, iv p1, iv p2, iv size, rv b2, rv b7, rv b22, rv b42, rv b67, rv b97, iv (3 : Int32), iv (2 : Int32), rv b97, rv b42] []))
      refine Go.stp (fun t_ k_ => XS.iconst X158.here hx rfl (hb hby at_140) k_) ?_
      show Go p.tables e below G (T158.setTop (mkF m 141 #[iv p0, iv p1, iv p2, iv size, rv b2, rv b7, rv b22, rv b42, rv b67, rv b97, iv (3 : Int32), iv (2 : Int32), rv b97, rv b42] [(.int (1 : Int32))]))
      refine Go.stp (fun t_ k_ => XS.goto X158.here hx rfl (pc0 := 141) (pc' := 145) rfl (hb hby at_141) (by decide) (by decide) k_) ?_
      show Go p.tables e below G (T158.setTop (mkF m 145 #[iv p0, iv p1, iv p2, iv size, rv b2, rv b7, rv b22, rv b42, rv b67, rv b97, iv (3 : Int32), iv (2 : Int32), rv b97, rv b42] [(.int (1 : Int32))]))
      obtain ⟨fs, hr, hrun, hended, hW, hsame⟩ := X158.leave (v := some (.int (1 : Int32))) (fun h => by rw [Bd.returns] at h; cases h)
      refine ⟨_, _, retN X158 hx (t := .boolean) Bd.returns (by simp) (hb hby at_145) hr, hrun, hended, hG _ _ _ ?_ ⟨⟨_, rfl⟩, hW, hsame.mono (by decide) (by decide)⟩⟩
      show Q0 Z p0 p1 p2 aN f h0 n0 _ T158.heap _
      rw [e158]
      exact ⟨rfl, N158⟩
    · show Go p.tables e below G (T119.setTop (mkF m 95 #[iv p0, iv p1, iv p2, iv size, rv b2, rv b7, rv b22, rv b42, rv b67, rv b97, iv (3 : Int32), iv (3 : Int32), un, un] []))
      refine Go.stp (fun t_ k_ => XS.iload X119.here hx rfl (hb hby at_95) rfl k_) ?_
      show Go p.tables e below G (T119.setTop (mkF m 97 #[iv p0, iv p1, iv p2, iv size, rv b2, rv b7, rv b22, rv b42, rv b67, rv b97, iv (3 : Int32), iv (3 : Int32), un, un] [(.int (3 : Int32))]))
      refine Go.stp (fun t_ k_ => XS.aload X119.here hx rfl (hb hby at_97) rfl rfl k_) ?_
      show Go p.tables e below G (T119.setTop (mkF m 99 #[iv p0, iv p1, iv p2, iv size, rv b2, rv b7, rv b22, rv b42, rv b67, rv b97, iv (3 : Int32), iv (3 : Int32), un, un] [(.ref b22), (.int (3 : Int32))]))
      refine Go.stp (fun t_ k_ => XS.aload X119.here hx rfl (hb hby at_99) rfl rfl k_) ?_
      show Go p.tables e below G (T119.setTop (mkF m 101 #[iv p0, iv p1, iv p2, iv size, rv b2, rv b7, rv b22, rv b42, rv b67, rv b97, iv (3 : Int32), iv (3 : Int32), un, un] [(.ref b42), (.ref b22), (.int (3 : Int32))]))
      refine Go.stp (fun t_ k_ => XS.aload X119.here hx rfl (hb hby at_101) rfl rfl k_) ?_
      show Go p.tables e below G (T119.setTop (mkF m 103 #[iv p0, iv p1, iv p2, iv size, rv b2, rv b7, rv b22, rv b42, rv b67, rv b97, iv (3 : Int32), iv (3 : Int32), un, un] [(.ref b67), (.ref b42), (.ref b22), (.int (3 : Int32))]))
      refine Go.stp (fun t_ k_ => XS.aload X119.here hx rfl (hb hby at_103) rfl rfl k_) ?_
      show Go p.tables e below G (T119.setTop (mkF m 105 #[iv p0, iv p1, iv p2, iv size, rv b2, rv b7, rv b22, rv b42, rv b67, rv b97, iv (3 : Int32), iv (3 : Int32), un, un] [(.ref b97), (.ref b67), (.ref b42), (.ref b22), (.int (3 : Int32))]))
      obtain ⟨_, _, ⟨T159, L159, k159, n159⟩, -, X159, ⟨Lc159, hQ159, l159, y159, z159⟩, st159⟩ := Jvm.LawKit.callS X119 hx (y := (⟨"com/example/stutter/stutter/eval/FrameUpPinLaw", "pick", "(ILcom/example/stutter/stutter/eval/Frame;Lcom/example/stutter/stutter/eval/Frame;Lcom/example/stutter/stutter/eval/Frame;Lcom/example/stutter/stutter/eval/Frame;)Lcom/example/stutter/stutter/eval/Frame;"⟩ : MethodName)) hown (mvT hZ (hw _ (List.mem_of_getElem? (i := 31) rfl))) (mvT hZ (hw _ (List.mem_of_getElem? (i := 32) rfl))) (mvT hZ (hw _ (List.mem_of_getElem? (i := 33) rfl))) (mvT hZ (hw _ (List.mem_of_getElem? (i := 34) rfl))) (by decide) (backOf (W := 0) (rm5 l Z a0 hw [] (3 : Int32) b22 b42 b67 b97 b97 T119.heap n0 Z119 (by simp [own_pk])) hZ (hw _ (List.mem_of_getElem? (i := 34) rfl)) (hw _ (List.mem_of_getElem? (i := 33) rfl)) (by decide) (by decide)) (g := (mkF m 105 #[iv p0, iv p1, iv p2, iv size, rv b2, rv b7, rv b22, rv b42, rv b67, rv b97, iv (3 : Int32), iv (3 : Int32), un, un] [(.ref b97), (.ref b67), (.ref b42), (.ref b22), (.int (3 : Int32))])) rfl (by rw [hml]; rfl) (argsL := [(.int (3 : Int32)), (.ref b22), (.ref b42), (.ref b67), (.ref b97)]) (rest := []) (lenOf pd_3 rfl) rfl (by show 2 * 0 + _ ≤ _; exact Nat.le_of_eq rfl) (hb hby at_105) (fun _ _ => ⟨rfl, rfl, (by decide : 11 + 0 ≤ _), (by decide : 70 + 0 ≤ _)⟩)
      dsimp only [Pt.U, Pt.locs, Pt.cells, Pt.slots] at X159 l159 y159 z159 st159 hQ159
      subst l159 y159 z159
      obtain ⟨rfl, Nq159, e159⟩ := hQ159
      have N159 := Fr.app N119 Nq159
      refine Go.stp (fun t_ k_ => st159 t_ k_) ?_
      show Go p.tables e below G (T159.setTop (mkF m 108 #[iv p0, iv p1, iv p2, iv size, rv b2, rv b7, rv b22, rv b42, rv b67, rv b97, iv (3 : Int32), iv (3 : Int32), un, un] [(.ref b97)]))
      refine Go.stp (fun t_ k_ => XS.astore X159.here hx rfl (hb hby at_108) rfl rfl (l' := #[iv p0, iv p1, iv p2, iv size, rv b2, rv b7, rv b22, rv b42, rv b67, rv b97, iv (3 : Int32), iv (3 : Int32), rv b97, un]) rfl k_) ?_
      show Go p.tables e below G (T159.setTop (mkF m 110 #[iv p0, iv p1, iv p2, iv size, rv b2, rv b7, rv b22, rv b42, rv b67, rv b97, iv (3 : Int32), iv (3 : Int32), rv b97, un] []))
      refine Go.stp (fun t_ k_ => XS.iload X159.here hx rfl (hb hby at_110) rfl k_) ?_
      show Go p.tables e below G (T159.setTop (mkF m 112 #[iv p0, iv p1, iv p2, iv size, rv b2, rv b7, rv b22, rv b42, rv b67, rv b97, iv (3 : Int32), iv (3 : Int32), rv b97, un] [(.int (3 : Int32))]))
      refine Go.stp (fun t_ k_ => XS.iload X159.here hx rfl (hb hby at_112) rfl k_) ?_
      show Go p.tables e below G (T159.setTop (mkF m 114 #[iv p0, iv p1, iv p2, iv size, rv b2, rv b7, rv b22, rv b42, rv b67, rv b97, iv (3 : Int32), iv (3 : Int32), rv b97, un] [(.int (3 : Int32)), (.int (3 : Int32))]))
      refine Go.stp (fun t_ k_ => XS.isub X159.here hx rfl (hb hby at_114) rfl k_) ?_
      show Go p.tables e below G (T159.setTop (mkF m 115 #[iv p0, iv p1, iv p2, iv size, rv b2, rv b7, rv b22, rv b42, rv b67, rv b97, iv (3 : Int32), iv (3 : Int32), rv b97, un] [(.int ((3 : Int32) - (3 : Int32)))]))
      refine Go.stp (fun t_ k_ => XS.aload X159.here hx rfl (hb hby at_115) rfl rfl k_) ?_
      show Go p.tables e below G (T159.setTop (mkF m 117 #[iv p0, iv p1, iv p2, iv size, rv b2, rv b7, rv b22, rv b42, rv b67, rv b97, iv (3 : Int32), iv (3 : Int32), rv b97, un] [(.ref b22), (.int ((3 : Int32) - (3 : Int32)))]))
      refine Go.stp (fun t_ k_ => XS.aload X159.here hx rfl (hb hby at_117) rfl rfl k_) ?_
      show Go p.tables e below G (T159.setTop (mkF m 119 #[iv p0, iv p1, iv p2, iv size, rv b2, rv b7, rv b22, rv b42, rv b67, rv b97, iv (3 : Int32), iv (3 : Int32), rv b97, un] [(.ref b42), (.ref b22), (.int ((3 : Int32) - (3 : Int32)))]))
      refine Go.stp (fun t_ k_ => XS.aload X159.here hx rfl (hb hby at_119) rfl rfl k_) ?_
      show Go p.tables e below G (T159.setTop (mkF m 121 #[iv p0, iv p1, iv p2, iv size, rv b2, rv b7, rv b22, rv b42, rv b67, rv b97, iv (3 : Int32), iv (3 : Int32), rv b97, un] [(.ref b67), (.ref b42), (.ref b22), (.int ((3 : Int32) - (3 : Int32)))]))
      refine Go.stp (fun t_ k_ => XS.aload X159.here hx rfl (hb hby at_121) rfl rfl k_) ?_
      show Go p.tables e below G (T159.setTop (mkF m 123 #[iv p0, iv p1, iv p2, iv size, rv b2, rv b7, rv b22, rv b42, rv b67, rv b97, iv (3 : Int32), iv (3 : Int32), rv b97, un] [(.ref b97), (.ref b67), (.ref b42), (.ref b22), (.int ((3 : Int32) - (3 : Int32)))]))
      obtain ⟨_, _, ⟨T160, L160, k160, n160⟩, -, X160, ⟨Lc160, hQ160, l160, y160, z160⟩, st160⟩ := Jvm.LawKit.callS X159 hx (y := (⟨"com/example/stutter/stutter/eval/FrameUpPinLaw", "pick", "(ILcom/example/stutter/stutter/eval/Frame;Lcom/example/stutter/stutter/eval/Frame;Lcom/example/stutter/stutter/eval/Frame;Lcom/example/stutter/stutter/eval/Frame;)Lcom/example/stutter/stutter/eval/Frame;"⟩ : MethodName)) hown (mvT hZ (hw _ (List.mem_of_getElem? (i := 31) rfl))) (mvT hZ (hw _ (List.mem_of_getElem? (i := 32) rfl))) (mvT hZ (hw _ (List.mem_of_getElem? (i := 33) rfl))) (mvT hZ (hw _ (List.mem_of_getElem? (i := 34) rfl))) (by decide) (backOf (W := 0) (rm5 l Z a0 hw [] ((3 : Int32) - (3 : Int32)) b22 b42 b67 b97 b22 T119.heap n0 Z119 (by simp [own_pk])) hZ (hw _ (List.mem_of_getElem? (i := 34) rfl)) (hw _ (List.mem_of_getElem? (i := 33) rfl)) (by decide) (by decide)) (g := (mkF m 123 #[iv p0, iv p1, iv p2, iv size, rv b2, rv b7, rv b22, rv b42, rv b67, rv b97, iv (3 : Int32), iv (3 : Int32), rv b97, un] [(.ref b97), (.ref b67), (.ref b42), (.ref b22), (.int ((3 : Int32) - (3 : Int32)))])) rfl (by rw [hml]; rfl) (argsL := [(.int ((3 : Int32) - (3 : Int32))), (.ref b22), (.ref b42), (.ref b67), (.ref b97)]) (rest := []) (lenOf pd_3 rfl) rfl (by show 2 * 0 + _ ≤ _; exact Nat.le_of_eq rfl) (hb hby at_123) (fun _ _ => ⟨rfl, e159, (by decide : 11 + 0 ≤ _), (by decide : 70 + 0 ≤ _)⟩)
      dsimp only [Pt.U, Pt.locs, Pt.cells, Pt.slots] at X160 l160 y160 z160 st160 hQ160
      subst l160 y160 z160
      obtain ⟨rfl, Nq160, e160⟩ := hQ160
      have N160 := Fr.app N159 Nq160
      refine Go.stp (fun t_ k_ => st160 t_ k_) ?_
      show Go p.tables e below G (T160.setTop (mkF m 126 #[iv p0, iv p1, iv p2, iv size, rv b2, rv b7, rv b22, rv b42, rv b67, rv b97, iv (3 : Int32), iv (3 : Int32), rv b97, un] [(.ref b22)]))
      refine Go.stp (fun t_ k_ => XS.astore X160.here hx rfl (hb hby at_126) rfl rfl (l' := #[iv p0, iv p1, iv p2, iv size, rv b2, rv b7, rv b22, rv b42, rv b67, rv b97, iv (3 : Int32), iv (3 : Int32), rv b97, rv b22]) rfl k_) ?_
      show Go p.tables e below G (T160.setTop (mkF m 128 #[iv p0, iv p1, iv p2, iv size, rv b2, rv b7, rv b22, rv b42, rv b67, rv b97, iv (3 : Int32), iv (3 : Int32), rv b97, rv b22] []))
      refine Go.stp (fun t_ k_ => XS.aload X160.here hx rfl (hb hby at_128) rfl rfl k_) ?_
      show Go p.tables e below G (T160.setTop (mkF m 130 #[iv p0, iv p1, iv p2, iv size, rv b2, rv b7, rv b22, rv b42, rv b67, rv b97, iv (3 : Int32), iv (3 : Int32), rv b97, rv b22] [(.ref b97)]))
      refine Go.stp (fun t_ k_ => XS.iload X160.here hx rfl (hb hby at_130) rfl k_) ?_
      show Go p.tables e below G (T160.setTop (mkF m 132 #[iv p0, iv p1, iv p2, iv size, rv b2, rv b7, rv b22, rv b42, rv b67, rv b97, iv (3 : Int32), iv (3 : Int32), rv b97, rv b22] [(.int (3 : Int32)), (.ref b97)]))
      obtain ⟨cq161, kq161, q161a, q161b, q161c⟩ := isOf hZ e160 Ex119
      obtain ⟨_, _, ⟨T161, L161, k161, n161⟩, -, X161, ⟨Lc161, hQ161, l161, y161, z161⟩, st161⟩ := X160.virtualBack hx (y := (⟨"com/example/stutter/stutter/eval/Frame", "up", "(I)Lcom/example/stutter/stutter/eval/Frame;"⟩ : MethodName)) (z := (⟨"com/example/stutter/stutter/eval/Frame", "up", "(I)Lcom/example/stutter/stutter/eval/Frame;"⟩ : MethodName)) hown (mvT hZ (hw _ (List.mem_of_getElem? (i := 35) rfl))) (mvT hZ (hw _ (List.mem_of_getElem? (i := 36) rfl))) (notFace_of_selects (args := #[]) (mvT hZ (hw _ (List.mem_of_getElem? (i := 38) rfl)))) (mvT hZ (hw _ (List.mem_of_getElem? (i := 38) rfl))) (mvT hZ (hw _ (List.mem_of_getElem? (i := 37) rfl))) (by decide) (backOf (W := 0) (rm6_3 l Z a0 hw [] b97 b67 b42 b22 T119.heap n0 Z119 Fp119 f130 f128) hZ (hw _ (List.mem_of_getElem? (i := 39) rfl)) (hw _ (List.mem_of_getElem? (i := 4) rfl)) (by decide) (by decide)) q161a q161c (g := (mkF m 132 #[iv p0, iv p1, iv p2, iv size, rv b2, rv b7, rv b22, rv b42, rv b67, rv b97, iv (3 : Int32), iv (3 : Int32), rv b97, rv b22] [(.int (3 : Int32)), (.ref b97)])) rfl (by rw [hml]; rfl) (Steps.refl _) (argsL := [(.int (3 : Int32))]) (rest := []) (lenOf pd_4 rfl) rfl (by show 2 * 0 + _ ≤ _; exact Nat.le_of_eq rfl) (hb hby at_132) (fun _ _ => ⟨rfl, e160, (by decide : 11 + 0 ≤ _), (by decide : 70 + 0 ≤ _)⟩)
      dsimp only [Pt.U, Pt.locs, Pt.cells, Pt.slots] at X161 l161 y161 z161 st161 hQ161
      subst l161 y161 z161
      obtain ⟨rfl, Nq161, e161⟩ := hQ161
      have N161 := Fr.app N160 Nq161
      refine Go.stp (fun t_ k_ => st161.trans k_) ?_
      show Go p.tables e below G (T161.setTop (mkF m 135 #[iv p0, iv p1, iv p2, iv size, rv b2, rv b7, rv b22, rv b42, rv b67, rv b97, iv (3 : Int32), iv (3 : Int32), rv b97, rv b22] [(.ref b22)]))
      refine Go.stp (fun t_ k_ => XS.aload X161.here hx rfl (hb hby at_135) rfl rfl k_) ?_
      show Go p.tables e below G (T161.setTop (mkF m 137 #[iv p0, iv p1, iv p2, iv size, rv b2, rv b7, rv b22, rv b42, rv b67, rv b97, iv (3 : Int32), iv (3 : Int32), rv b97, rv b22] [(.ref b22), (.ref b22)]))
      refine Go.stp (fun t_ k_ => Jvm.RoadKit.acmp (g := (mkF m 137 #[iv p0, iv p1, iv p2, iv size, rv b2, rv b7, rv b22, rv b42, rv b67, rv b97, iv (3 : Int32), iv (3 : Int32), rv b97, rv b22] [(.ref b22), (.ref b22)])) X161 hx rfl rfl rfl (pc0 := 137) (pc' := 140) (same := true) rfl (hb hby at_137) rfl (decide_eq_true rfl) (by decide) (by decide) k_) ?_
      show Go p.tables e below G (T161.setTop (mkF m 140 #[iv p0, iv p1, iv p2, iv size, rv b2, rv b7, rv b22, rv b42, rv b67, rv b97, iv (3 : Int32), iv (3 : Int32), rv b97, rv b22] []))
      refine Go.stp (fun t_ k_ => XS.iconst X161.here hx rfl (hb hby at_140) k_) ?_
      show Go p.tables e below G (T161.setTop (mkF m 141 #[iv p0, iv p1, iv p2, iv size, rv b2, rv b7, rv b22, rv b42, rv b67, rv b97, iv (3 : Int32), iv (3 : Int32), rv b97, rv b22] [(.int (1 : Int32))]))
      refine Go.stp (fun t_ k_ => XS.goto X161.here hx rfl (pc0 := 141) (pc' := 145) rfl (hb hby at_141) (by decide) (by decide) k_) ?_
      show Go p.tables e below G (T161.setTop (mkF m 145 #[iv p0, iv p1, iv p2, iv size, rv b2, rv b7, rv b22, rv b42, rv b67, rv b97, iv (3 : Int32), iv (3 : Int32), rv b97, rv b22] [(.int (1 : Int32))]))
      obtain ⟨fs, hr, hrun, hended, hW, hsame⟩ := X161.leave (v := some (.int (1 : Int32))) (fun h => by rw [Bd.returns] at h; cases h)
      refine ⟨_, _, retN X161 hx (t := .boolean) Bd.returns (by simp) (hb hby at_145) hr, hrun, hended, hG _ _ _ ?_ ⟨⟨_, rfl⟩, hW, hsame.mono (by decide) (by decide)⟩⟩
      show Q0 Z p0 p1 p2 aN f h0 n0 _ T161.heap _
      rw [e161]
      exact ⟨rfl, N161⟩
set_option maxRecDepth 65536 in
set_option maxHeartbeats 40000000 in
theorem comes_1 {Post : Tables → Env → Array Value → State → Outcome → State → Prop} (hpost : ∀ tb e args s v u, (limb_1_1.after args s (.returned v) u = true ∧ limb_1_2.after args s (.returned v) u = true ∧ True) → FrameEnd s (.returned v) u (Jvm.fieldLocs frame_1_writes args s ++ Jvm.arrayLocs frame_1_arrays args s ++ Jvm.staticLocs frame_1_statics s) 32 256 → Post tb e args s (.returned v) u) :
    ArmFor flags0 classFile x code maxLocals ret World_1 tables_1 room_1 Calls_1 rest_1 Pre_1 Post := by
  intro l hfl _ _ p e ha hc hk s m args below hf hA hF happ hP
  obtain ⟨hcalls, hrest, hpre⟩ := hP
  obtain ⟨-, -, -, hnamed, -, -, -, hat⟩ := (Spec.applies_iff hf).mp happ
  obtain ⟨hg, hn⟩ := and_e (Cond.before_iff.mp (show (Jvm.Cond.and given_1 narrow_1).before args s = true from hpre))
  obtain ⟨g1a, g1b⟩ := and_e hg
  obtain ⟨g2a, g2b⟩ := and_e g1b
  obtain ⟨g3a, g3b⟩ := and_e g2b
  obtain ⟨w0, w1, w2, rfl⟩ : ∃ w0 w1 w2 : Value, args = #[w0, w1, w2] := by
    have hs : args.size = 3 := by simpa [Cond.value, given_1] using g1a
    obtain ⟨L⟩ := args
    match L, hs with
    | [w0, w1, w2], _ => exact ⟨w0, w1, w2, rfl⟩
  have hw := fun d (hd : d ∈ tables_1) => atoms_spec (ws := Jvm.Cond.code x code maxLocals ret :: tables_1) hat d (List.mem_cons_of_mem _ hd)
  have hfit : Fit s := fun {y c} hc i hi => by
    obtain ⟨ha, rfl⟩ := Array.getElem?_eq_some_iff.mp hc
    have q := List.all_eq_true.mp ((Array.all_eq_true_iff_forall_mem.mp hF) _ (Array.getElem_mem ha)) i (List.mem_range.mpr hi)
    simpa [Array.getElem?_eq_getElem hi] using q
  obtain ⟨i0, ei0⟩ := is_v g2a
  obtain rfl : w0 = (.int i0) := Option.some.inj ei0
  obtain ⟨i1, ei1⟩ := is_v g3a
  obtain rfl : w1 = (.int i1) := Option.some.inj ei1
  obtain ⟨i2, ei2⟩ := is_v g3b
  obtain rfl : w2 = (.int i2) := Option.some.inj ei2
  obtain ⟨nr1a, nr1b⟩ := and_e hn
  obtain ⟨aN, evN, f, I_aN⟩ := own_arr nr1a nr1b
  have S_aN : Sta s s.heap "com/example/stutter/stutter/eval/Frame" "NO_ARGUMENTS" "[Lcom/example/stutter/stutter/eval/Node;" (.ref aN) := Sta.start evN (Or.inr ⟨(hw _ (List.mem_of_getElem? (i := 4) rfl)), (hw _ (List.mem_of_getElem? (i := 9) rfl))⟩)
  obtain ⟨n, o, h1, h2, h3, _, L, rfl, ⟨rfl, N⟩, hq⟩ := rm0 l s _ hw tables_1 i0 i1 i2 aN f s.heap s.heap.size (Nat.le_refl _) S_aN I_aN p e ha hc hk s m _ below hf ((Spec.applies_iff_loose hf).mp happ).1 ⟨rfl, State.Warmed39.refl s, rfl⟩ trivial
  refine ⟨n, _, h1, h2, h3, hpost _ _ _ _ _ _ ⟨Cond.after_iff.mpr rfl, Cond.after_iff.mpr (eq_i res_at (Term.int_eval (1)) rfl), trivial⟩ ⟨hq.1, hq.2.1, (hq.2.2.sift fun y hy => Or.inr (N y hy)).mono (by decide) (by decide)⟩⟩
theorem main_1_1 : Claimed_1_1 := comes_1 fun _ _ _ _ _ _ h hF => ⟨h.1, hF⟩
theorem main_1_2 : Claimed_1_2 := comes_1 fun _ _ _ _ _ _ h hF => ⟨h.2.1, hF⟩
end Jvm.Pilot.@@N@@
namespace Jvm.Pilot.@@N@@
open Jvm Jvm.ClassFile Sem Op Lib Jvm.Free Jvm.Stand Jvm.Pilot.@@N@@.Jvm.D
/-! MADE BY PROGRAM (witnessworld.py) out of the Statement's table words and the real class files: 14 classes; the members and pool entries that the words name. The judged class is class 1, her method 1. -/
namespace start1
open Jvm.ClassFile
def u (s : String) : CpInfo := .utf8 (stringToUtf16 s)
/-- a pool by its gaps: so many unusable entries, then the entry; so many at the end -/
def gap : Nat → List CpInfo → List CpInfo
  | 0, r => r
  | n + 1, r => .unusable :: gap n r
def poolList (es : List (Nat × CpInfo)) (last : Nat) : List CpInfo := es.foldr (fun e r => gap e.1 (e.2 :: r)) (gap last [])
def pool (es : List (Nat × CpInfo)) (last : Nat) : Array CpInfo := ⟨poolList es last⟩
def fileOf (pool : Array CpInfo) (this : Nat) (attrs : Array Attribute := #[]) (ms : Array MethodInfo := #[]) (fl : Nat := 33) (sup : Nat := 0) (ifs : Array Nat := #[]) (fds : Array FieldInfo := #[]) : ClassFile where
  minorVersion := 0
  majorVersion := 65
  constantPool := pool
  accessFlags := fl
  thisClass := this
  superClass := sup
  interfaces := ifs
  fields := fds
  methods := ms
  attributes := attrs
def plain (name : String) (sup : Option ClassId) : Class where
  name := name
  kind := .ordinary
  loader := none
  accessFlags := 33
  super := sup
  interfaces := #[]
  cf := none
  fields := #[]
  methods := #[]
  instanceTypes := #[]
  staticTypes := #[]
  resolved := #[]
  callSites := []
  init := .initialized
  statics := none
  mirror := none

def pool0 : Array CpInfo := pool [(5, u "<init>"), (0, u "()V"), (1, .class_ 10), (1, u "java/lang/Object")] 113

def k0c0 : Code := { maxStack := 0, maxLocals := 1, code := object_method_1_code, exceptionTable := #[], attributes := #[] }
def k0m0 : Method := { name := "<init>", desc := "()V", sig := { parameters := [], returnType := none }, accessFlags := 1, code := some k0c0 }
/-- java/lang/Object -/
def k0 : Class := { plain "java/lang/Object" none with
  accessFlags := 33
  interfaces := #[]
  cf := some (fileOf pool0 8 #[] #[{ accessFlags := 1, nameIndex := 5, descriptorIndex := 6, attributes := #[] }] 33 0 #[] #[])
  fields := #[]
  methods := #[k0m0]
  instanceTypes := #[]
  staticTypes := #[]
  resolved := Array.replicate 124 none
  statics := none }

def pool1 : Array CpInfo := pool [(2, .class_ 4), (1, u "java/lang/Object"), (0, u "<init>"), (0, u "()V"), (0, .class_ 8), (0, u "com/example/stutter/stutter/eval/Node"), (0, .class_ 10), (0, u "com/example/stutter/stutter/eval/Frame"), (0, .methodref 9 12), (0, .nameAndType 5 13), (0, u "(I)V"), (0, .methodref 9 15), (0, .nameAndType 5 16), (0, u "(I[Lcom/example/stutter/stutter/eval/Node;Lcom/example/stutter/stutter/eval/Frame;Lcom/example/stutter/stutter/eval/Frame;)V"), (0, .integer 2147483647), (0, .methodref 19 20), (0, .class_ 21), (0, .nameAndType 22 23), (0, u "com/example/stutter/stutter/eval/FrameUpPinLaw"), (0, u "pick"), (0, u "(ILcom/example/stutter/stutter/eval/Frame;Lcom/example/stutter/stutter/eval/Frame;Lcom/example/stutter/stutter/eval/Frame;Lcom/example/stutter/stutter/eval/Frame;)Lcom/example/stutter/stutter/eval/Frame;"), (0, .methodref 9 25), (0, .nameAndType 26 27), (0, u "up"), (0, u "(I)Lcom/example/stutter/stutter/eval/Frame;"), (2, u "law"), (0, u "(III)Z")] 5

def k1m0 : Method := { name := "<init>", desc := "()V", sig := { parameters := [], returnType := none }, accessFlags := 1, code := none }
def k1c1 : Code := { maxStack := 6, maxLocals := 14, code := code, exceptionTable := #[], attributes := #[] }
def k1m1 : Method := { name := "law", desc := "(III)Z", sig := { parameters := [.int, .int, .int], returnType := some .boolean }, accessFlags := 9, code := some k1c1 }
def k1c2 : Code := { maxStack := 2, maxLocals := 5, code := method_3_code, exceptionTable := #[], attributes := #[] }
def k1m2 : Method := { name := "pick", desc := "(ILcom/example/stutter/stutter/eval/Frame;Lcom/example/stutter/stutter/eval/Frame;Lcom/example/stutter/stutter/eval/Frame;Lcom/example/stutter/stutter/eval/Frame;)Lcom/example/stutter/stutter/eval/Frame;", sig := { parameters := [.int, (.object "com/example/stutter/stutter/eval/Frame"), (.object "com/example/stutter/stutter/eval/Frame"), (.object "com/example/stutter/stutter/eval/Frame"), (.object "com/example/stutter/stutter/eval/Frame")], returnType := some (.object "com/example/stutter/stutter/eval/Frame") }, accessFlags := 10, code := some k1c2 }
/-- com/example/stutter/stutter/eval/FrameUpPinLaw -/
def k1 : Class := { plain "com/example/stutter/stutter/eval/FrameUpPinLaw" (some 0) with
  accessFlags := 49
  interfaces := #[]
  cf := some (fileOf pool1 19 #[] #[{ accessFlags := 1, nameIndex := 5, descriptorIndex := 6, attributes := #[] }, { accessFlags := 9, nameIndex := 30, descriptorIndex := 31, attributes := #[] }, { accessFlags := 10, nameIndex := 22, descriptorIndex := 23, attributes := #[] }] 49 2 #[] #[])
  fields := #[]
  methods := #[k1m0, k1m1, k1m2]
  instanceTypes := #[]
  staticTypes := #[]
  resolved := Array.replicate 37 none
  statics := none }

def pool2 : Array CpInfo := pool [(2, .class_ 4), (1, u "java/lang/Object"), (2, .class_ 8), (0, u "com/example/stutter/stutter/eval/Node"), (2, u "cacheSlot"), (0, u "I"), (2, u "location"), (0, u "Lcom/example/stutter/stutter/syntx/Location;"), (2, u "temporal"), (0, u "Z"), (111, u "NOT_CACHED")] 58

/-- com/example/stutter/stutter/eval/Node -/
def k2 : Class := { plain "com/example/stutter/stutter/eval/Node" (some 0) with
  accessFlags := 1056
  interfaces := #[]
  cf := some (fileOf pool2 7 #[] #[] 1056 2 #[] #[{ accessFlags := 26, nameIndex := 132, descriptorIndex := 12, attributes := #[] }, { accessFlags := 18, nameIndex := 15, descriptorIndex := 16, attributes := #[] }, { accessFlags := 2, nameIndex := 19, descriptorIndex := 20, attributes := #[] }, { accessFlags := 2, nameIndex := 11, descriptorIndex := 12, attributes := #[] }])
  fields := #[{ name := "NOT_CACHED", type := .int, accessFlags := 26, slot := 0, constantValue := 0 }, { name := "location", type := (.object "com/example/stutter/stutter/syntx/Location"), accessFlags := 18, slot := 0, constantValue := 0 }, { name := "temporal", type := .boolean, accessFlags := 2, slot := 1, constantValue := 0 }, { name := "cacheSlot", type := .int, accessFlags := 2, slot := 2, constantValue := 0 }]
  methods := #[]
  instanceTypes := #[(.object "com/example/stutter/stutter/syntx/Location"), .boolean, .int]
  staticTypes := #[.int]
  resolved := Array.replicate 191 none
  statics := none }

def pool3 : Array CpInfo := pool [(1, .fieldref 2 3), (0, .class_ 4), (0, .nameAndType 5 6), (0, u "com/example/stutter/stutter/eval/Frame"), (0, u "NO_ARGUMENTS"), (0, u "[Lcom/example/stutter/stutter/eval/Node;"), (0, .methodref 2 8), (0, .nameAndType 9 10), (0, u "<init>"), (0, u "(I[Lcom/example/stutter/stutter/eval/Node;Lcom/example/stutter/stutter/eval/Frame;Lcom/example/stutter/stutter/eval/Frame;)V"), (0, .class_ 12), (0, u "com/example/stutter/stutter/value/Value"), (0, .methodref 2 14), (0, .nameAndType 9 15), (0, u "([Lcom/example/stutter/stutter/value/Value;[Lcom/example/stutter/stutter/eval/Node;Lcom/example/stutter/stutter/eval/Frame;Lcom/example/stutter/stutter/eval/Frame;)V"), (0, .methodref 17 18), (0, .class_ 19), (0, .nameAndType 9 20), (0, u "java/lang/Object"), (0, u "()V"), (0, .fieldref 2 22), (0, .nameAndType 23 24), (0, u "slots"), (0, u "[Lcom/example/stutter/stutter/value/Value;"), (0, .fieldref 2 26), (0, .nameAndType 27 6), (0, u "arguments"), (0, .fieldref 2 29), (0, .nameAndType 30 31), (0, u "caller"), (0, u "Lcom/example/stutter/stutter/eval/Frame;"), (0, .fieldref 2 33), (0, .nameAndType 34 31), (0, u "parent"), (24, u "functionValues"), (0, u "Ljava/util/Map;"), (2, u "valuesContext"), (0, u "Lcom/example/stutter/stutter/eval/Context;"), (16, u "keptContexts"), (0, u "[Lcom/example/stutter/stutter/eval/Context;"), (10, u "(I)V"), (2, u "EMPTY"), (21, u "up"), (0, u "(I)Lcom/example/stutter/stutter/eval/Frame;")] 3

def k3c0 : Code := { maxStack := 5, maxLocals := 2, code := prog_56_method_1_code, exceptionTable := #[], attributes := #[] }
def k3m0 : Method := { name := "<init>", desc := "(I)V", sig := { parameters := [.int], returnType := none }, accessFlags := 0, code := some k3c0 }
def k3c1 : Code := { maxStack := 5, maxLocals := 5, code := prog_56_method_2_code, exceptionTable := #[], attributes := #[] }
def k3m1 : Method := { name := "<init>", desc := "(I[Lcom/example/stutter/stutter/eval/Node;Lcom/example/stutter/stutter/eval/Frame;Lcom/example/stutter/stutter/eval/Frame;)V", sig := { parameters := [.int, (.array (.object "com/example/stutter/stutter/eval/Node")), (.object "com/example/stutter/stutter/eval/Frame"), (.object "com/example/stutter/stutter/eval/Frame")], returnType := none }, accessFlags := 0, code := some k3c1 }
def k3c2 : Code := { maxStack := 2, maxLocals := 5, code := prog_56_method_3_code, exceptionTable := #[], attributes := #[] }
def k3m2 : Method := { name := "<init>", desc := "([Lcom/example/stutter/stutter/value/Value;[Lcom/example/stutter/stutter/eval/Node;Lcom/example/stutter/stutter/eval/Frame;Lcom/example/stutter/stutter/eval/Frame;)V", sig := { parameters := [(.array (.object "com/example/stutter/stutter/value/Value")), (.array (.object "com/example/stutter/stutter/eval/Node")), (.object "com/example/stutter/stutter/eval/Frame"), (.object "com/example/stutter/stutter/eval/Frame")], returnType := none }, accessFlags := 2, code := some k3c2 }
def k3c3 : Code := { maxStack := 2, maxLocals := 4, code := prog_56_method_20_code, exceptionTable := #[], attributes := #[] }
def k3m3 : Method := { name := "up", desc := "(I)Lcom/example/stutter/stutter/eval/Frame;", sig := { parameters := [.int], returnType := some (.object "com/example/stutter/stutter/eval/Frame") }, accessFlags := 0, code := some k3c3 }
/-- com/example/stutter/stutter/eval/Frame -/
def k3 : Class := { plain "com/example/stutter/stutter/eval/Frame" (some 0) with
  accessFlags := 32
  interfaces := #[]
  cf := some (fileOf pool3 2 #[] #[{ accessFlags := 0, nameIndex := 9, descriptorIndex := 93, attributes := #[] }, { accessFlags := 0, nameIndex := 9, descriptorIndex := 10, attributes := #[] }, { accessFlags := 2, nameIndex := 9, descriptorIndex := 15, attributes := #[] }, { accessFlags := 0, nameIndex := 118, descriptorIndex := 119, attributes := #[] }] 32 17 #[] #[{ accessFlags := 26, nameIndex := 5, descriptorIndex := 6, attributes := #[] }, { accessFlags := 24, nameIndex := 96, descriptorIndex := 31, attributes := #[] }, { accessFlags := 18, nameIndex := 23, descriptorIndex := 24, attributes := #[] }, { accessFlags := 18, nameIndex := 27, descriptorIndex := 6, attributes := #[] }, { accessFlags := 18, nameIndex := 30, descriptorIndex := 31, attributes := #[] }, { accessFlags := 18, nameIndex := 34, descriptorIndex := 31, attributes := #[] }, { accessFlags := 2, nameIndex := 59, descriptorIndex := 60, attributes := #[] }, { accessFlags := 2, nameIndex := 63, descriptorIndex := 64, attributes := #[] }, { accessFlags := 2, nameIndex := 81, descriptorIndex := 82, attributes := #[] }])
  fields := #[{ name := "NO_ARGUMENTS", type := (.array (.object "com/example/stutter/stutter/eval/Node")), accessFlags := 26, slot := 0, constantValue := 0 }, { name := "EMPTY", type := (.object "com/example/stutter/stutter/eval/Frame"), accessFlags := 24, slot := 1, constantValue := 0 }, { name := "slots", type := (.array (.object "com/example/stutter/stutter/value/Value")), accessFlags := 18, slot := 0, constantValue := 0 }, { name := "arguments", type := (.array (.object "com/example/stutter/stutter/eval/Node")), accessFlags := 18, slot := 1, constantValue := 0 }, { name := "caller", type := (.object "com/example/stutter/stutter/eval/Frame"), accessFlags := 18, slot := 2, constantValue := 0 }, { name := "parent", type := (.object "com/example/stutter/stutter/eval/Frame"), accessFlags := 18, slot := 3, constantValue := 0 }, { name := "functionValues", type := (.object "java/util/Map"), accessFlags := 2, slot := 4, constantValue := 0 }, { name := "valuesContext", type := (.object "com/example/stutter/stutter/eval/Context"), accessFlags := 2, slot := 5, constantValue := 0 }, { name := "keptContexts", type := (.array (.object "com/example/stutter/stutter/eval/Context")), accessFlags := 2, slot := 6, constantValue := 0 }]
  methods := #[k3m0, k3m1, k3m2, k3m3]
  instanceTypes := #[(.array (.object "com/example/stutter/stutter/value/Value")), (.array (.object "com/example/stutter/stutter/eval/Node")), (.object "com/example/stutter/stutter/eval/Frame"), (.object "com/example/stutter/stutter/eval/Frame"), (.object "java/util/Map"), (.object "com/example/stutter/stutter/eval/Context"), (.array (.object "com/example/stutter/stutter/eval/Context"))]
  staticTypes := #[(.array (.object "com/example/stutter/stutter/eval/Node")), (.object "com/example/stutter/stutter/eval/Frame")]
  resolved := Array.replicate 123 none
  statics := some 0 }

def pool4 : Array CpInfo := pool [(1, .class_ 2), (0, u "java/lang/Comparable"), (0, .class_ 4), (0, u "java/lang/Object")] 7

/-- java/lang/Comparable -/
def k4 : Class := { plain "java/lang/Comparable" (some 0) with
  accessFlags := 1537
  interfaces := #[]
  cf := some (fileOf pool4 1 #[] #[] 1537 3 #[] #[])
  fields := #[]
  methods := #[]
  instanceTypes := #[]
  staticTypes := #[]
  resolved := Array.replicate 12 none
  statics := none }

def pool5 : Array CpInfo := pool [(2, .class_ 4), (1, u "java/lang/Object"), (0, u "<init>"), (0, u "()V"), (1, .class_ 10), (1, u "com/example/stutter/stutter/value/Value"), (3, .class_ 16), (1, u "com/example/stutter/stutter/value/Value$Kind"), (41, .class_ 59), (0, u "java/lang/Comparable")] 34

def k5m0 : Method := { name := "<init>", desc := "()V", sig := { parameters := [], returnType := none }, accessFlags := 0, code := none }
/-- com/example/stutter/stutter/value/Value -/
def k5 : Class := { plain "com/example/stutter/stutter/value/Value" (some 0) with
  accessFlags := 1057
  interfaces := #[4]
  cf := some (fileOf pool5 8 #[.nestMembers #[14]] #[{ accessFlags := 0, nameIndex := 5, descriptorIndex := 6, attributes := #[] }] 1057 2 #[58] #[])
  fields := #[]
  methods := #[k5m0]
  instanceTypes := #[]
  staticTypes := #[]
  resolved := Array.replicate 94 none
  statics := none }

def pool6 : Array CpInfo := pool [(1, u "java/lang/Cloneable"), (0, .class_ 1), (0, u "java/lang/Object"), (0, .class_ 3)] 3

/-- java/lang/Cloneable -/
def k6 : Class := { plain "java/lang/Cloneable" (some 0) with
  accessFlags := 1537
  interfaces := #[]
  cf := some (fileOf pool6 2 #[] #[] 1537 4 #[] #[])
  fields := #[]
  methods := #[]
  instanceTypes := #[]
  staticTypes := #[]
  resolved := Array.replicate 8 none
  statics := none }

def pool7 : Array CpInfo := pool [(1, u "java/io/Serializable"), (0, .class_ 1), (0, u "java/lang/Object"), (0, .class_ 3)] 3

/-- java/io/Serializable -/
def k7 : Class := { plain "java/io/Serializable" (some 0) with
  accessFlags := 1537
  interfaces := #[]
  cf := some (fileOf pool7 2 #[] #[] 1537 4 #[] #[])
  fields := #[]
  methods := #[]
  instanceTypes := #[]
  staticTypes := #[]
  resolved := Array.replicate 8 none
  statics := none }

/-- the primitive byte -/
def k8 : Class := { plain "byte" none with kind := .primitive 'B', accessFlags := 0x411 }
/-- [B -/
def k9 : Class := { plain "[B" (some 0) with kind := .array 8 .byte, interfaces := #[6, 7], accessFlags := 1041 }

/-- the primitive int -/
def k10 : Class := { plain "int" none with kind := .primitive 'I', accessFlags := 0x411 }
/-- [I -/
def k11 : Class := { plain "[I" (some 0) with kind := .array 10 .int, interfaces := #[6, 7], accessFlags := 1041 }

/-- [Lcom/example/stutter/stutter/eval/Node; -/
def k12 : Class := { plain "[Lcom/example/stutter/stutter/eval/Node;" (some 0) with kind := .array 2 (.object "com/example/stutter/stutter/eval/Node"), interfaces := #[6, 7], accessFlags := 1041 }

/-- [Lcom/example/stutter/stutter/value/Value; -/
def k13 : Class := { plain "[Lcom/example/stutter/stutter/value/Value;" (some 0) with kind := .array 5 (.object "com/example/stutter/stutter/value/Value"), interfaces := #[6, 7], accessFlags := 1041 }

def heap : Heap := #[{ cls := 3, slots := #[.ref 1, .null], vm := .statics 3 },
  { cls := 12, slots := #[], vm := .none }]
def classes : Array Class := #[k0, k1, k2, k3, k4, k5, k6, k7, k8, k9, k10, k11, k12, k13]
def interned : List (Array UInt16 × Addr) := []
def slotsUsed : Nat := 2
def theMethod : MethodId := ⟨1, 1⟩
def args0 : Array Value := #[.int 5, .int 9, .int 7]
def aboutOver (below : List Frame) : State where
  vm := { classes := classes, interned := interned.toArray }
  heap := heap
  slotsUsed := slotsUsed
  threads := #[{ frames := .invoking theMethod args0 :: below }]
def below0 : List Frame := [.native { method := ⟨0, 0⟩, args := #[] }]
def about1 : State := aboutOver below0
def p0 : Program := .bare "" "" ""
def e0 : Env := launch0.env 0 0 0
theorem w_frames : about1.frames = Frame.invoking theMethod args0 :: below0 := rfl
set_option maxRecDepth 65536 in
theorem w_args : argsFit about1.vm theMethod args0 = true := by decide +kernel
set_option maxRecDepth 65536 in
theorem w_heap : heapFits about1 = true := by decide +kernel
set_option maxRecDepth 65536 in
theorem w_runnable : about1.curStatus? = some .runnable := by decide +kernel
set_option maxRecDepth 65536 in
theorem w_alone : about1.alone = true := by decide +kernel
set_option maxRecDepth 65536 in
theorem w_named : about1.methodNamed? x = some theMethod := by decide +kernel
set_option maxRecDepth 65536 in
theorem w_hears : about1.hears theMethod below0 = true := by decide +kernel
set_option maxRecDepth 65536 in
theorem w_ripe : about1.ripe theMethod args0 below0 = true := by decide +kernel
theorem w_running : about1.status = .running := rfl
set_option maxRecDepth 65536 in
theorem w_room : about1.hasRoom e0.platform room_1 = true :=
  launch0.hasRoom_least _ room_1 (by decide +kernel) (by decide +kernel) (by decide +kernel) (by decide +kernel) (by decide +kernel) (by decide +kernel)
theorem allAtoms_all (ts : List Jvm.Cond) (a : Array Jvm.Value) (st : Jvm.State) : (allAtoms ts).before a st = ts.all (fun c => c.before a st) := by
  induction ts with
  | nil => rfl
  | cons c t ih =>
    show (Jvm.Cond.and c (allAtoms t)).before a st = _
    rw [Jvm.Cond.before_and, ih, List.all_cons]
def words1 : List Jvm.Cond := Jvm.Cond.code x code maxLocals ret :: tables_1
/-- a 'code' word, met by the world's own term for the bytes: nothing is compared byte by byte -/
theorem code_word {y : MethodName} {bytes : ByteArray} {mx : Nat} {rt : Option FieldType} {a : Array Value} {s : State} {m : MethodId} {meth : Method} {c : Code} (h1 : s.methodNamed? y = some m) (h2 : s.vm.method? m = some meth) (h3 : meth.code = some c) (h4 : c.code = bytes)
    (h5 : (c.maxLocals == mx && c.exceptionTable.isEmpty && decide (c.maxStack ≤ mostOperands) && decide (meth.sig.returnType = rt) && !meth.locks && decide (parseMethodDescriptor y.desc = some meth.sig)) = true) : (Jvm.Cond.code y bytes mx rt).before a s = true := by
  simp only [Bool.and_eq_true, beq_iff_eq, Bool.not_eq_true', decide_eq_true_eq] at h5
  obtain ⟨⟨⟨⟨⟨g1, g2⟩, g3⟩, g4⟩, g5⟩, g6⟩ := h5
  simp [Cond.before, Cond.holds, Cond.value, h1, h2, h3, h4, g1, g2, g3, g4, g5, g6]
def isCode : Jvm.Cond → Bool
  | .code _ _ _ _ => true
  | _ => false
theorem all_split {L : List Jvm.Cond} {P : Jvm.Cond → Bool} (h1 : L.all (fun c => isCode c || P c) = true) (h2 : ∀ c ∈ L.filter isCode, P c = true) : L.all P = true := by
  refine List.all_eq_true.mpr fun c hc => ?_
  have h := List.all_eq_true.mp h1 c hc
  rcases Bool.eq_false_or_eq_true (isCode c) with hi | hi
  · exact h2 c (List.mem_filter.mpr ⟨hc, hi⟩)
  · simpa [hi] using h
set_option maxRecDepth 65536 in
theorem w_c0 : (Jvm.Cond.code x code maxLocals ret).before args0 about1 = true := code_word (m := ⟨1, 1⟩) (meth := k1m1) (c := k1c1) (by decide +kernel) rfl rfl rfl (by decide +kernel)
set_option maxRecDepth 65536 in
theorem w_c1 : (Jvm.Cond.code ({ cls := "com/example/stutter/stutter/eval/Frame", name := "<init>", desc := "(I)V" } : Jvm.MethodName) prog_56_method_1_code (2 : Nat) (Option.none : Option Jvm.ClassFile.FieldType)).before args0 about1 = true := code_word (m := ⟨3, 0⟩) (meth := k3m0) (c := k3c0) (by decide +kernel) rfl rfl rfl (by decide +kernel)
set_option maxRecDepth 65536 in
theorem w_c2 : (Jvm.Cond.code ({ cls := "com/example/stutter/stutter/eval/Frame", name := "<init>", desc := "(I[Lcom/example/stutter/stutter/eval/Node;Lcom/example/stutter/stutter/eval/Frame;Lcom/example/stutter/stutter/eval/Frame;)V" } : Jvm.MethodName) prog_56_method_2_code (5 : Nat) (Option.none : Option Jvm.ClassFile.FieldType)).before args0 about1 = true := code_word (m := ⟨3, 1⟩) (meth := k3m1) (c := k3c1) (by decide +kernel) rfl rfl rfl (by decide +kernel)
set_option maxRecDepth 65536 in
theorem w_c3 : (Jvm.Cond.code ({ cls := "com/example/stutter/stutter/eval/Frame", name := "<init>", desc := "([Lcom/example/stutter/stutter/value/Value;[Lcom/example/stutter/stutter/eval/Node;Lcom/example/stutter/stutter/eval/Frame;Lcom/example/stutter/stutter/eval/Frame;)V" } : Jvm.MethodName) prog_56_method_3_code (5 : Nat) (Option.none : Option Jvm.ClassFile.FieldType)).before args0 about1 = true := code_word (m := ⟨3, 2⟩) (meth := k3m2) (c := k3c2) (by decide +kernel) rfl rfl rfl (by decide +kernel)
set_option maxRecDepth 65536 in
theorem w_c4 : (Jvm.Cond.code ({ cls := "java/lang/Object", name := "<init>", desc := "()V" } : Jvm.MethodName) object_method_1_code (1 : Nat) (Option.none : Option Jvm.ClassFile.FieldType)).before args0 about1 = true := code_word (m := ⟨0, 0⟩) (meth := k0m0) (c := k0c0) (by decide +kernel) rfl rfl rfl (by decide +kernel)
set_option maxRecDepth 65536 in
theorem w_c5 : (Jvm.Cond.code ({ cls := "com/example/stutter/stutter/eval/FrameUpPinLaw", name := "pick", desc := "(ILcom/example/stutter/stutter/eval/Frame;Lcom/example/stutter/stutter/eval/Frame;Lcom/example/stutter/stutter/eval/Frame;Lcom/example/stutter/stutter/eval/Frame;)Lcom/example/stutter/stutter/eval/Frame;" } : Jvm.MethodName) method_3_code (5 : Nat) (Option.some (Jvm.ClassFile.FieldType.object "com/example/stutter/stutter/eval/Frame"))).before args0 about1 = true := code_word (m := ⟨1, 2⟩) (meth := k1m2) (c := k1c2) (by decide +kernel) rfl rfl rfl (by decide +kernel)
set_option maxRecDepth 65536 in
theorem w_c6 : (Jvm.Cond.code ({ cls := "com/example/stutter/stutter/eval/Frame", name := "up", desc := "(I)Lcom/example/stutter/stutter/eval/Frame;" } : Jvm.MethodName) prog_56_method_20_code (4 : Nat) (Option.some (Jvm.ClassFile.FieldType.object "com/example/stutter/stutter/eval/Frame"))).before args0 about1 = true := code_word (m := ⟨3, 3⟩) (meth := k3m3) (c := k3c3) (by decide +kernel) rfl rfl rfl (by decide +kernel)
def codes1 : List Jvm.Cond := [Jvm.Cond.code x code maxLocals ret, Jvm.Cond.code ({ cls := "com/example/stutter/stutter/eval/Frame", name := "<init>", desc := "(I)V" } : Jvm.MethodName) prog_56_method_1_code (2 : Nat) (Option.none : Option Jvm.ClassFile.FieldType), Jvm.Cond.code ({ cls := "com/example/stutter/stutter/eval/Frame", name := "<init>", desc := "(I[Lcom/example/stutter/stutter/eval/Node;Lcom/example/stutter/stutter/eval/Frame;Lcom/example/stutter/stutter/eval/Frame;)V" } : Jvm.MethodName) prog_56_method_2_code (5 : Nat) (Option.none : Option Jvm.ClassFile.FieldType), Jvm.Cond.code ({ cls := "com/example/stutter/stutter/eval/Frame", name := "<init>", desc := "([Lcom/example/stutter/stutter/value/Value;[Lcom/example/stutter/stutter/eval/Node;Lcom/example/stutter/stutter/eval/Frame;Lcom/example/stutter/stutter/eval/Frame;)V" } : Jvm.MethodName) prog_56_method_3_code (5 : Nat) (Option.none : Option Jvm.ClassFile.FieldType), Jvm.Cond.code ({ cls := "java/lang/Object", name := "<init>", desc := "()V" } : Jvm.MethodName) object_method_1_code (1 : Nat) (Option.none : Option Jvm.ClassFile.FieldType), Jvm.Cond.code ({ cls := "com/example/stutter/stutter/eval/FrameUpPinLaw", name := "pick", desc := "(ILcom/example/stutter/stutter/eval/Frame;Lcom/example/stutter/stutter/eval/Frame;Lcom/example/stutter/stutter/eval/Frame;Lcom/example/stutter/stutter/eval/Frame;)Lcom/example/stutter/stutter/eval/Frame;" } : Jvm.MethodName) method_3_code (5 : Nat) (Option.some (Jvm.ClassFile.FieldType.object "com/example/stutter/stutter/eval/Frame")), Jvm.Cond.code ({ cls := "com/example/stutter/stutter/eval/Frame", name := "up", desc := "(I)Lcom/example/stutter/stutter/eval/Frame;" } : Jvm.MethodName) prog_56_method_20_code (4 : Nat) (Option.some (Jvm.ClassFile.FieldType.object "com/example/stutter/stutter/eval/Frame"))]
set_option maxRecDepth 65536 in
theorem codes_eq : words1.filter isCode = codes1 := rfl
theorem w_codes : ∀ c ∈ words1.filter isCode, c.before args0 about1 = true := by
  rw [codes_eq]
  intro c hc
  simp only [codes1, List.mem_cons, List.not_mem_nil, or_false] at hc
  rcases hc with rfl | rfl | rfl | rfl | rfl | rfl | rfl
  · exact w_c0
  · exact w_c1
  · exact w_c2
  · exact w_c3
  · exact w_c4
  · exact w_c5
  · exact w_c6
set_option maxRecDepth 65536 in
theorem w_t1 : (words1.take 24).all (fun c => isCode c || c.before args0 about1) = true := by decide +kernel
set_option maxRecDepth 65536 in
theorem w_t2 : (words1.drop 24).all (fun c => isCode c || c.before args0 about1) = true := by decide +kernel
theorem w_tables : (allAtoms (Jvm.Cond.code x code maxLocals ret :: tables_1)).before args0 about1 = true := by
  rw [allAtoms_all]
  show words1.all (fun c => c.before args0 about1) = true
  refine all_split ?_ w_codes
  rw [← List.take_append_drop 24 words1, List.all_append, w_t1, w_t2]
  rfl
set_option maxRecDepth 65536 in
theorem w_case : (Jvm.Cond.and given_1 narrow_1).before args0 about1 = true := by decide +kernel
theorem w_applies : (headSpec (Jvm.Cond.code x code maxLocals ret :: tables_1) room_1).applies x e0.platform about1 = true :=
  (Spec.applies_iff w_frames).mpr ⟨w_running, w_runnable, w_alone, w_named, w_hears, w_ripe, w_room, w_tables⟩
theorem atStart : AtStart classFile x code maxLocals ret World_1 tables_1 room_1 Calls_1 rest_1 Pre_1 launch0 p0 e0 about1 theMethod args0 below0 :=
  ⟨lists_1, trivial, launch0.admits_env _ _ _, launch0.least_env, fairChoices_fair.cas, fairChoices_fair.clock, w_frames, w_args, w_heap, w_applies, trivial, trivial, w_case⟩
end start1
theorem witness_1 : WitnessClaimed_1 := ⟨start1.p0, start1.e0, start1.about1, start1.theMethod, start1.args0, start1.below0, start1.atStart⟩
end Jvm.Pilot.@@N@@
